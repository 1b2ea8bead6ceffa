/- The walk of spec.Frame, frames of numbers alone. Conditions: the slice reads as bytes; its first byte is told. -/
import Derived.Test.YtggcnepdeaijoaaFrG
import Derived.BigQuiet
namespace Go.Proofs.Ytggcnepdeaijoaa
open Go.RowKit
set_option linter.unusedVariables false
set_option linter.unusedSimpArgs false

/-- What spec.Frame answers. -/
def SfEnd (w : World) (t : Int) (l : List Int) (e : Ending) (w' : World) : Prop := Below w.heap.size w w' ∧
  ((frG t l = none ∧ e = .returned (.tuple #[.slice none 0 0, .slice none 0 0, .int .i64 0, .int .i64 2])) ∨
   (frT t l = none ∧ e = .returned (.tuple #[.slice none 0 0, .slice none 0 0, .int .i64 0, .int .i64 1])) ∨
   ∃ vs ds k AV nV cV AD nD cD, frG t l = some (vs, ds, k) ∧ e = .returned (.tuple #[.slice AV nV cV, .slice AD nD cD, .int .i64 ((k : Nat) : Int), .int .i64 0]) ∧ vs.length = nV ∧ nV ≤ 3 ∧ Hid (RdE EI w' AV vs) ∧ ds.length = nD ∧ nD ≤ 2 ∧ Hid (∃ ts, RdE EB w' AD ts ∧ ts.length = nD ∧ Rts w' ts ds))

theorem P1_bad {l : List Int} {v1 : Int} {k1 : Nat}  (h1 : NumSt l 1 false v1 k1 true) : P1 l = none := by
  have e := num_t h1
  simp at e
  simp [P1, e]

theorem P2_bad {l : List Int} {v1 v2 : Int} {k1 k2 : Nat} {b1 : Bool} (h1 : NumSt l 1 false v1 k1 b1) (h2 : NumSt l k1 b1 v2 k2 true) : P2 l = none := by
  cases b1 with
  | true => have e := num_t h1; simp at e; simp [P2, e]
  | false =>
    obtain ⟨-, e1⟩ := num_f h1
    have e := num_t h2
    simp at e
    simp [P2, e1, e]

theorem P3_bad {l : List Int} {v1 v2 v3 : Int} {k1 k2 k3 : Nat} {b1 b2 : Bool} (h1 : NumSt l 1 false v1 k1 b1) (h2 : NumSt l k1 b1 v2 k2 b2) (h3 : NumSt l k2 b2 v3 k3 true) : P3 l = none := by
  cases b1 with
  | true => have e := num_t h1; simp at e; simp [P3, e]
  | false =>
    obtain ⟨-, e1⟩ := num_f h1
    cases b2 with
    | true => have e := num_t h2; simp at e; simp [P3, e1, e]
    | false =>
      obtain ⟨-, e2⟩ := num_f h2
      have e := num_t h3
      simp at e
      simp [P3, e1, e2, e]

set_option maxRecDepth 100000 in
set_option maxHeartbeats 4000000 in
theorem sf4 (b o n c : Nat) (l : List Int) (w : World) (hr : Rd w (some ⟨b, o, none⟩) l) (hn : Hid (l.length = n)) (hnc : n ≤ c) (hc2 : c ≤ 9223372036854775807) (h1 : 1 ≤ n) (hn2 : n ≤ 4294967295) (h0 : w.cell? ⟨b, o, none⟩ = some (.int .u8 4)) :
    Calls Try.prog 6 #[.slice (some ⟨b, o, none⟩) n c] w fun e w' => SfEnd w 4 l e w' := by
  have hbl := World.block_lt_of_cell? _ _ h0
  simp only at hbl
  have hbg : Hid (b ≠ w.heap.size) := by show b ≠ _; omega
  obtain ⟨W0, hW0⟩ : ∃ W0, Hid (w.alloc (.cells #[.slice (some ⟨b, o, none⟩) n c, .int .i64 1, .bool false] 35 (0, 0)) = W0) := ⟨_, Lib.hid rfl⟩
  have HR0 : Hid (Rdr W0 w.heap.size (some ⟨b, o, none⟩) n c 1 false) := by show Rdr _ _ _ _ _ _ _; rw [← hW0.out]; exact Rdr.new w _ n c 1
  have HB0 : Hid (Below w.heap.size w W0) := by show Below _ _ _; rw [← hW0.out]; exact (Below.refl _ _).alloc (Nat.le_refl _) _
  have HL0 : Hid (Rd W0 (some ⟨b, o, none⟩) l) := hr.below HB0.out
  have hc0 : (w.alloc (.cells #[.slice (some ⟨b, o, none⟩) n c, .int .i64 1, .bool false] 35 (0, 0))).cell? ⟨b, o, none⟩ = some (.int .u8 4) := by rw [hW0.out]; exact (HB0.out.cell (p := ⟨b, o, none⟩) hbl).trans h0
  have hn0 : ((n : Int) == 0) = false := by simp; omega
  have hn1 : (0 : Int) < (n : Int) := by omega
  clear hr h0 hbl
  go_enter Try.func6, Try.ntmps6
  go_wp2_with fail
  rw [hW0.out]
  clear hc0
  refine (num_u b o n c 1 w.heap.size l false W0 HL0.out hn hnc hc2 (by omega) HR0.out).mono ?_
  rintro e w1 ⟨v1, k1, b1, rfl, hst, hrd, hg⟩
  have HN1 := Lib.hid hst
  have HR1 := Lib.hid hrd
  have HL1 := Lib.hid (HL0.out.grown hg (fun _ => sep_ne hbg.out))
  have HB1 := Lib.hid (below_g HB0.out hg)
  obtain ⟨g1, hk1, p1, q1, -⟩ := hst
  rw [hn.out] at hk1
  clear hrd hg
  go_wp2_with fail
  refine (num_u b o n c k1 w.heap.size l b1 w1 HL1.out hn hnc hc2 (by omega) HR1.out).mono ?_
  rintro e w2 ⟨v2, k2, b2, rfl, hst, hrd, hg⟩
  have HN2 := Lib.hid hst
  have HR2 := Lib.hid hrd
  have HL2 := Lib.hid (HL1.out.grown hg (fun _ => sep_ne hbg.out))
  have HB2 := Lib.hid (below_g HB1.out hg)
  obtain ⟨g2, hk2, p2, q2, -⟩ := hst
  rw [hn.out] at hk2
  clear hrd hg
  go_wp2_with fail
  refine (num_u b o n c k2 w.heap.size l b2 w2 HL2.out hn hnc hc2 (by omega) HR2.out).mono ?_
  rintro e w3 ⟨v3, k3, b3, rfl, hst, hrd, hg⟩
  have HN3 := Lib.hid hst
  have HR3 := Lib.hid hrd
  have HL3 := Lib.hid (HL2.out.grown hg (fun _ => sep_ne hbg.out))
  have HB3 := Lib.hid (below_g HB2.out hg)
  obtain ⟨g3, hk3, p3, q3, -⟩ := hst
  rw [hn.out] at hk3
  clear hrd hg
  obtain ⟨wv, hwv⟩ : ∃ wv, Hid (w3.alloc (.cells #[.int .i64 v1, .int .i64 v2, .int .i64 v3] 2 (0, 0)) = wv) := ⟨_, Lib.hid rfl⟩
  have HBv : Hid (Below w.heap.size w wv) := by show Below _ _ _; rw [← hwv.out]; exact HB3.out.alloc HB3.out.size _
  have hRv : Rdr wv w.heap.size (some ⟨b, o, none⟩) n c k3 b3 := by rw [← hwv.out]; exact (heap_alloc_old _ _ HR3.out.lt).trans HR3.out
  have HVv : Hid (RdE EI wv (some ⟨w3.heap.size, 0, none⟩) [v1, v2, v3]) := by show RdE _ _ _ _; rw [← hwv.out]; exact RdE.new (E := EI) w3 [v1, v2, v3] 2
  have x1 : (w3.alloc (.cells #[.int .i64 v1, .int .i64 v2, .int .i64 v3] 2 (0, 0))).cell? ⟨w.heap.size, 1, none⟩ = some (.int .i64 (k3 : Nat)) := by rw [hwv.out]; exact hRv.cell1
  have x2 : (w3.alloc (.cells #[.int .i64 v1, .int .i64 v2, .int .i64 v3] 2 (0, 0))).cell? ⟨w.heap.size, 2, none⟩ = some (.bool b3) := by rw [hwv.out]; exact hRv.cell2
  cases b3
  · have e3 := num_f HN3.out
    obtain ⟨rfl, e3'⟩ := e3
    have e2 := num_f HN2.out
    obtain ⟨rfl, e2'⟩ := e2
    have e1 := num_f HN1.out
    obtain ⟨-, e1'⟩ := e1
    have HG : Hid (frG 4 l = some ([v1, v2, v3], [], k3)) := frG_of (by simp [frT, P3, e1', e2', e3']) (by simp [opB])
    clear e1' e2' e3'
    go_wp2_with fail
    rw [hwv.out]
    have y1 := hRv.cell1
    clear x1 x2
    go_quiet (fail)
    go_wp2_with fail
    refine bodyPost_ret (v := .tuple #[.slice (some ⟨w3.heap.size, 0, none⟩) 3 3, .slice none 0 0, .int .i64 (k3 : Nat), .int .i64 0]) (by simp [results, Try.results6, go_sem]) rfl ?_
    exact ⟨below_drewN HBv.out _, .inr (.inr ⟨[v1, v2, v3], [], k3, _, 3, _, _, 0, _, HG.out, rfl, rfl, by omega, HVv.out.drewN _, rfl, by omega, [], RdE.nil_ _ _ _, rfl, Rts.nil_ _⟩)⟩
  · have HT : Hid (frT 4 l = none) := by
      show _ = _
      rw [show frT 4 l = P3 l by simp [frT]]
      exact P3_bad HN1.out HN2.out HN3.out
    go_wp2_with fail
    rw [hwv.out]
    refine bodyPost_ret (v := .tuple #[.slice none 0 0, .slice none 0 0, .int .i64 0, .int .i64 1]) (by simp [results, Try.results6, go_sem]) rfl ?_
    exact ⟨HBv.out, .inr (.inl ⟨HT.out, rfl⟩)⟩

set_option maxRecDepth 100000 in
set_option maxHeartbeats 4000000 in
theorem sf5 (b o n c : Nat) (l : List Int) (w : World) (hr : Rd w (some ⟨b, o, none⟩) l) (hn : Hid (l.length = n)) (hnc : n ≤ c) (hc2 : c ≤ 9223372036854775807) (h1 : 1 ≤ n) (hn2 : n ≤ 4294967295) (h0 : w.cell? ⟨b, o, none⟩ = some (.int .u8 5)) :
    Calls Try.prog 6 #[.slice (some ⟨b, o, none⟩) n c] w fun e w' => SfEnd w 5 l e w' := by
  have hbl := World.block_lt_of_cell? _ _ h0
  simp only at hbl
  have hbg : Hid (b ≠ w.heap.size) := by show b ≠ _; omega
  obtain ⟨W0, hW0⟩ : ∃ W0, Hid (w.alloc (.cells #[.slice (some ⟨b, o, none⟩) n c, .int .i64 1, .bool false] 35 (0, 0)) = W0) := ⟨_, Lib.hid rfl⟩
  have HR0 : Hid (Rdr W0 w.heap.size (some ⟨b, o, none⟩) n c 1 false) := by show Rdr _ _ _ _ _ _ _; rw [← hW0.out]; exact Rdr.new w _ n c 1
  have HB0 : Hid (Below w.heap.size w W0) := by show Below _ _ _; rw [← hW0.out]; exact (Below.refl _ _).alloc (Nat.le_refl _) _
  have HL0 : Hid (Rd W0 (some ⟨b, o, none⟩) l) := hr.below HB0.out
  have hc0 : (w.alloc (.cells #[.slice (some ⟨b, o, none⟩) n c, .int .i64 1, .bool false] 35 (0, 0))).cell? ⟨b, o, none⟩ = some (.int .u8 5) := by rw [hW0.out]; exact (HB0.out.cell (p := ⟨b, o, none⟩) hbl).trans h0
  have hn0 : ((n : Int) == 0) = false := by simp; omega
  have hn1 : (0 : Int) < (n : Int) := by omega
  clear hr h0 hbl
  go_enter Try.func6, Try.ntmps6
  go_wp2_with fail
  rw [hW0.out]
  clear hc0
  refine (num_u b o n c 1 w.heap.size l false W0 HL0.out hn hnc hc2 (by omega) HR0.out).mono ?_
  rintro e w1 ⟨v1, k1, b1, rfl, hst, hrd, hg⟩
  have HN1 := Lib.hid hst
  have HR1 := Lib.hid hrd
  have HL1 := Lib.hid (HL0.out.grown hg (fun _ => sep_ne hbg.out))
  have HB1 := Lib.hid (below_g HB0.out hg)
  obtain ⟨g1, hk1, p1, q1, -⟩ := hst
  rw [hn.out] at hk1
  clear hrd hg
  go_wp2_with fail
  refine (num_u b o n c k1 w.heap.size l b1 w1 HL1.out hn hnc hc2 (by omega) HR1.out).mono ?_
  rintro e w2 ⟨v2, k2, b2, rfl, hst, hrd, hg⟩
  have HN2 := Lib.hid hst
  have HR2 := Lib.hid hrd
  have HL2 := Lib.hid (HL1.out.grown hg (fun _ => sep_ne hbg.out))
  have HB2 := Lib.hid (below_g HB1.out hg)
  obtain ⟨g2, hk2, p2, q2, -⟩ := hst
  rw [hn.out] at hk2
  clear hrd hg
  obtain ⟨wv, hwv⟩ : ∃ wv, Hid (w2.alloc (.cells #[.int .i64 v1, .int .i64 v2] 2 (0, 0)) = wv) := ⟨_, Lib.hid rfl⟩
  have HBv : Hid (Below w.heap.size w wv) := by show Below _ _ _; rw [← hwv.out]; exact HB2.out.alloc HB2.out.size _
  have hRv : Rdr wv w.heap.size (some ⟨b, o, none⟩) n c k2 b2 := by rw [← hwv.out]; exact (heap_alloc_old _ _ HR2.out.lt).trans HR2.out
  have HVv : Hid (RdE EI wv (some ⟨w2.heap.size, 0, none⟩) [v1, v2]) := by show RdE _ _ _ _; rw [← hwv.out]; exact RdE.new (E := EI) w2 [v1, v2] 2
  have x1 : (w2.alloc (.cells #[.int .i64 v1, .int .i64 v2] 2 (0, 0))).cell? ⟨w.heap.size, 1, none⟩ = some (.int .i64 (k2 : Nat)) := by rw [hwv.out]; exact hRv.cell1
  have x2 : (w2.alloc (.cells #[.int .i64 v1, .int .i64 v2] 2 (0, 0))).cell? ⟨w.heap.size, 2, none⟩ = some (.bool b2) := by rw [hwv.out]; exact hRv.cell2
  cases b2
  · have e2 := num_f HN2.out
    obtain ⟨rfl, e2'⟩ := e2
    have e1 := num_f HN1.out
    obtain ⟨-, e1'⟩ := e1
    have HG : Hid (frG 5 l = some ([v1, v2], [], k2)) := frG_of (by simp [frT, P2, e1', e2']) (by simp [opB])
    clear e1' e2'
    go_wp2_with fail
    rw [hwv.out]
    have y1 := hRv.cell1
    clear x1 x2
    go_quiet (fail)
    go_wp2_with fail
    refine bodyPost_ret (v := .tuple #[.slice (some ⟨w2.heap.size, 0, none⟩) 2 2, .slice none 0 0, .int .i64 (k2 : Nat), .int .i64 0]) (by simp [results, Try.results6, go_sem]) rfl ?_
    exact ⟨below_drewN HBv.out _, .inr (.inr ⟨[v1, v2], [], k2, _, 2, _, _, 0, _, HG.out, rfl, rfl, by omega, HVv.out.drewN _, rfl, by omega, [], RdE.nil_ _ _ _, rfl, Rts.nil_ _⟩)⟩
  · have HT : Hid (frT 5 l = none) := by
      show _ = _
      rw [show frT 5 l = P2 l by simp [frT]]
      exact P2_bad HN1.out HN2.out
    go_wp2_with fail
    rw [hwv.out]
    refine bodyPost_ret (v := .tuple #[.slice none 0 0, .slice none 0 0, .int .i64 0, .int .i64 1]) (by simp [results, Try.results6, go_sem]) rfl ?_
    exact ⟨HBv.out, .inr (.inl ⟨HT.out, rfl⟩)⟩

set_option maxRecDepth 100000 in
set_option maxHeartbeats 4000000 in
theorem sf17 (b o n c : Nat) (l : List Int) (w : World) (hr : Rd w (some ⟨b, o, none⟩) l) (hn : Hid (l.length = n)) (hnc : n ≤ c) (hc2 : c ≤ 9223372036854775807) (h1 : 1 ≤ n) (hn2 : n ≤ 4294967295) (h0 : w.cell? ⟨b, o, none⟩ = some (.int .u8 17)) :
    Calls Try.prog 6 #[.slice (some ⟨b, o, none⟩) n c] w fun e w' => SfEnd w 17 l e w' := by
  have hbl := World.block_lt_of_cell? _ _ h0
  simp only at hbl
  have hbg : Hid (b ≠ w.heap.size) := by show b ≠ _; omega
  obtain ⟨W0, hW0⟩ : ∃ W0, Hid (w.alloc (.cells #[.slice (some ⟨b, o, none⟩) n c, .int .i64 1, .bool false] 35 (0, 0)) = W0) := ⟨_, Lib.hid rfl⟩
  have HR0 : Hid (Rdr W0 w.heap.size (some ⟨b, o, none⟩) n c 1 false) := by show Rdr _ _ _ _ _ _ _; rw [← hW0.out]; exact Rdr.new w _ n c 1
  have HB0 : Hid (Below w.heap.size w W0) := by show Below _ _ _; rw [← hW0.out]; exact (Below.refl _ _).alloc (Nat.le_refl _) _
  have HL0 : Hid (Rd W0 (some ⟨b, o, none⟩) l) := hr.below HB0.out
  have hc0 : (w.alloc (.cells #[.slice (some ⟨b, o, none⟩) n c, .int .i64 1, .bool false] 35 (0, 0))).cell? ⟨b, o, none⟩ = some (.int .u8 17) := by rw [hW0.out]; exact (HB0.out.cell (p := ⟨b, o, none⟩) hbl).trans h0
  have hn0 : ((n : Int) == 0) = false := by simp; omega
  have hn1 : (0 : Int) < (n : Int) := by omega
  clear hr h0 hbl
  go_enter Try.func6, Try.ntmps6
  go_wp2_with fail
  rw [hW0.out]
  clear hc0
  refine (num_u b o n c 1 w.heap.size l false W0 HL0.out hn hnc hc2 (by omega) HR0.out).mono ?_
  rintro e w1 ⟨v1, k1, b1, rfl, hst, hrd, hg⟩
  have HN1 := Lib.hid hst
  have HR1 := Lib.hid hrd
  have HL1 := Lib.hid (HL0.out.grown hg (fun _ => sep_ne hbg.out))
  have HB1 := Lib.hid (below_g HB0.out hg)
  obtain ⟨g1, hk1, p1, q1, -⟩ := hst
  rw [hn.out] at hk1
  clear hrd hg
  go_wp2_with fail
  refine (num_u b o n c k1 w.heap.size l b1 w1 HL1.out hn hnc hc2 (by omega) HR1.out).mono ?_
  rintro e w2 ⟨v2, k2, b2, rfl, hst, hrd, hg⟩
  have HN2 := Lib.hid hst
  have HR2 := Lib.hid hrd
  have HL2 := Lib.hid (HL1.out.grown hg (fun _ => sep_ne hbg.out))
  have HB2 := Lib.hid (below_g HB1.out hg)
  obtain ⟨g2, hk2, p2, q2, -⟩ := hst
  rw [hn.out] at hk2
  clear hrd hg
  obtain ⟨wv, hwv⟩ : ∃ wv, Hid (w2.alloc (.cells #[.int .i64 v1, .int .i64 v2] 2 (0, 0)) = wv) := ⟨_, Lib.hid rfl⟩
  have HBv : Hid (Below w.heap.size w wv) := by show Below _ _ _; rw [← hwv.out]; exact HB2.out.alloc HB2.out.size _
  have hRv : Rdr wv w.heap.size (some ⟨b, o, none⟩) n c k2 b2 := by rw [← hwv.out]; exact (heap_alloc_old _ _ HR2.out.lt).trans HR2.out
  have HVv : Hid (RdE EI wv (some ⟨w2.heap.size, 0, none⟩) [v1, v2]) := by show RdE _ _ _ _; rw [← hwv.out]; exact RdE.new (E := EI) w2 [v1, v2] 2
  have x1 : (w2.alloc (.cells #[.int .i64 v1, .int .i64 v2] 2 (0, 0))).cell? ⟨w.heap.size, 1, none⟩ = some (.int .i64 (k2 : Nat)) := by rw [hwv.out]; exact hRv.cell1
  have x2 : (w2.alloc (.cells #[.int .i64 v1, .int .i64 v2] 2 (0, 0))).cell? ⟨w.heap.size, 2, none⟩ = some (.bool b2) := by rw [hwv.out]; exact hRv.cell2
  cases b2
  · have e2 := num_f HN2.out
    obtain ⟨rfl, e2'⟩ := e2
    have e1 := num_f HN1.out
    obtain ⟨-, e1'⟩ := e1
    have HG : Hid (frG 17 l = some ([v1, v2], [], k2)) := frG_of (by simp [frT, P2, e1', e2']) (by simp [opB])
    clear e1' e2'
    go_wp2_with fail
    rw [hwv.out]
    have y1 := hRv.cell1
    clear x1 x2
    go_quiet (fail)
    go_wp2_with fail
    refine bodyPost_ret (v := .tuple #[.slice (some ⟨w2.heap.size, 0, none⟩) 2 2, .slice none 0 0, .int .i64 (k2 : Nat), .int .i64 0]) (by simp [results, Try.results6, go_sem]) rfl ?_
    exact ⟨below_drewN HBv.out _, .inr (.inr ⟨[v1, v2], [], k2, _, 2, _, _, 0, _, HG.out, rfl, rfl, by omega, HVv.out.drewN _, rfl, by omega, [], RdE.nil_ _ _ _, rfl, Rts.nil_ _⟩)⟩
  · have HT : Hid (frT 17 l = none) := by
      show _ = _
      rw [show frT 17 l = P2 l by simp [frT]]
      exact P2_bad HN1.out HN2.out
    go_wp2_with fail
    rw [hwv.out]
    refine bodyPost_ret (v := .tuple #[.slice none 0 0, .slice none 0 0, .int .i64 0, .int .i64 1]) (by simp [results, Try.results6, go_sem]) rfl ?_
    exact ⟨HBv.out, .inr (.inl ⟨HT.out, rfl⟩)⟩

set_option maxRecDepth 100000 in
set_option maxHeartbeats 4000000 in
theorem sf21 (b o n c : Nat) (l : List Int) (w : World) (hr : Rd w (some ⟨b, o, none⟩) l) (hn : Hid (l.length = n)) (hnc : n ≤ c) (hc2 : c ≤ 9223372036854775807) (h1 : 1 ≤ n) (hn2 : n ≤ 4294967295) (h0 : w.cell? ⟨b, o, none⟩ = some (.int .u8 21)) :
    Calls Try.prog 6 #[.slice (some ⟨b, o, none⟩) n c] w fun e w' => SfEnd w 21 l e w' := by
  have hbl := World.block_lt_of_cell? _ _ h0
  simp only at hbl
  have hbg : Hid (b ≠ w.heap.size) := by show b ≠ _; omega
  obtain ⟨W0, hW0⟩ : ∃ W0, Hid (w.alloc (.cells #[.slice (some ⟨b, o, none⟩) n c, .int .i64 1, .bool false] 35 (0, 0)) = W0) := ⟨_, Lib.hid rfl⟩
  have HR0 : Hid (Rdr W0 w.heap.size (some ⟨b, o, none⟩) n c 1 false) := by show Rdr _ _ _ _ _ _ _; rw [← hW0.out]; exact Rdr.new w _ n c 1
  have HB0 : Hid (Below w.heap.size w W0) := by show Below _ _ _; rw [← hW0.out]; exact (Below.refl _ _).alloc (Nat.le_refl _) _
  have HL0 : Hid (Rd W0 (some ⟨b, o, none⟩) l) := hr.below HB0.out
  have hc0 : (w.alloc (.cells #[.slice (some ⟨b, o, none⟩) n c, .int .i64 1, .bool false] 35 (0, 0))).cell? ⟨b, o, none⟩ = some (.int .u8 21) := by rw [hW0.out]; exact (HB0.out.cell (p := ⟨b, o, none⟩) hbl).trans h0
  have hn0 : ((n : Int) == 0) = false := by simp; omega
  have hn1 : (0 : Int) < (n : Int) := by omega
  clear hr h0 hbl
  go_enter Try.func6, Try.ntmps6
  go_wp2_with fail
  rw [hW0.out]
  clear hc0
  refine (num_u b o n c 1 w.heap.size l false W0 HL0.out hn hnc hc2 (by omega) HR0.out).mono ?_
  rintro e w1 ⟨v1, k1, b1, rfl, hst, hrd, hg⟩
  have HN1 := Lib.hid hst
  have HR1 := Lib.hid hrd
  have HL1 := Lib.hid (HL0.out.grown hg (fun _ => sep_ne hbg.out))
  have HB1 := Lib.hid (below_g HB0.out hg)
  obtain ⟨g1, hk1, p1, q1, -⟩ := hst
  rw [hn.out] at hk1
  clear hrd hg
  go_wp2_with fail
  refine (num_u b o n c k1 w.heap.size l b1 w1 HL1.out hn hnc hc2 (by omega) HR1.out).mono ?_
  rintro e w2 ⟨v2, k2, b2, rfl, hst, hrd, hg⟩
  have HN2 := Lib.hid hst
  have HR2 := Lib.hid hrd
  have HL2 := Lib.hid (HL1.out.grown hg (fun _ => sep_ne hbg.out))
  have HB2 := Lib.hid (below_g HB1.out hg)
  obtain ⟨g2, hk2, p2, q2, -⟩ := hst
  rw [hn.out] at hk2
  clear hrd hg
  obtain ⟨wv, hwv⟩ : ∃ wv, Hid (w2.alloc (.cells #[.int .i64 v1, .int .i64 v2] 2 (0, 0)) = wv) := ⟨_, Lib.hid rfl⟩
  have HBv : Hid (Below w.heap.size w wv) := by show Below _ _ _; rw [← hwv.out]; exact HB2.out.alloc HB2.out.size _
  have hRv : Rdr wv w.heap.size (some ⟨b, o, none⟩) n c k2 b2 := by rw [← hwv.out]; exact (heap_alloc_old _ _ HR2.out.lt).trans HR2.out
  have HVv : Hid (RdE EI wv (some ⟨w2.heap.size, 0, none⟩) [v1, v2]) := by show RdE _ _ _ _; rw [← hwv.out]; exact RdE.new (E := EI) w2 [v1, v2] 2
  have x1 : (w2.alloc (.cells #[.int .i64 v1, .int .i64 v2] 2 (0, 0))).cell? ⟨w.heap.size, 1, none⟩ = some (.int .i64 (k2 : Nat)) := by rw [hwv.out]; exact hRv.cell1
  have x2 : (w2.alloc (.cells #[.int .i64 v1, .int .i64 v2] 2 (0, 0))).cell? ⟨w.heap.size, 2, none⟩ = some (.bool b2) := by rw [hwv.out]; exact hRv.cell2
  cases b2
  · have e2 := num_f HN2.out
    obtain ⟨rfl, e2'⟩ := e2
    have e1 := num_f HN1.out
    obtain ⟨-, e1'⟩ := e1
    have HG : Hid (frG 21 l = some ([v1, v2], [], k2)) := frG_of (by simp [frT, P2, e1', e2']) (by simp [opB])
    clear e1' e2'
    go_wp2_with fail
    rw [hwv.out]
    have y1 := hRv.cell1
    clear x1 x2
    go_quiet (fail)
    go_wp2_with fail
    refine bodyPost_ret (v := .tuple #[.slice (some ⟨w2.heap.size, 0, none⟩) 2 2, .slice none 0 0, .int .i64 (k2 : Nat), .int .i64 0]) (by simp [results, Try.results6, go_sem]) rfl ?_
    exact ⟨below_drewN HBv.out _, .inr (.inr ⟨[v1, v2], [], k2, _, 2, _, _, 0, _, HG.out, rfl, rfl, by omega, HVv.out.drewN _, rfl, by omega, [], RdE.nil_ _ _ _, rfl, Rts.nil_ _⟩)⟩
  · have HT : Hid (frT 21 l = none) := by
      show _ = _
      rw [show frT 21 l = P2 l by simp [frT]]
      exact P2_bad HN1.out HN2.out
    go_wp2_with fail
    rw [hwv.out]
    refine bodyPost_ret (v := .tuple #[.slice none 0 0, .slice none 0 0, .int .i64 0, .int .i64 1]) (by simp [results, Try.results6, go_sem]) rfl ?_
    exact ⟨HBv.out, .inr (.inl ⟨HT.out, rfl⟩)⟩

set_option maxRecDepth 100000 in
set_option maxHeartbeats 4000000 in
theorem sf16 (b o n c : Nat) (l : List Int) (w : World) (hr : Rd w (some ⟨b, o, none⟩) l) (hn : Hid (l.length = n)) (hnc : n ≤ c) (hc2 : c ≤ 9223372036854775807) (h1 : 1 ≤ n) (hn2 : n ≤ 4294967295) (h0 : w.cell? ⟨b, o, none⟩ = some (.int .u8 16)) :
    Calls Try.prog 6 #[.slice (some ⟨b, o, none⟩) n c] w fun e w' => SfEnd w 16 l e w' := by
  have hbl := World.block_lt_of_cell? _ _ h0
  simp only at hbl
  have hbg : Hid (b ≠ w.heap.size) := by show b ≠ _; omega
  obtain ⟨W0, hW0⟩ : ∃ W0, Hid (w.alloc (.cells #[.slice (some ⟨b, o, none⟩) n c, .int .i64 1, .bool false] 35 (0, 0)) = W0) := ⟨_, Lib.hid rfl⟩
  have HR0 : Hid (Rdr W0 w.heap.size (some ⟨b, o, none⟩) n c 1 false) := by show Rdr _ _ _ _ _ _ _; rw [← hW0.out]; exact Rdr.new w _ n c 1
  have HB0 : Hid (Below w.heap.size w W0) := by show Below _ _ _; rw [← hW0.out]; exact (Below.refl _ _).alloc (Nat.le_refl _) _
  have HL0 : Hid (Rd W0 (some ⟨b, o, none⟩) l) := hr.below HB0.out
  have hc0 : (w.alloc (.cells #[.slice (some ⟨b, o, none⟩) n c, .int .i64 1, .bool false] 35 (0, 0))).cell? ⟨b, o, none⟩ = some (.int .u8 16) := by rw [hW0.out]; exact (HB0.out.cell (p := ⟨b, o, none⟩) hbl).trans h0
  have hn0 : ((n : Int) == 0) = false := by simp; omega
  have hn1 : (0 : Int) < (n : Int) := by omega
  clear hr h0 hbl
  go_enter Try.func6, Try.ntmps6
  go_wp2_with fail
  rw [hW0.out]
  clear hc0
  refine (num_u b o n c 1 w.heap.size l false W0 HL0.out hn hnc hc2 (by omega) HR0.out).mono ?_
  rintro e w1 ⟨v1, k1, b1, rfl, hst, hrd, hg⟩
  have HN1 := Lib.hid hst
  have HR1 := Lib.hid hrd
  have HL1 := Lib.hid (HL0.out.grown hg (fun _ => sep_ne hbg.out))
  have HB1 := Lib.hid (below_g HB0.out hg)
  obtain ⟨g1, hk1, p1, q1, -⟩ := hst
  rw [hn.out] at hk1
  clear hrd hg
  obtain ⟨wv, hwv⟩ : ∃ wv, Hid (w1.alloc (.cells #[.int .i64 v1] 2 (0, 0)) = wv) := ⟨_, Lib.hid rfl⟩
  have HBv : Hid (Below w.heap.size w wv) := by show Below _ _ _; rw [← hwv.out]; exact HB1.out.alloc HB1.out.size _
  have hRv : Rdr wv w.heap.size (some ⟨b, o, none⟩) n c k1 b1 := by rw [← hwv.out]; exact (heap_alloc_old _ _ HR1.out.lt).trans HR1.out
  have HVv : Hid (RdE EI wv (some ⟨w1.heap.size, 0, none⟩) [v1]) := by show RdE _ _ _ _; rw [← hwv.out]; exact RdE.new (E := EI) w1 [v1] 2
  have x1 : (w1.alloc (.cells #[.int .i64 v1] 2 (0, 0))).cell? ⟨w.heap.size, 1, none⟩ = some (.int .i64 (k1 : Nat)) := by rw [hwv.out]; exact hRv.cell1
  have x2 : (w1.alloc (.cells #[.int .i64 v1] 2 (0, 0))).cell? ⟨w.heap.size, 2, none⟩ = some (.bool b1) := by rw [hwv.out]; exact hRv.cell2
  cases b1
  · have e1 := num_f HN1.out
    obtain ⟨-, e1'⟩ := e1
    have HG : Hid (frG 16 l = some ([v1], [], k1)) := frG_of (by simp [frT, P1, e1']) (by simp [opB])
    clear e1'
    go_wp2_with fail
    rw [hwv.out]
    have y1 := hRv.cell1
    clear x1 x2
    go_quiet (fail)
    go_wp2_with fail
    refine bodyPost_ret (v := .tuple #[.slice (some ⟨w1.heap.size, 0, none⟩) 1 1, .slice none 0 0, .int .i64 (k1 : Nat), .int .i64 0]) (by simp [results, Try.results6, go_sem]) rfl ?_
    exact ⟨below_drewN HBv.out _, .inr (.inr ⟨[v1], [], k1, _, 1, _, _, 0, _, HG.out, rfl, rfl, by omega, HVv.out.drewN _, rfl, by omega, [], RdE.nil_ _ _ _, rfl, Rts.nil_ _⟩)⟩
  · have HT : Hid (frT 16 l = none) := by
      show _ = _
      rw [show frT 16 l = P1 l by simp [frT]]
      exact P1_bad HN1.out
    go_wp2_with fail
    rw [hwv.out]
    refine bodyPost_ret (v := .tuple #[.slice none 0 0, .slice none 0 0, .int .i64 0, .int .i64 1]) (by simp [results, Try.results6, go_sem]) rfl ?_
    exact ⟨HBv.out, .inr (.inl ⟨HT.out, rfl⟩)⟩

set_option maxRecDepth 100000 in
set_option maxHeartbeats 4000000 in
theorem sf20 (b o n c : Nat) (l : List Int) (w : World) (hr : Rd w (some ⟨b, o, none⟩) l) (hn : Hid (l.length = n)) (hnc : n ≤ c) (hc2 : c ≤ 9223372036854775807) (h1 : 1 ≤ n) (hn2 : n ≤ 4294967295) (h0 : w.cell? ⟨b, o, none⟩ = some (.int .u8 20)) :
    Calls Try.prog 6 #[.slice (some ⟨b, o, none⟩) n c] w fun e w' => SfEnd w 20 l e w' := by
  have hbl := World.block_lt_of_cell? _ _ h0
  simp only at hbl
  have hbg : Hid (b ≠ w.heap.size) := by show b ≠ _; omega
  obtain ⟨W0, hW0⟩ : ∃ W0, Hid (w.alloc (.cells #[.slice (some ⟨b, o, none⟩) n c, .int .i64 1, .bool false] 35 (0, 0)) = W0) := ⟨_, Lib.hid rfl⟩
  have HR0 : Hid (Rdr W0 w.heap.size (some ⟨b, o, none⟩) n c 1 false) := by show Rdr _ _ _ _ _ _ _; rw [← hW0.out]; exact Rdr.new w _ n c 1
  have HB0 : Hid (Below w.heap.size w W0) := by show Below _ _ _; rw [← hW0.out]; exact (Below.refl _ _).alloc (Nat.le_refl _) _
  have HL0 : Hid (Rd W0 (some ⟨b, o, none⟩) l) := hr.below HB0.out
  have hc0 : (w.alloc (.cells #[.slice (some ⟨b, o, none⟩) n c, .int .i64 1, .bool false] 35 (0, 0))).cell? ⟨b, o, none⟩ = some (.int .u8 20) := by rw [hW0.out]; exact (HB0.out.cell (p := ⟨b, o, none⟩) hbl).trans h0
  have hn0 : ((n : Int) == 0) = false := by simp; omega
  have hn1 : (0 : Int) < (n : Int) := by omega
  clear hr h0 hbl
  go_enter Try.func6, Try.ntmps6
  go_wp2_with fail
  rw [hW0.out]
  clear hc0
  refine (num_u b o n c 1 w.heap.size l false W0 HL0.out hn hnc hc2 (by omega) HR0.out).mono ?_
  rintro e w1 ⟨v1, k1, b1, rfl, hst, hrd, hg⟩
  have HN1 := Lib.hid hst
  have HR1 := Lib.hid hrd
  have HL1 := Lib.hid (HL0.out.grown hg (fun _ => sep_ne hbg.out))
  have HB1 := Lib.hid (below_g HB0.out hg)
  obtain ⟨g1, hk1, p1, q1, -⟩ := hst
  rw [hn.out] at hk1
  clear hrd hg
  obtain ⟨wv, hwv⟩ : ∃ wv, Hid (w1.alloc (.cells #[.int .i64 v1] 2 (0, 0)) = wv) := ⟨_, Lib.hid rfl⟩
  have HBv : Hid (Below w.heap.size w wv) := by show Below _ _ _; rw [← hwv.out]; exact HB1.out.alloc HB1.out.size _
  have hRv : Rdr wv w.heap.size (some ⟨b, o, none⟩) n c k1 b1 := by rw [← hwv.out]; exact (heap_alloc_old _ _ HR1.out.lt).trans HR1.out
  have HVv : Hid (RdE EI wv (some ⟨w1.heap.size, 0, none⟩) [v1]) := by show RdE _ _ _ _; rw [← hwv.out]; exact RdE.new (E := EI) w1 [v1] 2
  have x1 : (w1.alloc (.cells #[.int .i64 v1] 2 (0, 0))).cell? ⟨w.heap.size, 1, none⟩ = some (.int .i64 (k1 : Nat)) := by rw [hwv.out]; exact hRv.cell1
  have x2 : (w1.alloc (.cells #[.int .i64 v1] 2 (0, 0))).cell? ⟨w.heap.size, 2, none⟩ = some (.bool b1) := by rw [hwv.out]; exact hRv.cell2
  cases b1
  · have e1 := num_f HN1.out
    obtain ⟨-, e1'⟩ := e1
    have HG : Hid (frG 20 l = some ([v1], [], k1)) := frG_of (by simp [frT, P1, e1']) (by simp [opB])
    clear e1'
    go_wp2_with fail
    rw [hwv.out]
    have y1 := hRv.cell1
    clear x1 x2
    go_quiet (fail)
    go_wp2_with fail
    refine bodyPost_ret (v := .tuple #[.slice (some ⟨w1.heap.size, 0, none⟩) 1 1, .slice none 0 0, .int .i64 (k1 : Nat), .int .i64 0]) (by simp [results, Try.results6, go_sem]) rfl ?_
    exact ⟨below_drewN HBv.out _, .inr (.inr ⟨[v1], [], k1, _, 1, _, _, 0, _, HG.out, rfl, rfl, by omega, HVv.out.drewN _, rfl, by omega, [], RdE.nil_ _ _ _, rfl, Rts.nil_ _⟩)⟩
  · have HT : Hid (frT 20 l = none) := by
      show _ = _
      rw [show frT 20 l = P1 l by simp [frT]]
      exact P1_bad HN1.out
    go_wp2_with fail
    rw [hwv.out]
    refine bodyPost_ret (v := .tuple #[.slice none 0 0, .slice none 0 0, .int .i64 0, .int .i64 1]) (by simp [results, Try.results6, go_sem]) rfl ?_
    exact ⟨HBv.out, .inr (.inl ⟨HT.out, rfl⟩)⟩

set_option maxRecDepth 100000 in
set_option maxHeartbeats 4000000 in
theorem sf25 (b o n c : Nat) (l : List Int) (w : World) (hr : Rd w (some ⟨b, o, none⟩) l) (hn : Hid (l.length = n)) (hnc : n ≤ c) (hc2 : c ≤ 9223372036854775807) (h1 : 1 ≤ n) (hn2 : n ≤ 4294967295) (h0 : w.cell? ⟨b, o, none⟩ = some (.int .u8 25)) :
    Calls Try.prog 6 #[.slice (some ⟨b, o, none⟩) n c] w fun e w' => SfEnd w 25 l e w' := by
  have hbl := World.block_lt_of_cell? _ _ h0
  simp only at hbl
  have hbg : Hid (b ≠ w.heap.size) := by show b ≠ _; omega
  obtain ⟨W0, hW0⟩ : ∃ W0, Hid (w.alloc (.cells #[.slice (some ⟨b, o, none⟩) n c, .int .i64 1, .bool false] 35 (0, 0)) = W0) := ⟨_, Lib.hid rfl⟩
  have HR0 : Hid (Rdr W0 w.heap.size (some ⟨b, o, none⟩) n c 1 false) := by show Rdr _ _ _ _ _ _ _; rw [← hW0.out]; exact Rdr.new w _ n c 1
  have HB0 : Hid (Below w.heap.size w W0) := by show Below _ _ _; rw [← hW0.out]; exact (Below.refl _ _).alloc (Nat.le_refl _) _
  have HL0 : Hid (Rd W0 (some ⟨b, o, none⟩) l) := hr.below HB0.out
  have hc0 : (w.alloc (.cells #[.slice (some ⟨b, o, none⟩) n c, .int .i64 1, .bool false] 35 (0, 0))).cell? ⟨b, o, none⟩ = some (.int .u8 25) := by rw [hW0.out]; exact (HB0.out.cell (p := ⟨b, o, none⟩) hbl).trans h0
  have hn0 : ((n : Int) == 0) = false := by simp; omega
  have hn1 : (0 : Int) < (n : Int) := by omega
  clear hr h0 hbl
  go_enter Try.func6, Try.ntmps6
  go_wp2_with fail
  rw [hW0.out]
  clear hc0
  refine (num_u b o n c 1 w.heap.size l false W0 HL0.out hn hnc hc2 (by omega) HR0.out).mono ?_
  rintro e w1 ⟨v1, k1, b1, rfl, hst, hrd, hg⟩
  have HN1 := Lib.hid hst
  have HR1 := Lib.hid hrd
  have HL1 := Lib.hid (HL0.out.grown hg (fun _ => sep_ne hbg.out))
  have HB1 := Lib.hid (below_g HB0.out hg)
  obtain ⟨g1, hk1, p1, q1, -⟩ := hst
  rw [hn.out] at hk1
  clear hrd hg
  obtain ⟨wv, hwv⟩ : ∃ wv, Hid (w1.alloc (.cells #[.int .i64 v1] 2 (0, 0)) = wv) := ⟨_, Lib.hid rfl⟩
  have HBv : Hid (Below w.heap.size w wv) := by show Below _ _ _; rw [← hwv.out]; exact HB1.out.alloc HB1.out.size _
  have hRv : Rdr wv w.heap.size (some ⟨b, o, none⟩) n c k1 b1 := by rw [← hwv.out]; exact (heap_alloc_old _ _ HR1.out.lt).trans HR1.out
  have HVv : Hid (RdE EI wv (some ⟨w1.heap.size, 0, none⟩) [v1]) := by show RdE _ _ _ _; rw [← hwv.out]; exact RdE.new (E := EI) w1 [v1] 2
  have x1 : (w1.alloc (.cells #[.int .i64 v1] 2 (0, 0))).cell? ⟨w.heap.size, 1, none⟩ = some (.int .i64 (k1 : Nat)) := by rw [hwv.out]; exact hRv.cell1
  have x2 : (w1.alloc (.cells #[.int .i64 v1] 2 (0, 0))).cell? ⟨w.heap.size, 2, none⟩ = some (.bool b1) := by rw [hwv.out]; exact hRv.cell2
  cases b1
  · have e1 := num_f HN1.out
    obtain ⟨-, e1'⟩ := e1
    have HG : Hid (frG 25 l = some ([v1], [], k1)) := frG_of (by simp [frT, P1, e1']) (by simp [opB])
    clear e1'
    go_wp2_with fail
    rw [hwv.out]
    have y1 := hRv.cell1
    clear x1 x2
    go_quiet (fail)
    go_wp2_with fail
    refine bodyPost_ret (v := .tuple #[.slice (some ⟨w1.heap.size, 0, none⟩) 1 1, .slice none 0 0, .int .i64 (k1 : Nat), .int .i64 0]) (by simp [results, Try.results6, go_sem]) rfl ?_
    exact ⟨below_drewN HBv.out _, .inr (.inr ⟨[v1], [], k1, _, 1, _, _, 0, _, HG.out, rfl, rfl, by omega, HVv.out.drewN _, rfl, by omega, [], RdE.nil_ _ _ _, rfl, Rts.nil_ _⟩)⟩
  · have HT : Hid (frT 25 l = none) := by
      show _ = _
      rw [show frT 25 l = P1 l by simp [frT]]
      exact P1_bad HN1.out
    go_wp2_with fail
    rw [hwv.out]
    refine bodyPost_ret (v := .tuple #[.slice none 0 0, .slice none 0 0, .int .i64 0, .int .i64 1]) (by simp [results, Try.results6, go_sem]) rfl ?_
    exact ⟨HBv.out, .inr (.inl ⟨HT.out, rfl⟩)⟩

end Go.Proofs.Ytggcnepdeaijoaa

/- The walk of spec.Frame, counts of streams. Conditions: the slice reads as bytes; its first byte is told. -/
import Derived.Test.YtggcnepdeaijoaaSfN
namespace Go.Proofs.Ytggcnepdeaijoaa
open Go.RowKit
set_option linter.unusedVariables false
set_option linter.unusedSimpArgs false

set_option maxRecDepth 100000 in
set_option maxHeartbeats 4000000 in
theorem sf18 (b o n c : Nat) (l : List Int) (w : World) (hr : Rd w (some ⟨b, o, none⟩) l) (hn : Hid (l.length = n)) (hnc : n ≤ c) (hc2 : c ≤ 9223372036854775807) (h1 : 1 ≤ n) (hn2 : n ≤ 4294967295) (h0 : w.cell? ⟨b, o, none⟩ = some (.int .u8 18)) :
    Calls Try.prog 6 #[.slice (some ⟨b, o, none⟩) n c] w fun e w' => SfEnd w 18 l e w' := by
  have hbl := World.block_lt_of_cell? _ _ h0
  simp only at hbl
  have hbg : Hid (b ≠ w.heap.size) := by show b ≠ _; omega
  obtain ⟨W0, hW0⟩ : ∃ W0, Hid (w.alloc (.cells #[.slice (some ⟨b, o, none⟩) n c, .int .i64 1, .bool false] 35 (0, 0)) = W0) := ⟨_, Lib.hid rfl⟩
  have HR0 : Hid (Rdr W0 w.heap.size (some ⟨b, o, none⟩) n c 1 false) := by show Rdr _ _ _ _ _ _ _; rw [← hW0.out]; exact Rdr.new w _ n c 1
  have HB0 : Hid (Below w.heap.size w W0) := by show Below _ _ _; rw [← hW0.out]; exact (Below.refl _ _).alloc (Nat.le_refl _) _
  have HL0 : Hid (Rd W0 (some ⟨b, o, none⟩) l) := hr.below HB0.out
  have hc0 : (w.alloc (.cells #[.slice (some ⟨b, o, none⟩) n c, .int .i64 1, .bool false] 35 (0, 0))).cell? ⟨b, o, none⟩ = some (.int .u8 18) := by rw [hW0.out]; exact (HB0.out.cell (p := ⟨b, o, none⟩) hbl).trans h0
  have hn0 : ((n : Int) == 0) = false := by simp; omega
  have hn1 : (0 : Int) < (n : Int) := by omega
  clear hr h0 hbl
  go_enter Try.func6, Try.ntmps6
  go_wp2_with fail
  rw [hW0.out]
  clear hc0
  refine (num_u b o n c 1 w.heap.size l false W0 HL0.out hn hnc hc2 (by omega) HR0.out).mono ?_
  rintro e w1 ⟨v1, k1, b1, rfl, hst, hrd, hg⟩
  have HN1 := Lib.hid hst
  have HR1 := Lib.hid hrd
  have HL1 := Lib.hid (HL0.out.grown hg (fun _ => sep_ne hbg.out))
  have HB1 := Lib.hid (below_g HB0.out hg)
  obtain ⟨g1, hk1, p1, q1, -⟩ := hst
  rw [hn.out] at hk1
  clear hrd hg
  have fb1 : bits .and .u8 18 1 = 0 := by decide
  have fw : wrap64 0 = 0 := IntWalk.wrap64_in 0 (by omega)
  have hz : Hid (b1 = true → v1 = 0) := fun h => by
    obtain ⟨_, _, _, _, h5⟩ := HN1.out
    rcases h5 with ⟨h6, _⟩ | ⟨_, h6, _⟩
    · rw [h] at h6; cases h6
    · exact h6
  obtain ⟨wv, hwv⟩ : ∃ wv, Hid (w1.alloc (.cells #[.int .i64 0, .int .i64 v1] 2 (0, 0)) = wv) := ⟨_, Lib.hid rfl⟩
  have HBv : Hid (Below w.heap.size w wv) := by show Below _ _ _; rw [← hwv.out]; exact HB1.out.alloc HB1.out.size _
  have hRv : Rdr wv w.heap.size (some ⟨b, o, none⟩) n c k1 b1 := by rw [← hwv.out]; exact (heap_alloc_old _ _ HR1.out.lt).trans HR1.out
  have HVv : Hid (RdE EI wv (some ⟨w1.heap.size, 0, none⟩) [0, v1]) := by show RdE _ _ _ _; rw [← hwv.out]; exact RdE.new (E := EI) w1 [0, v1] 2
  have x1 : (w1.alloc (.cells #[.int .i64 0, .int .i64 v1] 2 (0, 0))).cell? ⟨w.heap.size, 1, none⟩ = some (.int .i64 (k1 : Nat)) := by rw [hwv.out]; exact hRv.cell1
  have x2 : (w1.alloc (.cells #[.int .i64 0, .int .i64 v1] 2 (0, 0))).cell? ⟨w.heap.size, 2, none⟩ = some (.bool b1) := by rw [hwv.out]; exact hRv.cell2
  by_cases hbig : 1152921504606846976 < v1
  · have HG : Hid (frG 18 l = none) := by
      have e : b1 = false := by
        cases b1
        · rfl
        · have := hz.out rfl
          omega
      subst e
      have e1 := (num_f HN1.out).2
      exact frG_none (by simp [frT, Pms, e1, hbig])
    go_wp2_with fail
    rw [hwv.out]
    refine bodyPost_ret (v := .tuple #[.slice none 0 0, .slice none 0 0, .int .i64 0, .int .i64 2]) (by simp [results, Try.results6, go_sem]) rfl ?_
    exact ⟨HBv.out, .inl ⟨HG.out, rfl⟩⟩
  cases b1
  · obtain ⟨-, e1'⟩ := num_f HN1.out
    have HG : Hid (frG 18 l = some ([0, v1], [], k1)) := frG_of (by simp [frT, Pms, e1', hbig]) (by simp [opB])
    clear e1'
    go_wp2_with fail
    rw [hwv.out]
    have y1 := hRv.cell1
    clear x1 x2
    go_quiet (fail)
    go_wp2_with fail
    refine bodyPost_ret (v := .tuple #[.slice (some ⟨w1.heap.size, 0, none⟩) 2 2, .slice none 0 0, .int .i64 (k1 : Nat), .int .i64 0]) (by simp [results, Try.results6, go_sem]) rfl ?_
    exact ⟨below_drewN HBv.out _, .inr (.inr ⟨[0, v1], [], k1, _, 2, _, _, 0, _, HG.out, rfl, rfl, by omega, HVv.out.drewN _, rfl, by omega, [], RdE.nil_ _ _ _, rfl, Rts.nil_ _⟩)⟩
  · have HT : Hid (frT 18 l = none) := by
      have e := num_t HN1.out
      simp at e
      show _ = _
      simp [frT, Pms, e]
    go_wp2_with fail
    rw [hwv.out]
    refine bodyPost_ret (v := .tuple #[.slice none 0 0, .slice none 0 0, .int .i64 0, .int .i64 1]) (by simp [results, Try.results6, go_sem]) rfl ?_
    exact ⟨HBv.out, .inr (.inl ⟨HT.out, rfl⟩)⟩

set_option maxRecDepth 100000 in
set_option maxHeartbeats 4000000 in
theorem sf19 (b o n c : Nat) (l : List Int) (w : World) (hr : Rd w (some ⟨b, o, none⟩) l) (hn : Hid (l.length = n)) (hnc : n ≤ c) (hc2 : c ≤ 9223372036854775807) (h1 : 1 ≤ n) (hn2 : n ≤ 4294967295) (h0 : w.cell? ⟨b, o, none⟩ = some (.int .u8 19)) :
    Calls Try.prog 6 #[.slice (some ⟨b, o, none⟩) n c] w fun e w' => SfEnd w 19 l e w' := by
  have hbl := World.block_lt_of_cell? _ _ h0
  simp only at hbl
  have hbg : Hid (b ≠ w.heap.size) := by show b ≠ _; omega
  obtain ⟨W0, hW0⟩ : ∃ W0, Hid (w.alloc (.cells #[.slice (some ⟨b, o, none⟩) n c, .int .i64 1, .bool false] 35 (0, 0)) = W0) := ⟨_, Lib.hid rfl⟩
  have HR0 : Hid (Rdr W0 w.heap.size (some ⟨b, o, none⟩) n c 1 false) := by show Rdr _ _ _ _ _ _ _; rw [← hW0.out]; exact Rdr.new w _ n c 1
  have HB0 : Hid (Below w.heap.size w W0) := by show Below _ _ _; rw [← hW0.out]; exact (Below.refl _ _).alloc (Nat.le_refl _) _
  have HL0 : Hid (Rd W0 (some ⟨b, o, none⟩) l) := hr.below HB0.out
  have hc0 : (w.alloc (.cells #[.slice (some ⟨b, o, none⟩) n c, .int .i64 1, .bool false] 35 (0, 0))).cell? ⟨b, o, none⟩ = some (.int .u8 19) := by rw [hW0.out]; exact (HB0.out.cell (p := ⟨b, o, none⟩) hbl).trans h0
  have hn0 : ((n : Int) == 0) = false := by simp; omega
  have hn1 : (0 : Int) < (n : Int) := by omega
  clear hr h0 hbl
  go_enter Try.func6, Try.ntmps6
  go_wp2_with fail
  rw [hW0.out]
  clear hc0
  refine (num_u b o n c 1 w.heap.size l false W0 HL0.out hn hnc hc2 (by omega) HR0.out).mono ?_
  rintro e w1 ⟨v1, k1, b1, rfl, hst, hrd, hg⟩
  have HN1 := Lib.hid hst
  have HR1 := Lib.hid hrd
  have HL1 := Lib.hid (HL0.out.grown hg (fun _ => sep_ne hbg.out))
  have HB1 := Lib.hid (below_g HB0.out hg)
  obtain ⟨g1, hk1, p1, q1, -⟩ := hst
  rw [hn.out] at hk1
  clear hrd hg
  have fb1 : bits .and .u8 19 1 = 1 := by decide
  have fw : wrap64 1 = 1 := IntWalk.wrap64_in 1 (by omega)
  have hz : Hid (b1 = true → v1 = 0) := fun h => by
    obtain ⟨_, _, _, _, h5⟩ := HN1.out
    rcases h5 with ⟨h6, _⟩ | ⟨_, h6, _⟩
    · rw [h] at h6; cases h6
    · exact h6
  obtain ⟨wv, hwv⟩ : ∃ wv, Hid (w1.alloc (.cells #[.int .i64 1, .int .i64 v1] 2 (0, 0)) = wv) := ⟨_, Lib.hid rfl⟩
  have HBv : Hid (Below w.heap.size w wv) := by show Below _ _ _; rw [← hwv.out]; exact HB1.out.alloc HB1.out.size _
  have hRv : Rdr wv w.heap.size (some ⟨b, o, none⟩) n c k1 b1 := by rw [← hwv.out]; exact (heap_alloc_old _ _ HR1.out.lt).trans HR1.out
  have HVv : Hid (RdE EI wv (some ⟨w1.heap.size, 0, none⟩) [1, v1]) := by show RdE _ _ _ _; rw [← hwv.out]; exact RdE.new (E := EI) w1 [1, v1] 2
  have x1 : (w1.alloc (.cells #[.int .i64 1, .int .i64 v1] 2 (0, 0))).cell? ⟨w.heap.size, 1, none⟩ = some (.int .i64 (k1 : Nat)) := by rw [hwv.out]; exact hRv.cell1
  have x2 : (w1.alloc (.cells #[.int .i64 1, .int .i64 v1] 2 (0, 0))).cell? ⟨w.heap.size, 2, none⟩ = some (.bool b1) := by rw [hwv.out]; exact hRv.cell2
  by_cases hbig : 1152921504606846976 < v1
  · have HG : Hid (frG 19 l = none) := by
      have e : b1 = false := by
        cases b1
        · rfl
        · have := hz.out rfl
          omega
      subst e
      have e1 := (num_f HN1.out).2
      exact frG_none (by simp [frT, Pms, e1, hbig])
    go_wp2_with fail
    rw [hwv.out]
    refine bodyPost_ret (v := .tuple #[.slice none 0 0, .slice none 0 0, .int .i64 0, .int .i64 2]) (by simp [results, Try.results6, go_sem]) rfl ?_
    exact ⟨HBv.out, .inl ⟨HG.out, rfl⟩⟩
  cases b1
  · obtain ⟨-, e1'⟩ := num_f HN1.out
    have HG : Hid (frG 19 l = some ([1, v1], [], k1)) := frG_of (by simp [frT, Pms, e1', hbig]) (by simp [opB])
    clear e1'
    go_wp2_with fail
    rw [hwv.out]
    have y1 := hRv.cell1
    clear x1 x2
    go_quiet (fail)
    go_wp2_with fail
    refine bodyPost_ret (v := .tuple #[.slice (some ⟨w1.heap.size, 0, none⟩) 2 2, .slice none 0 0, .int .i64 (k1 : Nat), .int .i64 0]) (by simp [results, Try.results6, go_sem]) rfl ?_
    exact ⟨below_drewN HBv.out _, .inr (.inr ⟨[1, v1], [], k1, _, 2, _, _, 0, _, HG.out, rfl, rfl, by omega, HVv.out.drewN _, rfl, by omega, [], RdE.nil_ _ _ _, rfl, Rts.nil_ _⟩)⟩
  · have HT : Hid (frT 19 l = none) := by
      have e := num_t HN1.out
      simp at e
      show _ = _
      simp [frT, Pms, e]
    go_wp2_with fail
    rw [hwv.out]
    refine bodyPost_ret (v := .tuple #[.slice none 0 0, .slice none 0 0, .int .i64 0, .int .i64 1]) (by simp [results, Try.results6, go_sem]) rfl ?_
    exact ⟨HBv.out, .inr (.inl ⟨HT.out, rfl⟩)⟩

set_option maxRecDepth 100000 in
set_option maxHeartbeats 4000000 in
theorem sf22 (b o n c : Nat) (l : List Int) (w : World) (hr : Rd w (some ⟨b, o, none⟩) l) (hn : Hid (l.length = n)) (hnc : n ≤ c) (hc2 : c ≤ 9223372036854775807) (h1 : 1 ≤ n) (hn2 : n ≤ 4294967295) (h0 : w.cell? ⟨b, o, none⟩ = some (.int .u8 22)) :
    Calls Try.prog 6 #[.slice (some ⟨b, o, none⟩) n c] w fun e w' => SfEnd w 22 l e w' := by
  have hbl := World.block_lt_of_cell? _ _ h0
  simp only at hbl
  have hbg : Hid (b ≠ w.heap.size) := by show b ≠ _; omega
  obtain ⟨W0, hW0⟩ : ∃ W0, Hid (w.alloc (.cells #[.slice (some ⟨b, o, none⟩) n c, .int .i64 1, .bool false] 35 (0, 0)) = W0) := ⟨_, Lib.hid rfl⟩
  have HR0 : Hid (Rdr W0 w.heap.size (some ⟨b, o, none⟩) n c 1 false) := by show Rdr _ _ _ _ _ _ _; rw [← hW0.out]; exact Rdr.new w _ n c 1
  have HB0 : Hid (Below w.heap.size w W0) := by show Below _ _ _; rw [← hW0.out]; exact (Below.refl _ _).alloc (Nat.le_refl _) _
  have HL0 : Hid (Rd W0 (some ⟨b, o, none⟩) l) := hr.below HB0.out
  have hc0 : (w.alloc (.cells #[.slice (some ⟨b, o, none⟩) n c, .int .i64 1, .bool false] 35 (0, 0))).cell? ⟨b, o, none⟩ = some (.int .u8 22) := by rw [hW0.out]; exact (HB0.out.cell (p := ⟨b, o, none⟩) hbl).trans h0
  have hn0 : ((n : Int) == 0) = false := by simp; omega
  have hn1 : (0 : Int) < (n : Int) := by omega
  clear hr h0 hbl
  go_enter Try.func6, Try.ntmps6
  go_wp2_with fail
  rw [hW0.out]
  clear hc0
  refine (num_u b o n c 1 w.heap.size l false W0 HL0.out hn hnc hc2 (by omega) HR0.out).mono ?_
  rintro e w1 ⟨v1, k1, b1, rfl, hst, hrd, hg⟩
  have HN1 := Lib.hid hst
  have HR1 := Lib.hid hrd
  have HL1 := Lib.hid (HL0.out.grown hg (fun _ => sep_ne hbg.out))
  have HB1 := Lib.hid (below_g HB0.out hg)
  obtain ⟨g1, hk1, p1, q1, -⟩ := hst
  rw [hn.out] at hk1
  clear hrd hg
  have fb1 : bits .and .u8 22 1 = 0 := by decide
  have fw : wrap64 0 = 0 := IntWalk.wrap64_in 0 (by omega)
  have hz : Hid (b1 = true → v1 = 0) := fun h => by
    obtain ⟨_, _, _, _, h5⟩ := HN1.out
    rcases h5 with ⟨h6, _⟩ | ⟨_, h6, _⟩
    · rw [h] at h6; cases h6
    · exact h6
  obtain ⟨wv, hwv⟩ : ∃ wv, Hid (w1.alloc (.cells #[.int .i64 0, .int .i64 v1] 2 (0, 0)) = wv) := ⟨_, Lib.hid rfl⟩
  have HBv : Hid (Below w.heap.size w wv) := by show Below _ _ _; rw [← hwv.out]; exact HB1.out.alloc HB1.out.size _
  have hRv : Rdr wv w.heap.size (some ⟨b, o, none⟩) n c k1 b1 := by rw [← hwv.out]; exact (heap_alloc_old _ _ HR1.out.lt).trans HR1.out
  have HVv : Hid (RdE EI wv (some ⟨w1.heap.size, 0, none⟩) [0, v1]) := by show RdE _ _ _ _; rw [← hwv.out]; exact RdE.new (E := EI) w1 [0, v1] 2
  have x1 : (w1.alloc (.cells #[.int .i64 0, .int .i64 v1] 2 (0, 0))).cell? ⟨w.heap.size, 1, none⟩ = some (.int .i64 (k1 : Nat)) := by rw [hwv.out]; exact hRv.cell1
  have x2 : (w1.alloc (.cells #[.int .i64 0, .int .i64 v1] 2 (0, 0))).cell? ⟨w.heap.size, 2, none⟩ = some (.bool b1) := by rw [hwv.out]; exact hRv.cell2
  by_cases hbig : 1152921504606846976 < v1
  · have HG : Hid (frG 22 l = none) := by
      have e : b1 = false := by
        cases b1
        · rfl
        · have := hz.out rfl
          omega
      subst e
      have e1 := (num_f HN1.out).2
      exact frG_open (r := ([0, v1], [], k1)) (by simp [frT, Psb, e1]) (by simp [opB]; omega)
    go_wp2_with fail
    rw [hwv.out]
    refine bodyPost_ret (v := .tuple #[.slice none 0 0, .slice none 0 0, .int .i64 0, .int .i64 2]) (by simp [results, Try.results6, go_sem]) rfl ?_
    exact ⟨HBv.out, .inl ⟨HG.out, rfl⟩⟩
  cases b1
  · obtain ⟨-, e1'⟩ := num_f HN1.out
    have HG : Hid (frG 22 l = some ([0, v1], [], k1)) := frG_of (by simp [frT, Psb, e1', hbig]) (by simp [opB]; omega)
    clear e1'
    go_wp2_with fail
    rw [hwv.out]
    have y1 := hRv.cell1
    clear x1 x2
    go_quiet (fail)
    go_wp2_with fail
    refine bodyPost_ret (v := .tuple #[.slice (some ⟨w1.heap.size, 0, none⟩) 2 2, .slice none 0 0, .int .i64 (k1 : Nat), .int .i64 0]) (by simp [results, Try.results6, go_sem]) rfl ?_
    exact ⟨below_drewN HBv.out _, .inr (.inr ⟨[0, v1], [], k1, _, 2, _, _, 0, _, HG.out, rfl, rfl, by omega, HVv.out.drewN _, rfl, by omega, [], RdE.nil_ _ _ _, rfl, Rts.nil_ _⟩)⟩
  · have HT : Hid (frT 22 l = none) := by
      have e := num_t HN1.out
      simp at e
      show _ = _
      simp [frT, Psb, e]
    go_wp2_with fail
    rw [hwv.out]
    refine bodyPost_ret (v := .tuple #[.slice none 0 0, .slice none 0 0, .int .i64 0, .int .i64 1]) (by simp [results, Try.results6, go_sem]) rfl ?_
    exact ⟨HBv.out, .inr (.inl ⟨HT.out, rfl⟩)⟩

set_option maxRecDepth 100000 in
set_option maxHeartbeats 4000000 in
theorem sf23 (b o n c : Nat) (l : List Int) (w : World) (hr : Rd w (some ⟨b, o, none⟩) l) (hn : Hid (l.length = n)) (hnc : n ≤ c) (hc2 : c ≤ 9223372036854775807) (h1 : 1 ≤ n) (hn2 : n ≤ 4294967295) (h0 : w.cell? ⟨b, o, none⟩ = some (.int .u8 23)) :
    Calls Try.prog 6 #[.slice (some ⟨b, o, none⟩) n c] w fun e w' => SfEnd w 23 l e w' := by
  have hbl := World.block_lt_of_cell? _ _ h0
  simp only at hbl
  have hbg : Hid (b ≠ w.heap.size) := by show b ≠ _; omega
  obtain ⟨W0, hW0⟩ : ∃ W0, Hid (w.alloc (.cells #[.slice (some ⟨b, o, none⟩) n c, .int .i64 1, .bool false] 35 (0, 0)) = W0) := ⟨_, Lib.hid rfl⟩
  have HR0 : Hid (Rdr W0 w.heap.size (some ⟨b, o, none⟩) n c 1 false) := by show Rdr _ _ _ _ _ _ _; rw [← hW0.out]; exact Rdr.new w _ n c 1
  have HB0 : Hid (Below w.heap.size w W0) := by show Below _ _ _; rw [← hW0.out]; exact (Below.refl _ _).alloc (Nat.le_refl _) _
  have HL0 : Hid (Rd W0 (some ⟨b, o, none⟩) l) := hr.below HB0.out
  have hc0 : (w.alloc (.cells #[.slice (some ⟨b, o, none⟩) n c, .int .i64 1, .bool false] 35 (0, 0))).cell? ⟨b, o, none⟩ = some (.int .u8 23) := by rw [hW0.out]; exact (HB0.out.cell (p := ⟨b, o, none⟩) hbl).trans h0
  have hn0 : ((n : Int) == 0) = false := by simp; omega
  have hn1 : (0 : Int) < (n : Int) := by omega
  clear hr h0 hbl
  go_enter Try.func6, Try.ntmps6
  go_wp2_with fail
  rw [hW0.out]
  clear hc0
  refine (num_u b o n c 1 w.heap.size l false W0 HL0.out hn hnc hc2 (by omega) HR0.out).mono ?_
  rintro e w1 ⟨v1, k1, b1, rfl, hst, hrd, hg⟩
  have HN1 := Lib.hid hst
  have HR1 := Lib.hid hrd
  have HL1 := Lib.hid (HL0.out.grown hg (fun _ => sep_ne hbg.out))
  have HB1 := Lib.hid (below_g HB0.out hg)
  obtain ⟨g1, hk1, p1, q1, -⟩ := hst
  rw [hn.out] at hk1
  clear hrd hg
  have fb1 : bits .and .u8 23 1 = 1 := by decide
  have fw : wrap64 1 = 1 := IntWalk.wrap64_in 1 (by omega)
  have hz : Hid (b1 = true → v1 = 0) := fun h => by
    obtain ⟨_, _, _, _, h5⟩ := HN1.out
    rcases h5 with ⟨h6, _⟩ | ⟨_, h6, _⟩
    · rw [h] at h6; cases h6
    · exact h6
  obtain ⟨wv, hwv⟩ : ∃ wv, Hid (w1.alloc (.cells #[.int .i64 1, .int .i64 v1] 2 (0, 0)) = wv) := ⟨_, Lib.hid rfl⟩
  have HBv : Hid (Below w.heap.size w wv) := by show Below _ _ _; rw [← hwv.out]; exact HB1.out.alloc HB1.out.size _
  have hRv : Rdr wv w.heap.size (some ⟨b, o, none⟩) n c k1 b1 := by rw [← hwv.out]; exact (heap_alloc_old _ _ HR1.out.lt).trans HR1.out
  have HVv : Hid (RdE EI wv (some ⟨w1.heap.size, 0, none⟩) [1, v1]) := by show RdE _ _ _ _; rw [← hwv.out]; exact RdE.new (E := EI) w1 [1, v1] 2
  have x1 : (w1.alloc (.cells #[.int .i64 1, .int .i64 v1] 2 (0, 0))).cell? ⟨w.heap.size, 1, none⟩ = some (.int .i64 (k1 : Nat)) := by rw [hwv.out]; exact hRv.cell1
  have x2 : (w1.alloc (.cells #[.int .i64 1, .int .i64 v1] 2 (0, 0))).cell? ⟨w.heap.size, 2, none⟩ = some (.bool b1) := by rw [hwv.out]; exact hRv.cell2
  by_cases hbig : 1152921504606846976 < v1
  · have HG : Hid (frG 23 l = none) := by
      have e : b1 = false := by
        cases b1
        · rfl
        · have := hz.out rfl
          omega
      subst e
      have e1 := (num_f HN1.out).2
      exact frG_open (r := ([1, v1], [], k1)) (by simp [frT, Psb, e1]) (by simp [opB]; omega)
    go_wp2_with fail
    rw [hwv.out]
    refine bodyPost_ret (v := .tuple #[.slice none 0 0, .slice none 0 0, .int .i64 0, .int .i64 2]) (by simp [results, Try.results6, go_sem]) rfl ?_
    exact ⟨HBv.out, .inl ⟨HG.out, rfl⟩⟩
  cases b1
  · obtain ⟨-, e1'⟩ := num_f HN1.out
    have HG : Hid (frG 23 l = some ([1, v1], [], k1)) := frG_of (by simp [frT, Psb, e1', hbig]) (by simp [opB]; omega)
    clear e1'
    go_wp2_with fail
    rw [hwv.out]
    have y1 := hRv.cell1
    clear x1 x2
    go_quiet (fail)
    go_wp2_with fail
    refine bodyPost_ret (v := .tuple #[.slice (some ⟨w1.heap.size, 0, none⟩) 2 2, .slice none 0 0, .int .i64 (k1 : Nat), .int .i64 0]) (by simp [results, Try.results6, go_sem]) rfl ?_
    exact ⟨below_drewN HBv.out _, .inr (.inr ⟨[1, v1], [], k1, _, 2, _, _, 0, _, HG.out, rfl, rfl, by omega, HVv.out.drewN _, rfl, by omega, [], RdE.nil_ _ _ _, rfl, Rts.nil_ _⟩)⟩
  · have HT : Hid (frT 23 l = none) := by
      have e := num_t HN1.out
      simp at e
      show _ = _
      simp [frT, Psb, e]
    go_wp2_with fail
    rw [hwv.out]
    refine bodyPost_ret (v := .tuple #[.slice none 0 0, .slice none 0 0, .int .i64 0, .int .i64 1]) (by simp [results, Try.results6, go_sem]) rfl ?_
    exact ⟨HBv.out, .inr (.inl ⟨HT.out, rfl⟩)⟩

end Go.Proofs.Ytggcnepdeaijoaa

/- The walk of spec.Frame, frames with data whose length is told. Conditions: the slice reads as bytes; its first byte is told. -/
import Derived.Test.YtggcnepdeaijoaaSfN
namespace Go.Proofs.Ytggcnepdeaijoaa
open Go.RowKit
set_option linter.unusedVariables false
set_option linter.unusedSimpArgs false

theorem RdE.grown {α : Type} {E : Elt α} {w w' : World} {A : Option Addr} {l : List α} {g : Nat} (h : RdE E w A l) (hg : w.grownBy w' (some g)) (hne : ∀ a, A = some a → a.block ≠ g) : RdE E w' A l := by
  intro hl
  obtain ⟨b, o, e, hc⟩ := h hl
  refine ⟨b, o, e, fun i j v hi hj hv => ?_⟩
  have h0 := hc i j v hi hj hv
  rw [World.cell?_of_block (hg.block b (World.block_lt_of_cell? _ _ h0) (by have := hne _ e; simpa using this))]
  exact h0
theorem RdE.celI {w : World} {g : Nat} {l : List Int} (h : RdE EI w (some ⟨g, 0, none⟩) l) (i : Nat) (x : Int) (hx : l[i]? = some x) : w.cell? ⟨g, i, none⟩ = some (.int .i64 x) := by
  obtain ⟨hi, rfl⟩ := List.getElem?_eq_some_iff.1 hx
  obtain ⟨b, o, e, hc⟩ := h (by omega)
  obtain ⟨rfl, rfl⟩ : g = b ∧ 0 = o := by simpa using e
  have := RdE.at1 rfl rfl hc i hi
  rwa [Nat.zero_add] at this
theorem byt_rt {l : List Int} {k : Nat} {bad : Bool} {s : Int} {k1 : Nat} {w : World} {A : Option Addr} {m c b : Nat} (h : BytSt l k bad s k1 false) (hd : m = s.toNat ∧ Rd w A ((l.drop k).take s.toNat) ∧ m ≤ c ∧ c ≤ 9223372036854775807 ∧ (∃ a, A = some a ∧ a.block = b)) : Rt w (A, m, c) ((l.drop k).take s.toNat) := by
  obtain ⟨h1, h2, h3⟩ := h
  obtain ⟨rfl, hr, hc, hc2, a, ha, -⟩ := hd
  rcases h3 with ⟨-, -, h4, h5⟩ | ⟨h, _⟩
  · refine ⟨hr, ?_, hc, hc2, fun e => by rw [ha] at e; cases e⟩
    rw [List.length_take, List.length_drop]
    simp only
    omega
  · cases h
theorem not_op6 {l d : List Int} {v : Int} {k : Nat} (h : v + (d.length : Int) ≤ 4611686018427387903) : ¬ opB 6 l ([v], [d], k) := fun ho => by
  rcases ho with ⟨-, h2⟩ | ⟨h2, -⟩ | ⟨h2, -⟩
  · simp only [List.getD_cons_zero] at h2; omega
  · simp at h2
  · simp at h2
/-- The data's length, if they are there. -/
theorem byt_len {l : List Int} {k : Nat} {bad : Bool} {s : Int} {k1 : Nat} (h : BytSt l k bad s k1 false) (h0 : 0 ≤ s) : (((l.drop k).take s.toNat).length : Int) = s := by
  obtain ⟨h1, h2, h3⟩ := h
  rcases h3 with ⟨-, -, h4, h5⟩ | ⟨h, _⟩
  · rw [List.length_take, List.length_drop]
    omega
  · cases h

theorem Pct_bad {l : List Int} {v1 v2 v3 : Int} {k1 k2 k3 kb : Nat} {b1 b2 b3 : Bool} (h1 : NumSt l 1 false v1 k1 b1) (h2 : NumSt l k1 b1 v2 k2 b2) (h3 : NumSt l k2 b2 v3 k3 b3) (hb : BytSt l k3 b3 v3 kb true) : Pct l = none := by
  cases b1 with
  | true => have e := num_t h1; simp at e; simp [Pct, e]
  | false =>
    obtain ⟨-, e1⟩ := num_f h1
    cases b2 with
    | true => have e := num_t h2; simp at e; simp [Pct, e1, e]
    | false =>
      obtain ⟨-, e2⟩ := num_f h2
      have e := nb_t h3 hb
      simp at e
      simp [Pct, e1, e2, e]

theorem Pcr_bad {l : List Int} {v1 v2 : Int} {k1 k2 kb : Nat} {b1 b2 : Bool} (h1 : NumSt l 1 false v1 k1 b1) (h2 : NumSt l k1 b1 v2 k2 b2) (hb : BytSt l k2 b2 v2 kb true) : Pcr l = none := by
  cases b1 with
  | true => have e := num_t h1; simp at e; simp [Pcr, e]
  | false =>
    obtain ⟨-, e1⟩ := num_f h1
    have e := nb_t h2 hb
    simp at e
    simp [Pcr, e1, e]

theorem Ptk_bad {l : List Int} {v1 : Int} {k1 kb : Nat} {b1 : Bool} (h1 : NumSt l 1 false v1 k1 b1) (hb : BytSt l k1 b1 v1 kb true) : Ptk l = none := by
  have e := nb_t h1 hb
  simp at e
  simp [Ptk, e]

set_option maxRecDepth 100000 in
set_option maxHeartbeats 4000000 in
theorem sf28 (b o n c : Nat) (l : List Int) (w : World) (hr : Rd w (some ⟨b, o, none⟩) l) (hn : Hid (l.length = n)) (hnc : n ≤ c) (hc2 : c ≤ 9223372036854775807) (h1 : 1 ≤ n) (hn2 : n ≤ 4294967295) (h0 : w.cell? ⟨b, o, none⟩ = some (.int .u8 28)) :
    Calls Try.prog 6 #[.slice (some ⟨b, o, none⟩) n c] w fun e w' => SfEnd w 28 l e w' := by
  have hbl := World.block_lt_of_cell? _ _ h0
  simp only at hbl
  have hbg : Hid (b ≠ w.heap.size) := by show b ≠ _; omega
  obtain ⟨W0, hW0⟩ : ∃ W0, Hid (w.alloc (.cells #[.slice (some ⟨b, o, none⟩) n c, .int .i64 1, .bool false] 35 (0, 0)) = W0) := ⟨_, Lib.hid rfl⟩
  have HR0 : Hid (Rdr W0 w.heap.size (some ⟨b, o, none⟩) n c 1 false) := by show Rdr _ _ _ _ _ _ _; rw [← hW0.out]; exact Rdr.new w _ n c 1
  have HB0 : Hid (Below w.heap.size w W0) := by show Below _ _ _; rw [← hW0.out]; exact (Below.refl _ _).alloc (Nat.le_refl _) _
  have HL0 : Hid (Rd W0 (some ⟨b, o, none⟩) l) := hr.below HB0.out
  have hc0 : (w.alloc (.cells #[.slice (some ⟨b, o, none⟩) n c, .int .i64 1, .bool false] 35 (0, 0))).cell? ⟨b, o, none⟩ = some (.int .u8 28) := by rw [hW0.out]; exact (HB0.out.cell (p := ⟨b, o, none⟩) hbl).trans h0
  have hn0 : ((n : Int) == 0) = false := by simp; omega
  have hn1 : (0 : Int) < (n : Int) := by omega
  clear hr h0 hbl
  go_enter Try.func6, Try.ntmps6
  go_wp2_with fail
  rw [hW0.out]
  clear hc0
  refine (num_u b o n c 1 w.heap.size l false W0 HL0.out hn hnc hc2 (by omega) HR0.out).mono ?_
  rintro e w1 ⟨v1, k1, b1, rfl, hst, hrd, hg⟩
  have HN1 := Lib.hid hst
  have HR1 := Lib.hid hrd
  have HL1 := Lib.hid (HL0.out.grown hg (fun _ => sep_ne hbg.out))
  have HB1 := Lib.hid (below_g HB0.out hg)
  obtain ⟨g1, hk1, p1, q1, -⟩ := hst
  rw [hn.out] at hk1
  clear hrd hg
  go_wp2_with fail
  refine (num_u b o n c k1 w.heap.size l b1 w1 HL1.out hn hnc hc2 (by omega) HR1.out).mono ?_
  rintro e w2 ⟨v2, k2, b2, rfl, hst, hrd, hg⟩
  have HN2 := Lib.hid hst
  have HR2 := Lib.hid hrd
  have HL2 := Lib.hid (HL1.out.grown hg (fun _ => sep_ne hbg.out))
  have HB2 := Lib.hid (below_g HB1.out hg)
  obtain ⟨g2, hk2, p2, q2, -⟩ := hst
  rw [hn.out] at hk2
  clear hrd hg
  obtain ⟨wv, hwv⟩ : ∃ wv, Hid (w2.alloc (.cells #[.int .i64 v1, .int .i64 v2] 2 (0, 0)) = wv) := ⟨_, Lib.hid rfl⟩
  have HBv : Hid (Below w.heap.size w wv) := by show Below _ _ _; rw [← hwv.out]; exact HB2.out.alloc HB2.out.size _
  have HRv : Hid (Rdr wv w.heap.size (some ⟨b, o, none⟩) n c k2 b2) := by show Rdr _ _ _ _ _ _ _; rw [← hwv.out]; exact (heap_alloc_old _ _ HR2.out.lt).trans HR2.out
  have HLv : Hid (Rd wv (some ⟨b, o, none⟩) l) := by show Rd _ _ _; rw [← hwv.out]; exact HL2.out.alloc _
  have HVv : Hid (RdE EI wv (some ⟨w2.heap.size, 0, none⟩) [v1, v2]) := by show RdE _ _ _ _; rw [← hwv.out]; exact RdE.new (E := EI) w2 [v1, v2] 2
  have hVb : Hid (∀ a, (some ⟨w2.heap.size, 0, none⟩ : Option Addr) = some a → a.block ≠ w.heap.size) := fun a ha => by
    obtain rfl : (⟨w2.heap.size, 0, none⟩ : Addr) = a := (by simpa using ha)
    have := HR2.out.lt
    show _ ≠ _
    simp only
    omega
  go_wp2_with fail
  rw [hwv.out]
  refine (num_u b o n c k2 w.heap.size l b2 wv HLv.out hn hnc hc2 (by omega) HRv.out).mono ?_
  rintro e w3 ⟨v3, k3, b3, rfl, hst, hrd, hg⟩
  have HN3 := Lib.hid hst
  have HR3 := Lib.hid hrd
  have HL3 := Lib.hid (HLv.out.grown hg (fun _ => sep_ne hbg.out))
  have HB3 := Lib.hid (below_g HBv.out hg)
  have HVx := Lib.hid (HVv.out.grown hg hVb.out)
  obtain ⟨g3, hk3, p3, q3, -⟩ := hst
  rw [hn.out] at hk3
  clear hrd hg
  go_wp2_with fail
  refine (byt_u b o n c k3 w.heap.size v3 l b3 w3 HL3.out hn hnc hc2 (by omega) p3 HR3.out hbg).mono ?_
  rintro e wb ⟨AD, m, cD, kb, bb, rfl, hst, hdat, hrd, hg⟩
  have HNb := Lib.hid hst
  have HRb := Lib.hid hrd
  have HBb := Lib.hid (below_g HB3.out hg)
  have HDt := Lib.hid hdat
  have HVb := Lib.hid (HVx.out.grown hg hVb.out)
  obtain ⟨wd, hwd⟩ : ∃ wd, Hid (wb.alloc (.cells #[.slice AD m cD] 22 (0, 0)) = wd) := ⟨_, Lib.hid rfl⟩
  have HBd : Hid (Below w.heap.size w wd) := by show Below _ _ _; rw [← hwd.out]; exact HBb.out.alloc HBb.out.size _
  have HRd : Hid (Rdr wd w.heap.size (some ⟨b, o, none⟩) n c kb bb) := by show Rdr _ _ _ _ _ _ _; rw [← hwd.out]; exact (heap_alloc_old _ _ HRb.out.lt).trans HRb.out
  have HED : Hid (RdE EB wd (some ⟨wb.heap.size, 0, none⟩) [(AD, m, cD)]) := by show RdE _ _ _ _; rw [← hwd.out]; exact RdE.new (E := EB) wb [(AD, m, cD)] 22
  have HBA : Hid (Below wb.heap.size wb wd) := by show Below _ _ _; rw [← hwd.out]; exact (Below.refl _ _).alloc (Nat.le_refl _) _
  have x1 : (wb.alloc (.cells #[.slice AD m cD] 22 (0, 0))).cell? ⟨w.heap.size, 1, none⟩ = some (.int .i64 (kb : Nat)) := by rw [hwd.out]; exact HRd.out.cell1
  have x2 : (wb.alloc (.cells #[.slice AD m cD] 22 (0, 0))).cell? ⟨w.heap.size, 2, none⟩ = some (.bool bb) := by rw [hwd.out]; exact HRd.out.cell2
  clear hst hdat hrd hg
  have HVd : Hid (RdE EI wd (some ⟨w2.heap.size, 0, none⟩) [v1, v2]) := HVb.out.below HBA.out
  cases bb
  · have HT := Lib.hid (byt_rt HNb.out (HDt.out rfl))
    have e3 := nb_f HN3.out HNb.out
    obtain ⟨rfl, e3'⟩ := e3
    have e2 := num_f HN2.out
    obtain ⟨rfl, e2'⟩ := e2
    have e1 := num_f HN1.out
    obtain ⟨-, e1'⟩ := e1
    have HG : Hid (frG 28 l = some ([v1, v2], [(l.drop k3).take v3.toNat], kb)) := frG_of (by simp [frT, Pct, e1', e2', e3']) (by simp [opB])
    clear e1' e2' e3'
    go_wp2_with fail
    rw [hwd.out]
    have z1 := HRd.out.cell1
    clear x1 x2
    go_quiet (fail)
    go_wp2_with fail
    refine bodyPost_ret (v := .tuple #[.slice (some ⟨w2.heap.size, 0, none⟩) 2 2, .slice (some ⟨wb.heap.size, 0, none⟩) 1 1, .int .i64 (kb : Nat), .int .i64 0]) (by simp [results, Try.results6, go_sem]) rfl ?_
    exact ⟨below_drewN HBd.out _, .inr (.inr ⟨[v1, v2], [(l.drop k3).take v3.toNat], kb, _, 2, _, _, 1, _, HG.out, rfl, rfl, by omega, HVd.out.drewN _, rfl, by omega, [(AD, m, cD)], HED.out.drewN _, rfl, Rts.one ((HT.out.below HBA.out).drewN _)⟩)⟩
  · have HT : Hid (frT 28 l = none) := by
      show _ = _
      rw [show frT 28 l = Pct l by simp [frT]]
      exact Pct_bad HN1.out HN2.out HN3.out HNb.out
    go_wp2_with fail
    rw [hwd.out]
    refine bodyPost_ret (v := .tuple #[.slice none 0 0, .slice none 0 0, .int .i64 0, .int .i64 1]) (by simp [results, Try.results6, go_sem]) rfl ?_
    exact ⟨HBd.out, .inr (.inl ⟨HT.out, rfl⟩)⟩

set_option maxRecDepth 100000 in
set_option maxHeartbeats 4000000 in
theorem sf29 (b o n c : Nat) (l : List Int) (w : World) (hr : Rd w (some ⟨b, o, none⟩) l) (hn : Hid (l.length = n)) (hnc : n ≤ c) (hc2 : c ≤ 9223372036854775807) (h1 : 1 ≤ n) (hn2 : n ≤ 4294967295) (h0 : w.cell? ⟨b, o, none⟩ = some (.int .u8 29)) :
    Calls Try.prog 6 #[.slice (some ⟨b, o, none⟩) n c] w fun e w' => SfEnd w 29 l e w' := by
  have hbl := World.block_lt_of_cell? _ _ h0
  simp only at hbl
  have hbg : Hid (b ≠ w.heap.size) := by show b ≠ _; omega
  obtain ⟨W0, hW0⟩ : ∃ W0, Hid (w.alloc (.cells #[.slice (some ⟨b, o, none⟩) n c, .int .i64 1, .bool false] 35 (0, 0)) = W0) := ⟨_, Lib.hid rfl⟩
  have HR0 : Hid (Rdr W0 w.heap.size (some ⟨b, o, none⟩) n c 1 false) := by show Rdr _ _ _ _ _ _ _; rw [← hW0.out]; exact Rdr.new w _ n c 1
  have HB0 : Hid (Below w.heap.size w W0) := by show Below _ _ _; rw [← hW0.out]; exact (Below.refl _ _).alloc (Nat.le_refl _) _
  have HL0 : Hid (Rd W0 (some ⟨b, o, none⟩) l) := hr.below HB0.out
  have hc0 : (w.alloc (.cells #[.slice (some ⟨b, o, none⟩) n c, .int .i64 1, .bool false] 35 (0, 0))).cell? ⟨b, o, none⟩ = some (.int .u8 29) := by rw [hW0.out]; exact (HB0.out.cell (p := ⟨b, o, none⟩) hbl).trans h0
  have hn0 : ((n : Int) == 0) = false := by simp; omega
  have hn1 : (0 : Int) < (n : Int) := by omega
  clear hr h0 hbl
  go_enter Try.func6, Try.ntmps6
  go_wp2_with fail
  rw [hW0.out]
  clear hc0
  refine (num_u b o n c 1 w.heap.size l false W0 HL0.out hn hnc hc2 (by omega) HR0.out).mono ?_
  rintro e w1 ⟨v1, k1, b1, rfl, hst, hrd, hg⟩
  have HN1 := Lib.hid hst
  have HR1 := Lib.hid hrd
  have HL1 := Lib.hid (HL0.out.grown hg (fun _ => sep_ne hbg.out))
  have HB1 := Lib.hid (below_g HB0.out hg)
  obtain ⟨g1, hk1, p1, q1, -⟩ := hst
  rw [hn.out] at hk1
  clear hrd hg
  obtain ⟨wv, hwv⟩ : ∃ wv, Hid (w1.alloc (.cells #[.int .i64 v1] 2 (0, 0)) = wv) := ⟨_, Lib.hid rfl⟩
  have HBv : Hid (Below w.heap.size w wv) := by show Below _ _ _; rw [← hwv.out]; exact HB1.out.alloc HB1.out.size _
  have HRv : Hid (Rdr wv w.heap.size (some ⟨b, o, none⟩) n c k1 b1) := by show Rdr _ _ _ _ _ _ _; rw [← hwv.out]; exact (heap_alloc_old _ _ HR1.out.lt).trans HR1.out
  have HLv : Hid (Rd wv (some ⟨b, o, none⟩) l) := by show Rd _ _ _; rw [← hwv.out]; exact HL1.out.alloc _
  have HVv : Hid (RdE EI wv (some ⟨w1.heap.size, 0, none⟩) [v1]) := by show RdE _ _ _ _; rw [← hwv.out]; exact RdE.new (E := EI) w1 [v1] 2
  have hVb : Hid (∀ a, (some ⟨w1.heap.size, 0, none⟩ : Option Addr) = some a → a.block ≠ w.heap.size) := fun a ha => by
    obtain rfl : (⟨w1.heap.size, 0, none⟩ : Addr) = a := (by simpa using ha)
    have := HR1.out.lt
    show _ ≠ _
    simp only
    omega
  go_wp2_with fail
  rw [hwv.out]
  refine (num_u b o n c k1 w.heap.size l b1 wv HLv.out hn hnc hc2 (by omega) HRv.out).mono ?_
  rintro e w2 ⟨v2, k2, b2, rfl, hst, hrd, hg⟩
  have HN2 := Lib.hid hst
  have HR2 := Lib.hid hrd
  have HL2 := Lib.hid (HLv.out.grown hg (fun _ => sep_ne hbg.out))
  have HB2 := Lib.hid (below_g HBv.out hg)
  have HVx := Lib.hid (HVv.out.grown hg hVb.out)
  obtain ⟨g2, hk2, p2, q2, -⟩ := hst
  rw [hn.out] at hk2
  clear hrd hg
  go_wp2_with fail
  refine (byt_u b o n c k2 w.heap.size v2 l b2 w2 HL2.out hn hnc hc2 (by omega) p2 HR2.out hbg).mono ?_
  rintro e wb ⟨AD, m, cD, kb, bb, rfl, hst, hdat, hrd, hg⟩
  have HNb := Lib.hid hst
  have HRb := Lib.hid hrd
  have HBb := Lib.hid (below_g HB2.out hg)
  have HDt := Lib.hid hdat
  have HVb := Lib.hid (HVx.out.grown hg hVb.out)
  obtain ⟨wd, hwd⟩ : ∃ wd, Hid (wb.alloc (.cells #[.slice AD m cD] 22 (0, 0)) = wd) := ⟨_, Lib.hid rfl⟩
  have HBd : Hid (Below w.heap.size w wd) := by show Below _ _ _; rw [← hwd.out]; exact HBb.out.alloc HBb.out.size _
  have HRd : Hid (Rdr wd w.heap.size (some ⟨b, o, none⟩) n c kb bb) := by show Rdr _ _ _ _ _ _ _; rw [← hwd.out]; exact (heap_alloc_old _ _ HRb.out.lt).trans HRb.out
  have HED : Hid (RdE EB wd (some ⟨wb.heap.size, 0, none⟩) [(AD, m, cD)]) := by show RdE _ _ _ _; rw [← hwd.out]; exact RdE.new (E := EB) wb [(AD, m, cD)] 22
  have HBA : Hid (Below wb.heap.size wb wd) := by show Below _ _ _; rw [← hwd.out]; exact (Below.refl _ _).alloc (Nat.le_refl _) _
  have x1 : (wb.alloc (.cells #[.slice AD m cD] 22 (0, 0))).cell? ⟨w.heap.size, 1, none⟩ = some (.int .i64 (kb : Nat)) := by rw [hwd.out]; exact HRd.out.cell1
  have x2 : (wb.alloc (.cells #[.slice AD m cD] 22 (0, 0))).cell? ⟨w.heap.size, 2, none⟩ = some (.bool bb) := by rw [hwd.out]; exact HRd.out.cell2
  clear hst hdat hrd hg
  have HVd : Hid (RdE EI wd (some ⟨w1.heap.size, 0, none⟩) [v1]) := HVb.out.below HBA.out
  cases bb
  · have HT := Lib.hid (byt_rt HNb.out (HDt.out rfl))
    have e2 := nb_f HN2.out HNb.out
    obtain ⟨rfl, e2'⟩ := e2
    have e1 := num_f HN1.out
    obtain ⟨-, e1'⟩ := e1
    have HG : Hid (frG 29 l = some ([v1], [(l.drop k2).take v2.toNat], kb)) := frG_of (by simp [frT, Pcr, e1', e2']) (by simp [opB])
    clear e1' e2'
    go_wp2_with fail
    rw [hwd.out]
    have z1 := HRd.out.cell1
    clear x1 x2
    go_quiet (fail)
    go_wp2_with fail
    refine bodyPost_ret (v := .tuple #[.slice (some ⟨w1.heap.size, 0, none⟩) 1 1, .slice (some ⟨wb.heap.size, 0, none⟩) 1 1, .int .i64 (kb : Nat), .int .i64 0]) (by simp [results, Try.results6, go_sem]) rfl ?_
    exact ⟨below_drewN HBd.out _, .inr (.inr ⟨[v1], [(l.drop k2).take v2.toNat], kb, _, 1, _, _, 1, _, HG.out, rfl, rfl, by omega, HVd.out.drewN _, rfl, by omega, [(AD, m, cD)], HED.out.drewN _, rfl, Rts.one ((HT.out.below HBA.out).drewN _)⟩)⟩
  · have HT : Hid (frT 29 l = none) := by
      show _ = _
      rw [show frT 29 l = Pcr l by simp [frT]]
      exact Pcr_bad HN1.out HN2.out HNb.out
    go_wp2_with fail
    rw [hwd.out]
    refine bodyPost_ret (v := .tuple #[.slice none 0 0, .slice none 0 0, .int .i64 0, .int .i64 1]) (by simp [results, Try.results6, go_sem]) rfl ?_
    exact ⟨HBd.out, .inr (.inl ⟨HT.out, rfl⟩)⟩

set_option maxRecDepth 100000 in
set_option maxHeartbeats 4000000 in
theorem sf6 (b o n c : Nat) (l : List Int) (w : World) (hr : Rd w (some ⟨b, o, none⟩) l) (hn : Hid (l.length = n)) (hnc : n ≤ c) (hc2 : c ≤ 9223372036854775807) (h1 : 1 ≤ n) (hn2 : n ≤ 4294967295) (h0 : w.cell? ⟨b, o, none⟩ = some (.int .u8 6)) :
    Calls Try.prog 6 #[.slice (some ⟨b, o, none⟩) n c] w fun e w' => SfEnd w 6 l e w' := by
  have hbl := World.block_lt_of_cell? _ _ h0
  simp only at hbl
  have hbg : Hid (b ≠ w.heap.size) := by show b ≠ _; omega
  obtain ⟨W0, hW0⟩ : ∃ W0, Hid (w.alloc (.cells #[.slice (some ⟨b, o, none⟩) n c, .int .i64 1, .bool false] 35 (0, 0)) = W0) := ⟨_, Lib.hid rfl⟩
  have HR0 : Hid (Rdr W0 w.heap.size (some ⟨b, o, none⟩) n c 1 false) := by show Rdr _ _ _ _ _ _ _; rw [← hW0.out]; exact Rdr.new w _ n c 1
  have HB0 : Hid (Below w.heap.size w W0) := by show Below _ _ _; rw [← hW0.out]; exact (Below.refl _ _).alloc (Nat.le_refl _) _
  have HL0 : Hid (Rd W0 (some ⟨b, o, none⟩) l) := hr.below HB0.out
  have hc0 : (w.alloc (.cells #[.slice (some ⟨b, o, none⟩) n c, .int .i64 1, .bool false] 35 (0, 0))).cell? ⟨b, o, none⟩ = some (.int .u8 6) := by rw [hW0.out]; exact (HB0.out.cell (p := ⟨b, o, none⟩) hbl).trans h0
  have hn0 : ((n : Int) == 0) = false := by simp; omega
  have hn1 : (0 : Int) < (n : Int) := by omega
  clear hr h0 hbl
  go_enter Try.func6, Try.ntmps6
  go_wp2_with fail
  rw [hW0.out]
  clear hc0
  refine (num_u b o n c 1 w.heap.size l false W0 HL0.out hn hnc hc2 (by omega) HR0.out).mono ?_
  rintro e w1 ⟨v1, k1, b1, rfl, hst, hrd, hg⟩
  have HN1 := Lib.hid hst
  have HR1 := Lib.hid hrd
  have HL1 := Lib.hid (HL0.out.grown hg (fun _ => sep_ne hbg.out))
  have HB1 := Lib.hid (below_g HB0.out hg)
  obtain ⟨g1, hk1, p1, q1, -⟩ := hst
  rw [hn.out] at hk1
  clear hrd hg
  obtain ⟨wv, hwv⟩ : ∃ wv, Hid (w1.alloc (.cells #[.int .i64 v1] 2 (0, 0)) = wv) := ⟨_, Lib.hid rfl⟩
  have HBv : Hid (Below w.heap.size w wv) := by show Below _ _ _; rw [← hwv.out]; exact HB1.out.alloc HB1.out.size _
  have HRv : Hid (Rdr wv w.heap.size (some ⟨b, o, none⟩) n c k1 b1) := by show Rdr _ _ _ _ _ _ _; rw [← hwv.out]; exact (heap_alloc_old _ _ HR1.out.lt).trans HR1.out
  have HLv : Hid (Rd wv (some ⟨b, o, none⟩) l) := by show Rd _ _ _; rw [← hwv.out]; exact HL1.out.alloc _
  have HVv : Hid (RdE EI wv (some ⟨w1.heap.size, 0, none⟩) [v1]) := by show RdE _ _ _ _; rw [← hwv.out]; exact RdE.new (E := EI) w1 [v1] 2
  have hVb : Hid (∀ a, (some ⟨w1.heap.size, 0, none⟩ : Option Addr) = some a → a.block ≠ w.heap.size) := fun a ha => by
    obtain rfl : (⟨w1.heap.size, 0, none⟩ : Addr) = a := (by simpa using ha)
    have := HR1.out.lt
    show _ ≠ _
    simp only
    omega
  go_wp2_with fail
  rw [hwv.out]
  refine (num_u b o n c k1 w.heap.size l b1 wv HLv.out hn hnc hc2 (by omega) HRv.out).mono ?_
  rintro e w2 ⟨v2, k2, b2, rfl, hst, hrd, hg⟩
  have HN2 := Lib.hid hst
  have HR2 := Lib.hid hrd
  have HL2 := Lib.hid (HLv.out.grown hg (fun _ => sep_ne hbg.out))
  have HB2 := Lib.hid (below_g HBv.out hg)
  have HVx := Lib.hid (HVv.out.grown hg hVb.out)
  obtain ⟨g2, hk2, p2, q2, -⟩ := hst
  rw [hn.out] at hk2
  clear hrd hg
  go_wp2_with fail
  refine (byt_u b o n c k2 w.heap.size v2 l b2 w2 HL2.out hn hnc hc2 (by omega) p2 HR2.out hbg).mono ?_
  rintro e wb ⟨AD, m, cD, kb, bb, rfl, hst, hdat, hrd, hg⟩
  have HNb := Lib.hid hst
  have HRb := Lib.hid hrd
  have HBb := Lib.hid (below_g HB2.out hg)
  have HDt := Lib.hid hdat
  have HVb := Lib.hid (HVx.out.grown hg hVb.out)
  obtain ⟨wd, hwd⟩ : ∃ wd, Hid (wb.alloc (.cells #[.slice AD m cD] 22 (0, 0)) = wd) := ⟨_, Lib.hid rfl⟩
  have HBd : Hid (Below w.heap.size w wd) := by show Below _ _ _; rw [← hwd.out]; exact HBb.out.alloc HBb.out.size _
  have HRd : Hid (Rdr wd w.heap.size (some ⟨b, o, none⟩) n c kb bb) := by show Rdr _ _ _ _ _ _ _; rw [← hwd.out]; exact (heap_alloc_old _ _ HRb.out.lt).trans HRb.out
  have HED : Hid (RdE EB wd (some ⟨wb.heap.size, 0, none⟩) [(AD, m, cD)]) := by show RdE _ _ _ _; rw [← hwd.out]; exact RdE.new (E := EB) wb [(AD, m, cD)] 22
  have HBA : Hid (Below wb.heap.size wb wd) := by show Below _ _ _; rw [← hwd.out]; exact (Below.refl _ _).alloc (Nat.le_refl _) _
  have x1 : (wb.alloc (.cells #[.slice AD m cD] 22 (0, 0))).cell? ⟨w.heap.size, 1, none⟩ = some (.int .i64 (kb : Nat)) := by rw [hwd.out]; exact HRd.out.cell1
  have x2 : (wb.alloc (.cells #[.slice AD m cD] 22 (0, 0))).cell? ⟨w.heap.size, 2, none⟩ = some (.bool bb) := by rw [hwd.out]; exact HRd.out.cell2
  clear hst hdat hrd hg
  have HVd : Hid (RdE EI wd (some ⟨w1.heap.size, 0, none⟩) [v1]) := HVb.out.below HBA.out
  have y0 : (wb.alloc (.cells #[.slice AD m cD] 22 (0, 0))).cell? ⟨w1.heap.size, 0, none⟩ = some (.int .i64 v1) := by rw [hwd.out]; exact HVd.out.celI 0 v1 rfl
  by_cases hbig : 4611686018427387903 - v2 < v1
  · have HG : Hid (frG 6 l = none) := by
      cases bb
      · have hL := byt_len HNb.out p2
        obtain ⟨rfl, e2'⟩ := nb_f HN2.out HNb.out
        obtain ⟨-, e1'⟩ := num_f HN1.out
        exact frG_open (r := ([v1], [(l.drop k2).take v2.toNat], kb)) (by simp [frT, Pcr, e1', e2']) (.inl ⟨rfl, by simp only [List.getD_cons_zero]; rw [hL]; omega⟩)
      · exact frG_none (by rw [show frT 6 l = Pcr l by simp [frT]]; exact Pcr_bad HN1.out HN2.out HNb.out)
    go_wp2_with fail
    refine bodyPost_ret (v := .tuple #[.slice none 0 0, .slice none 0 0, .int .i64 0, .int .i64 2]) (by simp [results, Try.results6, go_sem]) rfl ?_
    rw [hwd.out]
    exact ⟨HBd.out, .inl ⟨HG.out, rfl⟩⟩
  cases bb
  · have HT := Lib.hid (byt_rt HNb.out (HDt.out rfl))
    have hL := byt_len HNb.out p2
    have e2 := nb_f HN2.out HNb.out
    obtain ⟨rfl, e2'⟩ := e2
    have e1 := num_f HN1.out
    obtain ⟨-, e1'⟩ := e1
    have HG : Hid (frG 6 l = some ([v1], [(l.drop k2).take v2.toNat], kb)) := frG_of (by simp [frT, Pcr, e1', e2']) (not_op6 (by rw [hL]; omega))
    clear e1' e2' hL
    go_wp2_with fail
    rw [hwd.out]
    have z1 := HRd.out.cell1
    clear x1 x2 y0
    go_quiet (fail)
    go_wp2_with fail
    refine bodyPost_ret (v := .tuple #[.slice (some ⟨w1.heap.size, 0, none⟩) 1 1, .slice (some ⟨wb.heap.size, 0, none⟩) 1 1, .int .i64 (kb : Nat), .int .i64 0]) (by simp [results, Try.results6, go_sem]) rfl ?_
    exact ⟨below_drewN HBd.out _, .inr (.inr ⟨[v1], [(l.drop k2).take v2.toNat], kb, _, 1, _, _, 1, _, HG.out, rfl, rfl, by omega, HVd.out.drewN _, rfl, by omega, [(AD, m, cD)], HED.out.drewN _, rfl, Rts.one ((HT.out.below HBA.out).drewN _)⟩)⟩
  · have HT : Hid (frT 6 l = none) := by
      show _ = _
      rw [show frT 6 l = Pcr l by simp [frT]]
      exact Pcr_bad HN1.out HN2.out HNb.out
    go_wp2_with fail
    rw [hwd.out]
    refine bodyPost_ret (v := .tuple #[.slice none 0 0, .slice none 0 0, .int .i64 0, .int .i64 1]) (by simp [results, Try.results6, go_sem]) rfl ?_
    exact ⟨HBd.out, .inr (.inl ⟨HT.out, rfl⟩)⟩

set_option maxRecDepth 100000 in
set_option maxHeartbeats 4000000 in
theorem sf7 (b o n c : Nat) (l : List Int) (w : World) (hr : Rd w (some ⟨b, o, none⟩) l) (hn : Hid (l.length = n)) (hnc : n ≤ c) (hc2 : c ≤ 9223372036854775807) (h1 : 1 ≤ n) (hn2 : n ≤ 4294967295) (h0 : w.cell? ⟨b, o, none⟩ = some (.int .u8 7)) :
    Calls Try.prog 6 #[.slice (some ⟨b, o, none⟩) n c] w fun e w' => SfEnd w 7 l e w' := by
  have hbl := World.block_lt_of_cell? _ _ h0
  simp only at hbl
  have hbg : Hid (b ≠ w.heap.size) := by show b ≠ _; omega
  obtain ⟨W0, hW0⟩ : ∃ W0, Hid (w.alloc (.cells #[.slice (some ⟨b, o, none⟩) n c, .int .i64 1, .bool false] 35 (0, 0)) = W0) := ⟨_, Lib.hid rfl⟩
  have HR0 : Hid (Rdr W0 w.heap.size (some ⟨b, o, none⟩) n c 1 false) := by show Rdr _ _ _ _ _ _ _; rw [← hW0.out]; exact Rdr.new w _ n c 1
  have HB0 : Hid (Below w.heap.size w W0) := by show Below _ _ _; rw [← hW0.out]; exact (Below.refl _ _).alloc (Nat.le_refl _) _
  have HL0 : Hid (Rd W0 (some ⟨b, o, none⟩) l) := hr.below HB0.out
  have hc0 : (w.alloc (.cells #[.slice (some ⟨b, o, none⟩) n c, .int .i64 1, .bool false] 35 (0, 0))).cell? ⟨b, o, none⟩ = some (.int .u8 7) := by rw [hW0.out]; exact (HB0.out.cell (p := ⟨b, o, none⟩) hbl).trans h0
  have hn0 : ((n : Int) == 0) = false := by simp; omega
  have hn1 : (0 : Int) < (n : Int) := by omega
  clear hr h0 hbl
  go_enter Try.func6, Try.ntmps6
  go_wp2_with fail
  rw [hW0.out]
  clear hc0
  refine (num_u b o n c 1 w.heap.size l false W0 HL0.out hn hnc hc2 (by omega) HR0.out).mono ?_
  rintro e w1 ⟨v1, k1, b1, rfl, hst, hrd, hg⟩
  have HN1 := Lib.hid hst
  have HR1 := Lib.hid hrd
  have HL1 := Lib.hid (HL0.out.grown hg (fun _ => sep_ne hbg.out))
  have HB1 := Lib.hid (below_g HB0.out hg)
  obtain ⟨g1, hk1, p1, q1, -⟩ := hst
  rw [hn.out] at hk1
  clear hrd hg
  go_wp2_with fail
  refine (byt_u b o n c k1 w.heap.size v1 l b1 w1 HL1.out hn hnc hc2 (by omega) p1 HR1.out hbg).mono ?_
  rintro e wb ⟨AD, m, cD, kb, bb, rfl, hst, hdat, hrd, hg⟩
  have HNb := Lib.hid hst
  have HRb := Lib.hid hrd
  have HBb := Lib.hid (below_g HB1.out hg)
  have HDt := Lib.hid hdat
  obtain ⟨wd, hwd⟩ : ∃ wd, Hid (wb.alloc (.cells #[.slice AD m cD] 22 (0, 0)) = wd) := ⟨_, Lib.hid rfl⟩
  have HBd : Hid (Below w.heap.size w wd) := by show Below _ _ _; rw [← hwd.out]; exact HBb.out.alloc HBb.out.size _
  have HRd : Hid (Rdr wd w.heap.size (some ⟨b, o, none⟩) n c kb bb) := by show Rdr _ _ _ _ _ _ _; rw [← hwd.out]; exact (heap_alloc_old _ _ HRb.out.lt).trans HRb.out
  have HED : Hid (RdE EB wd (some ⟨wb.heap.size, 0, none⟩) [(AD, m, cD)]) := by show RdE _ _ _ _; rw [← hwd.out]; exact RdE.new (E := EB) wb [(AD, m, cD)] 22
  have HBA : Hid (Below wb.heap.size wb wd) := by show Below _ _ _; rw [← hwd.out]; exact (Below.refl _ _).alloc (Nat.le_refl _) _
  have x1 : (wb.alloc (.cells #[.slice AD m cD] 22 (0, 0))).cell? ⟨w.heap.size, 1, none⟩ = some (.int .i64 (kb : Nat)) := by rw [hwd.out]; exact HRd.out.cell1
  have x2 : (wb.alloc (.cells #[.slice AD m cD] 22 (0, 0))).cell? ⟨w.heap.size, 2, none⟩ = some (.bool bb) := by rw [hwd.out]; exact HRd.out.cell2
  clear hst hdat hrd hg
  by_cases hs0 : v1 = 0 ∧ bb = false
  · obtain ⟨h10, rfl⟩ := hs0
    have HG : Hid (frG 7 l = none) := by
      have hL := byt_len HNb.out p1
      obtain ⟨-, e1'⟩ := nb_f HN1.out HNb.out
      exact frG_none (by rw [show frT 7 l = Ptk l by simp [frT]]; simp only [Ptk, e1']; rw [if_pos (by omega)])
    have h00 : (v1 == 0) = true := by simpa using h10
    clear h10
    go_wp2_with fail
    rw [hwd.out]
    refine bodyPost_ret (v := .tuple #[.slice none 0 0, .slice none 0 0, .int .i64 0, .int .i64 2]) (by simp [results, Try.results6, go_sem]) rfl ?_
    exact ⟨HBd.out, .inl ⟨HG.out, rfl⟩⟩
  cases bb
  · have HT := Lib.hid (byt_rt HNb.out (HDt.out rfl))
    have hL := byt_len HNb.out p1
    have e1 := nb_f HN1.out HNb.out
    obtain ⟨-, e1'⟩ := e1
    have hv0 : (v1 == 0) = false := by simp; intro e; exact hs0 ⟨e, rfl⟩
    have hvn : v1 ≠ 0 := fun e => hs0 ⟨e, rfl⟩
    have HG : Hid (frG 7 l = some ([], [(l.drop k1).take v1.toNat], kb)) := frG_of (by rw [show frT 7 l = Ptk l by simp [frT]]; simp only [Ptk, e1']; rw [if_neg (by omega)]) (by simp [opB])
    clear e1' hL hvn hs0
    go_wp2_with fail
    rw [hwd.out]
    have z1 := HRd.out.cell1
    clear x1 x2
    go_quiet (fail)
    go_wp2_with fail
    refine bodyPost_ret (v := .tuple #[.slice none 0 0, .slice (some ⟨wb.heap.size, 0, none⟩) 1 1, .int .i64 (kb : Nat), .int .i64 0]) (by simp [results, Try.results6, go_sem]) rfl ?_
    exact ⟨below_drewN HBd.out _, .inr (.inr ⟨[], [(l.drop k1).take v1.toNat], kb, _, 0, _, _, 1, _, HG.out, rfl, rfl, by omega, RdE.nil_ _ _ _, rfl, by omega, [(AD, m, cD)], HED.out.drewN _, rfl, Rts.one ((HT.out.below HBA.out).drewN _)⟩)⟩
  · have HT : Hid (frT 7 l = none) := by
      show _ = _
      rw [show frT 7 l = Ptk l by simp [frT]]
      exact Ptk_bad HN1.out HNb.out
    clear hs0
    go_wp2_with fail
    all_goals
      rw [hwd.out]
      refine bodyPost_ret (v := .tuple #[.slice none 0 0, .slice none 0 0, .int .i64 0, .int .i64 1]) (by simp [results, Try.results6, go_sem]) rfl ?_
      exact ⟨HBd.out, .inr (.inl ⟨HT.out, rfl⟩)⟩

end Go.Proofs.Ytggcnepdeaijoaa

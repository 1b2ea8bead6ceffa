/- The walk of spec.Frame, a new connection's ID and a path's challenge. Conditions: the slice reads as bytes; its first byte is told. -/
import Derived.Test.YtggcnepdeaijoaaSfD
namespace Go.Proofs.Ytggcnepdeaijoaa
open Go.RowKit
set_option linter.unusedVariables false
set_option linter.unusedSimpArgs false

theorem vbs_1 {l : List Int} {k : Nat} {x : Int} (hk : k < l.length) (hx : l.getD k 0 = x) (h0 : 0 ≤ x) (h64 : x < 64) : vbs l k = if ((l.length - (k + 1) : Nat) : Int) < x then none else some ((l.drop (k + 1)).take x.toNat, k + 1 + x.toNat) := by
  have hd : l.drop k = x :: l.drop (k + 1) := by
    rw [List.drop_eq_getElem_cons hk, ← hx]
    simp [List.getD, List.getElem?_eq_getElem hk]
  have hv : rv (l.drop k) = some (x, 1) := by rw [hd]; exact rv_1 h64 h0
  by_cases hs : ((l.length - (k + 1) : Nat) : Int) < x
  · rw [if_pos hs]
    exact vbs_none (rvb_short hv (by rw [List.length_drop]; omega))
  · rw [if_neg hs, vbs_some (rvb_some hv (by rw [List.length_drop]; omega)), List.drop_drop, ← Nat.add_assoc]
theorem vbs_end {l : List Int} {k : Nat} (hk : l.length ≤ k) : vbs l k = none := by
  refine vbs_none (rvb_none ?_)
  rw [List.drop_eq_nil_of_le hk]
  rfl
theorem Pid_ok {l : List Int} {v1 v2 x : Int} {k1 k2 k4 k5 : Nat} {b4 : Bool} (e1 : nm l 1 = some (v1, k1)) (e2 : nm l k1 = some (v2, k2)) (hk : k2 < l.length) (hx : l.getD k2 0 = x) (h0 : 0 ≤ x) (h64 : x < 64) (h4 : BytSt l (k2 + 1) false x k4 b4) (h5 : BytSt l k4 b4 16 k5 false) :
    Pid l = if x < 1 ∨ 20 < x ∨ v1 < v2 then none else some ([v1, v2], [(l.drop (k2 + 1)).take x.toNat, (l.drop k4).take 16], k5) := by
  obtain ⟨a1, a2, a3⟩ := h4
  obtain ⟨c1, c2, c3⟩ := h5
  rcases c3 with ⟨-, rfl, c4, c5⟩ | ⟨h, _⟩
  · rcases a3 with ⟨-, -, a4, a5⟩ | ⟨h, _⟩
    · have hb : ((l.drop (k2 + 1)).take x.toNat).length = x.toNat := by rw [List.length_take, List.length_drop]; omega
      simp only [Pid, e1, e2, vbs_1 hk hx h0 h64]
      rw [if_neg (show ¬ ((l.length - (k2 + 1) : Nat) : Int) < x by omega)]
      simp only [hb]
      by_cases h1 : v1 < v2
      · rw [if_pos h1, if_pos (.inr (.inr h1))]
      · rw [if_neg h1]
        by_cases h2 : x < 1 ∨ 20 < x
        · rw [if_pos (by omega), if_pos (by omega)]
        · rw [if_neg (by omega), if_neg (by omega), if_neg (by omega)]
          have q1 : k2 + 1 + x.toNat = k4 := by omega
          have q2 : k4 + 16 = k5 := by omega
          rw [q1, q2]
    · cases h
  · cases h
theorem Pid_no {l : List Int} {v1 v2 x : Int} {k1 k2 k4 k5 : Nat} {b4 : Bool} (e1 : nm l 1 = some (v1, k1)) (e2 : nm l k1 = some (v2, k2)) (hk : k2 < l.length) (hx : l.getD k2 0 = x) (h0 : 0 ≤ x) (h64 : x < 64) (h4 : BytSt l (k2 + 1) false x k4 b4) (h5 : BytSt l k4 b4 16 k5 true) : Pid l = none := by
  obtain ⟨a1, a2, a3⟩ := h4
  obtain ⟨c1, c2, c3⟩ := h5
  simp only [Pid, e1, e2, vbs_1 hk hx h0 h64]
  by_cases h1 : v1 < v2
  · rw [if_pos h1]
  · rw [if_neg h1]
    by_cases h2 : ((l.length - (k2 + 1) : Nat) : Int) < x
    · rw [if_pos h2]
    · rw [if_neg h2]
      simp only
      split
      · rfl
      · rw [if_pos]
        rcases a3 with ⟨rfl, -, a4, a5⟩ | ⟨rfl, h⟩
        · rcases c3 with ⟨h, _⟩ | ⟨-, h⟩
          · cases h
          · rcases h with h | h
            · cases h
            · omega
        · rcases h with h | h
          · cases h
          · omega
theorem Pid_bad {l : List Int} {v1 v2 : Int} {k1 k2 : Nat} {b1 b2 : Bool} (h1 : NumSt l 1 false v1 k1 b1) (h2 : NumSt l k1 b1 v2 k2 b2) (h : b2 = true ∨ l.length ≤ k2) : Pid l = none := by
  cases b1 with
  | true =>
    have e := num_t h1
    simp at e
    simp only [Pid, e]
  | false =>
    obtain ⟨-, e1⟩ := num_f h1
    cases b2 with
    | true =>
      have e := num_t h2
      simp at e
      simp only [Pid, e1, e]
    | false =>
      obtain ⟨-, e2⟩ := num_f h2
      have h := h.resolve_left (by simp)
      simp only [Pid, e1, e2, vbs_end h]
      split <;> rfl
theorem rd_take0 {w : World} {A : Option Addr} {l : List Int} {k : Nat} (h : Rd w A ((l.drop k).take 1)) (hk : k < l.length) : ∃ b o, A = some ⟨b, o, none⟩ ∧ w.cell? ⟨b, o, none⟩ = some (.int .u8 (l.getD k 0)) := by
  have hl : 0 < ((l.drop k).take 1).length := by rw [List.length_take, List.length_drop]; omega
  obtain ⟨b, o, e, hc⟩ := h.2 hl
  refine ⟨b, o, e, ?_⟩
  have := hc 0 hl
  rw [Nat.add_zero] at this
  rw [this]
  simp [List.getD]

set_option maxRecDepth 100000 in
set_option maxHeartbeats 4000000 in
theorem sf26 (b o n c : Nat) (l : List Int) (w : World) (hr : Rd w (some ⟨b, o, none⟩) l) (hn : Hid (l.length = n)) (hnc : n ≤ c) (hc2 : c ≤ 9223372036854775807) (h1 : 1 ≤ n) (hn2 : n ≤ 4294967295) (h0 : w.cell? ⟨b, o, none⟩ = some (.int .u8 26)) :
    Calls Try.prog 6 #[.slice (some ⟨b, o, none⟩) n c] w fun e w' => SfEnd w 26 l e w' := by
  have hbl := World.block_lt_of_cell? _ _ h0
  simp only at hbl
  have hbg : Hid (b ≠ w.heap.size) := by show b ≠ _; omega
  obtain ⟨W0, hW0⟩ : ∃ W0, Hid (w.alloc (.cells #[.slice (some ⟨b, o, none⟩) n c, .int .i64 1, .bool false] 35 (0, 0)) = W0) := ⟨_, Lib.hid rfl⟩
  have HR0 : Hid (Rdr W0 w.heap.size (some ⟨b, o, none⟩) n c 1 false) := by show Rdr _ _ _ _ _ _ _; rw [← hW0.out]; exact Rdr.new w _ n c 1
  have HB0 : Hid (Below w.heap.size w W0) := by show Below _ _ _; rw [← hW0.out]; exact (Below.refl _ _).alloc (Nat.le_refl _) _
  have HL0 : Hid (Rd W0 (some ⟨b, o, none⟩) l) := hr.below HB0.out
  have hc0 : (w.alloc (.cells #[.slice (some ⟨b, o, none⟩) n c, .int .i64 1, .bool false] 35 (0, 0))).cell? ⟨b, o, none⟩ = some (.int .u8 26) := by rw [hW0.out]; exact (HB0.out.cell (p := ⟨b, o, none⟩) hbl).trans h0
  have hn0 : ((n : Int) == 0) = false := by simp; omega
  have hn1 : (0 : Int) < (n : Int) := by omega
  clear hr h0 hbl
  go_enter Try.func6, Try.ntmps6
  go_wp2_with fail
  rw [hW0.out]
  clear hc0
  refine (byt_u b o n c 1 w.heap.size 8 l false W0 HL0.out hn hnc hc2 (by omega) (by omega) HR0.out hbg).mono ?_
  rintro e wb ⟨AD, m, cD, kb, bb, rfl, hst, hdat, hrd, hg⟩
  have HNb := Lib.hid hst
  have HRb := Lib.hid hrd
  have HBb := Lib.hid (below_g HB0.out hg)
  have HDt := Lib.hid hdat
  obtain ⟨wd, hwd⟩ : ∃ wd, Hid (wb.alloc (.cells #[.slice AD m cD] 22 (0, 0)) = wd) := ⟨_, Lib.hid rfl⟩
  have HBd : Hid (Below w.heap.size w wd) := by show Below _ _ _; rw [← hwd.out]; exact HBb.out.alloc HBb.out.size _
  have HRd : Hid (Rdr wd w.heap.size (some ⟨b, o, none⟩) n c kb bb) := by show Rdr _ _ _ _ _ _ _; rw [← hwd.out]; exact (heap_alloc_old _ _ HRb.out.lt).trans HRb.out
  have HED : Hid (RdE EB wd (some ⟨wb.heap.size, 0, none⟩) [(AD, m, cD)]) := by show RdE _ _ _ _; rw [← hwd.out]; exact RdE.new (E := EB) wb [(AD, m, cD)] 22
  have HBA : Hid (Below wb.heap.size wb wd) := by show Below _ _ _; rw [← hwd.out]; exact (Below.refl _ _).alloc (Nat.le_refl _) _
  have x1 : (wb.alloc (.cells #[.slice AD m cD] 22 (0, 0))).cell? ⟨w.heap.size, 1, none⟩ = some (.int .i64 (kb : Nat)) := by rw [hwd.out]; exact HRd.out.cell1
  have x2 : (wb.alloc (.cells #[.slice AD m cD] 22 (0, 0))).cell? ⟨w.heap.size, 2, none⟩ = some (.bool bb) := by rw [hwd.out]; exact HRd.out.cell2
  clear hst hdat hrd hg
  cases bb
  · have HT := Lib.hid (byt_rt HNb.out (HDt.out rfl))
    have HG : Hid (frG 26 l = some ([], [(l.drop 1).take 8], kb)) := by
      refine frG_of ?_ (by simp [opB])
      rw [show frT 26 l = Ppc l by simp [frT]]
      obtain ⟨_, _, h3⟩ := HNb.out
      rcases h3 with ⟨_, _, h4, h5⟩ | ⟨h4, _⟩
      · rw [Ppc, if_neg (by omega), h5]
        rfl
      · cases h4
    go_wp2_with fail
    rw [hwd.out]
    have z1 := HRd.out.cell1
    clear x1 x2
    go_quiet (fail)
    go_wp2_with fail
    refine bodyPost_ret (v := .tuple #[.slice none 0 0, .slice (some ⟨wb.heap.size, 0, none⟩) 1 1, .int .i64 (kb : Nat), .int .i64 0]) (by simp [results, Try.results6, go_sem]) rfl ?_
    exact ⟨below_drewN HBd.out _, .inr (.inr ⟨[], [(l.drop 1).take 8], kb, _, 0, _, _, 1, _, HG.out, rfl, rfl, by omega, RdE.nil_ _ _ _, rfl, by omega, [(AD, m, cD)], HED.out.drewN _, rfl, Rts.one ((HT.out.below HBA.out).drewN _)⟩)⟩
  · have HT : Hid (frT 26 l = none) := by
      show _ = _
      rw [show frT 26 l = Ppc l by simp [frT]]
      obtain ⟨_, _, h3⟩ := HNb.out
      rcases h3 with ⟨h4, _⟩ | ⟨_, h4⟩
      · cases h4
      · rcases h4 with h4 | h4
        · cases h4
        · have := hn.out
          rw [Ppc, if_pos (by omega)]
    go_wp2_with fail
    rw [hwd.out]
    refine bodyPost_ret (v := .tuple #[.slice none 0 0, .slice none 0 0, .int .i64 0, .int .i64 1]) (by simp [results, Try.results6, go_sem]) rfl ?_
    exact ⟨HBd.out, .inr (.inl ⟨HT.out, rfl⟩)⟩

set_option maxRecDepth 100000 in
set_option maxHeartbeats 4000000 in
theorem sf27 (b o n c : Nat) (l : List Int) (w : World) (hr : Rd w (some ⟨b, o, none⟩) l) (hn : Hid (l.length = n)) (hnc : n ≤ c) (hc2 : c ≤ 9223372036854775807) (h1 : 1 ≤ n) (hn2 : n ≤ 4294967295) (h0 : w.cell? ⟨b, o, none⟩ = some (.int .u8 27)) :
    Calls Try.prog 6 #[.slice (some ⟨b, o, none⟩) n c] w fun e w' => SfEnd w 27 l e w' := by
  have hbl := World.block_lt_of_cell? _ _ h0
  simp only at hbl
  have hbg : Hid (b ≠ w.heap.size) := by show b ≠ _; omega
  obtain ⟨W0, hW0⟩ : ∃ W0, Hid (w.alloc (.cells #[.slice (some ⟨b, o, none⟩) n c, .int .i64 1, .bool false] 35 (0, 0)) = W0) := ⟨_, Lib.hid rfl⟩
  have HR0 : Hid (Rdr W0 w.heap.size (some ⟨b, o, none⟩) n c 1 false) := by show Rdr _ _ _ _ _ _ _; rw [← hW0.out]; exact Rdr.new w _ n c 1
  have HB0 : Hid (Below w.heap.size w W0) := by show Below _ _ _; rw [← hW0.out]; exact (Below.refl _ _).alloc (Nat.le_refl _) _
  have HL0 : Hid (Rd W0 (some ⟨b, o, none⟩) l) := hr.below HB0.out
  have hc0 : (w.alloc (.cells #[.slice (some ⟨b, o, none⟩) n c, .int .i64 1, .bool false] 35 (0, 0))).cell? ⟨b, o, none⟩ = some (.int .u8 27) := by rw [hW0.out]; exact (HB0.out.cell (p := ⟨b, o, none⟩) hbl).trans h0
  have hn0 : ((n : Int) == 0) = false := by simp; omega
  have hn1 : (0 : Int) < (n : Int) := by omega
  clear hr h0 hbl
  go_enter Try.func6, Try.ntmps6
  go_wp2_with fail
  rw [hW0.out]
  clear hc0
  refine (byt_u b o n c 1 w.heap.size 8 l false W0 HL0.out hn hnc hc2 (by omega) (by omega) HR0.out hbg).mono ?_
  rintro e wb ⟨AD, m, cD, kb, bb, rfl, hst, hdat, hrd, hg⟩
  have HNb := Lib.hid hst
  have HRb := Lib.hid hrd
  have HBb := Lib.hid (below_g HB0.out hg)
  have HDt := Lib.hid hdat
  obtain ⟨wd, hwd⟩ : ∃ wd, Hid (wb.alloc (.cells #[.slice AD m cD] 22 (0, 0)) = wd) := ⟨_, Lib.hid rfl⟩
  have HBd : Hid (Below w.heap.size w wd) := by show Below _ _ _; rw [← hwd.out]; exact HBb.out.alloc HBb.out.size _
  have HRd : Hid (Rdr wd w.heap.size (some ⟨b, o, none⟩) n c kb bb) := by show Rdr _ _ _ _ _ _ _; rw [← hwd.out]; exact (heap_alloc_old _ _ HRb.out.lt).trans HRb.out
  have HED : Hid (RdE EB wd (some ⟨wb.heap.size, 0, none⟩) [(AD, m, cD)]) := by show RdE _ _ _ _; rw [← hwd.out]; exact RdE.new (E := EB) wb [(AD, m, cD)] 22
  have HBA : Hid (Below wb.heap.size wb wd) := by show Below _ _ _; rw [← hwd.out]; exact (Below.refl _ _).alloc (Nat.le_refl _) _
  have x1 : (wb.alloc (.cells #[.slice AD m cD] 22 (0, 0))).cell? ⟨w.heap.size, 1, none⟩ = some (.int .i64 (kb : Nat)) := by rw [hwd.out]; exact HRd.out.cell1
  have x2 : (wb.alloc (.cells #[.slice AD m cD] 22 (0, 0))).cell? ⟨w.heap.size, 2, none⟩ = some (.bool bb) := by rw [hwd.out]; exact HRd.out.cell2
  clear hst hdat hrd hg
  cases bb
  · have HT := Lib.hid (byt_rt HNb.out (HDt.out rfl))
    have HG : Hid (frG 27 l = some ([], [(l.drop 1).take 8], kb)) := by
      refine frG_of ?_ (by simp [opB])
      rw [show frT 27 l = Ppc l by simp [frT]]
      obtain ⟨_, _, h3⟩ := HNb.out
      rcases h3 with ⟨_, _, h4, h5⟩ | ⟨h4, _⟩
      · rw [Ppc, if_neg (by omega), h5]
        rfl
      · cases h4
    go_wp2_with fail
    rw [hwd.out]
    have z1 := HRd.out.cell1
    clear x1 x2
    go_quiet (fail)
    go_wp2_with fail
    refine bodyPost_ret (v := .tuple #[.slice none 0 0, .slice (some ⟨wb.heap.size, 0, none⟩) 1 1, .int .i64 (kb : Nat), .int .i64 0]) (by simp [results, Try.results6, go_sem]) rfl ?_
    exact ⟨below_drewN HBd.out _, .inr (.inr ⟨[], [(l.drop 1).take 8], kb, _, 0, _, _, 1, _, HG.out, rfl, rfl, by omega, RdE.nil_ _ _ _, rfl, by omega, [(AD, m, cD)], HED.out.drewN _, rfl, Rts.one ((HT.out.below HBA.out).drewN _)⟩)⟩
  · have HT : Hid (frT 27 l = none) := by
      show _ = _
      rw [show frT 27 l = Ppc l by simp [frT]]
      obtain ⟨_, _, h3⟩ := HNb.out
      rcases h3 with ⟨h4, _⟩ | ⟨_, h4⟩
      · cases h4
      · rcases h4 with h4 | h4
        · cases h4
        · have := hn.out
          rw [Ppc, if_pos (by omega)]
    go_wp2_with fail
    rw [hwd.out]
    refine bodyPost_ret (v := .tuple #[.slice none 0 0, .slice none 0 0, .int .i64 0, .int .i64 1]) (by simp [results, Try.results6, go_sem]) rfl ?_
    exact ⟨HBd.out, .inr (.inl ⟨HT.out, rfl⟩)⟩

set_option maxRecDepth 100000 in
set_option maxHeartbeats 4000000 in
theorem sf24 (b o n c : Nat) (l : List Int) (w : World) (hr : Rd w (some ⟨b, o, none⟩) l) (hn : Hid (l.length = n)) (hnc : n ≤ c) (hc2 : c ≤ 9223372036854775807) (h1 : 1 ≤ n) (hn2 : n ≤ 4294967295) (h0 : w.cell? ⟨b, o, none⟩ = some (.int .u8 24)) :
    Calls Try.prog 6 #[.slice (some ⟨b, o, none⟩) n c] w fun e w' => SfEnd w 24 l e w' := by
  have hbl := World.block_lt_of_cell? _ _ h0
  simp only at hbl
  have hbg : Hid (b ≠ w.heap.size) := by show b ≠ _; omega
  obtain ⟨W0, hW0⟩ : ∃ W0, Hid (w.alloc (.cells #[.slice (some ⟨b, o, none⟩) n c, .int .i64 1, .bool false] 35 (0, 0)) = W0) := ⟨_, Lib.hid rfl⟩
  have HR0 : Hid (Rdr W0 w.heap.size (some ⟨b, o, none⟩) n c 1 false) := by show Rdr _ _ _ _ _ _ _; rw [← hW0.out]; exact Rdr.new w _ n c 1
  have HB0 : Hid (Below w.heap.size w W0) := by show Below _ _ _; rw [← hW0.out]; exact (Below.refl _ _).alloc (Nat.le_refl _) _
  have HL0 : Hid (Rd W0 (some ⟨b, o, none⟩) l) := hr.below HB0.out
  have hc0 : (w.alloc (.cells #[.slice (some ⟨b, o, none⟩) n c, .int .i64 1, .bool false] 35 (0, 0))).cell? ⟨b, o, none⟩ = some (.int .u8 24) := by rw [hW0.out]; exact (HB0.out.cell (p := ⟨b, o, none⟩) hbl).trans h0
  have hn0 : ((n : Int) == 0) = false := by simp; omega
  have hn1 : (0 : Int) < (n : Int) := by omega
  clear hr h0 hbl
  go_enter Try.func6, Try.ntmps6
  go_wp2_with fail
  rw [hW0.out]
  clear hc0
  refine (num_u b o n c 1 w.heap.size l false W0 HL0.out hn hnc hc2 (by omega) HR0.out).mono ?_
  rintro e w1 ⟨v1, k1, b1, rfl, hst, hrd, hg⟩
  have HN1 := Lib.hid hst
  have HR1 := Lib.hid hrd
  have HL1 := Lib.hid (HL0.out.grown hg (fun _ => sep_ne hbg.out))
  have HB1 := Lib.hid (below_g HB0.out hg)
  obtain ⟨g1, hk1, p1, q1, -⟩ := hst
  rw [hn.out] at hk1
  clear hrd hg
  go_wp2_with fail
  refine (num_u b o n c k1 w.heap.size l b1 w1 HL1.out hn hnc hc2 (by omega) HR1.out).mono ?_
  rintro e w2 ⟨v2, k2, b2, rfl, hst, hrd, hg⟩
  have HN2 := Lib.hid hst
  have HR2 := Lib.hid hrd
  have HL2 := Lib.hid (HL1.out.grown hg (fun _ => sep_ne hbg.out))
  have HB2 := Lib.hid (below_g HB1.out hg)
  obtain ⟨g2, hk2, p2, q2, -⟩ := hst
  rw [hn.out] at hk2
  clear hrd hg
  obtain ⟨wv, hwv⟩ : ∃ wv, Hid (w2.alloc (.cells #[.int .i64 v1, .int .i64 v2] 2 (0, 0)) = wv) := ⟨_, Lib.hid rfl⟩
  have HBv : Hid (Below w.heap.size w wv) := by show Below _ _ _; rw [← hwv.out]; exact HB2.out.alloc HB2.out.size _
  have HRv : Hid (Rdr wv w.heap.size (some ⟨b, o, none⟩) n c k2 b2) := by show Rdr _ _ _ _ _ _ _; rw [← hwv.out]; exact (heap_alloc_old _ _ HR2.out.lt).trans HR2.out
  have HLv : Hid (Rd wv (some ⟨b, o, none⟩) l) := by show Rd _ _ _; rw [← hwv.out]; exact HL2.out.alloc _
  have HVv : Hid (RdE EI wv (some ⟨w2.heap.size, 0, none⟩) [v1, v2]) := by show RdE _ _ _ _; rw [← hwv.out]; exact RdE.new (E := EI) w2 [v1, v2] 2
  have hVb : Hid (∀ a, (some ⟨w2.heap.size, 0, none⟩ : Option Addr) = some a → a.block ≠ w.heap.size) := fun a ha => by
    obtain rfl : (⟨w2.heap.size, 0, none⟩ : Addr) = a := (by simpa using ha)
    have := HR2.out.lt
    show _ ≠ _
    simp only
    omega
  go_wp2_with fail
  rw [hwv.out]
  refine (byt_u b o n c k2 w.heap.size 1 l b2 wv HLv.out hn hnc hc2 (by omega) (by omega) HRv.out hbg).mono ?_
  rintro e wl ⟨AL, mL, cL, kl, bl, rfl, hst, hdat, hrd, hg⟩
  have HNl := Lib.hid hst
  have HRl := Lib.hid hrd
  have HBl := Lib.hid (below_g HBv.out hg)
  have HLl := Lib.hid (HLv.out.grown hg (fun _ => sep_ne hbg.out))
  have HVl := Lib.hid (HVv.out.grown hg hVb.out)
  have HDl := Lib.hid hdat
  have x2 := hrd.cell2
  obtain ⟨-, hkl, -⟩ := hst
  rw [hn.out] at hkl
  clear hdat hrd hg
  cases bl
  · have hbk : b2 = false ∧ kl = k2 + 1 ∧ k2 < n := by
      obtain ⟨_, _, h3⟩ := HNl.out
      rcases h3 with ⟨_, h4, h5, h6⟩ | ⟨h4, _⟩
      · refine ⟨h4, by rw [h6]; rfl, by have := hn.out; omega⟩
      · cases h4
    obtain ⟨rfl, rfl, hk2n⟩ := hbk
    have hkn : Hid (k2 < l.length) := by show _ < _; rw [hn.out]; exact hk2n
    obtain ⟨-, e2⟩ := num_f HN2.out
    have hb1 : b1 = false := (num_f HN2.out).1
    subst hb1
    obtain ⟨-, e1⟩ := num_f HN1.out
    obtain ⟨hmL, hRL, hcL, hcL2, -⟩ := HDl.out rfl
    obtain ⟨bL, oL, rfl, c0⟩ := rd_take0 hRL hkn.out
    obtain ⟨x, hx⟩ : ∃ x, Hid (l.getD k2 0 = x) := ⟨_, Lib.hid rfl⟩
    have hxb : 0 ≤ x ∧ x ≤ 255 := by
      have := HLl.out.1 (l.getD k2 0) (by simp only [List.getD, List.getElem?_eq_getElem hkn.out, Option.getD_some]; exact List.getElem_mem _)
      rw [hx.out] at this
      exact this
    obtain ⟨hx0, hx255⟩ := hxb
    rw [hx.out] at c0
    have hmL1 : mL = 1 := hmL
    subst hmL1
    clear hmL hRL
    by_cases h64' : 64 ≤ x
    · have HG : Hid (frG 24 l = none) := by
        cases hT : frT 24 l with
        | none => exact frG_none hT
        | some r => exact frG_open hT (.inr (.inr ⟨rfl, v1, k1, v2, k2, e1, e2, by rw [hx.out]; omega⟩))
      clear e1 e2
      go_wp2_with fail
      refine bodyPost_ret (v := .tuple #[.slice none 0 0, .slice none 0 0, .int .i64 0, .int .i64 2]) (by simp [results, Try.results6, go_sem]) rfl ?_
      exact ⟨HBl.out, .inl ⟨HG.out, rfl⟩⟩
    have h64 : x < 64 := by omega
    have E1 := Lib.hid e1
    have E2 := Lib.hid e2
    clear e1 e2
    go_wp2_with fail
    refine (byt_u b o n c (k2 + 1) w.heap.size x l false wl HLl.out hn hnc hc2 (by omega) (by omega) HRl.out hbg).mono ?_
    rintro e w4 ⟨A4, m4, c4, k4, b4, rfl, hst, hdat, hrd, hg⟩
    have HN4 := Lib.hid hst
    have HR4 := Lib.hid hrd
    have HB4 := Lib.hid (below_g HBl.out hg)
    have HL4 := Lib.hid (HLl.out.grown hg (fun _ => sep_ne hbg.out))
    have HV4 := Lib.hid (HVl.out.grown hg hVb.out)
    have HD4 := Lib.hid hdat
    obtain ⟨g4, hk4, -⟩ := hst
    rw [hn.out] at hk4
    clear x2 hdat hrd hg
    go_wp2_with fail
    refine (byt_u b o n c k4 w.heap.size 16 l b4 w4 HL4.out hn hnc hc2 (by omega) (by omega) HR4.out hbg).mono ?_
    rintro e w5 ⟨A5, m5, c5, k5, b5, rfl, hst, hdat, hrd, hg⟩
    have HN5 := Lib.hid hst
    have HR5 := Lib.hid hrd
    have HB5 := Lib.hid (below_g HB4.out hg)
    have HV5 := Lib.hid (HV4.out.grown hg hVb.out)
    have HD5 := Lib.hid hdat
    have HG5 := Lib.hid hg
    clear hst hdat hrd hg
    obtain ⟨wd, hwd⟩ : ∃ wd, Hid (w5.alloc (.cells #[.slice A4 m4 c4, .slice A5 m5 c5] 22 (0, 0)) = wd) := ⟨_, Lib.hid rfl⟩
    have HBd : Hid (Below w.heap.size w wd) := by show Below _ _ _; rw [← hwd.out]; exact HB5.out.alloc HB5.out.size _
    have HRd : Hid (Rdr wd w.heap.size (some ⟨b, o, none⟩) n c k5 b5) := by show Rdr _ _ _ _ _ _ _; rw [← hwd.out]; exact (heap_alloc_old _ _ HR5.out.lt).trans HR5.out
    have HED : Hid (RdE EB wd (some ⟨w5.heap.size, 0, none⟩) [(A4, m4, c4), (A5, m5, c5)]) := by show RdE _ _ _ _; rw [← hwd.out]; exact RdE.new (E := EB) w5 [(A4, m4, c4), (A5, m5, c5)] 22
    have HBA : Hid (Below w5.heap.size w5 wd) := by show Below _ _ _; rw [← hwd.out]; exact (Below.refl _ _).alloc (Nat.le_refl _) _
    have HVd : Hid (RdE EI wd (some ⟨w2.heap.size, 0, none⟩) [v1, v2]) := HV5.out.below HBA.out
    have x2 : (w5.alloc (.cells #[.slice A4 m4 c4, .slice A5 m5 c5] 22 (0, 0))).cell? ⟨w.heap.size, 2, none⟩ = some (.bool b5) := by rw [hwd.out]; exact HRd.out.cell2
    go_wp2_with fail
    rw [hwd.out]
    clear x2
    have z1 := HRd.out.cell1
    have z2 := HRd.out.cell2
    have y0 := HVd.out.celI 0 v1 rfl
    have y1 := HVd.out.celI 1 v2 rfl
    cases b5
    · by_cases hx1 : x < 1 ∨ 20 < x ∨ v1 < v2
      · have HT : Hid (frT 24 l = none) := by
          show _ = _
          rw [show frT 24 l = Pid l by simp [frT], Pid_ok E1.out E2.out hkn.out hx.out hx0 h64 HN4.out HN5.out, if_pos hx1]
        by_cases q1 : x < 1
        · have d1 : decide (x < 1) = true := by simpa using q1
          go_quiet (fail)
          go_wp2_with fail
          refine bodyPost_ret (v := .tuple #[.slice none 0 0, .slice none 0 0, .int .i64 0, .int .i64 1]) (by simp [results, Try.results6, go_sem]) rfl ?_
          exact ⟨below_drewN HBd.out _, .inr (.inl ⟨HT.out, rfl⟩)⟩
        · have d1 : decide (x < 1) = false := by simpa using q1
          by_cases q2 : 20 < x
          · have d2 : decide (20 < x) = true := by simpa using q2
            go_quiet (fail)
            go_wp2_with fail
            refine bodyPost_ret (v := .tuple #[.slice none 0 0, .slice none 0 0, .int .i64 0, .int .i64 1]) (by simp [results, Try.results6, go_sem]) rfl ?_
            exact ⟨below_drewN HBd.out _, .inr (.inl ⟨HT.out, rfl⟩)⟩
          · have d2 : decide (20 < x) = false := by simpa using q2
            have d3 : decide (v1 < v2) = true := by simp; omega
            go_quiet (fail)
            go_wp2_with fail
            refine bodyPost_ret (v := .tuple #[.slice none 0 0, .slice none 0 0, .int .i64 0, .int .i64 1]) (by simp [results, Try.results6, go_sem]) rfl ?_
            exact ⟨below_drewN HBd.out _, .inr (.inl ⟨HT.out, rfl⟩)⟩
      · have d1 : decide (x < 1) = false := by simp; omega
        have d2 : decide (20 < x) = false := by simp; omega
        have d3 : decide (v1 < v2) = false := by simp; omega
        have HG : Hid (frG 24 l = some ([v1, v2], [(l.drop (k2 + 1)).take x.toNat, (l.drop k4).take 16], k5)) := by
          refine frG_of ?_ ?_
          · rw [show frT 24 l = Pid l by simp [frT], Pid_ok E1.out E2.out hkn.out hx.out hx0 h64 HN4.out HN5.out, if_neg hx1]
          · intro ho
            rcases ho with ⟨h, -⟩ | ⟨h, -⟩ | ⟨-, a, ka, a', ka', i1, i2, i3⟩
            · simp at h
            · simp at h
            · rw [E1.out] at i1
              obtain ⟨rfl, rfl⟩ : v1 = a ∧ k1 = ka := by simpa using i1
              rw [E2.out] at i2
              obtain ⟨rfl, rfl⟩ : v2 = a' ∧ k2 = ka' := by simpa using i2
              rw [hx.out] at i3
              omega
        have hb4 : b4 = false := by
          obtain ⟨_, _, h3⟩ := HN5.out
          rcases h3 with ⟨_, h4, _⟩ | ⟨h4, _⟩
          · exact h4
          · cases h4
        subst hb4
        have HT5 := Lib.hid (byt_rt HN5.out (HD5.out rfl))
        have HT4 : Hid (Rt w5 (A4, m4, c4) ((l.drop (k2 + 1)).take x.toNat)) := by
          obtain ⟨q1, q2⟩ := byt_rt HN4.out (HD4.out rfl)
          exact ⟨q1.grown HG5.out (fun _ => sep_blk (HD4.out rfl).2.2.2.2 hbg.out), q2⟩
        clear hx1
        go_quiet (fail)
        go_wp2_with fail
        go_quiet (fail)
        go_wp2_with fail
        refine bodyPost_ret (v := .tuple #[.slice (some ⟨w2.heap.size, 0, none⟩) 2 2, .slice (some ⟨w5.heap.size, 0, none⟩) 2 2, .int .i64 (k5 : Nat), .int .i64 0]) (by simp [results, Try.results6, go_sem]) rfl ?_
        exact ⟨below_drewN (below_drewN HBd.out _) _, .inr (.inr ⟨[v1, v2], [(l.drop (k2 + 1)).take x.toNat, (l.drop k4).take 16], k5, _, 2, _, _, 2, _, HG.out, rfl, rfl, by omega, (HVd.out.drewN _).drewN _, rfl, by omega, [(A4, m4, c4), (A5, m5, c5)], (HED.out.drewN _).drewN _, rfl, Rts.two (((HT4.out.below HBA.out).drewN _).drewN _) (((HT5.out.below HBA.out).drewN _).drewN _)⟩)⟩
    · have HT : Hid (frT 24 l = none) := by
        show _ = _
        rw [show frT 24 l = Pid l by simp [frT]]
        exact Pid_no E1.out E2.out hkn.out hx.out hx0 h64 HN4.out HN5.out
      go_quiet (fail)
      go_wp2_with fail
      refine bodyPost_ret (v := .tuple #[.slice none 0 0, .slice none 0 0, .int .i64 0, .int .i64 1]) (by simp [results, Try.results6, go_sem]) rfl ?_
      exact ⟨below_drewN HBd.out _, .inr (.inl ⟨HT.out, rfl⟩)⟩
  · skip
    go_wp2_with fail
    refine (byt_u b o n c kl w.heap.size 0 l true wl HLl.out hn hnc hc2 (by omega) (by omega) HRl.out hbg).mono ?_
    rintro e w4 ⟨A4, m4, c4, k4, b4, rfl, hst, hdat, hrd, hg⟩
    have HN4 := Lib.hid hst
    have HR4 := Lib.hid hrd
    have HB4 := Lib.hid (below_g HBl.out hg)
    have HL4 := Lib.hid (HLl.out.grown hg (fun _ => sep_ne hbg.out))
    have HV4 := Lib.hid (HVl.out.grown hg hVb.out)
    have HD4 := Lib.hid hdat
    obtain ⟨g4, hk4, -⟩ := hst
    rw [hn.out] at hk4
    clear x2 hdat hrd hg
    go_wp2_with fail
    refine (byt_u b o n c k4 w.heap.size 16 l b4 w4 HL4.out hn hnc hc2 (by omega) (by omega) HR4.out hbg).mono ?_
    rintro e w5 ⟨A5, m5, c5, k5, b5, rfl, hst, hdat, hrd, hg⟩
    have HN5 := Lib.hid hst
    have HR5 := Lib.hid hrd
    have HB5 := Lib.hid (below_g HB4.out hg)
    have HV5 := Lib.hid (HV4.out.grown hg hVb.out)
    have HD5 := Lib.hid hdat
    have HG5 := Lib.hid hg
    clear hst hdat hrd hg
    obtain ⟨wd, hwd⟩ : ∃ wd, Hid (w5.alloc (.cells #[.slice A4 m4 c4, .slice A5 m5 c5] 22 (0, 0)) = wd) := ⟨_, Lib.hid rfl⟩
    have HBd : Hid (Below w.heap.size w wd) := by show Below _ _ _; rw [← hwd.out]; exact HB5.out.alloc HB5.out.size _
    have HRd : Hid (Rdr wd w.heap.size (some ⟨b, o, none⟩) n c k5 b5) := by show Rdr _ _ _ _ _ _ _; rw [← hwd.out]; exact (heap_alloc_old _ _ HR5.out.lt).trans HR5.out
    have HED : Hid (RdE EB wd (some ⟨w5.heap.size, 0, none⟩) [(A4, m4, c4), (A5, m5, c5)]) := by show RdE _ _ _ _; rw [← hwd.out]; exact RdE.new (E := EB) w5 [(A4, m4, c4), (A5, m5, c5)] 22
    have HBA : Hid (Below w5.heap.size w5 wd) := by show Below _ _ _; rw [← hwd.out]; exact (Below.refl _ _).alloc (Nat.le_refl _) _
    have HVd : Hid (RdE EI wd (some ⟨w2.heap.size, 0, none⟩) [v1, v2]) := HV5.out.below HBA.out
    have x2 : (w5.alloc (.cells #[.slice A4 m4 c4, .slice A5 m5 c5] 22 (0, 0))).cell? ⟨w.heap.size, 2, none⟩ = some (.bool b5) := by rw [hwd.out]; exact HRd.out.cell2
    go_wp2_with fail
    rw [hwd.out]
    clear x2
    have z1 := HRd.out.cell1
    have z2 := HRd.out.cell2
    have y0 := HVd.out.celI 0 v1 rfl
    have y1 := HVd.out.celI 1 v2 rfl
    have HT : Hid (frT 24 l = none) := by
      show _ = _
      rw [show frT 24 l = Pid l by simp [frT]]
      refine Pid_bad HN1.out HN2.out ?_
      obtain ⟨_, _, h3⟩ := HNl.out
      rcases h3 with ⟨h4, _⟩ | ⟨_, h4⟩
      · cases h4
      · exact h4.imp id fun h => by have := hn.out; omega
    obtain rfl : b5 = true := by
      obtain ⟨_, _, h3⟩ := HN4.out
      obtain rfl : b4 = true := by
        rcases h3 with ⟨_, h4, _⟩ | ⟨h4, _⟩
        · cases h4
        · exact h4
      obtain ⟨_, _, h3⟩ := HN5.out
      rcases h3 with ⟨_, h4, _⟩ | ⟨h4, _⟩
      · cases h4
      · exact h4
    go_quiet (fail)
    go_wp2_with fail
    refine bodyPost_ret (v := .tuple #[.slice none 0 0, .slice none 0 0, .int .i64 0, .int .i64 1]) (by simp [results, Try.results6, go_sem]) rfl ?_
    exact ⟨below_drewN HBd.out _, .inr (.inl ⟨HT.out, rfl⟩)⟩

end Go.Proofs.Ytggcnepdeaijoaa

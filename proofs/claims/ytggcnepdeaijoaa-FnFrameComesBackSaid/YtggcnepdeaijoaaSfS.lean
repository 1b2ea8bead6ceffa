/- The walk of spec.Frame, streams' frames. Conditions: the slice reads as bytes; its first byte is told. -/
import Derived.Test.YtggcnepdeaijoaaSfD
namespace Go.Proofs.Ytggcnepdeaijoaa
open Go.RowKit
set_option linter.unusedVariables false
set_option linter.unusedSimpArgs false

/-- Block q holds three numbers. -/
def Vb3 (w : World) (q : Nat) (x y z : Int) : Prop := w.heap[q]? = some (.cells #[.int .i64 x, .int .i64 y, .int .i64 z] 2 (0, 0))
section
variable {w w' : World} {q : Nat} {x y z : Int}
theorem Vb3.lt (h : Vb3 w q x y z) : q < w.heap.size := cell_in h
theorem Vb3.grown {g : Nat} (h : Vb3 w q x y z) (hg : w.grownBy w' (some g)) (hne : q ≠ g) : Vb3 w' q x y z := (hg.block q h.lt (by simpa using hne)).trans h
theorem Vb3.set (h : Vb3 w q x y z) (y' : Int) : Vb3 (w.setCell ⟨q, 1, none⟩ (.int .i64 y')) q x y' z := cell_at 1 _ h rfl
theorem Vb3.cel (h : Vb3 w q x y z) : w.cell? ⟨q, 1, none⟩ = some (.int .i64 y) ∧ w.frozen? ⟨q, 1, none⟩ = false := by
  refine ⟨?_, cell_free 1 h⟩
  rw [cell_of_row _ _ 1 _ _ (0, 0) h]; rfl
theorem Vb3.below (h : Vb3 w q x y z) (hb : Below w.heap.size w w') : Vb3 w' q x y z := (hb.block q h.lt).trans h
theorem Vb3.rd (h : Vb3 w q x y z) : RdE EI w (some ⟨q, 0, none⟩) [x, y, z] := fun _ => ⟨q, 0, rfl, fun i j v hi hj hv => by
  have hj : j = 0 := by have : EI.k = 1 := rfl; omega
  subst hj
  rw [show 0 + (i * EI.k + 0) = i from by rw [show EI.k = 1 from rfl]; omega, cell_of_row _ _ i _ _ (0, 0) h]
  match i with
  | 0 => simpa [EI] using hv
  | 1 => simpa [EI] using hv
  | 2 => simpa [EI] using hv
  | i + 3 => simp at hi; omega⟩
end
theorem Pst_of {t : Int} {l : List Int} {a b : Int} {bs : List Int} {k k' k'' : Nat} (h1 : nm l 1 = some (a, k)) (h2 : Pof t l k = some (b, k')) (h3 : Pda t l k' = some (bs, k'')) : Pst t l = if 4611686018427387904 ≤ b + bs.length then none else some ([a, b, t % 2], [bs], k'') := by
  simp only [Pst, h1, h2, h3]
theorem Pst_n1 {t : Int} {l : List Int} {v1 : Int} {k1 : Nat} (h1 : NumSt l 1 false v1 k1 true) : Pst t l = none := by
  have e := num_t h1
  simp at e
  simp only [Pst, e]
theorem Pst_n2 {t : Int} {l : List Int} (ht : t / 4 % 2 = 1) {v1 v2 : Int} {k1 k2 : Nat} {b1 : Bool} (h1 : NumSt l 1 false v1 k1 b1) (h2 : NumSt l k1 b1 v2 k2 true) : Pst t l = none := by
  cases b1 with
  | true => exact Pst_n1 h1
  | false =>
    obtain ⟨-, e1⟩ := num_f h1
    have e := num_t h2
    simp at e
    simp only [Pst, Pof, e1, e, if_pos ht]
theorem Pst_d {t : Int} {l : List Int} (ht : t / 2 % 2 = 1) {a b : Int} {k k' : Nat} (h1 : nm l 1 = some (a, k)) (h2 : Pof t l k = some (b, k')) {v3 : Int} {k3 kb : Nat} {b3 : Bool} (h3 : NumSt l k' false v3 k3 b3) (hb : BytSt l k3 b3 v3 kb true) : Pst t l = none := by
  have e := nb_t h3 hb
  simp at e
  simp only [Pst, Pda, h1, h2, e, if_pos ht]
theorem byt_all {l : List Int} {k n : Nat} {bad : Bool} {kb : Nat} {bb : Bool} (hn : l.length = n) (hk : k ≤ n) (h : BytSt l k bad ((n : Int) - (k : Int)) kb bb) : bb = bad ∧ (bb = false → kb = l.length) := by
  obtain ⟨h1, h2, h3⟩ := h
  rcases h3 with ⟨rfl, rfl, h6, h7⟩ | ⟨rfl, h6⟩
  · exact ⟨rfl, fun _ => by omega⟩
  · refine ⟨?_, fun h => by cases h⟩
    rcases h6 with h6 | h6
    · exact h6.symm
    · omega
theorem take_all {l : List Int} {k n : Nat} (hn : l.length = n) : (l.drop k).take ((n : Int) - (k : Int)).toNat = l.drop k := List.take_of_length_le (by rw [List.length_drop]; omega)

set_option maxRecDepth 100000 in
set_option maxHeartbeats 4000000 in
theorem sf8 (b o n c : Nat) (l : List Int) (w : World) (hr : Rd w (some ⟨b, o, none⟩) l) (hn : Hid (l.length = n)) (hnc : n ≤ c) (hc2 : c ≤ 9223372036854775807) (h1 : 1 ≤ n) (hn2 : n ≤ 4294967295) (h0 : w.cell? ⟨b, o, none⟩ = some (.int .u8 8)) :
    Calls Try.prog 6 #[.slice (some ⟨b, o, none⟩) n c] w fun e w' => SfEnd w 8 l e w' := by
  have hbl := World.block_lt_of_cell? _ _ h0
  simp only at hbl
  have hbg : Hid (b ≠ w.heap.size) := by show b ≠ _; omega
  obtain ⟨W0, hW0⟩ : ∃ W0, Hid (w.alloc (.cells #[.slice (some ⟨b, o, none⟩) n c, .int .i64 1, .bool false] 35 (0, 0)) = W0) := ⟨_, Lib.hid rfl⟩
  have HR0 : Hid (Rdr W0 w.heap.size (some ⟨b, o, none⟩) n c 1 false) := by show Rdr _ _ _ _ _ _ _; rw [← hW0.out]; exact Rdr.new w _ n c 1
  have HB0 : Hid (Below w.heap.size w W0) := by show Below _ _ _; rw [← hW0.out]; exact (Below.refl _ _).alloc (Nat.le_refl _) _
  have HL0 : Hid (Rd W0 (some ⟨b, o, none⟩) l) := hr.below HB0.out
  have hc0 : (w.alloc (.cells #[.slice (some ⟨b, o, none⟩) n c, .int .i64 1, .bool false] 35 (0, 0))).cell? ⟨b, o, none⟩ = some (.int .u8 8) := by rw [hW0.out]; exact (HB0.out.cell (p := ⟨b, o, none⟩) hbl).trans h0
  have HC0 := Lib.hid h0
  have hn0 : ((n : Int) == 0) = false := by simp; omega
  have hn1 : (0 : Int) < (n : Int) := by omega
  clear hr h0 hbl
  go_enter Try.func6, Try.ntmps6
  go_wp2_with fail
  rw [hW0.out]
  clear hc0
  have fb1 : bits .and .u8 8 1 = 0 := by decide
  have fb2 : bits .and .u8 8 2 = 0 := by decide
  have fb4 : bits .and .u8 8 4 = 0 := by decide
  have fw : wrap64 0 = 0 := IntWalk.wrap64_in 0 (by omega)
  refine (num_u b o n c 1 w.heap.size l false W0 HL0.out hn hnc hc2 (by omega) HR0.out).mono ?_
  rintro e w1 ⟨v1, k1, b1, rfl, hst, hrd, hg⟩
  have HN1 := Lib.hid hst
  have HR1 := Lib.hid hrd
  have HL1 := Lib.hid (HL0.out.grown hg (fun _ => sep_ne hbg.out))
  have HB1 := Lib.hid (below_g HB0.out hg)
  obtain ⟨g1, hk1, p1, q1, -⟩ := hst
  rw [hn.out] at hk1
  clear hrd hg
  obtain ⟨wv, hwv⟩ : ∃ wv, Hid (w1.alloc (.cells #[.int .i64 v1, .int .i64 0, .int .i64 0] 2 (0, 0)) = wv) := ⟨_, Lib.hid rfl⟩
  have HBv : Hid (Below w.heap.size w wv) := by show Below _ _ _; rw [← hwv.out]; exact HB1.out.alloc HB1.out.size _
  have HRv : Hid (Rdr wv w.heap.size (some ⟨b, o, none⟩) n c k1 b1) := by show Rdr _ _ _ _ _ _ _; rw [← hwv.out]; exact (heap_alloc_old _ _ HR1.out.lt).trans HR1.out
  have HLv : Hid (Rd wv (some ⟨b, o, none⟩) l) := by show Rd _ _ _; rw [← hwv.out]; exact HL1.out.alloc _
  have HVv : Hid (Vb3 wv w1.heap.size v1 0 0) := by show Vb3 _ _ _ _ _; rw [← hwv.out]; exact heap_alloc_new w1 _
  have hq : w.heap.size < w1.heap.size := HR1.out.lt
  have hbq : b < w1.heap.size := Nat.lt_trans (by have := World.block_lt_of_cell? _ _ HC0.out; exact this) hq
  have y1 : (w1.alloc (.cells #[.int .i64 v1, .int .i64 0, .int .i64 0] 2 (0, 0))).cell? ⟨w.heap.size, 1, none⟩ = some (.int .i64 (k1 : Nat)) := by rw [hwv.out]; exact HRv.out.cell1
  go_wp2_with fail
  rw [hwv.out]
  clear y1
  refine (byt_u b o n c k1 w.heap.size ((n : Int) - (k1 : Int)) l b1 wv HLv.out hn hnc hc2 (by omega) (by omega) HRv.out hbg).mono ?_
  rintro e wb ⟨AD, m, cD, kb, bb, rfl, hst, hdat, hrd, hg⟩
  have HNb := Lib.hid hst
  have HRb := Lib.hid hrd
  have HBb := Lib.hid (below_g HBv.out hg)
  have HVb := Lib.hid (HVv.out.grown hg (Nat.ne_of_gt hq))
  have HDt := Lib.hid hdat
  obtain ⟨wd, hwd⟩ : ∃ wd, Hid (wb.alloc (.cells #[.slice AD m cD] 22 (0, 0)) = wd) := ⟨_, Lib.hid rfl⟩
  have HBd : Hid (Below w.heap.size w wd) := by show Below _ _ _; rw [← hwd.out]; exact HBb.out.alloc HBb.out.size _
  have HRd : Hid (Rdr wd w.heap.size (some ⟨b, o, none⟩) n c kb bb) := by show Rdr _ _ _ _ _ _ _; rw [← hwd.out]; exact (heap_alloc_old _ _ HRb.out.lt).trans HRb.out
  have HED : Hid (RdE EB wd (some ⟨wb.heap.size, 0, none⟩) [(AD, m, cD)]) := by show RdE _ _ _ _; rw [← hwd.out]; exact RdE.new (E := EB) wb [(AD, m, cD)] 22
  have HBA : Hid (Below wb.heap.size wb wd) := by show Below _ _ _; rw [← hwd.out]; exact (Below.refl _ _).alloc (Nat.le_refl _) _
  have HVd : Hid (Vb3 wd w1.heap.size v1 0 0) := HVb.out.below HBA.out
  have x1 : (wb.alloc (.cells #[.slice AD m cD] 22 (0, 0))).cell? ⟨w.heap.size, 1, none⟩ = some (.int .i64 (kb : Nat)) := by rw [hwd.out]; exact HRd.out.cell1
  have x2 : (wb.alloc (.cells #[.slice AD m cD] 22 (0, 0))).cell? ⟨w.heap.size, 2, none⟩ = some (.bool bb) := by rw [hwd.out]; exact HRd.out.cell2
  have x3 : (wb.alloc (.cells #[.slice AD m cD] 22 (0, 0))).cell? ⟨w1.heap.size, 1, none⟩ = some (.int .i64 0) := by rw [hwd.out]; exact HVd.out.cel.1
  clear hst hdat hrd hg
  have hbig : ¬ 4611686018427387903 - ((n : Int) - (k1 : Int)) < 0 := by omega
  have hbig' : decide (4611686018427387903 - ((n : Int) - (k1 : Int)) < 0) = false := by simp; omega
  cases bb
  · have HT := Lib.hid (byt_rt HNb.out (HDt.out rfl))
    rw [take_all hn.out] at HT
    have HG : Hid (frG 8 l = some ([v1, 0, 0], [l.drop k1], kb)) := by
      refine frG_of ?_ (by simp [opB])
      rw [show frT 8 l = Pst 8 l by simp [frT]]
      obtain ⟨rfl, hkb⟩ := byt_all hn.out (by omega) HNb.out
      obtain rfl := hkb rfl
      obtain ⟨-, e1'⟩ := num_f HN1.out
      have e2 : Pof 8 l k1 = some (0, k1) := by simp [Pof]
      have e3 : Pda 8 l k1 = some (l.drop k1, l.length) := by simp [Pda]
      have hL : ((l.drop k1).length : Int) = ((n : Int) - (k1 : Int)) := by have := hn.out; rw [List.length_drop]; omega
      rw [Pst_of e1' e2 e3, if_neg (by omega)]
      rfl
    go_wp2_with fail
    rw [hwd.out]
    have z1 := HRd.out.cell1
    clear x1 x2 x3
    go_quiet (fail)
    go_wp2_with fail
    refine bodyPost_ret (v := .tuple #[.slice (some ⟨w1.heap.size, 0, none⟩) 3 3, .slice (some ⟨wb.heap.size, 0, none⟩) 1 1, .int .i64 (kb : Nat), .int .i64 0]) (by simp [results, Try.results6, go_sem]) rfl ?_
    exact ⟨below_drewN HBd.out _, .inr (.inr ⟨[v1, 0, 0], [l.drop k1], kb, _, 3, _, _, 1, _, HG.out, rfl, rfl, by omega, HVd.out.rd.drewN _, rfl, by omega, [(AD, m, cD)], HED.out.drewN _, rfl, Rts.one ((HT.out.below HBA.out).drewN _)⟩)⟩
  · have HT : Hid (frT 8 l = none) := by
      show _ = _
      rw [show frT 8 l = Pst 8 l by simp [frT]]
      obtain ⟨rfl, -⟩ := byt_all hn.out (by omega) HNb.out
      exact Pst_n1 HN1.out
    go_wp2_with fail
    rw [hwd.out]
    refine bodyPost_ret (v := .tuple #[.slice none 0 0, .slice none 0 0, .int .i64 0, .int .i64 1]) (by simp [results, Try.results6, go_sem]) rfl ?_
    exact ⟨HBd.out, .inr (.inl ⟨HT.out, rfl⟩)⟩

set_option maxRecDepth 100000 in
set_option maxHeartbeats 4000000 in
theorem sf9 (b o n c : Nat) (l : List Int) (w : World) (hr : Rd w (some ⟨b, o, none⟩) l) (hn : Hid (l.length = n)) (hnc : n ≤ c) (hc2 : c ≤ 9223372036854775807) (h1 : 1 ≤ n) (hn2 : n ≤ 4294967295) (h0 : w.cell? ⟨b, o, none⟩ = some (.int .u8 9)) :
    Calls Try.prog 6 #[.slice (some ⟨b, o, none⟩) n c] w fun e w' => SfEnd w 9 l e w' := by
  have hbl := World.block_lt_of_cell? _ _ h0
  simp only at hbl
  have hbg : Hid (b ≠ w.heap.size) := by show b ≠ _; omega
  obtain ⟨W0, hW0⟩ : ∃ W0, Hid (w.alloc (.cells #[.slice (some ⟨b, o, none⟩) n c, .int .i64 1, .bool false] 35 (0, 0)) = W0) := ⟨_, Lib.hid rfl⟩
  have HR0 : Hid (Rdr W0 w.heap.size (some ⟨b, o, none⟩) n c 1 false) := by show Rdr _ _ _ _ _ _ _; rw [← hW0.out]; exact Rdr.new w _ n c 1
  have HB0 : Hid (Below w.heap.size w W0) := by show Below _ _ _; rw [← hW0.out]; exact (Below.refl _ _).alloc (Nat.le_refl _) _
  have HL0 : Hid (Rd W0 (some ⟨b, o, none⟩) l) := hr.below HB0.out
  have hc0 : (w.alloc (.cells #[.slice (some ⟨b, o, none⟩) n c, .int .i64 1, .bool false] 35 (0, 0))).cell? ⟨b, o, none⟩ = some (.int .u8 9) := by rw [hW0.out]; exact (HB0.out.cell (p := ⟨b, o, none⟩) hbl).trans h0
  have HC0 := Lib.hid h0
  have hn0 : ((n : Int) == 0) = false := by simp; omega
  have hn1 : (0 : Int) < (n : Int) := by omega
  clear hr h0 hbl
  go_enter Try.func6, Try.ntmps6
  go_wp2_with fail
  rw [hW0.out]
  clear hc0
  have fb1 : bits .and .u8 9 1 = 1 := by decide
  have fb2 : bits .and .u8 9 2 = 0 := by decide
  have fb4 : bits .and .u8 9 4 = 0 := by decide
  have fw : wrap64 1 = 1 := IntWalk.wrap64_in 1 (by omega)
  refine (num_u b o n c 1 w.heap.size l false W0 HL0.out hn hnc hc2 (by omega) HR0.out).mono ?_
  rintro e w1 ⟨v1, k1, b1, rfl, hst, hrd, hg⟩
  have HN1 := Lib.hid hst
  have HR1 := Lib.hid hrd
  have HL1 := Lib.hid (HL0.out.grown hg (fun _ => sep_ne hbg.out))
  have HB1 := Lib.hid (below_g HB0.out hg)
  obtain ⟨g1, hk1, p1, q1, -⟩ := hst
  rw [hn.out] at hk1
  clear hrd hg
  obtain ⟨wv, hwv⟩ : ∃ wv, Hid (w1.alloc (.cells #[.int .i64 v1, .int .i64 0, .int .i64 1] 2 (0, 0)) = wv) := ⟨_, Lib.hid rfl⟩
  have HBv : Hid (Below w.heap.size w wv) := by show Below _ _ _; rw [← hwv.out]; exact HB1.out.alloc HB1.out.size _
  have HRv : Hid (Rdr wv w.heap.size (some ⟨b, o, none⟩) n c k1 b1) := by show Rdr _ _ _ _ _ _ _; rw [← hwv.out]; exact (heap_alloc_old _ _ HR1.out.lt).trans HR1.out
  have HLv : Hid (Rd wv (some ⟨b, o, none⟩) l) := by show Rd _ _ _; rw [← hwv.out]; exact HL1.out.alloc _
  have HVv : Hid (Vb3 wv w1.heap.size v1 0 1) := by show Vb3 _ _ _ _ _; rw [← hwv.out]; exact heap_alloc_new w1 _
  have hq : w.heap.size < w1.heap.size := HR1.out.lt
  have hbq : b < w1.heap.size := Nat.lt_trans (by have := World.block_lt_of_cell? _ _ HC0.out; exact this) hq
  have y1 : (w1.alloc (.cells #[.int .i64 v1, .int .i64 0, .int .i64 1] 2 (0, 0))).cell? ⟨w.heap.size, 1, none⟩ = some (.int .i64 (k1 : Nat)) := by rw [hwv.out]; exact HRv.out.cell1
  go_wp2_with fail
  rw [hwv.out]
  clear y1
  refine (byt_u b o n c k1 w.heap.size ((n : Int) - (k1 : Int)) l b1 wv HLv.out hn hnc hc2 (by omega) (by omega) HRv.out hbg).mono ?_
  rintro e wb ⟨AD, m, cD, kb, bb, rfl, hst, hdat, hrd, hg⟩
  have HNb := Lib.hid hst
  have HRb := Lib.hid hrd
  have HBb := Lib.hid (below_g HBv.out hg)
  have HVb := Lib.hid (HVv.out.grown hg (Nat.ne_of_gt hq))
  have HDt := Lib.hid hdat
  obtain ⟨wd, hwd⟩ : ∃ wd, Hid (wb.alloc (.cells #[.slice AD m cD] 22 (0, 0)) = wd) := ⟨_, Lib.hid rfl⟩
  have HBd : Hid (Below w.heap.size w wd) := by show Below _ _ _; rw [← hwd.out]; exact HBb.out.alloc HBb.out.size _
  have HRd : Hid (Rdr wd w.heap.size (some ⟨b, o, none⟩) n c kb bb) := by show Rdr _ _ _ _ _ _ _; rw [← hwd.out]; exact (heap_alloc_old _ _ HRb.out.lt).trans HRb.out
  have HED : Hid (RdE EB wd (some ⟨wb.heap.size, 0, none⟩) [(AD, m, cD)]) := by show RdE _ _ _ _; rw [← hwd.out]; exact RdE.new (E := EB) wb [(AD, m, cD)] 22
  have HBA : Hid (Below wb.heap.size wb wd) := by show Below _ _ _; rw [← hwd.out]; exact (Below.refl _ _).alloc (Nat.le_refl _) _
  have HVd : Hid (Vb3 wd w1.heap.size v1 0 1) := HVb.out.below HBA.out
  have x1 : (wb.alloc (.cells #[.slice AD m cD] 22 (0, 0))).cell? ⟨w.heap.size, 1, none⟩ = some (.int .i64 (kb : Nat)) := by rw [hwd.out]; exact HRd.out.cell1
  have x2 : (wb.alloc (.cells #[.slice AD m cD] 22 (0, 0))).cell? ⟨w.heap.size, 2, none⟩ = some (.bool bb) := by rw [hwd.out]; exact HRd.out.cell2
  have x3 : (wb.alloc (.cells #[.slice AD m cD] 22 (0, 0))).cell? ⟨w1.heap.size, 1, none⟩ = some (.int .i64 0) := by rw [hwd.out]; exact HVd.out.cel.1
  clear hst hdat hrd hg
  have hbig : ¬ 4611686018427387903 - ((n : Int) - (k1 : Int)) < 0 := by omega
  have hbig' : decide (4611686018427387903 - ((n : Int) - (k1 : Int)) < 0) = false := by simp; omega
  cases bb
  · have HT := Lib.hid (byt_rt HNb.out (HDt.out rfl))
    rw [take_all hn.out] at HT
    have HG : Hid (frG 9 l = some ([v1, 0, 1], [l.drop k1], kb)) := by
      refine frG_of ?_ (by simp [opB])
      rw [show frT 9 l = Pst 9 l by simp [frT]]
      obtain ⟨rfl, hkb⟩ := byt_all hn.out (by omega) HNb.out
      obtain rfl := hkb rfl
      obtain ⟨-, e1'⟩ := num_f HN1.out
      have e2 : Pof 9 l k1 = some (0, k1) := by simp [Pof]
      have e3 : Pda 9 l k1 = some (l.drop k1, l.length) := by simp [Pda]
      have hL : ((l.drop k1).length : Int) = ((n : Int) - (k1 : Int)) := by have := hn.out; rw [List.length_drop]; omega
      rw [Pst_of e1' e2 e3, if_neg (by omega)]
      rfl
    go_wp2_with fail
    rw [hwd.out]
    have z1 := HRd.out.cell1
    clear x1 x2 x3
    go_quiet (fail)
    go_wp2_with fail
    refine bodyPost_ret (v := .tuple #[.slice (some ⟨w1.heap.size, 0, none⟩) 3 3, .slice (some ⟨wb.heap.size, 0, none⟩) 1 1, .int .i64 (kb : Nat), .int .i64 0]) (by simp [results, Try.results6, go_sem]) rfl ?_
    exact ⟨below_drewN HBd.out _, .inr (.inr ⟨[v1, 0, 1], [l.drop k1], kb, _, 3, _, _, 1, _, HG.out, rfl, rfl, by omega, HVd.out.rd.drewN _, rfl, by omega, [(AD, m, cD)], HED.out.drewN _, rfl, Rts.one ((HT.out.below HBA.out).drewN _)⟩)⟩
  · have HT : Hid (frT 9 l = none) := by
      show _ = _
      rw [show frT 9 l = Pst 9 l by simp [frT]]
      obtain ⟨rfl, -⟩ := byt_all hn.out (by omega) HNb.out
      exact Pst_n1 HN1.out
    go_wp2_with fail
    rw [hwd.out]
    refine bodyPost_ret (v := .tuple #[.slice none 0 0, .slice none 0 0, .int .i64 0, .int .i64 1]) (by simp [results, Try.results6, go_sem]) rfl ?_
    exact ⟨HBd.out, .inr (.inl ⟨HT.out, rfl⟩)⟩

set_option maxRecDepth 100000 in
set_option maxHeartbeats 4000000 in
theorem sf10 (b o n c : Nat) (l : List Int) (w : World) (hr : Rd w (some ⟨b, o, none⟩) l) (hn : Hid (l.length = n)) (hnc : n ≤ c) (hc2 : c ≤ 9223372036854775807) (h1 : 1 ≤ n) (hn2 : n ≤ 4294967295) (h0 : w.cell? ⟨b, o, none⟩ = some (.int .u8 10)) :
    Calls Try.prog 6 #[.slice (some ⟨b, o, none⟩) n c] w fun e w' => SfEnd w 10 l e w' := by
  have hbl := World.block_lt_of_cell? _ _ h0
  simp only at hbl
  have hbg : Hid (b ≠ w.heap.size) := by show b ≠ _; omega
  obtain ⟨W0, hW0⟩ : ∃ W0, Hid (w.alloc (.cells #[.slice (some ⟨b, o, none⟩) n c, .int .i64 1, .bool false] 35 (0, 0)) = W0) := ⟨_, Lib.hid rfl⟩
  have HR0 : Hid (Rdr W0 w.heap.size (some ⟨b, o, none⟩) n c 1 false) := by show Rdr _ _ _ _ _ _ _; rw [← hW0.out]; exact Rdr.new w _ n c 1
  have HB0 : Hid (Below w.heap.size w W0) := by show Below _ _ _; rw [← hW0.out]; exact (Below.refl _ _).alloc (Nat.le_refl _) _
  have HL0 : Hid (Rd W0 (some ⟨b, o, none⟩) l) := hr.below HB0.out
  have hc0 : (w.alloc (.cells #[.slice (some ⟨b, o, none⟩) n c, .int .i64 1, .bool false] 35 (0, 0))).cell? ⟨b, o, none⟩ = some (.int .u8 10) := by rw [hW0.out]; exact (HB0.out.cell (p := ⟨b, o, none⟩) hbl).trans h0
  have HC0 := Lib.hid h0
  have hn0 : ((n : Int) == 0) = false := by simp; omega
  have hn1 : (0 : Int) < (n : Int) := by omega
  clear hr h0 hbl
  go_enter Try.func6, Try.ntmps6
  go_wp2_with fail
  rw [hW0.out]
  clear hc0
  have fb1 : bits .and .u8 10 1 = 0 := by decide
  have fb2 : bits .and .u8 10 2 = 2 := by decide
  have fb4 : bits .and .u8 10 4 = 0 := by decide
  have fw : wrap64 0 = 0 := IntWalk.wrap64_in 0 (by omega)
  refine (num_u b o n c 1 w.heap.size l false W0 HL0.out hn hnc hc2 (by omega) HR0.out).mono ?_
  rintro e w1 ⟨v1, k1, b1, rfl, hst, hrd, hg⟩
  have HN1 := Lib.hid hst
  have HR1 := Lib.hid hrd
  have HL1 := Lib.hid (HL0.out.grown hg (fun _ => sep_ne hbg.out))
  have HB1 := Lib.hid (below_g HB0.out hg)
  obtain ⟨g1, hk1, p1, q1, -⟩ := hst
  rw [hn.out] at hk1
  clear hrd hg
  obtain ⟨wv, hwv⟩ : ∃ wv, Hid (w1.alloc (.cells #[.int .i64 v1, .int .i64 0, .int .i64 0] 2 (0, 0)) = wv) := ⟨_, Lib.hid rfl⟩
  have HBv : Hid (Below w.heap.size w wv) := by show Below _ _ _; rw [← hwv.out]; exact HB1.out.alloc HB1.out.size _
  have HRv : Hid (Rdr wv w.heap.size (some ⟨b, o, none⟩) n c k1 b1) := by show Rdr _ _ _ _ _ _ _; rw [← hwv.out]; exact (heap_alloc_old _ _ HR1.out.lt).trans HR1.out
  have HLv : Hid (Rd wv (some ⟨b, o, none⟩) l) := by show Rd _ _ _; rw [← hwv.out]; exact HL1.out.alloc _
  have HVv : Hid (Vb3 wv w1.heap.size v1 0 0) := by show Vb3 _ _ _ _ _; rw [← hwv.out]; exact heap_alloc_new w1 _
  have hq : w.heap.size < w1.heap.size := HR1.out.lt
  have hbq : b < w1.heap.size := Nat.lt_trans (by have := World.block_lt_of_cell? _ _ HC0.out; exact this) hq
  have y1 : (w1.alloc (.cells #[.int .i64 v1, .int .i64 0, .int .i64 0] 2 (0, 0))).cell? ⟨w.heap.size, 1, none⟩ = some (.int .i64 (k1 : Nat)) := by rw [hwv.out]; exact HRv.out.cell1
  go_wp2_with fail
  rw [hwv.out]
  clear y1
  refine (num_u b o n c k1 w.heap.size l b1 wv HLv.out hn hnc hc2 (by omega) HRv.out).mono ?_
  rintro e w3 ⟨v3, k3, b3, rfl, hst, hrd, hg⟩
  have HN3 := Lib.hid hst
  have HR3 := Lib.hid hrd
  have HL3 := Lib.hid (HLv.out.grown hg (fun _ => sep_ne hbg.out))
  have HV3 := Lib.hid (HVv.out.grown hg (Nat.ne_of_gt hq))
  have HB3 := Lib.hid (below_g HBv.out hg)
  obtain ⟨g3, hk3, p3, q3, -⟩ := hst
  rw [hn.out] at hk3
  clear hrd hg
  go_wp2_with fail
  refine (byt_u b o n c k3 w.heap.size v3 l b3 w3 HL3.out hn hnc hc2 (by omega) p3 HR3.out hbg).mono ?_
  rintro e wb ⟨AD, m, cD, kb, bb, rfl, hst, hdat, hrd, hg⟩
  have HNb := Lib.hid hst
  have HRb := Lib.hid hrd
  have HBb := Lib.hid (below_g HB3.out hg)
  have HVb := Lib.hid (HV3.out.grown hg (Nat.ne_of_gt hq))
  have HDt := Lib.hid hdat
  obtain ⟨wd, hwd⟩ : ∃ wd, Hid (wb.alloc (.cells #[.slice AD m cD] 22 (0, 0)) = wd) := ⟨_, Lib.hid rfl⟩
  have HBd : Hid (Below w.heap.size w wd) := by show Below _ _ _; rw [← hwd.out]; exact HBb.out.alloc HBb.out.size _
  have HRd : Hid (Rdr wd w.heap.size (some ⟨b, o, none⟩) n c kb bb) := by show Rdr _ _ _ _ _ _ _; rw [← hwd.out]; exact (heap_alloc_old _ _ HRb.out.lt).trans HRb.out
  have HED : Hid (RdE EB wd (some ⟨wb.heap.size, 0, none⟩) [(AD, m, cD)]) := by show RdE _ _ _ _; rw [← hwd.out]; exact RdE.new (E := EB) wb [(AD, m, cD)] 22
  have HBA : Hid (Below wb.heap.size wb wd) := by show Below _ _ _; rw [← hwd.out]; exact (Below.refl _ _).alloc (Nat.le_refl _) _
  have HVd : Hid (Vb3 wd w1.heap.size v1 0 0) := HVb.out.below HBA.out
  have x1 : (wb.alloc (.cells #[.slice AD m cD] 22 (0, 0))).cell? ⟨w.heap.size, 1, none⟩ = some (.int .i64 (kb : Nat)) := by rw [hwd.out]; exact HRd.out.cell1
  have x2 : (wb.alloc (.cells #[.slice AD m cD] 22 (0, 0))).cell? ⟨w.heap.size, 2, none⟩ = some (.bool bb) := by rw [hwd.out]; exact HRd.out.cell2
  have x3 : (wb.alloc (.cells #[.slice AD m cD] 22 (0, 0))).cell? ⟨w1.heap.size, 1, none⟩ = some (.int .i64 0) := by rw [hwd.out]; exact HVd.out.cel.1
  clear hst hdat hrd hg
  have hbig : ¬ 4611686018427387903 - v3 < 0 := by omega
  have hbig' : decide (4611686018427387903 - v3 < 0) = false := by simp; omega
  cases bb
  · have HT := Lib.hid (byt_rt HNb.out (HDt.out rfl))
    have HG : Hid (frG 10 l = some ([v1, 0, 0], [(l.drop k3).take v3.toNat], kb)) := by
      refine frG_of ?_ (by simp [opB])
      rw [show frT 10 l = Pst 10 l by simp [frT]]
      obtain ⟨rfl, e3'⟩ := nb_f HN3.out HNb.out
      obtain ⟨-, e1'⟩ := num_f HN1.out
      have e2 : Pof 10 l k1 = some (0, k1) := by simp [Pof]
      have e3 : Pda 10 l k1 = some ((l.drop k3).take v3.toNat, kb) := by simp [Pda, e3']
      have hL := byt_len HNb.out p3
      rw [Pst_of e1' e2 e3, if_neg (by omega)]
      rfl
    go_wp2_with fail
    rw [hwd.out]
    have z1 := HRd.out.cell1
    clear x1 x2 x3
    go_quiet (fail)
    go_wp2_with fail
    refine bodyPost_ret (v := .tuple #[.slice (some ⟨w1.heap.size, 0, none⟩) 3 3, .slice (some ⟨wb.heap.size, 0, none⟩) 1 1, .int .i64 (kb : Nat), .int .i64 0]) (by simp [results, Try.results6, go_sem]) rfl ?_
    exact ⟨below_drewN HBd.out _, .inr (.inr ⟨[v1, 0, 0], [(l.drop k3).take v3.toNat], kb, _, 3, _, _, 1, _, HG.out, rfl, rfl, by omega, HVd.out.rd.drewN _, rfl, by omega, [(AD, m, cD)], HED.out.drewN _, rfl, Rts.one ((HT.out.below HBA.out).drewN _)⟩)⟩
  · have HT : Hid (frT 10 l = none) := by
      show _ = _
      rw [show frT 10 l = Pst 10 l by simp [frT]]
      cases b1
      · obtain ⟨-, e1'⟩ := num_f HN1.out
        exact Pst_d rfl e1' (show Pof 10 l k1 = some (0, k1) by simp [Pof]) HN3.out HNb.out
      · exact Pst_n1 HN1.out
    go_wp2_with fail
    rw [hwd.out]
    refine bodyPost_ret (v := .tuple #[.slice none 0 0, .slice none 0 0, .int .i64 0, .int .i64 1]) (by simp [results, Try.results6, go_sem]) rfl ?_
    exact ⟨HBd.out, .inr (.inl ⟨HT.out, rfl⟩)⟩

set_option maxRecDepth 100000 in
set_option maxHeartbeats 4000000 in
theorem sf11 (b o n c : Nat) (l : List Int) (w : World) (hr : Rd w (some ⟨b, o, none⟩) l) (hn : Hid (l.length = n)) (hnc : n ≤ c) (hc2 : c ≤ 9223372036854775807) (h1 : 1 ≤ n) (hn2 : n ≤ 4294967295) (h0 : w.cell? ⟨b, o, none⟩ = some (.int .u8 11)) :
    Calls Try.prog 6 #[.slice (some ⟨b, o, none⟩) n c] w fun e w' => SfEnd w 11 l e w' := by
  have hbl := World.block_lt_of_cell? _ _ h0
  simp only at hbl
  have hbg : Hid (b ≠ w.heap.size) := by show b ≠ _; omega
  obtain ⟨W0, hW0⟩ : ∃ W0, Hid (w.alloc (.cells #[.slice (some ⟨b, o, none⟩) n c, .int .i64 1, .bool false] 35 (0, 0)) = W0) := ⟨_, Lib.hid rfl⟩
  have HR0 : Hid (Rdr W0 w.heap.size (some ⟨b, o, none⟩) n c 1 false) := by show Rdr _ _ _ _ _ _ _; rw [← hW0.out]; exact Rdr.new w _ n c 1
  have HB0 : Hid (Below w.heap.size w W0) := by show Below _ _ _; rw [← hW0.out]; exact (Below.refl _ _).alloc (Nat.le_refl _) _
  have HL0 : Hid (Rd W0 (some ⟨b, o, none⟩) l) := hr.below HB0.out
  have hc0 : (w.alloc (.cells #[.slice (some ⟨b, o, none⟩) n c, .int .i64 1, .bool false] 35 (0, 0))).cell? ⟨b, o, none⟩ = some (.int .u8 11) := by rw [hW0.out]; exact (HB0.out.cell (p := ⟨b, o, none⟩) hbl).trans h0
  have HC0 := Lib.hid h0
  have hn0 : ((n : Int) == 0) = false := by simp; omega
  have hn1 : (0 : Int) < (n : Int) := by omega
  clear hr h0 hbl
  go_enter Try.func6, Try.ntmps6
  go_wp2_with fail
  rw [hW0.out]
  clear hc0
  have fb1 : bits .and .u8 11 1 = 1 := by decide
  have fb2 : bits .and .u8 11 2 = 2 := by decide
  have fb4 : bits .and .u8 11 4 = 0 := by decide
  have fw : wrap64 1 = 1 := IntWalk.wrap64_in 1 (by omega)
  refine (num_u b o n c 1 w.heap.size l false W0 HL0.out hn hnc hc2 (by omega) HR0.out).mono ?_
  rintro e w1 ⟨v1, k1, b1, rfl, hst, hrd, hg⟩
  have HN1 := Lib.hid hst
  have HR1 := Lib.hid hrd
  have HL1 := Lib.hid (HL0.out.grown hg (fun _ => sep_ne hbg.out))
  have HB1 := Lib.hid (below_g HB0.out hg)
  obtain ⟨g1, hk1, p1, q1, -⟩ := hst
  rw [hn.out] at hk1
  clear hrd hg
  obtain ⟨wv, hwv⟩ : ∃ wv, Hid (w1.alloc (.cells #[.int .i64 v1, .int .i64 0, .int .i64 1] 2 (0, 0)) = wv) := ⟨_, Lib.hid rfl⟩
  have HBv : Hid (Below w.heap.size w wv) := by show Below _ _ _; rw [← hwv.out]; exact HB1.out.alloc HB1.out.size _
  have HRv : Hid (Rdr wv w.heap.size (some ⟨b, o, none⟩) n c k1 b1) := by show Rdr _ _ _ _ _ _ _; rw [← hwv.out]; exact (heap_alloc_old _ _ HR1.out.lt).trans HR1.out
  have HLv : Hid (Rd wv (some ⟨b, o, none⟩) l) := by show Rd _ _ _; rw [← hwv.out]; exact HL1.out.alloc _
  have HVv : Hid (Vb3 wv w1.heap.size v1 0 1) := by show Vb3 _ _ _ _ _; rw [← hwv.out]; exact heap_alloc_new w1 _
  have hq : w.heap.size < w1.heap.size := HR1.out.lt
  have hbq : b < w1.heap.size := Nat.lt_trans (by have := World.block_lt_of_cell? _ _ HC0.out; exact this) hq
  have y1 : (w1.alloc (.cells #[.int .i64 v1, .int .i64 0, .int .i64 1] 2 (0, 0))).cell? ⟨w.heap.size, 1, none⟩ = some (.int .i64 (k1 : Nat)) := by rw [hwv.out]; exact HRv.out.cell1
  go_wp2_with fail
  rw [hwv.out]
  clear y1
  refine (num_u b o n c k1 w.heap.size l b1 wv HLv.out hn hnc hc2 (by omega) HRv.out).mono ?_
  rintro e w3 ⟨v3, k3, b3, rfl, hst, hrd, hg⟩
  have HN3 := Lib.hid hst
  have HR3 := Lib.hid hrd
  have HL3 := Lib.hid (HLv.out.grown hg (fun _ => sep_ne hbg.out))
  have HV3 := Lib.hid (HVv.out.grown hg (Nat.ne_of_gt hq))
  have HB3 := Lib.hid (below_g HBv.out hg)
  obtain ⟨g3, hk3, p3, q3, -⟩ := hst
  rw [hn.out] at hk3
  clear hrd hg
  go_wp2_with fail
  refine (byt_u b o n c k3 w.heap.size v3 l b3 w3 HL3.out hn hnc hc2 (by omega) p3 HR3.out hbg).mono ?_
  rintro e wb ⟨AD, m, cD, kb, bb, rfl, hst, hdat, hrd, hg⟩
  have HNb := Lib.hid hst
  have HRb := Lib.hid hrd
  have HBb := Lib.hid (below_g HB3.out hg)
  have HVb := Lib.hid (HV3.out.grown hg (Nat.ne_of_gt hq))
  have HDt := Lib.hid hdat
  obtain ⟨wd, hwd⟩ : ∃ wd, Hid (wb.alloc (.cells #[.slice AD m cD] 22 (0, 0)) = wd) := ⟨_, Lib.hid rfl⟩
  have HBd : Hid (Below w.heap.size w wd) := by show Below _ _ _; rw [← hwd.out]; exact HBb.out.alloc HBb.out.size _
  have HRd : Hid (Rdr wd w.heap.size (some ⟨b, o, none⟩) n c kb bb) := by show Rdr _ _ _ _ _ _ _; rw [← hwd.out]; exact (heap_alloc_old _ _ HRb.out.lt).trans HRb.out
  have HED : Hid (RdE EB wd (some ⟨wb.heap.size, 0, none⟩) [(AD, m, cD)]) := by show RdE _ _ _ _; rw [← hwd.out]; exact RdE.new (E := EB) wb [(AD, m, cD)] 22
  have HBA : Hid (Below wb.heap.size wb wd) := by show Below _ _ _; rw [← hwd.out]; exact (Below.refl _ _).alloc (Nat.le_refl _) _
  have HVd : Hid (Vb3 wd w1.heap.size v1 0 1) := HVb.out.below HBA.out
  have x1 : (wb.alloc (.cells #[.slice AD m cD] 22 (0, 0))).cell? ⟨w.heap.size, 1, none⟩ = some (.int .i64 (kb : Nat)) := by rw [hwd.out]; exact HRd.out.cell1
  have x2 : (wb.alloc (.cells #[.slice AD m cD] 22 (0, 0))).cell? ⟨w.heap.size, 2, none⟩ = some (.bool bb) := by rw [hwd.out]; exact HRd.out.cell2
  have x3 : (wb.alloc (.cells #[.slice AD m cD] 22 (0, 0))).cell? ⟨w1.heap.size, 1, none⟩ = some (.int .i64 0) := by rw [hwd.out]; exact HVd.out.cel.1
  clear hst hdat hrd hg
  have hbig : ¬ 4611686018427387903 - v3 < 0 := by omega
  have hbig' : decide (4611686018427387903 - v3 < 0) = false := by simp; omega
  cases bb
  · have HT := Lib.hid (byt_rt HNb.out (HDt.out rfl))
    have HG : Hid (frG 11 l = some ([v1, 0, 1], [(l.drop k3).take v3.toNat], kb)) := by
      refine frG_of ?_ (by simp [opB])
      rw [show frT 11 l = Pst 11 l by simp [frT]]
      obtain ⟨rfl, e3'⟩ := nb_f HN3.out HNb.out
      obtain ⟨-, e1'⟩ := num_f HN1.out
      have e2 : Pof 11 l k1 = some (0, k1) := by simp [Pof]
      have e3 : Pda 11 l k1 = some ((l.drop k3).take v3.toNat, kb) := by simp [Pda, e3']
      have hL := byt_len HNb.out p3
      rw [Pst_of e1' e2 e3, if_neg (by omega)]
      rfl
    go_wp2_with fail
    rw [hwd.out]
    have z1 := HRd.out.cell1
    clear x1 x2 x3
    go_quiet (fail)
    go_wp2_with fail
    refine bodyPost_ret (v := .tuple #[.slice (some ⟨w1.heap.size, 0, none⟩) 3 3, .slice (some ⟨wb.heap.size, 0, none⟩) 1 1, .int .i64 (kb : Nat), .int .i64 0]) (by simp [results, Try.results6, go_sem]) rfl ?_
    exact ⟨below_drewN HBd.out _, .inr (.inr ⟨[v1, 0, 1], [(l.drop k3).take v3.toNat], kb, _, 3, _, _, 1, _, HG.out, rfl, rfl, by omega, HVd.out.rd.drewN _, rfl, by omega, [(AD, m, cD)], HED.out.drewN _, rfl, Rts.one ((HT.out.below HBA.out).drewN _)⟩)⟩
  · have HT : Hid (frT 11 l = none) := by
      show _ = _
      rw [show frT 11 l = Pst 11 l by simp [frT]]
      cases b1
      · obtain ⟨-, e1'⟩ := num_f HN1.out
        exact Pst_d rfl e1' (show Pof 11 l k1 = some (0, k1) by simp [Pof]) HN3.out HNb.out
      · exact Pst_n1 HN1.out
    go_wp2_with fail
    rw [hwd.out]
    refine bodyPost_ret (v := .tuple #[.slice none 0 0, .slice none 0 0, .int .i64 0, .int .i64 1]) (by simp [results, Try.results6, go_sem]) rfl ?_
    exact ⟨HBd.out, .inr (.inl ⟨HT.out, rfl⟩)⟩

set_option maxRecDepth 100000 in
set_option maxHeartbeats 4000000 in
theorem sf12 (b o n c : Nat) (l : List Int) (w : World) (hr : Rd w (some ⟨b, o, none⟩) l) (hn : Hid (l.length = n)) (hnc : n ≤ c) (hc2 : c ≤ 9223372036854775807) (h1 : 1 ≤ n) (hn2 : n ≤ 4294967295) (h0 : w.cell? ⟨b, o, none⟩ = some (.int .u8 12)) :
    Calls Try.prog 6 #[.slice (some ⟨b, o, none⟩) n c] w fun e w' => SfEnd w 12 l e w' := by
  have hbl := World.block_lt_of_cell? _ _ h0
  simp only at hbl
  have hbg : Hid (b ≠ w.heap.size) := by show b ≠ _; omega
  obtain ⟨W0, hW0⟩ : ∃ W0, Hid (w.alloc (.cells #[.slice (some ⟨b, o, none⟩) n c, .int .i64 1, .bool false] 35 (0, 0)) = W0) := ⟨_, Lib.hid rfl⟩
  have HR0 : Hid (Rdr W0 w.heap.size (some ⟨b, o, none⟩) n c 1 false) := by show Rdr _ _ _ _ _ _ _; rw [← hW0.out]; exact Rdr.new w _ n c 1
  have HB0 : Hid (Below w.heap.size w W0) := by show Below _ _ _; rw [← hW0.out]; exact (Below.refl _ _).alloc (Nat.le_refl _) _
  have HL0 : Hid (Rd W0 (some ⟨b, o, none⟩) l) := hr.below HB0.out
  have hc0 : (w.alloc (.cells #[.slice (some ⟨b, o, none⟩) n c, .int .i64 1, .bool false] 35 (0, 0))).cell? ⟨b, o, none⟩ = some (.int .u8 12) := by rw [hW0.out]; exact (HB0.out.cell (p := ⟨b, o, none⟩) hbl).trans h0
  have HC0 := Lib.hid h0
  have hn0 : ((n : Int) == 0) = false := by simp; omega
  have hn1 : (0 : Int) < (n : Int) := by omega
  clear hr h0 hbl
  go_enter Try.func6, Try.ntmps6
  go_wp2_with fail
  rw [hW0.out]
  clear hc0
  have fb1 : bits .and .u8 12 1 = 0 := by decide
  have fb2 : bits .and .u8 12 2 = 0 := by decide
  have fb4 : bits .and .u8 12 4 = 4 := by decide
  have fw : wrap64 0 = 0 := IntWalk.wrap64_in 0 (by omega)
  refine (num_u b o n c 1 w.heap.size l false W0 HL0.out hn hnc hc2 (by omega) HR0.out).mono ?_
  rintro e w1 ⟨v1, k1, b1, rfl, hst, hrd, hg⟩
  have HN1 := Lib.hid hst
  have HR1 := Lib.hid hrd
  have HL1 := Lib.hid (HL0.out.grown hg (fun _ => sep_ne hbg.out))
  have HB1 := Lib.hid (below_g HB0.out hg)
  obtain ⟨g1, hk1, p1, q1, -⟩ := hst
  rw [hn.out] at hk1
  clear hrd hg
  obtain ⟨wv, hwv⟩ : ∃ wv, Hid (w1.alloc (.cells #[.int .i64 v1, .int .i64 0, .int .i64 0] 2 (0, 0)) = wv) := ⟨_, Lib.hid rfl⟩
  have HBv : Hid (Below w.heap.size w wv) := by show Below _ _ _; rw [← hwv.out]; exact HB1.out.alloc HB1.out.size _
  have HRv : Hid (Rdr wv w.heap.size (some ⟨b, o, none⟩) n c k1 b1) := by show Rdr _ _ _ _ _ _ _; rw [← hwv.out]; exact (heap_alloc_old _ _ HR1.out.lt).trans HR1.out
  have HLv : Hid (Rd wv (some ⟨b, o, none⟩) l) := by show Rd _ _ _; rw [← hwv.out]; exact HL1.out.alloc _
  have HVv : Hid (Vb3 wv w1.heap.size v1 0 0) := by show Vb3 _ _ _ _ _; rw [← hwv.out]; exact heap_alloc_new w1 _
  have hq : w.heap.size < w1.heap.size := HR1.out.lt
  have hbq : b < w1.heap.size := Nat.lt_trans (by have := World.block_lt_of_cell? _ _ HC0.out; exact this) hq
  go_wp2_with fail
  rw [hwv.out]
  refine (num_u b o n c k1 w.heap.size l b1 wv HLv.out hn hnc hc2 (by omega) HRv.out).mono ?_
  rintro e w2 ⟨v2, k2, b2, rfl, hst, hrd, hg⟩
  have HN2 := Lib.hid hst
  have HL2 := Lib.hid (HLv.out.grown hg (fun _ => sep_ne hbg.out))
  have HV2 := Lib.hid (HVv.out.grown hg (Nat.ne_of_gt hq))
  have HR2 := Lib.hid hrd
  have HB2 := Lib.hid (below_g HBv.out hg)
  obtain ⟨g2, hk2, p2, q2, -⟩ := hst
  rw [hn.out] at hk2
  obtain ⟨d1, f1⟩ := HV2.out.cel
  have hcg := cgrown w2 w1.heap.size 1 (.int .i64 v2)
  obtain ⟨ws, hws⟩ : ∃ ws, Hid (w2.setCell ⟨w1.heap.size, 1, none⟩ (.int .i64 v2) = ws) := ⟨_, Lib.hid rfl⟩
  have HVs : Hid (Vb3 ws w1.heap.size v1 v2 0) := by show Vb3 _ _ _ _ _; rw [← hws.out]; exact HV2.out.set v2
  have HRs : Hid (Rdr ws w.heap.size (some ⟨b, o, none⟩) n c k2 b2) := by show Rdr _ _ _ _ _ _ _; rw [← hws.out]; exact HR2.out.kept hcg (by simp; omega)
  have HLs : Hid (Rd ws (some ⟨b, o, none⟩) l) := by show Rd _ _ _; rw [← hws.out]; exact HL2.out.grown hcg (fun _ => sep_ne (Nat.ne_of_lt hbq))
  have HBs : Hid (Below w.heap.size w ws) := by show Below _ _ _; rw [← hws.out]; exact below_cell HB2.out (by have := HV2.out.lt; omega) _ _ _ (Nat.le_of_lt hq)
  have y1 : (w2.setCell ⟨w1.heap.size, 1, none⟩ (.int .i64 v2)).cell? ⟨w.heap.size, 1, none⟩ = some (.int .i64 (k2 : Nat)) := by rw [hws.out]; exact HRs.out.cell1
  have y2 : w2.cell? ⟨w.heap.size, 1, none⟩ = some (.int .i64 (k2 : Nat)) := HR2.out.cell1
  clear hrd hg hcg
  go_wp2_with fail
  rw [hws.out]
  clear y1 y2 d1 f1
  refine (byt_u b o n c k2 w.heap.size ((n : Int) - (k2 : Int)) l b2 ws HLs.out hn hnc hc2 (by omega) (by omega) HRs.out hbg).mono ?_
  rintro e wb ⟨AD, m, cD, kb, bb, rfl, hst, hdat, hrd, hg⟩
  have HNb := Lib.hid hst
  have HRb := Lib.hid hrd
  have HBb := Lib.hid (below_g HBs.out hg)
  have HVb := Lib.hid (HVs.out.grown hg (Nat.ne_of_gt hq))
  have HDt := Lib.hid hdat
  obtain ⟨wd, hwd⟩ : ∃ wd, Hid (wb.alloc (.cells #[.slice AD m cD] 22 (0, 0)) = wd) := ⟨_, Lib.hid rfl⟩
  have HBd : Hid (Below w.heap.size w wd) := by show Below _ _ _; rw [← hwd.out]; exact HBb.out.alloc HBb.out.size _
  have HRd : Hid (Rdr wd w.heap.size (some ⟨b, o, none⟩) n c kb bb) := by show Rdr _ _ _ _ _ _ _; rw [← hwd.out]; exact (heap_alloc_old _ _ HRb.out.lt).trans HRb.out
  have HED : Hid (RdE EB wd (some ⟨wb.heap.size, 0, none⟩) [(AD, m, cD)]) := by show RdE _ _ _ _; rw [← hwd.out]; exact RdE.new (E := EB) wb [(AD, m, cD)] 22
  have HBA : Hid (Below wb.heap.size wb wd) := by show Below _ _ _; rw [← hwd.out]; exact (Below.refl _ _).alloc (Nat.le_refl _) _
  have HVd : Hid (Vb3 wd w1.heap.size v1 v2 0) := HVb.out.below HBA.out
  have x1 : (wb.alloc (.cells #[.slice AD m cD] 22 (0, 0))).cell? ⟨w.heap.size, 1, none⟩ = some (.int .i64 (kb : Nat)) := by rw [hwd.out]; exact HRd.out.cell1
  have x2 : (wb.alloc (.cells #[.slice AD m cD] 22 (0, 0))).cell? ⟨w.heap.size, 2, none⟩ = some (.bool bb) := by rw [hwd.out]; exact HRd.out.cell2
  have x3 : (wb.alloc (.cells #[.slice AD m cD] 22 (0, 0))).cell? ⟨w1.heap.size, 1, none⟩ = some (.int .i64 v2) := by rw [hwd.out]; exact HVd.out.cel.1
  clear hst hdat hrd hg
  by_cases hbig : 4611686018427387903 - ((n : Int) - (k2 : Int)) < v2
  · have HG : Hid (frG 12 l = none) := by
      refine frG_none ?_
      cases bb
      · rw [show frT 12 l = Pst 12 l by simp [frT]]
        obtain ⟨rfl, hkb⟩ := byt_all hn.out (by omega) HNb.out
        obtain rfl := hkb rfl
        obtain ⟨rfl, e2'⟩ := num_f HN2.out
        obtain ⟨-, e1'⟩ := num_f HN1.out
        have e2 : Pof 12 l k1 = some (v2, k2) := by simp [Pof, e2']
        have e3 : Pda 12 l k2 = some (l.drop k2, l.length) := by simp [Pda]
        have hL : ((l.drop k2).length : Int) = ((n : Int) - (k2 : Int)) := by have := hn.out; rw [List.length_drop]; omega
        rw [Pst_of e1' e2 e3, if_pos (by omega)]
      · skip
        rw [show frT 12 l = Pst 12 l by simp [frT]]
        obtain ⟨rfl, -⟩ := byt_all hn.out (by omega) HNb.out
        exact Pst_n2 rfl HN1.out HN2.out
    go_wp2_with fail
    refine bodyPost_ret (v := .tuple #[.slice none 0 0, .slice none 0 0, .int .i64 0, .int .i64 2]) (by simp [results, Try.results6, go_sem]) rfl ?_
    rw [hwd.out]
    exact ⟨HBd.out, .inl ⟨HG.out, rfl⟩⟩
  cases bb
  · have HT := Lib.hid (byt_rt HNb.out (HDt.out rfl))
    rw [take_all hn.out] at HT
    have HG : Hid (frG 12 l = some ([v1, v2, 0], [l.drop k2], kb)) := by
      refine frG_of ?_ (by simp [opB])
      rw [show frT 12 l = Pst 12 l by simp [frT]]
      obtain ⟨rfl, hkb⟩ := byt_all hn.out (by omega) HNb.out
      obtain rfl := hkb rfl
      obtain ⟨rfl, e2'⟩ := num_f HN2.out
      obtain ⟨-, e1'⟩ := num_f HN1.out
      have e2 : Pof 12 l k1 = some (v2, k2) := by simp [Pof, e2']
      have e3 : Pda 12 l k2 = some (l.drop k2, l.length) := by simp [Pda]
      have hL : ((l.drop k2).length : Int) = ((n : Int) - (k2 : Int)) := by have := hn.out; rw [List.length_drop]; omega
      rw [Pst_of e1' e2 e3, if_neg (by omega)]
      rfl
    go_wp2_with fail
    rw [hwd.out]
    have z1 := HRd.out.cell1
    clear x1 x2 x3
    go_quiet (fail)
    go_wp2_with fail
    refine bodyPost_ret (v := .tuple #[.slice (some ⟨w1.heap.size, 0, none⟩) 3 3, .slice (some ⟨wb.heap.size, 0, none⟩) 1 1, .int .i64 (kb : Nat), .int .i64 0]) (by simp [results, Try.results6, go_sem]) rfl ?_
    exact ⟨below_drewN HBd.out _, .inr (.inr ⟨[v1, v2, 0], [l.drop k2], kb, _, 3, _, _, 1, _, HG.out, rfl, rfl, by omega, HVd.out.rd.drewN _, rfl, by omega, [(AD, m, cD)], HED.out.drewN _, rfl, Rts.one ((HT.out.below HBA.out).drewN _)⟩)⟩
  · have HT : Hid (frT 12 l = none) := by
      show _ = _
      rw [show frT 12 l = Pst 12 l by simp [frT]]
      obtain ⟨rfl, -⟩ := byt_all hn.out (by omega) HNb.out
      exact Pst_n2 rfl HN1.out HN2.out
    go_wp2_with fail
    rw [hwd.out]
    refine bodyPost_ret (v := .tuple #[.slice none 0 0, .slice none 0 0, .int .i64 0, .int .i64 1]) (by simp [results, Try.results6, go_sem]) rfl ?_
    exact ⟨HBd.out, .inr (.inl ⟨HT.out, rfl⟩)⟩

set_option maxRecDepth 100000 in
set_option maxHeartbeats 4000000 in
theorem sf13 (b o n c : Nat) (l : List Int) (w : World) (hr : Rd w (some ⟨b, o, none⟩) l) (hn : Hid (l.length = n)) (hnc : n ≤ c) (hc2 : c ≤ 9223372036854775807) (h1 : 1 ≤ n) (hn2 : n ≤ 4294967295) (h0 : w.cell? ⟨b, o, none⟩ = some (.int .u8 13)) :
    Calls Try.prog 6 #[.slice (some ⟨b, o, none⟩) n c] w fun e w' => SfEnd w 13 l e w' := by
  have hbl := World.block_lt_of_cell? _ _ h0
  simp only at hbl
  have hbg : Hid (b ≠ w.heap.size) := by show b ≠ _; omega
  obtain ⟨W0, hW0⟩ : ∃ W0, Hid (w.alloc (.cells #[.slice (some ⟨b, o, none⟩) n c, .int .i64 1, .bool false] 35 (0, 0)) = W0) := ⟨_, Lib.hid rfl⟩
  have HR0 : Hid (Rdr W0 w.heap.size (some ⟨b, o, none⟩) n c 1 false) := by show Rdr _ _ _ _ _ _ _; rw [← hW0.out]; exact Rdr.new w _ n c 1
  have HB0 : Hid (Below w.heap.size w W0) := by show Below _ _ _; rw [← hW0.out]; exact (Below.refl _ _).alloc (Nat.le_refl _) _
  have HL0 : Hid (Rd W0 (some ⟨b, o, none⟩) l) := hr.below HB0.out
  have hc0 : (w.alloc (.cells #[.slice (some ⟨b, o, none⟩) n c, .int .i64 1, .bool false] 35 (0, 0))).cell? ⟨b, o, none⟩ = some (.int .u8 13) := by rw [hW0.out]; exact (HB0.out.cell (p := ⟨b, o, none⟩) hbl).trans h0
  have HC0 := Lib.hid h0
  have hn0 : ((n : Int) == 0) = false := by simp; omega
  have hn1 : (0 : Int) < (n : Int) := by omega
  clear hr h0 hbl
  go_enter Try.func6, Try.ntmps6
  go_wp2_with fail
  rw [hW0.out]
  clear hc0
  have fb1 : bits .and .u8 13 1 = 1 := by decide
  have fb2 : bits .and .u8 13 2 = 0 := by decide
  have fb4 : bits .and .u8 13 4 = 4 := by decide
  have fw : wrap64 1 = 1 := IntWalk.wrap64_in 1 (by omega)
  refine (num_u b o n c 1 w.heap.size l false W0 HL0.out hn hnc hc2 (by omega) HR0.out).mono ?_
  rintro e w1 ⟨v1, k1, b1, rfl, hst, hrd, hg⟩
  have HN1 := Lib.hid hst
  have HR1 := Lib.hid hrd
  have HL1 := Lib.hid (HL0.out.grown hg (fun _ => sep_ne hbg.out))
  have HB1 := Lib.hid (below_g HB0.out hg)
  obtain ⟨g1, hk1, p1, q1, -⟩ := hst
  rw [hn.out] at hk1
  clear hrd hg
  obtain ⟨wv, hwv⟩ : ∃ wv, Hid (w1.alloc (.cells #[.int .i64 v1, .int .i64 0, .int .i64 1] 2 (0, 0)) = wv) := ⟨_, Lib.hid rfl⟩
  have HBv : Hid (Below w.heap.size w wv) := by show Below _ _ _; rw [← hwv.out]; exact HB1.out.alloc HB1.out.size _
  have HRv : Hid (Rdr wv w.heap.size (some ⟨b, o, none⟩) n c k1 b1) := by show Rdr _ _ _ _ _ _ _; rw [← hwv.out]; exact (heap_alloc_old _ _ HR1.out.lt).trans HR1.out
  have HLv : Hid (Rd wv (some ⟨b, o, none⟩) l) := by show Rd _ _ _; rw [← hwv.out]; exact HL1.out.alloc _
  have HVv : Hid (Vb3 wv w1.heap.size v1 0 1) := by show Vb3 _ _ _ _ _; rw [← hwv.out]; exact heap_alloc_new w1 _
  have hq : w.heap.size < w1.heap.size := HR1.out.lt
  have hbq : b < w1.heap.size := Nat.lt_trans (by have := World.block_lt_of_cell? _ _ HC0.out; exact this) hq
  go_wp2_with fail
  rw [hwv.out]
  refine (num_u b o n c k1 w.heap.size l b1 wv HLv.out hn hnc hc2 (by omega) HRv.out).mono ?_
  rintro e w2 ⟨v2, k2, b2, rfl, hst, hrd, hg⟩
  have HN2 := Lib.hid hst
  have HL2 := Lib.hid (HLv.out.grown hg (fun _ => sep_ne hbg.out))
  have HV2 := Lib.hid (HVv.out.grown hg (Nat.ne_of_gt hq))
  have HR2 := Lib.hid hrd
  have HB2 := Lib.hid (below_g HBv.out hg)
  obtain ⟨g2, hk2, p2, q2, -⟩ := hst
  rw [hn.out] at hk2
  obtain ⟨d1, f1⟩ := HV2.out.cel
  have hcg := cgrown w2 w1.heap.size 1 (.int .i64 v2)
  obtain ⟨ws, hws⟩ : ∃ ws, Hid (w2.setCell ⟨w1.heap.size, 1, none⟩ (.int .i64 v2) = ws) := ⟨_, Lib.hid rfl⟩
  have HVs : Hid (Vb3 ws w1.heap.size v1 v2 1) := by show Vb3 _ _ _ _ _; rw [← hws.out]; exact HV2.out.set v2
  have HRs : Hid (Rdr ws w.heap.size (some ⟨b, o, none⟩) n c k2 b2) := by show Rdr _ _ _ _ _ _ _; rw [← hws.out]; exact HR2.out.kept hcg (by simp; omega)
  have HLs : Hid (Rd ws (some ⟨b, o, none⟩) l) := by show Rd _ _ _; rw [← hws.out]; exact HL2.out.grown hcg (fun _ => sep_ne (Nat.ne_of_lt hbq))
  have HBs : Hid (Below w.heap.size w ws) := by show Below _ _ _; rw [← hws.out]; exact below_cell HB2.out (by have := HV2.out.lt; omega) _ _ _ (Nat.le_of_lt hq)
  have y1 : (w2.setCell ⟨w1.heap.size, 1, none⟩ (.int .i64 v2)).cell? ⟨w.heap.size, 1, none⟩ = some (.int .i64 (k2 : Nat)) := by rw [hws.out]; exact HRs.out.cell1
  have y2 : w2.cell? ⟨w.heap.size, 1, none⟩ = some (.int .i64 (k2 : Nat)) := HR2.out.cell1
  clear hrd hg hcg
  go_wp2_with fail
  rw [hws.out]
  clear y1 y2 d1 f1
  refine (byt_u b o n c k2 w.heap.size ((n : Int) - (k2 : Int)) l b2 ws HLs.out hn hnc hc2 (by omega) (by omega) HRs.out hbg).mono ?_
  rintro e wb ⟨AD, m, cD, kb, bb, rfl, hst, hdat, hrd, hg⟩
  have HNb := Lib.hid hst
  have HRb := Lib.hid hrd
  have HBb := Lib.hid (below_g HBs.out hg)
  have HVb := Lib.hid (HVs.out.grown hg (Nat.ne_of_gt hq))
  have HDt := Lib.hid hdat
  obtain ⟨wd, hwd⟩ : ∃ wd, Hid (wb.alloc (.cells #[.slice AD m cD] 22 (0, 0)) = wd) := ⟨_, Lib.hid rfl⟩
  have HBd : Hid (Below w.heap.size w wd) := by show Below _ _ _; rw [← hwd.out]; exact HBb.out.alloc HBb.out.size _
  have HRd : Hid (Rdr wd w.heap.size (some ⟨b, o, none⟩) n c kb bb) := by show Rdr _ _ _ _ _ _ _; rw [← hwd.out]; exact (heap_alloc_old _ _ HRb.out.lt).trans HRb.out
  have HED : Hid (RdE EB wd (some ⟨wb.heap.size, 0, none⟩) [(AD, m, cD)]) := by show RdE _ _ _ _; rw [← hwd.out]; exact RdE.new (E := EB) wb [(AD, m, cD)] 22
  have HBA : Hid (Below wb.heap.size wb wd) := by show Below _ _ _; rw [← hwd.out]; exact (Below.refl _ _).alloc (Nat.le_refl _) _
  have HVd : Hid (Vb3 wd w1.heap.size v1 v2 1) := HVb.out.below HBA.out
  have x1 : (wb.alloc (.cells #[.slice AD m cD] 22 (0, 0))).cell? ⟨w.heap.size, 1, none⟩ = some (.int .i64 (kb : Nat)) := by rw [hwd.out]; exact HRd.out.cell1
  have x2 : (wb.alloc (.cells #[.slice AD m cD] 22 (0, 0))).cell? ⟨w.heap.size, 2, none⟩ = some (.bool bb) := by rw [hwd.out]; exact HRd.out.cell2
  have x3 : (wb.alloc (.cells #[.slice AD m cD] 22 (0, 0))).cell? ⟨w1.heap.size, 1, none⟩ = some (.int .i64 v2) := by rw [hwd.out]; exact HVd.out.cel.1
  clear hst hdat hrd hg
  by_cases hbig : 4611686018427387903 - ((n : Int) - (k2 : Int)) < v2
  · have HG : Hid (frG 13 l = none) := by
      refine frG_none ?_
      cases bb
      · rw [show frT 13 l = Pst 13 l by simp [frT]]
        obtain ⟨rfl, hkb⟩ := byt_all hn.out (by omega) HNb.out
        obtain rfl := hkb rfl
        obtain ⟨rfl, e2'⟩ := num_f HN2.out
        obtain ⟨-, e1'⟩ := num_f HN1.out
        have e2 : Pof 13 l k1 = some (v2, k2) := by simp [Pof, e2']
        have e3 : Pda 13 l k2 = some (l.drop k2, l.length) := by simp [Pda]
        have hL : ((l.drop k2).length : Int) = ((n : Int) - (k2 : Int)) := by have := hn.out; rw [List.length_drop]; omega
        rw [Pst_of e1' e2 e3, if_pos (by omega)]
      · skip
        rw [show frT 13 l = Pst 13 l by simp [frT]]
        obtain ⟨rfl, -⟩ := byt_all hn.out (by omega) HNb.out
        exact Pst_n2 rfl HN1.out HN2.out
    go_wp2_with fail
    refine bodyPost_ret (v := .tuple #[.slice none 0 0, .slice none 0 0, .int .i64 0, .int .i64 2]) (by simp [results, Try.results6, go_sem]) rfl ?_
    rw [hwd.out]
    exact ⟨HBd.out, .inl ⟨HG.out, rfl⟩⟩
  cases bb
  · have HT := Lib.hid (byt_rt HNb.out (HDt.out rfl))
    rw [take_all hn.out] at HT
    have HG : Hid (frG 13 l = some ([v1, v2, 1], [l.drop k2], kb)) := by
      refine frG_of ?_ (by simp [opB])
      rw [show frT 13 l = Pst 13 l by simp [frT]]
      obtain ⟨rfl, hkb⟩ := byt_all hn.out (by omega) HNb.out
      obtain rfl := hkb rfl
      obtain ⟨rfl, e2'⟩ := num_f HN2.out
      obtain ⟨-, e1'⟩ := num_f HN1.out
      have e2 : Pof 13 l k1 = some (v2, k2) := by simp [Pof, e2']
      have e3 : Pda 13 l k2 = some (l.drop k2, l.length) := by simp [Pda]
      have hL : ((l.drop k2).length : Int) = ((n : Int) - (k2 : Int)) := by have := hn.out; rw [List.length_drop]; omega
      rw [Pst_of e1' e2 e3, if_neg (by omega)]
      rfl
    go_wp2_with fail
    rw [hwd.out]
    have z1 := HRd.out.cell1
    clear x1 x2 x3
    go_quiet (fail)
    go_wp2_with fail
    refine bodyPost_ret (v := .tuple #[.slice (some ⟨w1.heap.size, 0, none⟩) 3 3, .slice (some ⟨wb.heap.size, 0, none⟩) 1 1, .int .i64 (kb : Nat), .int .i64 0]) (by simp [results, Try.results6, go_sem]) rfl ?_
    exact ⟨below_drewN HBd.out _, .inr (.inr ⟨[v1, v2, 1], [l.drop k2], kb, _, 3, _, _, 1, _, HG.out, rfl, rfl, by omega, HVd.out.rd.drewN _, rfl, by omega, [(AD, m, cD)], HED.out.drewN _, rfl, Rts.one ((HT.out.below HBA.out).drewN _)⟩)⟩
  · have HT : Hid (frT 13 l = none) := by
      show _ = _
      rw [show frT 13 l = Pst 13 l by simp [frT]]
      obtain ⟨rfl, -⟩ := byt_all hn.out (by omega) HNb.out
      exact Pst_n2 rfl HN1.out HN2.out
    go_wp2_with fail
    rw [hwd.out]
    refine bodyPost_ret (v := .tuple #[.slice none 0 0, .slice none 0 0, .int .i64 0, .int .i64 1]) (by simp [results, Try.results6, go_sem]) rfl ?_
    exact ⟨HBd.out, .inr (.inl ⟨HT.out, rfl⟩)⟩

set_option maxRecDepth 100000 in
set_option maxHeartbeats 4000000 in
theorem sf14 (b o n c : Nat) (l : List Int) (w : World) (hr : Rd w (some ⟨b, o, none⟩) l) (hn : Hid (l.length = n)) (hnc : n ≤ c) (hc2 : c ≤ 9223372036854775807) (h1 : 1 ≤ n) (hn2 : n ≤ 4294967295) (h0 : w.cell? ⟨b, o, none⟩ = some (.int .u8 14)) :
    Calls Try.prog 6 #[.slice (some ⟨b, o, none⟩) n c] w fun e w' => SfEnd w 14 l e w' := by
  have hbl := World.block_lt_of_cell? _ _ h0
  simp only at hbl
  have hbg : Hid (b ≠ w.heap.size) := by show b ≠ _; omega
  obtain ⟨W0, hW0⟩ : ∃ W0, Hid (w.alloc (.cells #[.slice (some ⟨b, o, none⟩) n c, .int .i64 1, .bool false] 35 (0, 0)) = W0) := ⟨_, Lib.hid rfl⟩
  have HR0 : Hid (Rdr W0 w.heap.size (some ⟨b, o, none⟩) n c 1 false) := by show Rdr _ _ _ _ _ _ _; rw [← hW0.out]; exact Rdr.new w _ n c 1
  have HB0 : Hid (Below w.heap.size w W0) := by show Below _ _ _; rw [← hW0.out]; exact (Below.refl _ _).alloc (Nat.le_refl _) _
  have HL0 : Hid (Rd W0 (some ⟨b, o, none⟩) l) := hr.below HB0.out
  have hc0 : (w.alloc (.cells #[.slice (some ⟨b, o, none⟩) n c, .int .i64 1, .bool false] 35 (0, 0))).cell? ⟨b, o, none⟩ = some (.int .u8 14) := by rw [hW0.out]; exact (HB0.out.cell (p := ⟨b, o, none⟩) hbl).trans h0
  have HC0 := Lib.hid h0
  have hn0 : ((n : Int) == 0) = false := by simp; omega
  have hn1 : (0 : Int) < (n : Int) := by omega
  clear hr h0 hbl
  go_enter Try.func6, Try.ntmps6
  go_wp2_with fail
  rw [hW0.out]
  clear hc0
  have fb1 : bits .and .u8 14 1 = 0 := by decide
  have fb2 : bits .and .u8 14 2 = 2 := by decide
  have fb4 : bits .and .u8 14 4 = 4 := by decide
  have fw : wrap64 0 = 0 := IntWalk.wrap64_in 0 (by omega)
  refine (num_u b o n c 1 w.heap.size l false W0 HL0.out hn hnc hc2 (by omega) HR0.out).mono ?_
  rintro e w1 ⟨v1, k1, b1, rfl, hst, hrd, hg⟩
  have HN1 := Lib.hid hst
  have HR1 := Lib.hid hrd
  have HL1 := Lib.hid (HL0.out.grown hg (fun _ => sep_ne hbg.out))
  have HB1 := Lib.hid (below_g HB0.out hg)
  obtain ⟨g1, hk1, p1, q1, -⟩ := hst
  rw [hn.out] at hk1
  clear hrd hg
  obtain ⟨wv, hwv⟩ : ∃ wv, Hid (w1.alloc (.cells #[.int .i64 v1, .int .i64 0, .int .i64 0] 2 (0, 0)) = wv) := ⟨_, Lib.hid rfl⟩
  have HBv : Hid (Below w.heap.size w wv) := by show Below _ _ _; rw [← hwv.out]; exact HB1.out.alloc HB1.out.size _
  have HRv : Hid (Rdr wv w.heap.size (some ⟨b, o, none⟩) n c k1 b1) := by show Rdr _ _ _ _ _ _ _; rw [← hwv.out]; exact (heap_alloc_old _ _ HR1.out.lt).trans HR1.out
  have HLv : Hid (Rd wv (some ⟨b, o, none⟩) l) := by show Rd _ _ _; rw [← hwv.out]; exact HL1.out.alloc _
  have HVv : Hid (Vb3 wv w1.heap.size v1 0 0) := by show Vb3 _ _ _ _ _; rw [← hwv.out]; exact heap_alloc_new w1 _
  have hq : w.heap.size < w1.heap.size := HR1.out.lt
  have hbq : b < w1.heap.size := Nat.lt_trans (by have := World.block_lt_of_cell? _ _ HC0.out; exact this) hq
  go_wp2_with fail
  rw [hwv.out]
  refine (num_u b o n c k1 w.heap.size l b1 wv HLv.out hn hnc hc2 (by omega) HRv.out).mono ?_
  rintro e w2 ⟨v2, k2, b2, rfl, hst, hrd, hg⟩
  have HN2 := Lib.hid hst
  have HL2 := Lib.hid (HLv.out.grown hg (fun _ => sep_ne hbg.out))
  have HV2 := Lib.hid (HVv.out.grown hg (Nat.ne_of_gt hq))
  have HR2 := Lib.hid hrd
  have HB2 := Lib.hid (below_g HBv.out hg)
  obtain ⟨g2, hk2, p2, q2, -⟩ := hst
  rw [hn.out] at hk2
  obtain ⟨d1, f1⟩ := HV2.out.cel
  have hcg := cgrown w2 w1.heap.size 1 (.int .i64 v2)
  obtain ⟨ws, hws⟩ : ∃ ws, Hid (w2.setCell ⟨w1.heap.size, 1, none⟩ (.int .i64 v2) = ws) := ⟨_, Lib.hid rfl⟩
  have HVs : Hid (Vb3 ws w1.heap.size v1 v2 0) := by show Vb3 _ _ _ _ _; rw [← hws.out]; exact HV2.out.set v2
  have HRs : Hid (Rdr ws w.heap.size (some ⟨b, o, none⟩) n c k2 b2) := by show Rdr _ _ _ _ _ _ _; rw [← hws.out]; exact HR2.out.kept hcg (by simp; omega)
  have HLs : Hid (Rd ws (some ⟨b, o, none⟩) l) := by show Rd _ _ _; rw [← hws.out]; exact HL2.out.grown hcg (fun _ => sep_ne (Nat.ne_of_lt hbq))
  have HBs : Hid (Below w.heap.size w ws) := by show Below _ _ _; rw [← hws.out]; exact below_cell HB2.out (by have := HV2.out.lt; omega) _ _ _ (Nat.le_of_lt hq)
  have y1 : (w2.setCell ⟨w1.heap.size, 1, none⟩ (.int .i64 v2)).cell? ⟨w.heap.size, 1, none⟩ = some (.int .i64 (k2 : Nat)) := by rw [hws.out]; exact HRs.out.cell1
  have y2 : w2.cell? ⟨w.heap.size, 1, none⟩ = some (.int .i64 (k2 : Nat)) := HR2.out.cell1
  clear hrd hg hcg
  go_wp2_with fail
  rw [hws.out]
  clear y1 y2 d1 f1
  refine (num_u b o n c k2 w.heap.size l b2 ws HLs.out hn hnc hc2 (by omega) HRs.out).mono ?_
  rintro e w3 ⟨v3, k3, b3, rfl, hst, hrd, hg⟩
  have HN3 := Lib.hid hst
  have HR3 := Lib.hid hrd
  have HL3 := Lib.hid (HLs.out.grown hg (fun _ => sep_ne hbg.out))
  have HV3 := Lib.hid (HVs.out.grown hg (Nat.ne_of_gt hq))
  have HB3 := Lib.hid (below_g HBs.out hg)
  obtain ⟨g3, hk3, p3, q3, -⟩ := hst
  rw [hn.out] at hk3
  clear hrd hg
  go_wp2_with fail
  refine (byt_u b o n c k3 w.heap.size v3 l b3 w3 HL3.out hn hnc hc2 (by omega) p3 HR3.out hbg).mono ?_
  rintro e wb ⟨AD, m, cD, kb, bb, rfl, hst, hdat, hrd, hg⟩
  have HNb := Lib.hid hst
  have HRb := Lib.hid hrd
  have HBb := Lib.hid (below_g HB3.out hg)
  have HVb := Lib.hid (HV3.out.grown hg (Nat.ne_of_gt hq))
  have HDt := Lib.hid hdat
  obtain ⟨wd, hwd⟩ : ∃ wd, Hid (wb.alloc (.cells #[.slice AD m cD] 22 (0, 0)) = wd) := ⟨_, Lib.hid rfl⟩
  have HBd : Hid (Below w.heap.size w wd) := by show Below _ _ _; rw [← hwd.out]; exact HBb.out.alloc HBb.out.size _
  have HRd : Hid (Rdr wd w.heap.size (some ⟨b, o, none⟩) n c kb bb) := by show Rdr _ _ _ _ _ _ _; rw [← hwd.out]; exact (heap_alloc_old _ _ HRb.out.lt).trans HRb.out
  have HED : Hid (RdE EB wd (some ⟨wb.heap.size, 0, none⟩) [(AD, m, cD)]) := by show RdE _ _ _ _; rw [← hwd.out]; exact RdE.new (E := EB) wb [(AD, m, cD)] 22
  have HBA : Hid (Below wb.heap.size wb wd) := by show Below _ _ _; rw [← hwd.out]; exact (Below.refl _ _).alloc (Nat.le_refl _) _
  have HVd : Hid (Vb3 wd w1.heap.size v1 v2 0) := HVb.out.below HBA.out
  have x1 : (wb.alloc (.cells #[.slice AD m cD] 22 (0, 0))).cell? ⟨w.heap.size, 1, none⟩ = some (.int .i64 (kb : Nat)) := by rw [hwd.out]; exact HRd.out.cell1
  have x2 : (wb.alloc (.cells #[.slice AD m cD] 22 (0, 0))).cell? ⟨w.heap.size, 2, none⟩ = some (.bool bb) := by rw [hwd.out]; exact HRd.out.cell2
  have x3 : (wb.alloc (.cells #[.slice AD m cD] 22 (0, 0))).cell? ⟨w1.heap.size, 1, none⟩ = some (.int .i64 v2) := by rw [hwd.out]; exact HVd.out.cel.1
  clear hst hdat hrd hg
  by_cases hbig : 4611686018427387903 - v3 < v2
  · have HG : Hid (frG 14 l = none) := by
      refine frG_none ?_
      cases bb
      · rw [show frT 14 l = Pst 14 l by simp [frT]]
        obtain ⟨rfl, e3'⟩ := nb_f HN3.out HNb.out
        obtain ⟨rfl, e2'⟩ := num_f HN2.out
        obtain ⟨-, e1'⟩ := num_f HN1.out
        have e2 : Pof 14 l k1 = some (v2, k2) := by simp [Pof, e2']
        have e3 : Pda 14 l k2 = some ((l.drop k3).take v3.toNat, kb) := by simp [Pda, e3']
        have hL := byt_len HNb.out p3
        rw [Pst_of e1' e2 e3, if_pos (by omega)]
      · skip
        rw [show frT 14 l = Pst 14 l by simp [frT]]
        cases b2
        · obtain ⟨rfl, e2'⟩ := num_f HN2.out
          obtain ⟨-, e1'⟩ := num_f HN1.out
          exact Pst_d rfl e1' (show Pof 14 l k1 = some (v2, k2) by simp [Pof, e2']) HN3.out HNb.out
        · exact Pst_n2 rfl HN1.out HN2.out
    go_wp2_with fail
    refine bodyPost_ret (v := .tuple #[.slice none 0 0, .slice none 0 0, .int .i64 0, .int .i64 2]) (by simp [results, Try.results6, go_sem]) rfl ?_
    rw [hwd.out]
    exact ⟨HBd.out, .inl ⟨HG.out, rfl⟩⟩
  cases bb
  · have HT := Lib.hid (byt_rt HNb.out (HDt.out rfl))
    have HG : Hid (frG 14 l = some ([v1, v2, 0], [(l.drop k3).take v3.toNat], kb)) := by
      refine frG_of ?_ (by simp [opB])
      rw [show frT 14 l = Pst 14 l by simp [frT]]
      obtain ⟨rfl, e3'⟩ := nb_f HN3.out HNb.out
      obtain ⟨rfl, e2'⟩ := num_f HN2.out
      obtain ⟨-, e1'⟩ := num_f HN1.out
      have e2 : Pof 14 l k1 = some (v2, k2) := by simp [Pof, e2']
      have e3 : Pda 14 l k2 = some ((l.drop k3).take v3.toNat, kb) := by simp [Pda, e3']
      have hL := byt_len HNb.out p3
      rw [Pst_of e1' e2 e3, if_neg (by omega)]
      rfl
    go_wp2_with fail
    rw [hwd.out]
    have z1 := HRd.out.cell1
    clear x1 x2 x3
    go_quiet (fail)
    go_wp2_with fail
    refine bodyPost_ret (v := .tuple #[.slice (some ⟨w1.heap.size, 0, none⟩) 3 3, .slice (some ⟨wb.heap.size, 0, none⟩) 1 1, .int .i64 (kb : Nat), .int .i64 0]) (by simp [results, Try.results6, go_sem]) rfl ?_
    exact ⟨below_drewN HBd.out _, .inr (.inr ⟨[v1, v2, 0], [(l.drop k3).take v3.toNat], kb, _, 3, _, _, 1, _, HG.out, rfl, rfl, by omega, HVd.out.rd.drewN _, rfl, by omega, [(AD, m, cD)], HED.out.drewN _, rfl, Rts.one ((HT.out.below HBA.out).drewN _)⟩)⟩
  · have HT : Hid (frT 14 l = none) := by
      show _ = _
      rw [show frT 14 l = Pst 14 l by simp [frT]]
      cases b2
      · obtain ⟨rfl, e2'⟩ := num_f HN2.out
        obtain ⟨-, e1'⟩ := num_f HN1.out
        exact Pst_d rfl e1' (show Pof 14 l k1 = some (v2, k2) by simp [Pof, e2']) HN3.out HNb.out
      · exact Pst_n2 rfl HN1.out HN2.out
    go_wp2_with fail
    rw [hwd.out]
    refine bodyPost_ret (v := .tuple #[.slice none 0 0, .slice none 0 0, .int .i64 0, .int .i64 1]) (by simp [results, Try.results6, go_sem]) rfl ?_
    exact ⟨HBd.out, .inr (.inl ⟨HT.out, rfl⟩)⟩

set_option maxRecDepth 100000 in
set_option maxHeartbeats 4000000 in
theorem sf15 (b o n c : Nat) (l : List Int) (w : World) (hr : Rd w (some ⟨b, o, none⟩) l) (hn : Hid (l.length = n)) (hnc : n ≤ c) (hc2 : c ≤ 9223372036854775807) (h1 : 1 ≤ n) (hn2 : n ≤ 4294967295) (h0 : w.cell? ⟨b, o, none⟩ = some (.int .u8 15)) :
    Calls Try.prog 6 #[.slice (some ⟨b, o, none⟩) n c] w fun e w' => SfEnd w 15 l e w' := by
  have hbl := World.block_lt_of_cell? _ _ h0
  simp only at hbl
  have hbg : Hid (b ≠ w.heap.size) := by show b ≠ _; omega
  obtain ⟨W0, hW0⟩ : ∃ W0, Hid (w.alloc (.cells #[.slice (some ⟨b, o, none⟩) n c, .int .i64 1, .bool false] 35 (0, 0)) = W0) := ⟨_, Lib.hid rfl⟩
  have HR0 : Hid (Rdr W0 w.heap.size (some ⟨b, o, none⟩) n c 1 false) := by show Rdr _ _ _ _ _ _ _; rw [← hW0.out]; exact Rdr.new w _ n c 1
  have HB0 : Hid (Below w.heap.size w W0) := by show Below _ _ _; rw [← hW0.out]; exact (Below.refl _ _).alloc (Nat.le_refl _) _
  have HL0 : Hid (Rd W0 (some ⟨b, o, none⟩) l) := hr.below HB0.out
  have hc0 : (w.alloc (.cells #[.slice (some ⟨b, o, none⟩) n c, .int .i64 1, .bool false] 35 (0, 0))).cell? ⟨b, o, none⟩ = some (.int .u8 15) := by rw [hW0.out]; exact (HB0.out.cell (p := ⟨b, o, none⟩) hbl).trans h0
  have HC0 := Lib.hid h0
  have hn0 : ((n : Int) == 0) = false := by simp; omega
  have hn1 : (0 : Int) < (n : Int) := by omega
  clear hr h0 hbl
  go_enter Try.func6, Try.ntmps6
  go_wp2_with fail
  rw [hW0.out]
  clear hc0
  have fb1 : bits .and .u8 15 1 = 1 := by decide
  have fb2 : bits .and .u8 15 2 = 2 := by decide
  have fb4 : bits .and .u8 15 4 = 4 := by decide
  have fw : wrap64 1 = 1 := IntWalk.wrap64_in 1 (by omega)
  refine (num_u b o n c 1 w.heap.size l false W0 HL0.out hn hnc hc2 (by omega) HR0.out).mono ?_
  rintro e w1 ⟨v1, k1, b1, rfl, hst, hrd, hg⟩
  have HN1 := Lib.hid hst
  have HR1 := Lib.hid hrd
  have HL1 := Lib.hid (HL0.out.grown hg (fun _ => sep_ne hbg.out))
  have HB1 := Lib.hid (below_g HB0.out hg)
  obtain ⟨g1, hk1, p1, q1, -⟩ := hst
  rw [hn.out] at hk1
  clear hrd hg
  obtain ⟨wv, hwv⟩ : ∃ wv, Hid (w1.alloc (.cells #[.int .i64 v1, .int .i64 0, .int .i64 1] 2 (0, 0)) = wv) := ⟨_, Lib.hid rfl⟩
  have HBv : Hid (Below w.heap.size w wv) := by show Below _ _ _; rw [← hwv.out]; exact HB1.out.alloc HB1.out.size _
  have HRv : Hid (Rdr wv w.heap.size (some ⟨b, o, none⟩) n c k1 b1) := by show Rdr _ _ _ _ _ _ _; rw [← hwv.out]; exact (heap_alloc_old _ _ HR1.out.lt).trans HR1.out
  have HLv : Hid (Rd wv (some ⟨b, o, none⟩) l) := by show Rd _ _ _; rw [← hwv.out]; exact HL1.out.alloc _
  have HVv : Hid (Vb3 wv w1.heap.size v1 0 1) := by show Vb3 _ _ _ _ _; rw [← hwv.out]; exact heap_alloc_new w1 _
  have hq : w.heap.size < w1.heap.size := HR1.out.lt
  have hbq : b < w1.heap.size := Nat.lt_trans (by have := World.block_lt_of_cell? _ _ HC0.out; exact this) hq
  go_wp2_with fail
  rw [hwv.out]
  refine (num_u b o n c k1 w.heap.size l b1 wv HLv.out hn hnc hc2 (by omega) HRv.out).mono ?_
  rintro e w2 ⟨v2, k2, b2, rfl, hst, hrd, hg⟩
  have HN2 := Lib.hid hst
  have HL2 := Lib.hid (HLv.out.grown hg (fun _ => sep_ne hbg.out))
  have HV2 := Lib.hid (HVv.out.grown hg (Nat.ne_of_gt hq))
  have HR2 := Lib.hid hrd
  have HB2 := Lib.hid (below_g HBv.out hg)
  obtain ⟨g2, hk2, p2, q2, -⟩ := hst
  rw [hn.out] at hk2
  obtain ⟨d1, f1⟩ := HV2.out.cel
  have hcg := cgrown w2 w1.heap.size 1 (.int .i64 v2)
  obtain ⟨ws, hws⟩ : ∃ ws, Hid (w2.setCell ⟨w1.heap.size, 1, none⟩ (.int .i64 v2) = ws) := ⟨_, Lib.hid rfl⟩
  have HVs : Hid (Vb3 ws w1.heap.size v1 v2 1) := by show Vb3 _ _ _ _ _; rw [← hws.out]; exact HV2.out.set v2
  have HRs : Hid (Rdr ws w.heap.size (some ⟨b, o, none⟩) n c k2 b2) := by show Rdr _ _ _ _ _ _ _; rw [← hws.out]; exact HR2.out.kept hcg (by simp; omega)
  have HLs : Hid (Rd ws (some ⟨b, o, none⟩) l) := by show Rd _ _ _; rw [← hws.out]; exact HL2.out.grown hcg (fun _ => sep_ne (Nat.ne_of_lt hbq))
  have HBs : Hid (Below w.heap.size w ws) := by show Below _ _ _; rw [← hws.out]; exact below_cell HB2.out (by have := HV2.out.lt; omega) _ _ _ (Nat.le_of_lt hq)
  have y1 : (w2.setCell ⟨w1.heap.size, 1, none⟩ (.int .i64 v2)).cell? ⟨w.heap.size, 1, none⟩ = some (.int .i64 (k2 : Nat)) := by rw [hws.out]; exact HRs.out.cell1
  have y2 : w2.cell? ⟨w.heap.size, 1, none⟩ = some (.int .i64 (k2 : Nat)) := HR2.out.cell1
  clear hrd hg hcg
  go_wp2_with fail
  rw [hws.out]
  clear y1 y2 d1 f1
  refine (num_u b o n c k2 w.heap.size l b2 ws HLs.out hn hnc hc2 (by omega) HRs.out).mono ?_
  rintro e w3 ⟨v3, k3, b3, rfl, hst, hrd, hg⟩
  have HN3 := Lib.hid hst
  have HR3 := Lib.hid hrd
  have HL3 := Lib.hid (HLs.out.grown hg (fun _ => sep_ne hbg.out))
  have HV3 := Lib.hid (HVs.out.grown hg (Nat.ne_of_gt hq))
  have HB3 := Lib.hid (below_g HBs.out hg)
  obtain ⟨g3, hk3, p3, q3, -⟩ := hst
  rw [hn.out] at hk3
  clear hrd hg
  go_wp2_with fail
  refine (byt_u b o n c k3 w.heap.size v3 l b3 w3 HL3.out hn hnc hc2 (by omega) p3 HR3.out hbg).mono ?_
  rintro e wb ⟨AD, m, cD, kb, bb, rfl, hst, hdat, hrd, hg⟩
  have HNb := Lib.hid hst
  have HRb := Lib.hid hrd
  have HBb := Lib.hid (below_g HB3.out hg)
  have HVb := Lib.hid (HV3.out.grown hg (Nat.ne_of_gt hq))
  have HDt := Lib.hid hdat
  obtain ⟨wd, hwd⟩ : ∃ wd, Hid (wb.alloc (.cells #[.slice AD m cD] 22 (0, 0)) = wd) := ⟨_, Lib.hid rfl⟩
  have HBd : Hid (Below w.heap.size w wd) := by show Below _ _ _; rw [← hwd.out]; exact HBb.out.alloc HBb.out.size _
  have HRd : Hid (Rdr wd w.heap.size (some ⟨b, o, none⟩) n c kb bb) := by show Rdr _ _ _ _ _ _ _; rw [← hwd.out]; exact (heap_alloc_old _ _ HRb.out.lt).trans HRb.out
  have HED : Hid (RdE EB wd (some ⟨wb.heap.size, 0, none⟩) [(AD, m, cD)]) := by show RdE _ _ _ _; rw [← hwd.out]; exact RdE.new (E := EB) wb [(AD, m, cD)] 22
  have HBA : Hid (Below wb.heap.size wb wd) := by show Below _ _ _; rw [← hwd.out]; exact (Below.refl _ _).alloc (Nat.le_refl _) _
  have HVd : Hid (Vb3 wd w1.heap.size v1 v2 1) := HVb.out.below HBA.out
  have x1 : (wb.alloc (.cells #[.slice AD m cD] 22 (0, 0))).cell? ⟨w.heap.size, 1, none⟩ = some (.int .i64 (kb : Nat)) := by rw [hwd.out]; exact HRd.out.cell1
  have x2 : (wb.alloc (.cells #[.slice AD m cD] 22 (0, 0))).cell? ⟨w.heap.size, 2, none⟩ = some (.bool bb) := by rw [hwd.out]; exact HRd.out.cell2
  have x3 : (wb.alloc (.cells #[.slice AD m cD] 22 (0, 0))).cell? ⟨w1.heap.size, 1, none⟩ = some (.int .i64 v2) := by rw [hwd.out]; exact HVd.out.cel.1
  clear hst hdat hrd hg
  by_cases hbig : 4611686018427387903 - v3 < v2
  · have HG : Hid (frG 15 l = none) := by
      refine frG_none ?_
      cases bb
      · rw [show frT 15 l = Pst 15 l by simp [frT]]
        obtain ⟨rfl, e3'⟩ := nb_f HN3.out HNb.out
        obtain ⟨rfl, e2'⟩ := num_f HN2.out
        obtain ⟨-, e1'⟩ := num_f HN1.out
        have e2 : Pof 15 l k1 = some (v2, k2) := by simp [Pof, e2']
        have e3 : Pda 15 l k2 = some ((l.drop k3).take v3.toNat, kb) := by simp [Pda, e3']
        have hL := byt_len HNb.out p3
        rw [Pst_of e1' e2 e3, if_pos (by omega)]
      · skip
        rw [show frT 15 l = Pst 15 l by simp [frT]]
        cases b2
        · obtain ⟨rfl, e2'⟩ := num_f HN2.out
          obtain ⟨-, e1'⟩ := num_f HN1.out
          exact Pst_d rfl e1' (show Pof 15 l k1 = some (v2, k2) by simp [Pof, e2']) HN3.out HNb.out
        · exact Pst_n2 rfl HN1.out HN2.out
    go_wp2_with fail
    refine bodyPost_ret (v := .tuple #[.slice none 0 0, .slice none 0 0, .int .i64 0, .int .i64 2]) (by simp [results, Try.results6, go_sem]) rfl ?_
    rw [hwd.out]
    exact ⟨HBd.out, .inl ⟨HG.out, rfl⟩⟩
  cases bb
  · have HT := Lib.hid (byt_rt HNb.out (HDt.out rfl))
    have HG : Hid (frG 15 l = some ([v1, v2, 1], [(l.drop k3).take v3.toNat], kb)) := by
      refine frG_of ?_ (by simp [opB])
      rw [show frT 15 l = Pst 15 l by simp [frT]]
      obtain ⟨rfl, e3'⟩ := nb_f HN3.out HNb.out
      obtain ⟨rfl, e2'⟩ := num_f HN2.out
      obtain ⟨-, e1'⟩ := num_f HN1.out
      have e2 : Pof 15 l k1 = some (v2, k2) := by simp [Pof, e2']
      have e3 : Pda 15 l k2 = some ((l.drop k3).take v3.toNat, kb) := by simp [Pda, e3']
      have hL := byt_len HNb.out p3
      rw [Pst_of e1' e2 e3, if_neg (by omega)]
      rfl
    go_wp2_with fail
    rw [hwd.out]
    have z1 := HRd.out.cell1
    clear x1 x2 x3
    go_quiet (fail)
    go_wp2_with fail
    refine bodyPost_ret (v := .tuple #[.slice (some ⟨w1.heap.size, 0, none⟩) 3 3, .slice (some ⟨wb.heap.size, 0, none⟩) 1 1, .int .i64 (kb : Nat), .int .i64 0]) (by simp [results, Try.results6, go_sem]) rfl ?_
    exact ⟨below_drewN HBd.out _, .inr (.inr ⟨[v1, v2, 1], [(l.drop k3).take v3.toNat], kb, _, 3, _, _, 1, _, HG.out, rfl, rfl, by omega, HVd.out.rd.drewN _, rfl, by omega, [(AD, m, cD)], HED.out.drewN _, rfl, Rts.one ((HT.out.below HBA.out).drewN _)⟩)⟩
  · have HT : Hid (frT 15 l = none) := by
      show _ = _
      rw [show frT 15 l = Pst 15 l by simp [frT]]
      cases b2
      · obtain ⟨rfl, e2'⟩ := num_f HN2.out
        obtain ⟨-, e1'⟩ := num_f HN1.out
        exact Pst_d rfl e1' (show Pof 15 l k1 = some (v2, k2) by simp [Pof, e2']) HN3.out HNb.out
      · exact Pst_n2 rfl HN1.out HN2.out
    go_wp2_with fail
    rw [hwd.out]
    refine bodyPost_ret (v := .tuple #[.slice none 0 0, .slice none 0 0, .int .i64 0, .int .i64 1]) (by simp [results, Try.results6, go_sem]) rfl ?_
    exact ⟨HBd.out, .inr (.inl ⟨HT.out, rfl⟩)⟩

end Go.Proofs.Ytggcnepdeaijoaa

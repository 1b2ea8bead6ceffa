/- laws.FnParamsAreWritten: its walk. Conditions: the variables of netip read as told. -/
import Derived.Test.YtdjdcpcomhjnjaaDoorFit
import Derived.Test.YtdjdcpcomhjnjaaDoorAlk
import Derived.Test.YtdjdcpcomhjnjaaDoorPb
import Derived.Test.YtdjdcpcomhjnjaaDoorSprl
import Derived.Deep.RegionHeld3
namespace Go.Proofs.YtdjdcpcomhjnjaaDoor
open Go.RowKit
set_option linter.unusedVariables false
set_option linter.unusedSimpArgs false
theorem goodS_S {l : List Int} {S S' : SP} (h : GoodS l S) (h' : GoodS l S') : S = S' := by
  obtain ⟨ps, hp, _, rfl⟩ := h
  obtain ⟨qs, hq, _, rfl⟩ := h'
  rw [path_end hp hq]
theorem goodS_open {l : List Int} {S : SP} (h : GoodS l S) (h' : OpenS l) : False := by
  obtain ⟨ps, hp, hn, _⟩ := h
  obtain ⟨qs, hq, hn'⟩ := h'
  rw [path_end hp hq] at hn
  exact hn' hn
def q1 : QP := { qu with data := 1 }
def s1 : SP := { usual with data := 1 }
theorem q1_s1 (w : World) : Qp w q1 s1 := { Qp.usual w with data := rfl }
theorem fit_s1 : Fit s1 := ⟨⟨by decide, by decide, by decide, by decide, by decide, by decide, by decide, by decide, by decide, by decide, by decide, by decide, by decide, by decide, by decide, by decide, by decide⟩, by decide, by decide, by decide, .inl ⟨rfl, rfl, rfl, rfl⟩⟩
theorem len_s1 : (marq q1 s1).length = 3 := rfl
set_option maxRecDepth 1000000 in
set_option maxHeartbeats 8000000 in
theorem fnParamsAreWritten_walk (Q : QP) (S : SP) (w : World) (a4 a6 : Addr) (hq : Qp w Q S) (hg : Gl w a4 a6) :
    Calls Tryd.prog 6 #[.agg Q.cells] w fun e w' => e = .returned (.bool true) ∧ Below w.heap.size w w' := by
  have HB1 : Hid (Below w.heap.size w (w.alloc (.cells Q.cells 24 (0, 0)))) := (Below.refl _ _).alloc (Nat.le_refl _) _
  have HP := Lib.hid (heap_alloc_new w (.cells Q.cells 24 (0, 0)))
  have HQ := Lib.hid (hq.below HB1.out)
  have HG := Lib.hid (hg.below HB1.out (Nat.le_refl _))
  clear hq hg
  go_enter Tryd.func6, Tryd.ntmps6
  go_upto_region 1 with fail
  change Code.wp _ _ _ _ (w.alloc (.cells Q.cells 24 (0, 0)))
  obtain ⟨w1, hw1⟩ : ∃ w1, w.alloc (.cells Q.cells 24 (0, 0)) = w1 := ⟨_, rfl⟩
  rw [hw1] at HB1 HP HQ HG ⊢
  clear hw1
  refine wp_region_lit ?_
  refine wpList_load_mid (op := ⟨some 6, .load 24 (.tmp 1), _, _, _, none⟩) rfl 24 (.tmp 1) rfl w.heap.size 0 rfl Q.cells.toList _ (range_row HP.out) Tryd.underlying24 rfl (size_sq.trans (congrArg some (QP.size Q).symm)) ?_
  go_upto_if 8 with (go_at_call 11; refine (zf_wp Q w1).mono ?_; rintro e w2 ⟨y, rfl, H2⟩)
  cases y
  · go_wp2_with fail
    go_ret
    exact ⟨rfl, HB1.out.trans (H2.out.mono HB1.out.size)⟩
  have HP := Lib.hid ((H2.out.block _ (cell_in HP.out)).trans HP.out)
  have HQ := Lib.hid (HQ.out.below H2.out)
  have HG := Lib.hid (HG.out.below H2.out (Nat.le_refl _))
  have HB2 := Lib.hid (HB1.out.trans (H2.out.mono HB1.out.size))
  go_upto_region 3 with fail
  refine wp_region_lit ?_
  refine wpList_load_mid (op := ⟨some 9, .load 24 (.tmp 1), _, _, _, none⟩) rfl 24 (.tmp 1) rfl w.heap.size 0 rfl Q.cells.toList _ (range_row HP.out) Tryd.underlying24 rfl (size_sq.trans (congrArg some (QP.size Q).symm)) ?_
  go_upto_if 11 with (go_at_call 12; refine (fits_wp Q S w2 HQ.out).mono ?_; rintro e w3 ⟨y, rfl, H3⟩)
  cases y
  · go_wp2_with fail
    go_ret
    exact ⟨rfl, HB2.out.trans (H3.out.2.mono HB2.out.size)⟩
  have HF := Lib.hid (H3.out.1 rfl)
  have HP := Lib.hid ((H3.out.2.block _ (cell_in HP.out)).trans HP.out)
  have HQ := Lib.hid (HQ.out.below H3.out.2)
  have HG := Lib.hid (HG.out.below H3.out.2 (Nat.le_refl _))
  have HB3 := Lib.hid (HB2.out.trans (H3.out.2.mono HB2.out.size))
  clear H2 H3 HB1 HB2
  go_upto_region 5 with fail
  refine wp_region_lit ?_
  refine wpList_load_mid (op := ⟨some 13, .load 24 (.tmp 1), _, _, _, none⟩) rfl 24 (.tmp 1) rfl w.heap.size 0 rfl Q.cells.toList _ (range_row HP.out) Tryd.underlying24 rfl (size_sq.trans (congrArg some (QP.size Q).symm)) ?_
  go_upto_region 6 with (first | (go_at_call 10; refine (params_wp Q w3).mono ?_; rintro e w4 ⟨rfl, H4⟩; have HQ4 := Lib.hid (HQ.out.below H4.out); have HG4 := Lib.hid (HG.out.below H4.out (Nat.le_refl _))) | (go_at_call 14; refine (ip_wp Q S w4 a4 a6 HQ4.out HF.out.fit HG4.out).mono ?_; rintro e w5 ⟨s, rfl, H5⟩; obtain ⟨A5, c5, rfl, hr5, hc5, hm5, hz5⟩ := H5.out.1.rd; have HR5 := Lib.hid hr5; have HZ5 := Lib.hid hz5; have HL5 := Lib.hid (rfl : (marq Q S).length = (marq Q S).length); have hl5 := H5.out.2.2; obtain ⟨n5, hn5⟩ : ∃ n, (marq Q S).length = n := ⟨_, rfl⟩; rw [hn5] at hc5 hl5 ⊢; have HN5 := Lib.hid hn5; clear hr5 hz5 hn5 HL5; have hcm : c5 ≤ 9223372036854775807 := (by unfold maxLen at hm5; omega); have HG5 := Lib.hid (HG4.out.below H5.out.2.1 (Nat.le_refl _))) | (go_at_call 7; refine (sr_wp A5 n5 c5 (marq Q S) w5 HR5.out HN5 hc5 hcm (by omega)).mono ?_; rintro e w6 ⟨Q6, t6, rfl, H6, HB6⟩) | (refine wpList_store_mid (op := ⟨none, .store 24 (.tmp 3) (.tmp 17), _, _, _, none⟩) rfl 24 (.tmp 3) (.tmp 17) rfl w6.heap.size 0 Q6.cells rfl rfl (there_newq w6 qz 24) size_sq (QP.one Q6) ?_))
  have HW7 := Lib.hid (setCells_all (w := w6.alloc (.cells qz.cells 24 (0, 0))) (vs := Q6.cells) (heap_alloc_new w6 (.cells qz.cells 24 (0, 0))) rfl).1
  have HB7 : Hid (Below w6.heap.size w6 ((w6.alloc (.cells qz.cells 24 (0, 0))).setCells w6.heap.size 0 Q6.cells.toList)) := below_setCells (Nat.le_refl _) (Nat.le_refl _) _ _ ((Below.refl _ _).alloc (Nat.le_refl _) _)
  change Code.wp _ _ _ _ ((w6.alloc (.cells qz.cells 24 (0, 0))).setCells w6.heap.size 0 Q6.cells.toList)
  obtain ⟨w7, hw7⟩ : ∃ w7, ((w6.alloc (.cells qz.cells 24 (0, 0))).setCells w6.heap.size 0 Q6.cells.toList) = w7 := ⟨_, rfl⟩
  rw [hw7] at HW7 HB7 ⊢
  clear hw7
  have HB36 : Hid (Below w3.heap.size w3 w6) := Lib.hid (H4.out.trans ((H5.out.2.1.trans (HB6.out.mono H5.out.2.1.size)).mono H4.out.size))
  have HB37 : Hid (Below w3.heap.size w3 w7) := Lib.hid (HB36.out.trans (HB7.out.mono HB36.out.size))
  have HP7 := Lib.hid ((HB37.out.block _ (cell_in HP.out)).trans HP.out)
  have HQ7 := Lib.hid (HQ.out.below HB37.out)
  have HG7 := Lib.hid (HG.out.below HB37.out (Nat.le_refl _))
  rcases H6.out with ⟨rfl, S', hq6, hgs⟩ | ⟨rfl, hbad⟩ | ⟨rfl, hop⟩
  rotate_left
  · exact absurd hbad (goodS_bad (mar_good HF.out))
  · exact absurd hop (goodS_open (mar_good HF.out))
  have hSS := goodS_S (mar_good HF.out) hgs
  subst hSS
  have HQ6 := Lib.hid (hq6.below HB7.out)
  clear hq6 hgs H6 H4 H5
  go_upto_region 7 with (first | (go_at_call 15; refine (usual_wp _).mono ?_; rintro e w8 ⟨rfl, H8⟩) | (refine wpList_store_mid (op := ⟨none, .store 24 (.tmp 5) (.tmp 19), _, _, _, none⟩) rfl 24 (.tmp 5) (.tmp 19) rfl w8.heap.size 0 qu.cells rfl rfl (there_newq w8 qz 24) size_sq (QP.one qu) ?_))
  have HW9 := Lib.hid (setCells_all (w := w8.alloc (.cells qz.cells 24 (0, 0))) (vs := qu.cells) (heap_alloc_new w8 (.cells qz.cells 24 (0, 0))) rfl).1
  have HB9 : Hid (Below w8.heap.size w8 ((w8.alloc (.cells qz.cells 24 (0, 0))).setCells w8.heap.size 0 qu.cells.toList)) := below_setCells (Nat.le_refl _) (Nat.le_refl _) _ _ ((Below.refl _ _).alloc (Nat.le_refl _) _)
  change Code.wp _ _ _ _ ((w8.alloc (.cells qz.cells 24 (0, 0))).setCells w8.heap.size 0 qu.cells.toList)
  obtain ⟨w9, hw9⟩ : ∃ w9, ((w8.alloc (.cells qz.cells 24 (0, 0))).setCells w8.heap.size 0 qu.cells.toList) = w9 := ⟨_, rfl⟩
  rw [hw9] at HW9 HB9 ⊢
  clear hw9
  have u6 : w9.cell? ⟨w8.heap.size, 6, none⟩ = some (.int .i64 0) := (cell_of_row _ _ 6 _ _ (0, 0) HW9.out).trans rfl
  have f6 : w9.frozen? ⟨w8.heap.size, 6, none⟩ = false := cell_free 6 HW9.out
  go_upto_region 8 with fail
  have HZ := Lib.hid (cell_at 6 (.int .i64 1) HW9.out (r' := q1.cells) rfl)
  have HB9' : Hid (Below w8.heap.size w8 (w9.setCell ⟨w8.heap.size, 6, none⟩ (.int .i64 1))) := below_cell HB9.out HB9.out.size _ _ _ (Nat.le_refl _)
  obtain ⟨wA, hwA⟩ : ∃ wA, w9.setCell ⟨w8.heap.size, 6, none⟩ (.int .i64 1) = wA := ⟨_, rfl⟩
  rw [hwA] at HZ HB9' ⊢
  clear hwA u6 f6
  have HB7A := Lib.hid (H8.out.trans (HB9'.out.mono H8.out.size))
  have HX := Lib.hid ((HB7A.out.block _ (cell_in HW7.out)).trans HW7.out)
  have HY := Lib.hid ((HB7A.out.block _ (cell_in HP7.out)).trans HP7.out)
  have HQA := Lib.hid (HQ7.out.below HB7A.out)
  have HQ6 := Lib.hid (HQ6.out.below HB7A.out)
  have HGA := Lib.hid (HG7.out.below HB7A.out (Nat.le_refl _))
  have HB07 := Lib.hid (HB3.out.trans (HB37.out.mono HB3.out.size))
  have HB0A := Lib.hid (HB07.out.trans (HB7A.out.mono HB07.out.size))
  have hX := HX.out
  have hY := HY.out
  have hZ := HZ.out
  clear H8 HB9 HW9
  refine wp_region_held_drew (S := fun wx => wx.heap[w6.heap.size]? = some (.cells Q6.cells 24 (0, 0)) ∧ wx.heap[w.heap.size]? = some (.cells Q.cells 24 (0, 0)) ∧ wx.heap[w8.heap.size]? = some (.cells q1.cells 24 (0, 0))) (by kernel_rfl) (by exact ⟨hX, hY, hZ⟩) (fun hHeld => ?_)
  refine wpAnyH_take (i := 0) (v := ?v0) rfl (by kernel_rfl) (by kernel_rfl) (by kernel_rfl) (fun _ _ _ h => h) (Or.inl ⟨by rfl, ?hy0⟩) (by assumption) ?rest0
  case hy0 => (intro wq hSw; go_simp; try with_reducible rfl)
  try simp only [Act.put, List.setIfInBounds_toArray, List.set_cons_zero, List.set_cons_succ]
  refine wpAnyH_take (i := 1) (v := ?v1) rfl (by kernel_rfl) (by kernel_rfl) (by kernel_rfl) (fun _ _ _ h => h) (Or.inl ⟨by rfl, ?hy1⟩) (by assumption) ?rest1
  case hy1 => (intro wq hSw; go_simp; try with_reducible rfl)
  try simp only [Act.put, List.setIfInBounds_toArray, List.set_cons_zero, List.set_cons_succ]
  refine wpAnyH_take (i := 2) (v := ?v2) rfl (by kernel_rfl) (by kernel_rfl) (by kernel_rfl) (fun _ _ _ h => h) (Or.inl ⟨by rfl, ?hy2⟩) (by assumption) ?rest2
  case hy2 => (intro wq hSw; go_simp; try with_reducible rfl)
  try simp only [Act.put, List.setIfInBounds_toArray, List.set_cons_zero, List.set_cons_succ]
  refine wpAnyH_take (i := 3) (v := .agg Q6.cells.toList.toArray) rfl (by kernel_rfl) (by kernel_rfl) (by kernel_rfl) (fun _ _ _ h => h) (yieldsIf_load_mid (by rfl) 24 (.tmp 3) rfl w6.heap.size 0 rfl Q6.cells.toList _ (fun w hw => range_row hw.1) Tryd.underlying24 rfl (size_sq.trans (congrArg some (QP.size Q6).symm))) (by assumption) ?_
  try simp only [Act.put, List.setIfInBounds_toArray, List.set_cons_zero, List.set_cons_succ]
  refine wpAnyH_take (i := 5) (v := .agg Q.cells.toList.toArray) rfl (by kernel_rfl) (by kernel_rfl) (by kernel_rfl) (fun _ _ _ h => h) (yieldsIf_load_mid (by rfl) 24 (.tmp 1) rfl w.heap.size 0 rfl Q.cells.toList _ (fun w hw => range_row hw.2.1) Tryd.underlying24 rfl (size_sq.trans (congrArg some (QP.size Q).symm))) (by assumption) ?_
  try simp only [Act.put, List.setIfInBounds_toArray, List.set_cons_zero, List.set_cons_succ]
  refine wpAnyH_ready (rs := [4]) (by kernel_rfl) (by simp) (AllReadyH.cons rfl (fun K hK => ?_) AllReadyH.nil)
  go_simp
  go_at_call_of 10 (Value.agg Q6.cells); refine (params_wp Q6 _).mono ?_; rintro e wB ⟨rfl, HcB⟩
  have HBB : Hid (Below wA.heap.size wA wB) := Lib.hid ((below_drewN (Below.refl _ _) 1).trans HcB.out)
  refine hK.out _ _ (by exact ⟨(HBB.out.block _ (cell_in HX.out)).trans HX.out, (HBB.out.block _ (cell_in HY.out)).trans HY.out, (HBB.out.block _ (cell_in HZ.out)).trans HZ.out⟩) (fun hHeld => ?_)
  clear hK K
  try simp only [Act.put, List.setIfInBounds_toArray, List.set_cons_zero, List.set_cons_succ]
  refine wpAnyH_ready (rs := [6]) (by kernel_rfl) (by simp) (AllReadyH.cons rfl (fun K hK => ?_) AllReadyH.nil)
  go_simp
  go_at_call_of 10 (Value.agg Q.cells); refine (params_wp Q _).mono ?_; rintro e wC ⟨rfl, HcC⟩
  have HBC : Hid (Below wA.heap.size wA wC) := Lib.hid (HBB.out.trans (HcC.out.mono HBB.out.size))
  refine hK.out _ _ (by exact ⟨(HBC.out.block _ (cell_in HX.out)).trans HX.out, (HBC.out.block _ (cell_in HY.out)).trans HY.out, (HBC.out.block _ (cell_in HZ.out)).trans HZ.out⟩) (fun hHeld => ?_)
  clear hK K
  try simp only [Act.put, List.setIfInBounds_toArray, List.set_cons_zero, List.set_cons_succ]
  refine wpAnyH_ready (rs := [7]) (by kernel_rfl) (by simp) (AllReadyH.cons rfl (fun K hK => ?_) AllReadyH.nil)
  go_simp
  go_at_call_of 9 (Value.agg Q6.cells); refine (alike_wp Q6 Q S _ (HQ6.out.below HBC.out) (HQA.out.below HBC.out)).mono ?_; rintro e wD ⟨rfl, HcD⟩
  have HBD : Hid (Below wA.heap.size wA wD) := Lib.hid (HBC.out.trans (HcD.out.mono HBC.out.size))
  refine hK.out _ _ (by exact ⟨(HBD.out.block _ (cell_in HX.out)).trans HX.out, (HBD.out.block _ (cell_in HY.out)).trans HY.out, (HBD.out.block _ (cell_in HZ.out)).trans HZ.out⟩) (fun hHeld => ?_)
  clear hK K
  try simp only [Act.put, List.setIfInBounds_toArray, List.set_cons_zero, List.set_cons_succ]
  refine take_d (i := 8) 29 (.bool true) rfl rfl (by kernel_rfl) (by kernel_rfl) (by kernel_rfl) (fun _ _ _ h => h) (Or.inl ⟨by rfl, ?hy8⟩) (by assumption) ?rest8
  case hy8 => (intro wq hSw; go_simp; try with_reducible rfl)
  try simp only [Act.put, List.setIfInBounds_toArray, List.set_cons_zero, List.set_cons_succ]
  refine wpAnyH_take (i := 9) (v := ?v9) rfl (by kernel_rfl) (by kernel_rfl) (by kernel_rfl) (fun _ _ _ h => h) (Or.inl ⟨by rfl, ?hy9⟩) (by assumption) ?rest9
  case hy9 => (intro wq hSw; go_simp; try with_reducible rfl)
  try simp only [Act.put, List.setIfInBounds_toArray, List.set_cons_zero, List.set_cons_succ]
  refine wpAnyH_take (i := 10) (v := .agg q1.cells.toList.toArray) rfl (by kernel_rfl) (by kernel_rfl) (by kernel_rfl) (fun _ _ _ h => h) (yieldsIf_load_mid (by rfl) 24 (.tmp 5) rfl w8.heap.size 0 rfl q1.cells.toList _ (fun w hw => range_row hw.2.2) Tryd.underlying24 rfl (size_sq.trans (congrArg some (QP.size q1).symm))) (by assumption) ?_
  try simp only [Act.put, List.setIfInBounds_toArray, List.set_cons_zero, List.set_cons_succ]
  refine wpAnyH_ready (rs := [11]) (by kernel_rfl) (by simp) (AllReadyH.cons rfl (fun K hK => ?_) AllReadyH.nil)
  go_simp
  go_at_call_of 10 (Value.agg q1.cells); refine (params_wp q1 _).mono ?_; rintro e wE ⟨rfl, HcE⟩
  have HBE : Hid (Below wA.heap.size wA wE) := Lib.hid (HBD.out.trans (HcE.out.mono HBD.out.size))
  refine hK.out _ _ (by exact ⟨(HBE.out.block _ (cell_in HX.out)).trans HX.out, (HBE.out.block _ (cell_in HY.out)).trans HY.out, (HBE.out.block _ (cell_in HZ.out)).trans HZ.out⟩) (fun hHeld => ?_)
  clear hK K
  try simp only [Act.put, List.setIfInBounds_toArray, List.set_cons_zero, List.set_cons_succ]
  refine wpAnyH_ready (rs := [12]) (by kernel_rfl) (by simp) (AllReadyH.cons rfl (fun K hK => ?_) AllReadyH.nil)
  go_simp
  go_at_call_of 14 (Value.agg q1.cells); refine (ip_wp q1 s1 _ a4 a6 (q1_s1 _) fit_s1 (HGA.out.below HBE.out (Nat.le_refl _))).mono ?_; rintro e wF ⟨s, rfl, HcF⟩; obtain ⟨AF, cF, rfl, _⟩ := HcF.out.1.rd; rw [len_s1]
  have HBF : Hid (Below wA.heap.size wA wF) := Lib.hid (HBE.out.trans (HcF.out.2.1.mono HBE.out.size))
  refine hK.out _ _ (by exact ⟨(HBF.out.block _ (cell_in HX.out)).trans HX.out, (HBF.out.block _ (cell_in HY.out)).trans HY.out, (HBF.out.block _ (cell_in HZ.out)).trans HZ.out⟩) (fun hHeld => ?_)
  clear hK K
  try simp only [Act.put, List.setIfInBounds_toArray, List.set_cons_zero, List.set_cons_succ]
  refine take_d (i := 13) 34 (.int .i64 3) rfl rfl (by kernel_rfl) (by kernel_rfl) (by kernel_rfl) (fun _ _ _ h => h) (Or.inl ⟨by rfl, ?hy13⟩) (by assumption) ?rest13
  case hy13 => (intro wq hSw; go_simp; try with_reducible rfl)
  try simp only [Act.put, List.setIfInBounds_toArray, List.set_cons_zero, List.set_cons_succ]
  refine take_d (i := 14) 35 (.bool true) rfl rfl (by kernel_rfl) (by kernel_rfl) (by kernel_rfl) (fun _ _ _ h => h) (Or.inl ⟨by rfl, ?hy14⟩) (by assumption) ?rest14
  case hy14 => (intro wq hSw; go_simp; try with_reducible rfl)
  try simp only [Act.put, List.setIfInBounds_toArray, List.set_cons_zero, List.set_cons_succ]
  refine take_d (i := 15) 36 (.bool true) rfl rfl (by kernel_rfl) (by kernel_rfl) (by kernel_rfl) (fun _ _ _ h => h) (Or.inl ⟨by rfl, ?hy15⟩) (by assumption) ?rest15
  case hy15 => (intro wq hSw; go_simp; try with_reducible rfl)
  try simp only [Act.put, List.setIfInBounds_toArray, List.set_cons_zero, List.set_cons_succ]
  refine take_d (i := 16) 2 (.bool true) rfl rfl (by kernel_rfl) (by kernel_rfl) (by kernel_rfl) (fun _ _ _ h => h) (Or.inl ⟨by rfl, ?hy16⟩) (by assumption) ?rest16
  case hy16 => (intro wq hSw; go_simp; try with_reducible rfl)
  try simp only [Act.put, List.setIfInBounds_toArray, List.set_cons_zero, List.set_cons_succ]
  refine wpAnyH_done (by kernel_rfl) ?_ _
  go_wp2_with fail
  go_ret
  exact ⟨rfl, HB0A.out.trans (HBF.out.mono HB0A.out.size)⟩

end Go.Proofs.YtdjdcpcomhjnjaaDoor

/- laws.FnParamsComeBack: its walk. Conditions: the variables of netip read as told. -/
import Derived.Test.YtdjdcpcomhjnjaaDoorFit
import Derived.Test.YtdjdcpcomhjnjaaDoorAlk
import Derived.Deep.RegionHeld3
namespace Go.Proofs.YtdjdcpcomhjnjaaDoor
open Go.RowKit
set_option linter.unusedVariables false
set_option linter.unusedSimpArgs false
set_option maxRecDepth 1000000 in
set_option maxHeartbeats 8000000 in
/-- laws.zzFits1: it answers. -/
theorem zf_wp (Q : QP) (w : World) : Calls Tryd.prog 11 #[.agg Q.cells] w fun e w' => ∃ y : Bool, e = .returned (.bool y) ∧ Hid (Below w.heap.size w w') := by
  have HB : Hid (Below w.heap.size w (w.alloc (.cells Q.cells 24 (0, 0)))) := (Below.refl _ _).alloc (Nat.le_refl _) _
  have hP := heap_alloc_new w (.cells Q.cells 24 (0, 0))
  go_enter Tryd.func11, Tryd.ntmps11
  go_upto_region 1 with fail
  change Code.wp _ _ _ _ (w.alloc (.cells Q.cells 24 (0, 0)))
  obtain ⟨w1, hw1⟩ : ∃ w1, w.alloc (.cells Q.cells 24 (0, 0)) = w1 := ⟨_, rfl⟩
  rw [hw1] at HB hP ⊢
  clear hw1
  obtain ⟨A0, n0, c0, u0⟩ : ∃ A n c, w1.cell? ⟨w.heap.size, 0, none⟩ = some (.slice A n c) := ⟨Q.od.1, Q.od.2.1, Q.od.2.2, (cell_of_row _ _ 0 _ _ (0, 0) hP).trans rfl⟩
  obtain ⟨A1, n1, c1, u1⟩ : ∃ A n c, w1.cell? ⟨w.heap.size, 1, none⟩ = some (.slice A n c) := ⟨Q.rt.1, Q.rt.2.1, Q.rt.2.2, (cell_of_row _ _ 1 _ _ (0, 0) hP).trans rfl⟩
  obtain ⟨A2, n2, c2, u2⟩ : ∃ A n c, w1.cell? ⟨w.heap.size, 2, none⟩ = some (.slice A n c) := ⟨Q.is.1, Q.is.2.1, Q.is.2.2, (cell_of_row _ _ 2 _ _ (0, 0) hP).trans rfl⟩
  obtain ⟨A3, n3, c3, u3⟩ : ∃ A n c, w1.cell? ⟨w.heap.size, 3, none⟩ = some (.slice A n c) := ⟨Q.rs.1, Q.rs.2.1, Q.rs.2.2, (cell_of_row _ _ 3 _ _ (0, 0) hP).trans rfl⟩
  obtain ⟨A15, n15, c15, u15⟩ : ∃ A n c, w1.cell? ⟨w.heap.size, 15, none⟩ = some (.slice A n c) := ⟨Q.v4.1, Q.v4.2.1, Q.v4.2.2, (cell_of_row _ _ 15 _ _ (0, 0) hP).trans rfl⟩
  obtain ⟨A16, n16, c16, u16⟩ : ∃ A n c, w1.cell? ⟨w.heap.size, 16, none⟩ = some (.slice A n c) := ⟨Q.v6.1, Q.v6.2.1, Q.v6.2.2, (cell_of_row _ _ 16 _ _ (0, 0) hP).trans rfl⟩
  obtain ⟨A19, n19, c19, u19⟩ : ∃ A n c, w1.cell? ⟨w.heap.size, 19, none⟩ = some (.slice A n c) := ⟨Q.pid.1, Q.pid.2.1, Q.pid.2.2, (cell_of_row _ _ 19 _ _ (0, 0) hP).trans rfl⟩
  obtain ⟨A20, n20, c20, u20⟩ : ∃ A n c, w1.cell? ⟨w.heap.size, 20, none⟩ = some (.slice A n c) := ⟨Q.ptok.1, Q.ptok.2.1, Q.ptok.2.2, (cell_of_row _ _ 20 _ _ (0, 0) hP).trans rfl⟩
  clear hP
  by_cases h0 : (2147483647 : Int) < (n0 : Int)
  · go_wp2_with fail
    go_ret
    first | exact ⟨_, rfl, HB.out⟩ | exact ⟨.inl rfl, HB.out⟩ | exact ⟨.inr rfl, HB.out⟩ | exact .inl ⟨rfl, HB.out⟩ | exact .inr ⟨rfl, HB.out⟩
  by_cases h1 : (2147483647 : Int) < (n1 : Int)
  · go_wp2_with fail
    go_ret
    first | exact ⟨_, rfl, HB.out⟩ | exact ⟨.inl rfl, HB.out⟩ | exact ⟨.inr rfl, HB.out⟩ | exact .inl ⟨rfl, HB.out⟩ | exact .inr ⟨rfl, HB.out⟩
  by_cases h2 : (2147483647 : Int) < (n2 : Int)
  · go_wp2_with fail
    go_ret
    first | exact ⟨_, rfl, HB.out⟩ | exact ⟨.inl rfl, HB.out⟩ | exact ⟨.inr rfl, HB.out⟩ | exact .inl ⟨rfl, HB.out⟩ | exact .inr ⟨rfl, HB.out⟩
  by_cases h3 : (2147483647 : Int) < (n3 : Int)
  · go_wp2_with fail
    go_ret
    first | exact ⟨_, rfl, HB.out⟩ | exact ⟨.inl rfl, HB.out⟩ | exact ⟨.inr rfl, HB.out⟩ | exact .inl ⟨rfl, HB.out⟩ | exact .inr ⟨rfl, HB.out⟩
  by_cases h15 : (2147483647 : Int) < (n15 : Int)
  · go_wp2_with fail
    go_ret
    first | exact ⟨_, rfl, HB.out⟩ | exact ⟨.inl rfl, HB.out⟩ | exact ⟨.inr rfl, HB.out⟩ | exact .inl ⟨rfl, HB.out⟩ | exact .inr ⟨rfl, HB.out⟩
  by_cases h16 : (2147483647 : Int) < (n16 : Int)
  · go_wp2_with fail
    go_ret
    first | exact ⟨_, rfl, HB.out⟩ | exact ⟨.inl rfl, HB.out⟩ | exact ⟨.inr rfl, HB.out⟩ | exact .inl ⟨rfl, HB.out⟩ | exact .inr ⟨rfl, HB.out⟩
  by_cases h19 : (2147483647 : Int) < (n19 : Int)
  · go_wp2_with fail
    go_ret
    first | exact ⟨_, rfl, HB.out⟩ | exact ⟨.inl rfl, HB.out⟩ | exact ⟨.inr rfl, HB.out⟩ | exact .inl ⟨rfl, HB.out⟩ | exact .inr ⟨rfl, HB.out⟩
  by_cases h20 : (2147483647 : Int) < (n20 : Int)
  · go_wp2_with fail
    go_ret
    first | exact ⟨_, rfl, HB.out⟩ | exact ⟨.inl rfl, HB.out⟩ | exact ⟨.inr rfl, HB.out⟩ | exact .inl ⟨rfl, HB.out⟩ | exact .inr ⟨rfl, HB.out⟩
  go_wp2_with fail
  go_ret
  first | exact ⟨_, rfl, HB.out⟩ | exact ⟨.inl rfl, HB.out⟩ | exact ⟨.inr rfl, HB.out⟩ | exact .inl ⟨rfl, HB.out⟩ | exact .inr ⟨rfl, HB.out⟩
set_option maxRecDepth 1000000 in
set_option maxHeartbeats 8000000 in
theorem fnParamsComeBack_walk (Q : QP) (S : SP) (w : World) (a4 a6 : Addr) (hq : Qp w Q S) (hg : Gl w a4 a6) :
    Calls Tryd.prog 5 #[.agg Q.cells] w fun e w' => e = .returned (.bool true) ∧ Below w.heap.size w w' := by
  have HB1 : Hid (Below w.heap.size w (w.alloc (.cells Q.cells 24 (0, 0)))) := (Below.refl _ _).alloc (Nat.le_refl _) _
  have HP := Lib.hid (heap_alloc_new w (.cells Q.cells 24 (0, 0)))
  have HQ := Lib.hid (hq.below HB1.out)
  have HG := Lib.hid (hg.below HB1.out (Nat.le_refl _))
  clear hq hg
  go_enter Tryd.func5, Tryd.ntmps5
  go_upto_region 1 with fail
  change Code.wp _ _ _ _ (w.alloc (.cells Q.cells 24 (0, 0)))
  obtain ⟨w1, hw1⟩ : ∃ w1, w.alloc (.cells Q.cells 24 (0, 0)) = w1 := ⟨_, rfl⟩
  rw [hw1] at HB1 HP HQ HG ⊢
  clear hw1
  refine wp_region_lit ?_
  refine wpList_load_mid (op := ⟨some 5, .load 24 (.tmp 1), _, _, _, none⟩) rfl 24 (.tmp 1) rfl w.heap.size 0 rfl Q.cells.toList _ (range_row HP.out) Tryd.underlying24 rfl (size_sq.trans (congrArg some (QP.size Q).symm)) ?_
  go_upto_if 7 with (go_at_call 11; refine (zf_wp Q w1).mono ?_; rintro e w2 ⟨y, rfl, H2⟩)
  cases y
  · go_wp2_with fail
    go_ret
    exact ⟨rfl, HB1.out.trans (H2.out.mono HB1.out.size)⟩
  have HP := Lib.hid ((H2.out.block _ (cell_in HP.out)).trans HP.out)
  have HQ := Lib.hid (HQ.out.below H2.out)
  have HG := Lib.hid (HG.out.below H2.out (Nat.le_refl _))
  have HB2 := Lib.hid (HB1.out.trans (H2.out.mono HB1.out.size))
  go_upto_region 3 with fail
  refine wp_region_lit ?_
  refine wpList_load_mid (op := ⟨some 8, .load 24 (.tmp 1), _, _, _, none⟩) rfl 24 (.tmp 1) rfl w.heap.size 0 rfl Q.cells.toList _ (range_row HP.out) Tryd.underlying24 rfl (size_sq.trans (congrArg some (QP.size Q).symm)) ?_
  go_upto_if 10 with (go_at_call 12; refine (fits_wp Q S w2 HQ.out).mono ?_; rintro e w3 ⟨y, rfl, H3⟩)
  cases y
  · go_wp2_with fail
    go_ret
    exact ⟨rfl, HB2.out.trans (H3.out.2.mono HB2.out.size)⟩
  have HF := Lib.hid (H3.out.1 rfl)
  have HP := Lib.hid ((H3.out.2.block _ (cell_in HP.out)).trans HP.out)
  have HQ := Lib.hid (HQ.out.below H3.out.2)
  have HG := Lib.hid (HG.out.below H3.out.2 (Nat.le_refl _))
  have HB3 := Lib.hid (HB2.out.trans (H3.out.2.mono HB2.out.size))
  clear H2 H3 HB1 HB2
  go_upto_region 5 with fail
  refine wp_region_lit ?_
  refine wpList_load_mid (op := ⟨some 12, .load 24 (.tmp 1), _, _, _, none⟩) rfl 24 (.tmp 1) rfl w.heap.size 0 rfl Q.cells.toList _ (range_row HP.out) Tryd.underlying24 rfl (size_sq.trans (congrArg some (QP.size Q).symm)) ?_
  go_upto_region 6 with (first | (go_at_call 10; refine (params_wp Q w3).mono ?_; rintro e w4 ⟨rfl, H4⟩; have HQ4 := Lib.hid (HQ.out.below H4.out); have HG4 := Lib.hid (HG.out.below H4.out (Nat.le_refl _))) | (go_at_call 14; refine (ip_wp Q S w4 a4 a6 HQ4.out HF.out.fit HG4.out).mono ?_; rintro e w5 ⟨s, rfl, H5⟩; obtain ⟨A5, c5, rfl, hr5, hc5, hm5, hz5⟩ := H5.out.1.rd; have HR5 := Lib.hid hr5; have HZ5 := Lib.hid hz5; have HL5 := Lib.hid (rfl : (marq Q S).length = (marq Q S).length); have hl5 := H5.out.2.2; obtain ⟨n5, hn5⟩ : ∃ n, (marq Q S).length = n := ⟨_, rfl⟩; rw [hn5] at hc5 hl5 ⊢; have HN5 := Lib.hid hn5; clear hr5 hz5 hn5 HL5; have hcm : c5 ≤ 9223372036854775807 := (by unfold maxLen at hm5; omega); have HG5 := Lib.hid (HG4.out.below H5.out.2.1 (Nat.le_refl _))) | (go_at_call 8; refine (ir_wp A5 n5 c5 (marq Q S) w5 a4 a6 HR5.out HN5 hc5 hcm (by omega) (Lib.hid fun e => (HZ5.out e).2) HG5.out).mono ?_; rintro e w6 ⟨Q6, y6, rfl, H6, HB6⟩) | (refine wpList_store_mid (op := ⟨none, .store 27 (.tmp 3) (.tmp 16), _, _, _, none⟩) rfl 27 (.tmp 3) (.tmp 16) rfl w6.heap.size 0 Q6.cells rfl rfl (there_newq w6 qz 27) size_iq (QP.one Q6) ?_))
  have HW7 := Lib.hid (setCells_all (w := w6.alloc (.cells qz.cells 27 (0, 0))) (vs := Q6.cells) (heap_alloc_new w6 (.cells qz.cells 27 (0, 0))) rfl).1
  have HB7 : Hid (Below w6.heap.size w6 ((w6.alloc (.cells qz.cells 27 (0, 0))).setCells w6.heap.size 0 Q6.cells.toList)) := below_setCells (Nat.le_refl _) (Nat.le_refl _) _ _ ((Below.refl _ _).alloc (Nat.le_refl _) _)
  change Code.wp _ _ _ _ ((w6.alloc (.cells qz.cells 27 (0, 0))).setCells w6.heap.size 0 Q6.cells.toList)
  obtain ⟨w7, hw7⟩ : ∃ w7, ((w6.alloc (.cells qz.cells 27 (0, 0))).setCells w6.heap.size 0 Q6.cells.toList) = w7 := ⟨_, rfl⟩
  rw [hw7] at HW7 HB7 ⊢
  clear hw7
  have HB36 : Hid (Below w3.heap.size w3 w6) := Lib.hid (H4.out.trans ((H5.out.2.1.trans (HB6.out.mono H5.out.2.1.size)).mono H4.out.size))
  have HB37 : Hid (Below w3.heap.size w3 w7) := Lib.hid (HB36.out.trans (HB7.out.mono HB36.out.size))
  have HB07 := Lib.hid (HB3.out.trans (HB37.out.mono HB3.out.size))
  have HP7 := Lib.hid ((HB37.out.block _ (cell_in HP.out)).trans HP.out)
  have HQ7 := Lib.hid (HQ.out.below HB37.out)
  rcases H6.out with ⟨rfl, S', hq6, hgi⟩ | ⟨rfl, hbad⟩
  rotate_left
  · exact absurd hbad (goodS_bad (mar_good HF.out))
  have hSS := goodS_I (mar_good HF.out) hgi
  subst hSS
  have HQ6 := Lib.hid (hq6.below HB7.out)
  have hW7 := HW7.out
  have hP7 := HP7.out
  clear hq6 hgi H6 H4 H5
  refine wp_region_held_drew (S := fun wx => wx.heap[w6.heap.size]? = some (.cells Q6.cells 27 (0, 0)) ∧ wx.heap[w.heap.size]? = some (.cells Q.cells 24 (0, 0))) (by kernel_rfl) (by exact ⟨hW7, hP7⟩) (fun hHeld => ?_)
  refine wpAnyH_take (i := 0) (v := ?v0) rfl (by kernel_rfl) (by kernel_rfl) (by kernel_rfl) (fun _ _ _ h => h) (Or.inl ⟨by rfl, ?hy0⟩) (by assumption) ?rest0
  case hy0 => (intro wq hSw; go_simp; try with_reducible rfl)
  try simp only [Act.put, List.setIfInBounds_toArray, List.set_cons_zero, List.set_cons_succ]
  refine wpAnyH_take (i := 1) (v := ?v1) rfl (by kernel_rfl) (by kernel_rfl) (by kernel_rfl) (fun _ _ _ h => h) (Or.inl ⟨by rfl, ?hy1⟩) (by assumption) ?rest1
  case hy1 => (intro wq hSw; go_simp; try with_reducible rfl)
  try simp only [Act.put, List.setIfInBounds_toArray, List.set_cons_zero, List.set_cons_succ]
  refine wpAnyH_take (i := 2) (v := .agg Q6.cells.toList.toArray) rfl (by kernel_rfl) (by kernel_rfl) (by kernel_rfl) (fun _ _ _ h => h) (yieldsIf_load_mid (by rfl) 27 (.tmp 3) rfl w6.heap.size 0 rfl Q6.cells.toList _ (fun w hw => range_row hw.1) Tryd.underlying27 rfl (size_iq.trans (congrArg some (QP.size Q6).symm))) (by assumption) ?_
  try simp only [Act.put, List.setIfInBounds_toArray, List.set_cons_zero, List.set_cons_succ]
  refine wpAnyH_take (i := 3) (v := .agg Q.cells.toList.toArray) rfl (by kernel_rfl) (by kernel_rfl) (by kernel_rfl) (fun _ _ _ h => h) (yieldsIf_load_mid (by rfl) 24 (.tmp 1) rfl w.heap.size 0 rfl Q.cells.toList _ (fun w hw => range_row hw.2) Tryd.underlying24 rfl (size_sq.trans (congrArg some (QP.size Q).symm))) (by assumption) ?_
  try simp only [Act.put, List.setIfInBounds_toArray, List.set_cons_zero, List.set_cons_succ]
  refine wpAnyH_ready (rs := [4]) (by kernel_rfl) (by simp) (AllReadyH.cons rfl (fun K hK => ?_) AllReadyH.nil)
  go_simp
  go_at_call_of 10 (Value.agg Q.cells); refine (params_wp Q _).mono ?_; rintro e w8 ⟨rfl, H8⟩
  have HB8 : Hid (Below w7.heap.size w7 w8) := Lib.hid ((below_drewN (Below.refl _ _) 1).trans H8.out)
  refine hK.out _ _ (by exact ⟨(HB8.out.block _ (cell_in HW7.out)).trans HW7.out, (HB8.out.block _ (cell_in HP7.out)).trans HP7.out⟩) (fun hHeld => ?_)
  clear hK K
  try simp only [Act.put, List.setIfInBounds_toArray, List.set_cons_zero, List.set_cons_succ]
  refine wpAnyH_ready (rs := [5]) (by kernel_rfl) (by simp) (AllReadyH.cons rfl (fun K hK => ?_) AllReadyH.nil)
  go_simp
  go_at_call_of 9 (Value.agg Q6.cells); refine (alike_wp Q6 Q S _ (HQ6.out.below HB8.out) (HQ7.out.below HB8.out)).mono ?_; rintro e w9 ⟨rfl, H9⟩
  have HB9 : Hid (Below w7.heap.size w7 w9) := Lib.hid (HB8.out.trans (H9.out.mono HB8.out.size))
  refine hK.out _ _ (by exact ⟨(HB9.out.block _ (cell_in HW7.out)).trans HW7.out, (HB9.out.block _ (cell_in HP7.out)).trans HP7.out⟩) (fun hHeld => ?_)
  clear hK K
  try simp only [Act.put, List.setIfInBounds_toArray, List.set_cons_zero, List.set_cons_succ]
  refine take_d (i := 6) 24 (.bool true) rfl rfl (by kernel_rfl) (by kernel_rfl) (by kernel_rfl) (fun _ _ _ h => h) (Or.inl ⟨by rfl, ?hy6⟩) (by assumption) ?rest6
  case hy6 => (intro wq hSw; go_simp; try with_reducible rfl)
  try simp only [Act.put, List.setIfInBounds_toArray, List.set_cons_zero, List.set_cons_succ]
  refine take_d (i := 7) 2 (.bool true) rfl rfl (by kernel_rfl) (by kernel_rfl) (by kernel_rfl) (fun _ _ _ h => h) (Or.inl ⟨by rfl, ?hy7⟩) (by assumption) ?rest7
  case hy7 => (intro wq hSw; go_simp; try with_reducible rfl)
  try simp only [Act.put, List.setIfInBounds_toArray, List.set_cons_zero, List.set_cons_succ]
  refine wpAnyH_done (by kernel_rfl) ?_ _
  go_wp2_with fail
  go_ret
  exact ⟨rfl, HB07.out.trans (HB9.out.mono HB07.out.size)⟩

end Go.Proofs.YtdjdcpcomhjnjaaDoor

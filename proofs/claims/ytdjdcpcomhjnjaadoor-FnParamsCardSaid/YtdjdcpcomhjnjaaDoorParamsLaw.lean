/- laws.FnParams: its walk. Conditions: the variables of netip read as told. -/
import Derived.Test.YtdjdcpcomhjnjaaDoorAlk
import Derived.Test.YtdjdcpcomhjnjaaDoorSprl
import Derived.Deep.RegionHeld3
namespace Go.Proofs.YtdjdcpcomhjnjaaDoor
open Go.RowKit
set_option linter.unusedVariables false
set_option linter.unusedSimpArgs false
set_option maxRecDepth 1000000 in
set_option maxHeartbeats 8000000 in
theorem fnParams_walk (A : Option Addr) (n c : Nat) (l : List Int) (w : World) (a4 a6 : Addr) (hr : Rd w A l) (hn : Hid (l.length = n)) (hnc : n ≤ c) (hc2 : c ≤ 9223372036854775807) (hz : Hid (A = none → c = 0)) (hg : Gl w a4 a6) :
    Calls Tryd.prog 3 #[.slice A n c] w fun e w' => e = .returned (.bool true) ∧ Below w.heap.size w w' := by
  have HG := Lib.hid hg
  have HR := Lib.hid hr
  clear hg hr
  by_cases hbig : 2147483647 < n
  · have hbi : (2147483647 : Int) < (n : Int) := by omega
    go_enter Tryd.func3, Tryd.ntmps3
    go_wp2_with fail
    go_ret
    exact ⟨rfl, Below.refl _ _⟩
  have hbi : ¬ (2147483647 : Int) < (n : Int) := by omega
  go_enter Tryd.func3, Tryd.ntmps3
  go_upto_region 4 with (first | (go_at_call 7; refine (sr_wp A n c l w HR.out hn hnc hc2 (by omega)).mono ?_; rintro e w1 ⟨Q1, t, rfl, H1, HB1⟩) | (refine wpList_store_mid (op := ⟨none, .store 24 (.tmp 3) (.tmp 13), _, _, _, none⟩) rfl 24 (.tmp 3) (.tmp 13) rfl w1.heap.size 0 Q1.cells rfl rfl (there_newq w1 qz 24) size_sq (QP.one Q1) ?_))
  have HW2 := Lib.hid (setCells_all (w := w1.alloc (.cells qz.cells 24 (0, 0))) (vs := Q1.cells) (heap_alloc_new w1 (.cells qz.cells 24 (0, 0))) rfl).1
  have HB2 : Hid (Below w1.heap.size w1 ((w1.alloc (.cells qz.cells 24 (0, 0))).setCells w1.heap.size 0 Q1.cells.toList)) := below_setCells (Nat.le_refl _) (Nat.le_refl _) _ _ ((Below.refl _ _).alloc (Nat.le_refl _) _)
  change Code.wp _ _ _ _ ((w1.alloc (.cells qz.cells 24 (0, 0))).setCells w1.heap.size 0 Q1.cells.toList)
  obtain ⟨w2, hw2⟩ : ∃ w2, ((w1.alloc (.cells qz.cells 24 (0, 0))).setCells w1.heap.size 0 Q1.cells.toList) = w2 := ⟨_, rfl⟩
  rw [hw2] at HW2 HB2 ⊢
  clear hw2
  have HB12 := Lib.hid (HB1.out.trans (HB2.out.mono HB1.out.size))
  have hs2 : w1.heap.size < w2.heap.size := cell_in HW2.out
  by_cases hm : 65536 < n
  · have hmi : (65536 : Int) < (n : Int) := by omega
    rcases H1.out with ⟨rfl, _⟩ | ⟨rfl, _⟩ | ⟨rfl, _⟩
    all_goals
      go_wp2_with fail
      go_ret
      exact ⟨rfl, HB12.out⟩
  have hmi : ¬ (65536 : Int) < (n : Int) := by omega
  rcases H1.out with ⟨rfl, S, hq, hgs⟩ | ⟨rfl, hbad⟩ | ⟨rfl, hopen⟩
  · have HQ1 := Lib.hid (hq.below HB2.out)
    have HGS := Lib.hid hgs
    clear H1 hq hgs
    go_upto_region 7 with (first | (go_at_call 8; refine (ir_wp A n c l w2 a4 a6 (HR.out.below HB12.out) hn hnc hc2 (by omega) hz (HG.out.below HB12.out (Nat.le_refl _))).mono ?_; rintro e w3 ⟨Q3, y, rfl, H3, HB3⟩) | (refine wpList_store_mid (op := ⟨none, .store 27 (.tmp 5) (.tmp 25), _, _, _, none⟩) rfl 27 (.tmp 5) (.tmp 25) rfl w3.heap.size 0 Q3.cells rfl rfl (there_newq w3 qz 27) size_iq (QP.one Q3) ?_))
    have HW4 := Lib.hid (setCells_all (w := w3.alloc (.cells qz.cells 27 (0, 0))) (vs := Q3.cells) (heap_alloc_new w3 (.cells qz.cells 27 (0, 0))) rfl).1
    have HB4 : Hid (Below w3.heap.size w3 ((w3.alloc (.cells qz.cells 27 (0, 0))).setCells w3.heap.size 0 Q3.cells.toList)) := below_setCells (Nat.le_refl _) (Nat.le_refl _) _ _ ((Below.refl _ _).alloc (Nat.le_refl _) _)
    change Code.wp _ _ _ _ ((w3.alloc (.cells qz.cells 27 (0, 0))).setCells w3.heap.size 0 Q3.cells.toList)
    obtain ⟨w4, hw4⟩ : ∃ w4, ((w3.alloc (.cells qz.cells 27 (0, 0))).setCells w3.heap.size 0 Q3.cells.toList) = w4 := ⟨_, rfl⟩
    rw [hw4] at HW4 HB4 ⊢
    clear hw4
    have HB24 := Lib.hid (HB3.out.trans (HB4.out.mono HB3.out.size))
    have hq1 := HQ1.out.below HB24.out
    have HP3 : Hid (w4.heap[w1.heap.size]? = some (.cells Q1.cells 24 (0, 0))) := (HB24.out.block _ hs2).trans HW2.out
    rcases H3.out with ⟨rfl, S', hq3, hgi⟩ | ⟨rfl, hbad⟩
    · have hSS := goodS_I HGS.out hgi
      subst hSS
      have hq3' := hq3.below HB4.out
      have HQ1' := Lib.hid hq1
      have HQ3' := Lib.hid hq3'
      clear hq1 hq3 hq3' hgi H3
      go_upto_region 9 with fail
      have hW4 := HW4.out
      have hP3 := HP3.out
      refine wp_region_held_drew (S := fun wx => wx.heap[w3.heap.size]? = some (.cells Q3.cells 27 (0, 0)) ∧ wx.heap[w1.heap.size]? = some (.cells Q1.cells 24 (0, 0))) (by kernel_rfl) (by exact ⟨hW4, hP3⟩) (fun hHeld => ?_)
      refine wpAnyH_take (i := 0) (v := ?v0) rfl (by kernel_rfl) (by kernel_rfl) (by kernel_rfl) (fun _ _ _ h => h) (Or.inl ⟨by rfl, ?hy0⟩) (by assumption) ?rest0
      case hy0 => (intro wq hSw; go_simp; try with_reducible rfl)
      try simp only [Act.put, List.setIfInBounds_toArray, List.set_cons_zero, List.set_cons_succ]
      refine wpAnyH_take (i := 1) (v := ?v1) rfl (by kernel_rfl) (by kernel_rfl) (by kernel_rfl) (fun _ _ _ h => h) (Or.inl ⟨by rfl, ?hy1⟩) (by assumption) ?rest1
      case hy1 => (intro wq hSw; go_simp; try with_reducible rfl)
      try simp only [Act.put, List.setIfInBounds_toArray, List.set_cons_zero, List.set_cons_succ]
      refine wpAnyH_take (i := 2) (v := .agg Q3.cells.toList.toArray) rfl (by kernel_rfl) (by kernel_rfl) (by kernel_rfl) (fun _ _ _ h => h) (yieldsIf_load_mid (by rfl) 27 (.tmp 5) rfl w3.heap.size 0 rfl Q3.cells.toList _ (fun w hw => range_row hw.1) Tryd.underlying27 rfl (size_iq.trans (congrArg some (QP.size Q3).symm))) (by assumption) ?_
      try simp only [Act.put, List.setIfInBounds_toArray, List.set_cons_zero, List.set_cons_succ]
      refine wpAnyH_take (i := 3) (v := .agg Q1.cells.toList.toArray) rfl (by kernel_rfl) (by kernel_rfl) (by kernel_rfl) (fun _ _ _ h => h) (yieldsIf_load_mid (by rfl) 24 (.tmp 3) rfl w1.heap.size 0 rfl Q1.cells.toList _ (fun w hw => range_row hw.2) Tryd.underlying24 rfl (size_sq.trans (congrArg some (QP.size Q1).symm))) (by assumption) ?_
      try simp only [Act.put, List.setIfInBounds_toArray, List.set_cons_zero, List.set_cons_succ]
      refine wpAnyH_ready (rs := [4]) (by kernel_rfl) (by simp) (AllReadyH.cons rfl (fun K hK => ?_) AllReadyH.nil)
      go_simp
      go_at_call_of 10 (Value.agg Q1.cells); refine (params_wp Q1 _).mono ?_; rintro e w5 ⟨rfl, H5⟩
      have HB5 : Hid (Below w4.heap.size w4 w5) := Lib.hid ((below_drewN (Below.refl _ _) 1).trans H5.out)
      refine hK.out _ _ (by exact ⟨(HB5.out.block _ (cell_in HW4.out)).trans HW4.out, (HB5.out.block _ (cell_in HP3.out)).trans HP3.out⟩) (fun hHeld => ?_)
      clear hK K
      try simp only [Act.put, List.setIfInBounds_toArray, List.set_cons_zero, List.set_cons_succ]
      refine wpAnyH_ready (rs := [5]) (by kernel_rfl) (by simp) (AllReadyH.cons rfl (fun K hK => ?_) AllReadyH.nil)
      go_simp
      go_at_call_of 9 (Value.agg Q3.cells); refine (alike_wp Q3 Q1 S _ (HQ3'.out.below HB5.out) (HQ1'.out.below HB5.out)).mono ?_; rintro e w6 ⟨rfl, H6⟩
      have HB6 : Hid (Below w4.heap.size w4 w6) := Lib.hid (HB5.out.trans (H6.out.mono HB5.out.size))
      refine hK.out _ _ (by exact ⟨(HB6.out.block _ (cell_in HW4.out)).trans HW4.out, (HB6.out.block _ (cell_in HP3.out)).trans HP3.out⟩) (fun hHeld => ?_)
      clear hK K
      try simp only [Act.put, List.setIfInBounds_toArray, List.set_cons_zero, List.set_cons_succ]
      refine take_d (i := 6) 37 (.bool true) rfl rfl (by kernel_rfl) (by kernel_rfl) (by kernel_rfl) (fun _ _ _ h => h) (Or.inl ⟨by rfl, ?hy6⟩) (by assumption) ?rest6
      case hy6 => (intro wq hSw; go_simp; try with_reducible rfl)
      try simp only [Act.put, List.setIfInBounds_toArray, List.set_cons_zero, List.set_cons_succ]
      refine take_d (i := 7) 2 (.bool true) rfl rfl (by kernel_rfl) (by kernel_rfl) (by kernel_rfl) (fun _ _ _ h => h) (Or.inl ⟨by rfl, ?hy7⟩) (by assumption) ?rest7
      case hy7 => (intro wq hSw; go_simp; try with_reducible rfl)
      try simp only [Act.put, List.setIfInBounds_toArray, List.set_cons_zero, List.set_cons_succ]
      refine wpAnyH_done (by kernel_rfl) ?_ _
      go_wp2_with fail
      go_ret
      exact ⟨rfl, HB12.out.trans ((HB24.out.trans (HB6.out.mono HB24.out.size)).mono HB12.out.size)⟩
    · exact absurd hbad (goodS_bad HGS.out)
  · have HBad := Lib.hid hbad
    clear H1 hbad
    go_upto_region 7 with (first | (go_at_call 8; refine (ir_wp A n c l w2 a4 a6 (HR.out.below HB12.out) hn hnc hc2 (by omega) hz (HG.out.below HB12.out (Nat.le_refl _))).mono ?_; rintro e w3 ⟨Q3, y, rfl, H3, HB3⟩) | (refine wpList_store_mid (op := ⟨none, .store 27 (.tmp 5) (.tmp 25), _, _, _, none⟩) rfl 27 (.tmp 5) (.tmp 25) rfl w3.heap.size 0 Q3.cells rfl rfl (there_newq w3 qz 27) size_iq (QP.one Q3) ?_))
    rcases H3.out with ⟨rfl, S', hq3, hgi⟩ | ⟨rfl, hbad⟩
    · exact absurd HBad.out (goodI_bad hgi)
    · go_wp2_with fail
      go_ret
      exact ⟨rfl, HB12.out.trans ((HB3.out.trans (below_setCells (Nat.le_refl _) (Nat.le_refl _) _ _ ((Below.refl _ _).alloc (Nat.le_refl _) _) |>.mono HB3.out.size)).mono HB12.out.size)⟩
  · go_wp2_with fail
    go_ret
    exact ⟨rfl, HB12.out⟩

end Go.Proofs.YtdjdcpcomhjnjaaDoor

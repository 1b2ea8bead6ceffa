/- The walk of FnRanges. Conditions: none. -/
import Derived.Test.YtdogepkfgobcfaaFrameOps
import Derived.Test.YtdogepkfgobcfaaRangeLops
import Derived.Test.YtdogepkfgobcfaaSpecRanges
import Derived.Test.YtdogepkfgobcfaaArr
namespace Go.Proofs.Ytdogepkfgobcfaa
open Go.RowKit
set_option linter.unusedVariables false

set_option maxRecDepth 100000 in
set_option maxHeartbeats 1000000 in
theorem rgs_big (A : Option Addr) (n c : Nat) (w : World) (hn : 2147483647 < n) (hn2 : n ≤ 9223372036854775807) :
    Calls Try.prog 8 #[.slice A n c] w fun e w' => e = .returned (.bool true) ∧ Below w.heap.size w w' := by
  go_enter Try.func8, Try.ntmps8
  go_wp2
  go_ret
  exact ⟨rfl, Below.refl _ _⟩

set_option maxRecDepth 100000 in
set_option maxHeartbeats 2000000 in
theorem rgs_in (A : Option Addr) (n c : Nat) (l : List Opr) (w : World) (hr : RdE EOp w A l) (hn : Hid (l.length = n)) (hn2 : n ≤ 2147483647) (hbd : Hid (OpsBd l)) :
    Calls Try.prog 8 #[.slice A n c] w fun e w' => e = .returned (.bool true) ∧ Below w.heap.size w w' := by
  have HR := Lib.hid hr
  clear hr
  go_enter Try.func8, Try.ntmps8
  go_wp2_with fail
  refine (lops A n c l w HR.out hn hn2 hbd).mono ?_
  rintro e w1 ⟨s1, ok, rfl, hok, hb1⟩
  have HB1 := Lib.hid hb1
  have HR1 := Lib.hid (HR.out.below hb1)
  have HOK := Lib.hid hok
  clear hok hb1
  cases ok
  · go_wp2_with fail
    go_ret
    exact ⟨rfl, HB1.out⟩
  obtain ⟨h200, hopk, -, ho1⟩ := HOK.out rfl
  rw [hn.out] at h200
  obtain ⟨P, hP⟩ : ∃ P, Hid (P = l.map plainO) := ⟨_, Lib.hid rfl⟩
  have hPn : Hid (P.length = n) := by show _ = _; rw [hP.out, List.length_map]; exact hn.out
  rw [← hP.out] at hopk ho1
  have HOpk := Lib.hid hopk
  obtain ⟨A1, c1, hs1, hr1, -, -⟩ := ho1.shape
  rw [hPn.out] at hs1
  subst hs1
  have HS1 := Lib.hid hr1
  clear hopk HOK ho1 hr1
  go_wp2_with fail
  refine (pln A n c l w1 HR1.out hn hn2).mono ?_
  rintro e w2 ⟨s2, rfl, ho2, hb2⟩
  rw [← hP.out] at ho2
  obtain ⟨A2, c2, hs2, hr2, -, -⟩ := ho2.shape
  rw [hPn.out] at hs2
  subst hs2
  have HR2 := Lib.hid hr2
  have HS2 := Lib.hid (HS1.out.below hb2)
  have HB2 := Lib.hid (HB1.out.trans (hb2.mono HB1.out.size))
  clear ho2 hr2 hb2 HS1 HR1
  go_wp2_with fail
  refine (irng A2 n c2 P w2 HR2.out hPn h200 HOpk).mono ?_
  rintro e w3 ⟨s3, rfl, ho3, hb3⟩
  have HS3 := Lib.hid (HS2.out.below hb3)
  have HB3 := Lib.hid (HB2.out.trans (hb3.mono HB2.out.size))
  have HO3 := Lib.hid ho3
  clear ho3 hb3 HR2 HS2
  go_wp2_with fail
  refine (srng A1 n c1 P w3 HS3.out hPn h200).mono ?_
  rintro e w4 ⟨s4, rfl, ho4, hb4⟩
  rw [← set_eq_spec P HOpk.out] at ho4
  have HB7 := Lib.hid (HB3.out.trans (hb4.mono HB3.out.size))
  obtain ⟨L, hL⟩ : ∃ L, Hid (L = setP P) := ⟨_, Lib.hid rfl⟩
  obtain ⟨m, hm⟩ : ∃ m, Hid (L.length = m) := ⟨_, Lib.hid rfl⟩
  rw [← hL.out] at ho4
  obtain ⟨A4, c4, hs4, hr4, -, -⟩ := HO3.out.shape
  obtain ⟨A5, c5, hs5, hr5, -, -⟩ := ho4.shape
  rw [← hL.out] at hs4 hr4
  rw [hm.out] at hs4 hs5
  have HR4 := Lib.hid (hr4.below hb4)
  have HR5 := Lib.hid hr5
  have hm200 : m ≤ 200 := by
    have := setP_len P P.length (Nat.le_refl _)
    rw [List.take_of_length_le (Nat.le_refl _), ← hL.out, hm.out, hPn.out] at this
    omega
  subst hs4 hs5
  clear ho4 hb4 hr4 hr5 HO3 HS3
  go_wp2_with fail
  go_loopw [30] (fun i wr => ∃ q : Nat, q ≤ m ∧ i = .int .i64 q ∧ Hid (RdE EPr wr A4 L) ∧ Hid (RdE EPr wr A5 L) ∧ Hid (Below w.heap.size w wr)) (fun i _ => m - (intOf i).toNat)
  case atStart => exact ⟨0, by omega, rfl, HR4, HR5, HB7⟩
  case round =>
    clear HR4 HR5 HB7
    obtain ⟨q, hq, rfl, HR4, HR5, HB7⟩ := hrel
    by_cases hlt : q < m
    · have hlt' : q < L.length := by rw [hm.out]; exact hlt
      obtain ⟨b4, o4, rfl, hc4⟩ := HR4.out (by omega)
      obtain ⟨b5, o5, rfl, hc5⟩ := HR5.out (by omega)
      obtain ⟨d0, d1⟩ := rg_cells rfl rfl hc4 q hlt'
      obtain ⟨g0, g1⟩ := rg_cells rfl rfl hc5 q hlt'
      obtain ⟨x0, hx0⟩ : ∃ x, x = L[q].1 := ⟨_, rfl⟩
      obtain ⟨x1, hx1⟩ : ∃ x, x = L[q].2 := ⟨_, rfl⟩
      rw [← hx0] at d0 g0
      rw [← hx1] at d1 g1
      clear hc4 hc5 hx0 hx1 hlt'
      have hns := run_neq_same x0 x1
      go_wp2_with fail
      go_quiet (fail)
      clear hns
      go_wp2_with fail
      go_roundw
      case rel => exact ⟨q + 1, by omega, by go_num, HR4.out.drewN nq, HR5.out.drewN nq, below_drewN HB7.out nq⟩
      case measure => simp [intOf]; omega
    · obtain rfl : q = m := by omega
      go_wp2
      go_ret
      exact ⟨rfl, HB7.out⟩

theorem fnRanges_walk (A : Option Addr) (l : List Opr) (c : Nat) (w : World) (h : OpsArg w A l c) :
    Calls Try.prog 8 #[.slice A l.length c] w fun e w' => e = .returned (.bool true) ∧ Below w.heap.size w w' := by
  have h1 := h.le
  have h2 := h.max
  unfold maxLen at h2
  by_cases hb : 2147483647 < l.length
  · exact rgs_big A _ c w hb (by omega)
  · exact rgs_in A _ c l w h.rd rfl (by omega) h.bd

end Go.Proofs.Ytdogepkfgobcfaa

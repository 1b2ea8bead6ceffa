/- The walk of FnMeasures. Conditions: none. -/
import Derived.Test.YtdogepkfgobcfaaOrderLaw
import Derived.Test.YtdogepkfgobcfaaSpecRanges
import Derived.Test.YtdogepkfgobcfaaMeas
import Derived.Deep.RegionHeld3
namespace Go.Proofs.Ytdogepkfgobcfaa
open Go.RowKit
set_option linter.unusedVariables false

theorem rd_pair {w : World} {b o : Nat} {l : Rgs} (h : RdE EPr w (some ⟨b, o, none⟩) l) (i : Nat) (hi : i < l.length) : w.cell? ⟨b, o + i * 2, none⟩ = some (.int .i64 l[i].1) ∧ w.cell? ⟨b, o + i * 2 + 1, none⟩ = some (.int .i64 l[i].2) := by
  obtain ⟨b', o', e, hc⟩ := h (by omega)
  obtain ⟨rfl, rfl⟩ : b = b' ∧ o = o' := by simpa using e
  exact rg_cells rfl rfl hc i hi

set_option maxRecDepth 100000 in
set_option maxHeartbeats 1000000 in
theorem ms_big (A : Option Addr) (n c : Nat) (s en : Int) (w : World) (hn : 2147483647 < n) (hn2 : n ≤ 9223372036854775807) :
    Calls Try.prog 10 #[.slice A n c, .int .i64 s, .int .i64 en] w fun e w' => e = .returned (.bool true) ∧ Below w.heap.size w w' := by
  go_enter Try.func10, Try.ntmps10
  go_wp2
  go_ret
  exact ⟨rfl, Below.refl _ _⟩

set_option maxRecDepth 100000 in
set_option maxHeartbeats 3000000 in
theorem ms_in (A : Option Addr) (n c : Nat) (l : List Opr) (s en : Int) (w : World) (hr : RdE EOp w A l) (hn : Hid (l.length = n)) (hn2 : n ≤ 2147483647) (hbd : Hid (OpsBd l)) :
    Calls Try.prog 10 #[.slice A n c, .int .i64 s, .int .i64 en] w fun e w' => e = .returned (.bool true) ∧ Below w.heap.size w w' := by
  have HR := Lib.hid hr
  clear hr
  go_enter Try.func10, Try.ntmps10
  go_wp2_with fail
  refine (lops A n c l w HR.out hn hn2 hbd).mono ?_
  rintro e w1 ⟨s1, ok, rfl, hok, hb1⟩
  have HB1 := Lib.hid hb1
  have HR1 := Lib.hid (HR.out.below hb1)
  have HOK := Lib.hid hok
  clear hok hb1
  cases ok
  · go_wp2_with fail
    go_ret
    exact ⟨rfl, HB1.out⟩
  by_cases hse : en ≤ s
  · go_wp2_with fail
    go_ret
    exact ⟨rfl, HB1.out⟩
  obtain ⟨h200, hopk, -, ho1⟩ := HOK.out rfl
  rw [hn.out] at h200
  obtain ⟨P, hP⟩ : ∃ P, Hid (P = l.map plainO) := ⟨_, Lib.hid rfl⟩
  have hPn : Hid (P.length = n) := by show _ = _; rw [hP.out, List.length_map]; exact hn.out
  rw [← hP.out] at hopk ho1
  have HOpk := Lib.hid hopk
  obtain ⟨A1, c1, hs1, hr1, -, -⟩ := ho1.shape
  rw [hPn.out] at hs1
  subst hs1
  have HS1 := Lib.hid hr1
  clear hopk HOK ho1 hr1
  go_wp2_with fail
  refine (pln A n c l w1 HR1.out hn hn2).mono ?_
  rintro e w2 ⟨s2, rfl, ho2, hb2⟩
  rw [← hP.out] at ho2
  obtain ⟨A2, c2, hs2, hr2, -, -⟩ := ho2.shape
  rw [hPn.out] at hs2
  subst hs2
  have HR2 := Lib.hid hr2
  have HS2 := Lib.hid (HS1.out.below hb2)
  have HB2 := Lib.hid (HB1.out.trans (hb2.mono HB1.out.size))
  clear ho2 hr2 hb2 HS1 HR1
  go_wp2_with fail
  refine (srng A1 n c1 P _ HS2.out hPn h200).mono ?_
  rintro e w5 ⟨s5, rfl, ho5, hb5⟩
  rw [← set_eq_spec P HOpk.out] at ho5
  obtain ⟨L, hL⟩ : ∃ L, Hid (L = setP P) := ⟨_, Lib.hid rfl⟩
  obtain ⟨m, hm⟩ : ∃ m, Hid (L.length = m) := ⟨_, Lib.hid rfl⟩
  rw [← hL.out] at ho5
  obtain ⟨A5, c5, hs5, hr5, -, -⟩ := ho5.shape
  have hm200 : m ≤ 200 := by
    have := setP_len P P.length (Nat.le_refl _)
    rw [List.take_of_length_le (Nat.le_refl _), ← hL.out, hm.out, hPn.out] at this
    omega
  have HR5 := Lib.hid (HR2.out.below hb5)
  have HL5 := Lib.hid hr5
  have HB5 := Lib.hid (HB2.out.trans (hb5.mono HB2.out.size))
  rw [hm.out] at hs5
  subst hs5
  clear ho5 hb5 hr5 HR2 HS2 HB2
  go_wp2_with fail
  go_loopw [11, 35] (fun x i wr => ∃ (q : Nat) (t : Int), q ≤ m ∧ i = .int .i64 q ∧ x = .int .i64 t ∧ Hid (t = szP (L.take q)) ∧ Hid (Below w5.heap.size w5 wr)) (fun _ i _ => m - (intOf i).toNat)
  case atStart => exact ⟨0, 0, by omega, rfl, rfl, rfl, Below.refl _ _⟩
  case round =>
    obtain ⟨q, t, hq, rfl, rfl, HT, HB⟩ := hrel
    by_cases hlt : q < m
    · have hlt' : q < L.length := by rw [hm.out]; exact hlt
      obtain ⟨b5, o5, rfl, hc5⟩ := (HL5.out.below HB.out) (by omega)
      obtain ⟨g0, g1⟩ := rg_cells rfl rfl hc5 q hlt'
      have hnext := Lib.hid (szP_take L q hlt')
      obtain ⟨x0, hx0⟩ : ∃ x, x = L[q].1 := ⟨_, rfl⟩
      obtain ⟨x1, hx1⟩ : ∃ x, x = L[q].2 := ⟨_, rfl⟩
      rw [← hx0] at g0 hnext
      rw [← hx1] at g1 hnext
      rw [← HT.out] at hnext
      have S1 := Lib.hid (HB.out.alloc HB.out.size (.cells #[.int .i64 x0, .int .i64 x1] 47))
      clear hc5 hx0 hx1 hlt'
      go_wp2_with fail
      go_roundw
      case rel => exact ⟨q + 1, wrap64 (t + wrap64 (x1 - x0)), by omega, by go_num, rfl, by show _ = _; rw [hnext.out], S1⟩
      case measure => simp [intOf]; omega
    · obtain rfl : q = m := by omega
      have hT : Hid (t = szP (setP P)) := by show _ = _; rw [HT.out, List.take_of_length_le (by rw [hm.out]; exact Nat.le_refl _), hL.out]
      have HRr := Lib.hid (HR5.out.below HB.out)
      have HLr := Lib.hid (HL5.out.below HB.out)
      have HBr := Lib.hid (HB5.out.trans (HB.out.mono HB5.out.size))
      clear HR5 HL5 HB5 HB HT
      have icount' : Hid (∀ W : World, RdE EOp W A2 P → Calls Try.prog 32 #[.slice A2 n c2] W fun e w' => e = .returned (.int .i64 (q : Nat)) ∧ Hid (Below W.heap.size W w')) := by
        intro W hW
        have := icount A2 n c2 P W hW hPn h200 HOpk
        rw [← hL.out, hm.out] at this
        exact this
      have itotal' : Hid (∀ W : World, RdE EOp W A2 P → Calls Try.prog 33 #[.slice A2 n c2] W fun e w' => e = .returned (.int .i64 t) ∧ Hid (Below W.heap.size W w')) := by
        intro W hW
        have := itotal A2 n c2 P W hW hPn h200 HOpk
        rw [← hT.out] at this
        exact this
      obtain ⟨bb, hbb⟩ : ∃ bb, Hid (decide (L = [(s, en)]) = bb) := ⟨_, Lib.hid rfl⟩
      have iisr' : Hid (∀ W : World, RdE EOp W A2 P → Calls Try.prog 34 #[.slice A2 n c2, .int .i64 s, .int .i64 en] W fun e w' => e = .returned (.bool bb) ∧ Hid (Below W.heap.size W w')) := by
        intro W hW
        have := iisr A2 n c2 P s en W hW hPn h200 HOpk (by omega)
        rw [← hL.out, hbb.out] at this
        exact this
      have hone : Hid ((setP [⟨false, 1, 2⟩]).length = 1) := rfl
      have hok1 : Hid (OpsOk [⟨false, 1, 2⟩]) := by intro o ho; simp at ho; subst ho; exact ⟨by decide, by decide⟩
      have icount1 : Hid (∀ W : World, Calls Try.prog 32 #[.slice (some ⟨W.heap.size, 0, none⟩) 1 1] (W.alloc (.cells #[.bool false, .int .i64 1, .int .i64 2] 41)) fun e w' => e = .returned (.int .i64 1) ∧ Hid (Below W.heap.size W w')) := by
        intro W
        refine (icount _ 1 _ [⟨false, 1, 2⟩] _ (one_op W) rfl (by omega) hok1).mono fun e w' h => ?_
        rw [hone.out] at h
        exact ⟨h.1, ((Below.refl _ _).alloc (Nat.le_refl _) _).trans (h.2.mono (by simp))⟩
      have ht0 : (t != t) = false := by simp
      have hbb0 : (bb != bb) = false := by cases bb <;> rfl
      go_wp2_with fail
      refine (icount'.out _ HRr.out).mono ?_
      rintro e w6 ⟨rfl, HB6⟩
      have HR6 := Lib.hid (HRr.out.below HB6.out)
      have HL6 := Lib.hid (HLr.out.below HB6.out)
      have HBW6 := Lib.hid (HBr.out.trans (HB6.out.mono HBr.out.size))
      clear HRr HLr HBr HB6
      go_wp2_with fail
      refine (itotal'.out _ HR6.out).mono ?_
      rintro e w7 ⟨rfl, HB7⟩
      have HR7 := Lib.hid (HR6.out.below HB7.out)
      have HL7 := Lib.hid (HL6.out.below HB7.out)
      have HBW7 := Lib.hid (HBW6.out.trans (HB7.out.mono HBW6.out.size))
      clear HR6 HL6 HBW6 HB7
      go_wp2_with fail
      refine (iisr'.out _ HR7.out).mono ?_
      rintro e w8 ⟨rfl, HB8⟩
      have HR8 := Lib.hid (HR7.out.below HB8.out)
      have HL8 := Lib.hid (HL7.out.below HB8.out)
      have HBW8 := Lib.hid (HBW7.out.trans (HB8.out.mono HBW7.out.size))
      clear HR7 HL7 HBW7 HB8 icount' itotal' iisr'
      rcases Nat.eq_zero_or_pos q with rfl | hpos
      · have hbf : Hid (bb = false) := by
          show _ = _
          rw [← hbb.out, List.eq_nil_of_length_eq_zero hm.out]
          simp
        obtain rfl := hbf.out
        go_wp2_with fail
        refine (icount1.out _).mono ?_
        rintro e w9 ⟨rfl, HB9⟩
        go_wp2_with fail
        go_ret
        exact ⟨rfl, HBW8.out.trans (HB9.out.mono HBW8.out.size)⟩
      · have hpl : 0 < L.length := by rw [hm.out]; exact hpos
        obtain ⟨b5, o5, rfl, -⟩ := HL8.out hpl
        obtain ⟨y0, hy0⟩ : ∃ y, Hid (y = (L[0]'hpl).1) := ⟨_, Lib.hid rfl⟩
        obtain ⟨y1, hy1⟩ : ∃ y, Hid (y = (L[0]'hpl).2) := ⟨_, Lib.hid rfl⟩
        have hlast : q - 1 < L.length := by rw [hm.out]; omega
        obtain ⟨yl, hyl⟩ : ∃ y, Hid (y = (L[q - 1]'hlast).2) := ⟨_, Lib.hid rfl⟩
        have KC0 : ∀ W : World, Below w8.heap.size w8 W → W.cell? ⟨b5, o5, none⟩ = some (.int .i64 y0) ∧ W.cell? ⟨b5, o5 + 1, none⟩ = some (.int .i64 y1) ∧ W.cell? ⟨b5, o5 + (q - 1) * 2 + 1, none⟩ = some (.int .i64 yl) := by
          intro W hW
          have hr := HL8.out.below hW
          obtain ⟨a0, a1⟩ := rd_pair hr 0 hpl
          obtain ⟨_, a2⟩ := rd_pair hr (q - 1) hlast
          rw [← hy0.out] at a0
          rw [← hy1.out] at a1
          rw [← hyl.out] at a2
          rw [Nat.zero_mul, Nat.add_zero] at a0 a1
          exact ⟨a0, a1, a2⟩
        have KC := Lib.hid KC0
        clear KC0
        obtain ⟨d0, d1, -⟩ := KC.out w8 (Below.refl _ _)
        obtain ⟨b1, hb1⟩ : ∃ b, ((q : Int) == 1) = b := ⟨_, rfl⟩
        have heq : ∀ w : World, b1 = true → (binOp .eql 47 (.agg #[.int .i64 y0, .int .i64 y1]) (.agg #[.int .i64 s, .int .i64 en])).run Try.prog w = .ok (.bool bb) w := by
          intro w hb
          have hq1 : q = 1 := by rw [hb] at hb1; simp at hb1; omega
          rw [run_eql_pair, ← hbb.out, hy0.out, hy1.out]
          have h1 := hm.out
          rw [hq1] at h1
          congr 2
          match L, h1 with
          | [x], _ => obtain ⟨x0, x1⟩ := x; rw [Bool.eq_iff_iff]; simp
        have hbf : b1 = false → bb = false := by
          intro hb
          rw [hb] at hb1
          rw [← hbb.out]
          have : ¬ L = [(s, en)] := fun h => by have h2 := hm.out; rw [h] at h2; simp at h2; simp at hb1; omega
          simpa using this
        have HBBF := Lib.hid hbf
        clear hbf
        have e1 : (q : Int) - 1 = ((q - 1 : Nat) : Int) := by omega
        have g1 : Hid (IntKind.i64.wrap ((q - 1 : Nat) : Int) = ((q - 1 : Nat) : Int)) := IntWalk.i64_in _ (by omega)
        have i1 : ((q - 1 : Nat) : Int) < (q : Int) := by omega
        have i0 : (0 : Int) < (q : Int) := by omega
        obtain ⟨z, hz⟩ : ∃ z, Hid (wrap64 (yl - 1) = z) := ⟨_, Lib.hid rfl⟩
        have hz2 : Hid (IntKind.i64.wrap (yl - 1) = z) := by show _ = _; rw [← hz.out]; exact IntWalk.i64_left _
        have hpP : 0 < (setP P).length := by rw [← hL.out]; exact hpl
        have imin' : Hid (∀ W : World, Below w8.heap.size w8 W → Calls Try.prog 35 #[.slice A2 n c2] W fun e w' => e = .returned (.int .i64 y0) ∧ Hid (Below w8.heap.size w8 w')) := by
          intro W hW
          refine (imin A2 n c2 P y0 W (HR8.out.below hW) hPn h200 HOpk hpP (by show _ = _; rw [hy0.out]; simp only [hL.out])).mono fun e w' h => ⟨h.1, hW.trans (h.2.mono hW.size)⟩
        have imax' : Hid (∀ W : World, Below w8.heap.size w8 W → Calls Try.prog 36 #[.slice A2 n c2] W fun e w' => e = .returned (.int .i64 z) ∧ Hid (Below w8.heap.size w8 w')) := by
          intro W hW
          rw [← hz.out]
          refine (imax A2 n c2 P yl W (HR8.out.below hW) hPn h200 HOpk hpP (by show _ = _; rw [hyl.out]; simp only [← hL.out, hm.out])).mono fun e w' h => ⟨h.1, hW.trans (h.2.mono hW.size)⟩
        have iend' : Hid (∀ W : World, Below w8.heap.size w8 W → Calls Try.prog 37 #[.slice A2 n c2] W fun e w' => e = .returned (.int .i64 yl) ∧ Hid (Below w8.heap.size w8 w')) := by
          intro W hW
          refine (iend A2 n c2 P yl W (HR8.out.below hW) hPn h200 HOpk hpP (by show _ = _; rw [hyl.out]; simp only [← hL.out, hm.out])).mono fun e w' h => ⟨h.1, hW.trans (h.2.mono hW.size)⟩
        have hq0 : ((q : Int) == 0) = false := by simp; omega
        have hq0' : (q == 0) = false := by simp; omega
        cases b1
        · obtain rfl := HBBF.out rfl
          clear heq
          go_wp2_with fail
          refine (icount1.out _).mono ?_
          rintro e w9 ⟨rfl, HB9⟩
          go_wp2_with fail
          obtain ⟨d0', d1', d2'⟩ := KC.out _ HB9.out
          have h1 := g1.out
          have h2 := hz.out
          have h3 := hz2.out
          have H0 : Hid (Below w8.heap.size w8 (w9.drewN 1)) := below_drewN HB9.out 1
          clear d0 d1 d1'
          go_region_held3 (fun W => W.cell? ⟨b5, o5, none⟩ = some (.int .i64 y0) ∧ W.cell? ⟨b5, o5 + (q - 1) * 2 + 1, none⟩ = some (.int .i64 yl)) (first | go_keep | (exact ⟨(KC.out _ HBc.out).1, (KC.out _ HBc.out).2.2⟩) | (exact ⟨(KC.out _ HBb.out).1, (KC.out _ HBb.out).2.2⟩) | (exact ⟨(KC.out _ HBa.out).1, (KC.out _ HBa.out).2.2⟩)) ((first | (go_at_call 35; refine (imin'.out _ H0.out).mono ?_; rintro e wa ⟨rfl, HBa⟩) | (go_at_call 36; refine (imax'.out _ HBa.out).mono ?_; rintro e wb ⟨rfl, HBb⟩) | (go_at_call 37; refine (iend'.out _ HBb.out).mono ?_; rintro e wc ⟨rfl, HBc⟩)))
          clear h1 h2 h3
          go_wp2
          go_ret
          exact ⟨rfl, HBW8.out.trans (HBc.out.mono HBW8.out.size)⟩
        · have heq1 := fun w => heq w rfl
          clear heq
          go_wp2_with fail
          refine (icount1.out _).mono ?_
          rintro e w9 ⟨rfl, HB9⟩
          clear heq1
          go_wp2_with fail
          obtain ⟨d0', d1', d2'⟩ := KC.out _ HB9.out
          have h1 := g1.out
          have h2 := hz.out
          have h3 := hz2.out
          have H0 : Hid (Below w8.heap.size w8 (w9.drewN 1)) := below_drewN HB9.out 1
          clear d0 d1 d1'
          go_region_held3 (fun W => W.cell? ⟨b5, o5, none⟩ = some (.int .i64 y0) ∧ W.cell? ⟨b5, o5 + (q - 1) * 2 + 1, none⟩ = some (.int .i64 yl)) (first | go_keep | (exact ⟨(KC.out _ HBc.out).1, (KC.out _ HBc.out).2.2⟩) | (exact ⟨(KC.out _ HBb.out).1, (KC.out _ HBb.out).2.2⟩) | (exact ⟨(KC.out _ HBa.out).1, (KC.out _ HBa.out).2.2⟩)) ((first | (go_at_call 35; refine (imin'.out _ H0.out).mono ?_; rintro e wa ⟨rfl, HBa⟩) | (go_at_call 36; refine (imax'.out _ HBa.out).mono ?_; rintro e wb ⟨rfl, HBb⟩) | (go_at_call 37; refine (iend'.out _ HBb.out).mono ?_; rintro e wc ⟨rfl, HBc⟩)))
          clear h1 h2 h3
          go_wp2
          go_ret
          exact ⟨rfl, HBW8.out.trans (HBc.out.mono HBW8.out.size)⟩

theorem fnMeasures_walk (A : Option Addr) (l : List Opr) (c : Nat) (s : Int) (hs : -9223372036854775808 ≤ s ∧ s ≤ 9223372036854775807) (en : Int) (he : -9223372036854775808 ≤ en ∧ en ≤ 9223372036854775807) (w : World) (h : OpsArg w A l c) :
    Calls Try.prog 10 #[.slice A l.length c, .int .i64 s, .int .i64 en] w fun e w' => e = .returned (.bool true) ∧ Below w.heap.size w w' := by
  have h1 := h.le
  have h2 := h.max
  unfold maxLen at h2
  by_cases hb : 2147483647 < l.length
  · exact ms_big A _ c s en w hb (by omega)
  · exact ms_in A _ c l s en w h.rd rfl (by omega) h.bd

end Go.Proofs.Ytdogepkfgobcfaa

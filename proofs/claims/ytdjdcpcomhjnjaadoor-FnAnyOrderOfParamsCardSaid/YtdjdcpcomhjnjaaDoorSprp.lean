/- The reference's reading of parameters: a preferred address. Conditions: none. -/
import Derived.Test.YtdjdcpcomhjnjaaDoorSpr
namespace Go.Proofs.YtdjdcpcomhjnjaaDoor
open Go.RowKit
set_option linter.unusedVariables false
set_option linter.unusedSimpArgs false

theorem pf_yes (P : Nat) (A : Option Addr) (n c : Nat) (v : List Int) (Q : QP) (S : SP) (w : World) (hp : w.heap[P]? = some (.cells Q.cells 24 (0, 0))) (hq : Qp w Q S) (hv : Rt w (A, n, c) v) (hk : Hid (pok v)) :
    Calls Tryd.prog 18 #[.pointer (some ⟨P, 0, none⟩), .slice A n c] w fun e w' => ∃ Q' : QP, e = .returned (.bool true) ∧ Hid (w.grownBy w' (some P) ∧ w'.heap[P]? = some (.cells Q'.cells 24 (0, 0)) ∧ ∀ W, Qp W Q S → Rt W (A, n, c) v → Qp W Q' (pref S v)) :=
  (pf_wp P A n c v Q S w hp hq hv).mono fun e w' ⟨y, Q', h1, h2⟩ => by
    rcases h2.out with ⟨g, h, ⟨rfl, _, h3⟩ | ⟨_, h3⟩⟩
    · exact ⟨Q', h1, g, h, h3⟩
    · exact absurd hk.out h3
theorem pf_no (P : Nat) (A : Option Addr) (n c : Nat) (v : List Int) (Q : QP) (S : SP) (w : World) (hp : w.heap[P]? = some (.cells Q.cells 24 (0, 0))) (hq : Qp w Q S) (hv : Rt w (A, n, c) v) (hk : Hid (¬ pok v)) :
    Calls Tryd.prog 18 #[.pointer (some ⟨P, 0, none⟩), .slice A n c] w fun e w' => ∃ Q' : QP, e = .returned (.bool false) ∧ Hid (w.grownBy w' (some P) ∧ w'.heap[P]? = some (.cells Q'.cells 24 (0, 0))) :=
  (pf_wp P A n c v Q S w hp hq hv).mono fun e w' ⟨y, Q', h1, h2⟩ => by
    rcases h2.out with ⟨g, h, ⟨_, h3, _⟩ | ⟨rfl, _⟩⟩
    · exact absurd h3 hk.out
    · exact ⟨Q', h1, g, h⟩
theorem zr_yes (A : Option Addr) (n c : Nat) (v : List Int) (w : World) (hr : Rt w (A, n, c) v) (hz : Hid (zeroB v)) :
    Calls Tryd.prog 19 #[.slice A n c] w fun e w' => e = .returned (.bool true) ∧ w' = w :=
  (zero_wp A n c v w hr.1 (Lib.hid hr.2.1) hr.2.2.1 hr.2.2.2.1).mono fun e w' ⟨y, h1, h2, h3⟩ => by
    obtain rfl := h2.out.2 hz.out
    exact ⟨h1, h3⟩
theorem zr_no (A : Option Addr) (n c : Nat) (v : List Int) (w : World) (hr : Rt w (A, n, c) v) (hz : Hid (¬ zeroB v)) :
    Calls Tryd.prog 19 #[.slice A n c] w fun e w' => e = .returned (.bool false) ∧ w' = w :=
  (zero_wp A n c v w hr.1 (Lib.hid hr.2.1) hr.2.2.1 hr.2.2.2.1).mono fun e w' ⟨y, h1, h2, h3⟩ => by
    cases y
    · exact ⟨h1, h3⟩
    · exact absurd (h2.out.1 rfl) hz.out
set_option maxRecDepth 1000000 in
set_option maxHeartbeats 8000000 in
theorem sp_c13 {w0 w : World} {R P G : Nat} {Q : QP} {S : SP} {x0 x5 : Value} {A : Option Addr} {n c : Nat} {v : List Int} {op : Bool} (a : Act) (hf : Fgs a R P G x0 x5 op (.int .u64 13) (.slice A n c)) (hu : Us w0 R P w Q) (hq : Qp w Q S) (hv : Rt w (A, n, c) v)
    {Qx : Exit → Act → World → Prop} (hK : SK w w0 R P G x0 x5 Q S (A, n, c) 13 v op Qx) (hE : SE w0 R 13 v Qx) :
    Code.wp Tryd.prog sp7 Qx a w := by
  have HU := Lib.hid hu
  have HQ := Lib.hid hq
  have HK := Lib.hid hK
  have HE := Lib.hid hE
  have HR : Hid (Rd w A v) := hv.1
  have hn : Hid (v.length = n) := hv.2.1
  have hnc : n ≤ c := hv.2.2.1
  have hc2 : c ≤ 9223372036854775807 := hv.2.2.2.1
  have HV := Lib.hid hv
  have hb0 := num_bds hv.1.1
  obtain ⟨x, hx⟩ : ∃ x, Hid (num v = x) := ⟨_, Lib.hid rfl⟩
  rw [hx.out] at hb0
  obtain ⟨hb0, hb1⟩ := hb0
  clear hu hq hv hK hE
  obtain ⟨f, rfl⟩ := hf.lit
  clear hf
  conv => arg 2; whnf
  by_cases hpk : pok v
  · have hkn : (v.getD 24 0).toNat ≤ 255 := by have := HR.out.1.getD 24; omega
    have hvl : v.length = 25 + (v.getD 24 0).toNat + 16 := by have := HR.out.1.getD 24; have := hpk.2; omega
    have HPK := Lib.hid hpk
    clear hpk
    obtain ⟨k, hk⟩ : ∃ k, (v.getD 24 0).toNat = k := ⟨_, rfl⟩
    have HKI : Hid (v.getD 24 0 = (k : Nat)) := by have := HR.out.1.getD 24; show _ = _; omega
    obtain ⟨p4, hp4⟩ : ∃ p, Hid (be16 v 4 = p) := ⟨_, Lib.hid rfl⟩
    obtain ⟨p6, hp6⟩ : ∃ p, Hid (be16 v 22 = p) := ⟨_, Lib.hid rfl⟩
    rw [hk] at hvl hkn
    have HVL := Lib.hid hvl
    have HKk := Lib.hid hk
    clear hvl hk
    go_upto_region 52 with (go_at_call 18; refine (pf_yes P A n c v Q S w HU.out.hp HQ.out HV.out HPK).mono ?_; rintro e w1 ⟨Q1, rfl, H1⟩)
    have hg := Lib.hid H1.out.1
    have HU1 := Lib.hid (HU.out.own hg.out H1.out.2.1)
    have HQA := Lib.hid H1.out.2.2
    have HQ1 := Lib.hid (HQA.out w1 (HQ.out.keep fun t d ht => rt_grown HU.out.hp hg.out ht) (rt_grown HU.out.hp hg.out HV.out))
    clear H1
    obtain ⟨A19, k19, c19, h19⟩ : ∃ A19 k19 c19, Q1.pid = (A19, k19, c19) := ⟨_, _, _, rfl⟩
    obtain ⟨A15, k15, c15, h15⟩ : ∃ A15 k15 c15, Q1.v4 = (A15, k15, c15) := ⟨_, _, _, rfl⟩
    obtain ⟨A16, k16, c16, h16⟩ : ∃ A16 k16 c16, Q1.v6 = (A16, k16, c16) := ⟨_, _, _, rfl⟩
    have hk19 : k19 = k := by
      have := HQ1.out.pid.2.1
      rw [h19] at this
      have e : ((v.drop 25).take (v.getD 24 0).toNat).length = k19 := this
      rw [HKk.out, List.length_take, List.length_drop, HVL.out] at e
      omega
    have u19 : w1.cell? ⟨P, 19, none⟩ = some (.slice A19 k c19) := (HU1.out.cell 19 (triV Q1.pid) rfl).trans (by rw [h19, hk19]; rfl)
    have u15 : w1.cell? ⟨P, 15, none⟩ = some (.slice A15 k15 c15) := (HU1.out.cell 15 (triV Q1.v4) rfl).trans (by rw [h15]; rfl)
    have u16 : w1.cell? ⟨P, 16, none⟩ = some (.slice A16 k16 c16) := (HU1.out.cell 16 (triV Q1.v6) rfl).trans (by rw [h16]; rfl)
    have u17 : w1.cell? ⟨P, 17, none⟩ = some (.int .i64 p4) := (HU1.out.cell 17 (.int .i64 Q1.p4) rfl).trans (by rw [HQ1.out.p4, ← hp4.out]; rfl)
    have u18 : w1.cell? ⟨P, 18, none⟩ = some (.int .i64 p6) := (HU1.out.cell 18 (.int .i64 Q1.p6) rfl).trans (by rw [HQ1.out.p6, ← hp6.out]; rfl)
    have HZ4 : Hid (Rt w1 (A15, k15, c15) (v.take 4)) := by rw [← h15]; exact Lib.hid HQ1.out.v4
    have HZ6 : Hid (Rt w1 (A16, k16, c16) ((v.drop 6).take 16)) := by rw [← h16]; exact Lib.hid HQ1.out.v6
    clear h19 h15 h16 hk19
    have hG : Hid (sgood 13 v → 1 ≤ v.getD 24 0 ∧ v.getD 24 0 ≤ 20 ∧ ¬ zeroB (v.take 4) ∧ ¬ zeroB ((v.drop 6).take 16) ∧ be16 v 4 ≠ 0 ∧ be16 v 22 ≠ 0) := Lib.hid fun h => h.2.2.2.2 rfl
    by_cases hc1 : k = 0
    · have q1 : ((k : Int) == 0) = true := by rw [beq_iff_eq]; omega
      have hc1 := Lib.hid hc1
      have HNO : Hid (¬ sgood 13 v) := Lib.hid fun h => by have h1 := (hG.out h).1; rw [HKI.out] at h1; (have := hc1.out; omega)
      go_wp2_with (fail)
      exact (HK.out _ _ Q1 (pref S v) _ ⟨rfl, rfl, rfl, rfl, rfl, rfl, rfl, rfl⟩ HU1.out HQA.out hg.out ⟨fun h => (by cases h), fun _ => .inr HNO.out⟩).2
    · have q1 : ((k : Int) == 0) = false := by rw [beq_eq_false_iff_ne]; omega
      have hc1 := Lib.hid hc1
      by_cases hc2 : 20 < k
      · have q2 : (20 : Int) < (k : Int) := by omega
        have hc2 := Lib.hid hc2
        have HNO : Hid (¬ sgood 13 v) := Lib.hid fun h => by have h1 := (hG.out h).2.1; rw [HKI.out] at h1; (have := hc2.out; omega)
        go_wp2_with (fail)
        exact (HK.out _ _ Q1 (pref S v) _ ⟨rfl, rfl, rfl, rfl, rfl, rfl, rfl, rfl⟩ HU1.out HQA.out hg.out ⟨fun h => (by cases h), fun _ => .inr HNO.out⟩).2
      · have q2 : ¬ (20 : Int) < (k : Int) := by omega
        have hc2 := Lib.hid hc2
        by_cases hc3 : zeroB (v.take 4)
        · have HA4 := Lib.hid hc3
          have hc3 := Lib.hid hc3
          have HNO : Hid (¬ sgood 13 v) := Lib.hid fun h => by exact (hG.out h).2.2.1 HA4.out
          go_wp2_with ((go_at_call_of 19 (Value.slice A15 k15 c15); refine (zr_yes A15 k15 c15 _ _ HZ4.out HA4).mono ?_; rintro e w2 ⟨rfl, rfl⟩))
          exact (HK.out _ _ Q1 (pref S v) _ ⟨rfl, rfl, rfl, rfl, rfl, rfl, rfl, rfl⟩ HU1.out HQA.out hg.out ⟨fun h => (by cases h), fun _ => .inr HNO.out⟩).2
        · have HA4 := Lib.hid hc3
          have hc3 := Lib.hid hc3
          by_cases hc4 : zeroB ((v.drop 6).take 16)
          · have HA6 := Lib.hid hc4
            have hc4 := Lib.hid hc4
            have HNO : Hid (¬ sgood 13 v) := Lib.hid fun h => by exact (hG.out h).2.2.2.1 HA6.out
            go_wp2_with (first | (go_at_call_of 19 (Value.slice A15 k15 c15); refine (zr_no A15 k15 c15 _ _ HZ4.out HA4).mono ?_; rintro e w2 ⟨rfl, rfl⟩) | (go_at_call_of 19 (Value.slice A16 k16 c16); refine (zr_yes A16 k16 c16 _ _ HZ6.out HA6).mono ?_; rintro e w2 ⟨rfl, rfl⟩))
            exact (HK.out _ _ Q1 (pref S v) _ ⟨rfl, rfl, rfl, rfl, rfl, rfl, rfl, rfl⟩ HU1.out HQA.out hg.out ⟨fun h => (by cases h), fun _ => .inr HNO.out⟩).2
          · have HA6 := Lib.hid hc4
            have hc4 := Lib.hid hc4
            by_cases hc5 : p4 = 0
            · have q5 : (p4 == 0) = true := by rw [beq_iff_eq]; exact hc5
              have hc5 := Lib.hid hc5
              have HNO : Hid (¬ sgood 13 v) := Lib.hid fun h => by exact (hG.out h).2.2.2.2.1 (hp4.out.trans hc5.out)
              go_wp2_with (first | (go_at_call_of 19 (Value.slice A15 k15 c15); refine (zr_no A15 k15 c15 _ _ HZ4.out HA4).mono ?_; rintro e w2 ⟨rfl, rfl⟩) | (go_at_call_of 19 (Value.slice A16 k16 c16); refine (zr_no A16 k16 c16 _ _ HZ6.out HA6).mono ?_; rintro e w2 ⟨rfl, rfl⟩))
              exact (HK.out _ _ Q1 (pref S v) _ ⟨rfl, rfl, rfl, rfl, rfl, rfl, rfl, rfl⟩ HU1.out HQA.out hg.out ⟨fun h => (by cases h), fun _ => .inr HNO.out⟩).2
            · have q5 : (p4 == 0) = false := by rw [beq_eq_false_iff_ne]; exact hc5
              have hc5 := Lib.hid hc5
              by_cases hc6 : p6 = 0
              · have q6 : (p6 == 0) = true := by rw [beq_iff_eq]; exact hc6
                have hc6 := Lib.hid hc6
                have HNO : Hid (¬ sgood 13 v) := Lib.hid fun h => by exact (hG.out h).2.2.2.2.2 (hp6.out.trans hc6.out)
                go_wp2_with (first | (go_at_call_of 19 (Value.slice A15 k15 c15); refine (zr_no A15 k15 c15 _ _ HZ4.out HA4).mono ?_; rintro e w2 ⟨rfl, rfl⟩) | (go_at_call_of 19 (Value.slice A16 k16 c16); refine (zr_no A16 k16 c16 _ _ HZ6.out HA6).mono ?_; rintro e w2 ⟨rfl, rfl⟩))
                exact (HK.out _ _ Q1 (pref S v) _ ⟨rfl, rfl, rfl, rfl, rfl, rfl, rfl, rfl⟩ HU1.out HQA.out hg.out ⟨fun h => (by cases h), fun _ => .inr HNO.out⟩).2
              · have q6 : (p6 == 0) = false := by rw [beq_eq_false_iff_ne]; exact hc6
                have hc6 := Lib.hid hc6
                have HGd : Hid (sgood 13 v) := ⟨⟨fun h => by omega, fun h => by omega, fun _ => HPK.out, fun h => absurd h (by unfold isNum; omega)⟩, fun h => by omega, fun h => by omega, fun h => by omega, fun _ => ⟨by rw [HKI.out]; have := hc1.out; omega, by rw [HKI.out]; have := hc2.out; omega, HA4.out, HA6.out, by rw [hp4.out]; exact hc5.out, by rw [hp6.out]; exact hc6.out⟩⟩
                go_wp2_with (first | (go_at_call_of 19 (Value.slice A15 k15 c15); refine (zr_no A15 k15 c15 _ _ HZ4.out HA4).mono ?_; rintro e w2 ⟨rfl, rfl⟩) | (go_at_call_of 19 (Value.slice A16 k16 c16); refine (zr_no A16 k16 c16 _ _ HZ6.out HA6).mono ?_; rintro e w2 ⟨rfl, rfl⟩))
                exact (HK.out _ _ Q1 (pref S v) _ ⟨rfl, rfl, rfl, rfl, rfl, rfl, rfl, rfl⟩ HU1.out HQA.out hg.out ⟨fun h => ⟨h, HGd.out, rfl⟩, fun h => .inl h⟩).2
  · have HPK := Lib.hid hpk
    have HNO : Hid (¬ iok 13 v) := Lib.hid fun h => hpk (h.2.2.1 rfl)
    clear hpk
    go_upto_region 51 with (go_at_call 18; refine (pf_no P A n c v Q S w HU.out.hp HQ.out HV.out HPK).mono ?_; rintro e w1 ⟨Q1, rfl, H1⟩)
    have HU1 := Lib.hid (HU.out.own H1.out.1 H1.out.2)
    refine wp_region_lit ?_
    refine wpList_load_mid (op := ⟨some 116, .load 24 (.tmp 4), _, _, _, none⟩) rfl 24 (.tmp 4) rfl P 0 rfl _ _ (by exact HU1.out.range) Tryd.underlying24 rfl (size_sq.trans (congrArg some (QP.size _).symm)) ?_
    refine wpList_store_mid (op := ⟨none, .store 24 (.tmp 2) (.tmp 116), _, _, _, none⟩) rfl 24 (.tmp 2) (.tmp 116) rfl R 0 _ rfl rfl (by exact HU1.out.thereR) size_sq (QP.one _) ?_
    go_wp2_with fail
    exact HE.out _ _ ⟨rfl, rfl, rfl, (HU1.out.fin _).1, (HU1.out.fin _).2⟩ HNO.out
end Go.Proofs.YtdjdcpcomhjnjaaDoor

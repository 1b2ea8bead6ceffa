/- unmarshalTransportParams: the switch, a preferred address. Conditions: none. -/
import Derived.Test.YtdjdcpcomhjnjaaDoorUme
namespace Go.Proofs.YtdjdcpcomhjnjaaDoor
open Go.RowKit
set_option linter.unusedVariables false
set_option linter.unusedSimpArgs false


set_option maxRecDepth 1000000 in
set_option maxHeartbeats 8000000 in
theorem um_c13 {w0 w : World} {R P : Nat} {T : TP} {S : SP} {a4 a6 : Addr} {x0 : Value} {A : Option Addr} {n c : Nat} {v : List Int} (a : Act) (hf : Fs a R P x0 (.int .i64 0) (.slice A n c) (.int .u64 13)) (hu : Ub w0 R P w T) (ht : Tp w a4 a6 T S) (hv : Rt w (A, n, c) v) (hg : Gl w0 a4 a6)
    {K : Act → World → Prop} {Q : Exit → Act → World → Prop} (hK : HK w0 R P x0 a4 a6 S 13 v K) (hE : HE w0 R 13 v Q) :
    Code.wp Tryd.prog umSw (Exit.then K Q) a w := by
  have HU := Lib.hid hu
  have HT := Lib.hid ht
  have HK' := Lib.hid hK
  have HE' := Lib.hid hE
  have HR : Hid (Rd w A v) := hv.1
  have hn : Hid (v.length = n) := hv.2.1
  have hnc : n ≤ c := hv.2.2.1
  have hc2 : c ≤ 9223372036854775807 := hv.2.2.2.1
  have HV := Lib.hid hv
  obtain ⟨x, hx⟩ : ∃ x, Hid (num v = x) := ⟨_, Lib.hid rfl⟩
  obtain ⟨m, hm⟩ : ∃ m, Hid (nk v = m) := ⟨_, Lib.hid rfl⟩
  have hx0 := (num_bd hv.1.1).1
  have hx1 := (num_bd hv.1.1).2
  rw [hx.out] at hx0 hx1
  clear hu ht hv hK hE
  have HG := Lib.hid hg
  clear hg
  obtain ⟨f, rfl⟩ := hf.lit
  clear hf
  conv => arg 2; whnf
  by_cases hb : n < 25
  · have hbi : (n : Int) < 25 := by omega
    go_wp2_with (first | (refine wpList_load_mid rfl 76 (.tmp 4) rfl P 0 rfl _ _ (by exact HU.out.range) Tryd.underlying76 rfl (size_tp.trans (congrArg some (TP.size _).symm)) ?_) | (refine wpList_store_mid rfl 76 (.tmp 2) _ rfl R 0 _ rfl rfl (by exact HU.out.thereR) size_tp (TP.one _) ?_))
    refine HE'.out _ _ ⟨rfl, rfl, ⟨_, rfl⟩, (HU.out.err _).1, (HU.out.err _).2⟩ ?_
    intro h
    have h1 := (h.2.2.1 rfl).1; have h2 := hn.out; omega
  · have hbi : ¬ (n : Int) < 25 := by omega
    obtain ⟨b, o, rfl, -⟩ := HR.out.2 (by have := hn.out; omega)
    obtain ⟨p, hp⟩ : ∃ p : Nat, Hid ((v.getD 24 0).toNat = p) := ⟨_, Lib.hid rfl⟩
    have hpi : Hid (v.getD 24 0 = (p : Nat)) := by have := HR.out.1.at 24; have := hp.out; show _ = _; omega
    go_upto_region 65 with fail
    refine um65_q (x0 := x0) (x6 := .int .i64 0) b o n c v _ ⟨rfl, rfl, rfl, rfl, rfl, rfl, rfl, rfl⟩ HU.out HG.out HR.out hn.out (by omega) hnc hc2 ?_
    intro a1 w1 hf1 hu1 hk1
    have HU1 := Lib.hid hu1
    have HR1 := Lib.hid (hk1 _ _ HV.out).1
    have HT1 := Lib.hid (HT.out.keep hk1)
    have HV1 := Lib.hid (hk1 _ _ HV.out)
    clear hu1 hk1
    obtain ⟨f1, rfl⟩ := hf1.lit
    clear hf1
    simp only [Exit.then]
    have hc6 : c ≠ 6 := by omega
    have hni : (6 : Int) ≤ (n : Int) := by omega
    go_upto_region 67 with fail
    refine um67_q (x0 := x0) (x6 := .int .i64 0) b o n c v _ ⟨rfl, rfl, rfl, rfl, rfl, rfl, rfl, rfl⟩ HU1.out HG.out HR1.out hn.out (by omega) hnc hc2 ?_
    intro a2 w2 hf2 hu2 hk2
    have HU2 := Lib.hid hu2
    have HT2 := Lib.hid (HT1.out.keep hk2)
    have HV2 := Lib.hid (hk2 _ _ HV1.out)
    have HR2 : Hid (Rd w2 (some ⟨b, o + 24, none⟩) (v.drop 24)) := by
      have := (hk2 _ _ HV1.out).1.cut_at (k := 24) (cap := c) (by have := hn.out; omega)
      rw [if_neg (by omega)] at this
      exact Lib.hid this
    clear hu2 hk2
    obtain ⟨f2, rfl⟩ := hf2.lit
    clear hf2
    simp only [Exit.then]
    have hc18 : c - 6 ≠ 18 := by omega
    have hni2 : (18 : Int) ≤ ((n - 6 : Nat) : Int) := by omega
    go_upto_region 70 with fail
    obtain ⟨N, hN⟩ : ∃ N, Hid (n - 6 - 18 = N) := ⟨_, Lib.hid rfl⟩
    obtain ⟨C, hC⟩ : ∃ C, Hid (c - 6 - 18 = C) := ⟨_, Lib.hid rfl⟩
    rw [hN.out, hC.out, show o + 6 + 18 = o + 24 from rfl]
    obtain ⟨q, hq⟩ : ∃ q, Hid (1 + p = q) := ⟨_, Lib.hid rfl⟩
    have hNn : Hid (N + 24 = n) := by have := hN.out; show _ = _; omega
    have hlN : Hid ((v.drop 24).length = N) := by have := hn.out; have := hNn.out; show _ = _; rw [List.length_drop]; omega
    have hNC : N ≤ C := by have := hNn.out; have := hC.out; omega
    have hCm : C ≤ 9223372036854775807 := by have := hC.out; omega
    obtain ⟨T2, hT2⟩ : ∃ T2 : TP, Hid ({ T with v4 := ⟨0, (281470681743360 + ((((v.getD 0 0) * 256 + (v.getD 1 0)) * 256 + (v.getD 2 0)) * 256 + (v.getD 3 0))), some a4, be16 v 4⟩, v6 := ⟨((((((((v.getD 6 0) * 256 + (v.getD 7 0)) * 256 + (v.getD 8 0)) * 256 + (v.getD 9 0)) * 256 + (v.getD 10 0)) * 256 + (v.getD 11 0)) * 256 + (v.getD 12 0)) * 256 + (v.getD 13 0)), ((((((((v.getD 14 0) * 256 + (v.getD 15 0)) * 256 + (v.getD 16 0)) * 256 + (v.getD 17 0)) * 256 + (v.getD 18 0)) * 256 + (v.getD 19 0)) * 256 + (v.getD 20 0)) * 256 + (v.getD 21 0)), some a6, be16 v 22⟩ } = T2) := ⟨_, Lib.hid rfl⟩
    have HU2' : Hid (Ub w0 R P w2 T2) := by rw [← hT2.out]; exact HU2
    have u21 := HU2'.out.cell 21 _ rfl
    have f21 := HU2'.out.free 21
    have hb25 := hn.out
    by_cases hs : (n : Int) < 25 + (p : Nat)
    · have HS : Hid (r8b (v.drop 24) = none) := r8b_none24 (by omega) (by rw [hpi.out, hn.out]; exact hs)
      have HX : Hid (¬ iok 13 v) := by intro h; have h1 := (h.2.2.1 rfl).2; rw [hpi.out] at h1; omega
      clear hb25
      go_wp2_with (first | (go_at_call 44; refine (c8b _ _ _ (v.drop 24) _ (by exact HR2.out) hlN hNC hCm).mono ?_; rintro e w' ⟨h, rfl⟩; obtain rfl := h.none_ HS.out; have HU3 := Lib.hid (HU2'.out.set (T' := { T2 with pid := (none, 0, 0) }) 21 (.slice none 0 0) rfl)) | (refine wpList_load_mid rfl 76 (.tmp 4) rfl P 0 rfl _ _ (by exact HU3.out.range) Tryd.underlying76 rfl (size_tp.trans (congrArg some (TP.size _).symm)) ?_) | (refine wpList_store_mid rfl 76 (.tmp 2) _ rfl R 0 _ rfl rfl (by exact HU3.out.thereR) size_tp (TP.one _) ?_))
      refine HE'.out _ _ ⟨rfl, rfl, ⟨_, rfl⟩, (HU3.out.err _).1, (HU3.out.err _).2⟩ HX.out
    · have hpq : Hid (q ≤ N) := by have := hNn.out; have := hq.out; show _ ≤ _; omega
      have hlp : Hid (((v.drop 25).take p).length = p) := by show _ = _; rw [List.length_take, List.length_drop]; omega
      have HS : Hid (r8b (v.drop 24) = some ((v.drop 25).take p, q)) := by show _ = _; rw [r8b_some24 (by omega) (by rw [hpi.out, hn.out]; exact hs), hp.out, hq.out]
      have HRt : Hid (Rd w2 (if C = q then some ⟨b, o + 24, none⟩ else some ⟨b, o + 24 + q, none⟩) ((v.drop 24).drop q)) := HR2.out.cut_at (by rw [hlN.out]; exact hNC)
      have hqN : (q : Int) ≤ (N : Int) := by have := hpq.out; omega
      obtain ⟨A1, hA⟩ : ∃ A1, (if C = q then (some ⟨b, o + 24, none⟩ : Option Addr) else some ⟨b, o + 24 + q, none⟩) = A1 := ⟨_, rfl⟩
      have hA1 : Hid (A1 ≠ none) := by intro e; rw [e] at hA; split at hA <;> cases hA
      rw [hA] at HRt
      obtain ⟨C1, hC1⟩ : ∃ C1, C - q = C1 := ⟨_, rfl⟩
      obtain ⟨M, hM⟩ : ∃ M, N - q = M := ⟨_, rfl⟩
      have HM := Lib.hid hM
      have HC1 := Lib.hid hC1
      by_cases hm16 : M = 16
      · have HX : Hid (iok 13 v) := ⟨fun h => by omega, fun h => by omega, fun _ => ⟨by omega, by rw [hpi.out]; have := hNn.out; have := hq.out; omega⟩, fun h => absurd h (by unfold isNum; omega)⟩
        subst hm16
        have hcq : C ≠ q := by omega
        have hAe : A1 = some ⟨b, o + 24 + q, none⟩ := by rw [← hA, if_neg hcq]
        subst hAe
        clear hb25 hA
        go_wp2_with (go_at_call 44; refine (c8b _ _ _ (v.drop 24) _ (by exact HR2.out) hlN hNC hCm).mono ?_; rintro e w' ⟨h, rfl⟩; obtain ⟨A', c', rfl, hr', k1, k2, k3⟩ := h.some_ HS.out; rw [hlp.out]; rw [hlp.out] at k1; have HK1 := Lib.hid k1; have HK3 := Lib.hid k3; have HR' := Lib.hid hr'; clear k1 k3 hr' h; have HU3 := Lib.hid (HU2'.out.set (T' := { T2 with pid := (A', p, c') }) 21 (.slice A' p c') rfl); have u22 := HU3.out.cell 22 _ rfl; have f22 := HU3.out.free 22)
        have hU4 := HU3.out.set (T' := { T2 with pid := (A', p, c'), ptok := (some ⟨b, o + 24 + q, none⟩, 16, C1) }) 22 (.slice (some ⟨b, o + 24 + q, none⟩) 16 C1) rfl
        have hk : ∀ t d, Rt w2 t d → Rt ((w2.setCell ⟨P, 21, none⟩ (.slice A' p c')).setCell ⟨P, 22, none⟩ (.slice (some ⟨b, o + 24 + q, none⟩) 16 C1)) t d := fun t d ht => HU3.out.rt _ _ (HU2'.out.rt _ _ ht)
        refine HK'.out _ _ _ 0 none 0 0 ⟨rfl, rfl, rfl, rfl, rfl, rfl, rfl, rfl⟩ hU4 ?_ ⟨fun _ => HX.out, fun _ => rfl⟩
        rw [show updI S 13 v = pref S v from rfl, ← hT2.out]
        have hTk := HT2.out.keep hk
        refine { hTk with v4 := ad4_of HR.out.1 (by have := hn.out; omega), v6 := ad6_of HR.out.1 (by have := hn.out; omega), pid := ?_, ptok := ?_ }
        · show Rt _ _ ((v.drop 25).take (v.getD 24 0).toNat)
          rw [hp.out]
          exact hk _ _ ⟨HR'.out, hlp.out, HK1.out, k2, HK3.out⟩
        · show Rt _ _ (v.drop (25 + (v.getD 24 0).toNat))
          rw [hp.out]
          have e1 : (v.drop 24).drop q = v.drop (25 + p) := by rw [List.drop_drop]; congr 1; have := hq.out; omega
          refine hk _ _ ⟨e1 ▸ HRt.out, ?_, ?_, ?_, fun h => absurd h hA1.out⟩
          · rw [← e1, List.length_drop, hlN.out]; exact HM.out
          · have := HC1.out; have := HM.out; simp only; omega
          · have := HC1.out; simp only; omega
      · have HX : Hid (¬ iok 13 v) := by intro h; have h1 := (h.2.2.1 rfl).2; rw [hpi.out] at h1; have := hNn.out; have := hq.out; omega
        have hmi : (M : Int) ≠ 16 := by omega
        clear hb25
        go_wp2_with (first | (go_at_call 44; refine (c8b _ _ _ (v.drop 24) _ (by exact HR2.out) hlN hNC hCm).mono ?_; rintro e w' ⟨h, rfl⟩; obtain ⟨A', c', rfl, hr', k1, k2, k3⟩ := h.some_ HS.out; rw [hlp.out]; clear k1 k2 k3 hr' h; have HU3 := Lib.hid (HU2'.out.set (T' := { T2 with pid := (A', p, c') }) 21 (.slice A' p c') rfl)) | (refine wpList_load_mid rfl 76 (.tmp 4) rfl P 0 rfl _ _ (by exact HU3.out.range) Tryd.underlying76 rfl (size_tp.trans (congrArg some (TP.size _).symm)) ?_) | (refine wpList_store_mid rfl 76 (.tmp 2) _ rfl R 0 _ rfl rfl (by exact HU3.out.thereR) size_tp (TP.one _) ?_))
        refine HE'.out _ _ ⟨rfl, rfl, ⟨_, rfl⟩, (HU3.out.err _).1, (HU3.out.err _).2⟩ HX.out

end Go.Proofs.YtdjdcpcomhjnjaaDoor

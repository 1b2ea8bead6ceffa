/- The reference's reading of parameters: numbers. Conditions: none. -/
import Derived.Test.YtdjdcpcomhjnjaaDoorSpr
namespace Go.Proofs.YtdjdcpcomhjnjaaDoor
open Go.RowKit
set_option linter.unusedVariables false
set_option linter.unusedSimpArgs false

set_option maxRecDepth 1000000 in
set_option maxHeartbeats 8000000 in
theorem sp_c3 {w0 w : World} {R P G : Nat} {Q : QP} {S : SP} {x0 x5 : Value} {A : Option Addr} {n c : Nat} {v : List Int} {op : Bool} (a : Act) (hf : Fgs a R P G x0 x5 op (.int .u64 3) (.slice A n c)) (hu : Us w0 R P w Q) (hq : Qp w Q S) (hv : Rt w (A, n, c) v)
    {Qx : Exit → Act → World → Prop} (hK : SK w w0 R P G x0 x5 Q S (A, n, c) 3 v op Qx) (hE : SE w0 R 3 v Qx) :
    Code.wp Tryd.prog sp7 Qx a w := by
  have HU := Lib.hid hu
  have HQ := Lib.hid hq
  have HK := Lib.hid hK
  have HE := Lib.hid hE
  have HR : Hid (Rd w A v) := hv.1
  have hn : Hid (v.length = n) := hv.2.1
  have hnc : n ≤ c := hv.2.2.1
  have hc2 : c ≤ 9223372036854775807 := hv.2.2.2.1
  have u5 := hu.cell 5 _ rfl
  have f5 := hu.free 5
  have HV := Lib.hid hv
  have hb0 := num_bds hv.1.1
  obtain ⟨x, hx⟩ : ∃ x, Hid (num v = x) := ⟨_, Lib.hid rfl⟩
  rw [hx.out] at hb0
  obtain ⟨hb0, hb1⟩ := hb0
  clear hu hq hv hK hE
  obtain ⟨f, rfl⟩ := hf.lit
  clear hf
  conv => arg 2; whnf
  have HU1 := Lib.hid (HU.out.set (Q' := { Q with udp := x }) 5 (.int .i64 x) rfl)
  have HQ1 : Hid (∀ W, Qp W Q S → Rt W (A, n, c) v → Qp W { Q with udp := x } (upd S 3 v)) := Lib.hid fun W h1 h2 => by
    rw [show upd S 3 v = { S with udp := num v } from rfl, hx.out]
    exact { h1 with udp := rfl }
  have hg := Lib.hid (grownBy_set w P 5 (.int .i64 x))
  by_cases ha : alone v
  · have HA := Lib.hid ha
    clear ha
    have hr : rng 3 x ↔ ¬ x < 1200 := by simp only [rng]; first | omega | (simp; omega) | simp
    by_cases hbad : x < 1200
    · have hno : ¬ iok 3 v := fun h => by have h1 := (h.2.2.2 (by unfold isNum; omega)).2; rw [hx.out] at h1; exact (hr.1 h1) hbad
      have HNO := Lib.hid hno
      clear hno hr
      cases op
      · go_upto_region 74 with (go_at_call 20; refine (al_yes A n c v w (by exact HR.out) hn hnc hc2 x hx HA).mono ?_; rintro e w1 ⟨rfl, rfl⟩)
        refine wp_region_lit ?_
        refine wpList_load_mid (op := ⟨some 218, .load 24 (.tmp 4), _, _, _, none⟩) rfl 24 (.tmp 4) rfl P 0 rfl _ _ (by exact HU1.out.range) Tryd.underlying24 rfl (size_sq.trans (congrArg some (QP.size _).symm)) ?_
        refine wpList_store_mid (op := ⟨none, .store 24 (.tmp 2) (.tmp 218), _, _, _, none⟩) rfl 24 (.tmp 2) (.tmp 218) rfl R 0 _ rfl rfl (by exact HU1.out.thereR) size_sq (QP.one _) ?_
        go_wp2_with fail
        exact HE.out _ _ ⟨rfl, rfl, rfl, (HU1.out.fin _).1, (HU1.out.fin _).2⟩ HNO.out
      · go_wp2_with (go_at_call 20; refine (al_yes A n c v w (by exact HR.out) hn hnc hc2 x hx HA).mono ?_; rintro e w1 ⟨rfl, rfl⟩)
        exact (HK.out _ _ _ _ _ ⟨rfl, rfl, rfl, rfl, rfl, rfl, rfl, rfl⟩ HU1.out HQ1.out hg.out ⟨fun h => (by cases h), fun _ => .inl rfl⟩).1
    · have hik : iok 3 v := ⟨fun h => by omega, fun h => by omega, fun h => by omega, fun _ => ⟨HA.out, by rw [hx.out]; exact hr.2 hbad⟩⟩
      have HI := Lib.hid hik
      clear hik
      clear hr
      by_cases hopn : 65527 < x
      · have hno : ¬ sgood 3 v := fun h => by have h1 := h.2.2.2.1 rfl; rw [hx.out] at h1; omega
        have HNO := Lib.hid hno
        clear hno
        go_wp2_with (go_at_call 20; refine (al_yes A n c v w (by exact HR.out) hn hnc hc2 x hx HA).mono ?_; rintro e w1 ⟨rfl, rfl⟩)
        exact (HK.out _ _ _ _ _ ⟨rfl, rfl, rfl, rfl, rfl, rfl, rfl, rfl⟩ HU1.out HQ1.out hg.out ⟨fun h => (by cases h), fun _ => .inr HNO.out⟩).1
      · have HGd : Hid (sgood 3 v) := ⟨HI.out, fun h => by omega, fun h => by omega, fun _ => by rw [hx.out]; omega, fun h => by omega⟩
        go_wp2_with (go_at_call 20; refine (al_yes A n c v w (by exact HR.out) hn hnc hc2 x hx HA).mono ?_; rintro e w1 ⟨rfl, rfl⟩)
        exact (HK.out _ _ _ _ _ ⟨rfl, rfl, rfl, rfl, rfl, rfl, rfl, rfl⟩ HU1.out HQ1.out hg.out ⟨fun h => ⟨h, HGd.out, rfl⟩, fun h => .inl h⟩).1
  · have HNO : Hid (¬ sgood 3 v) := Lib.hid fun h => ha (h.1.2.2.2 (by unfold isNum; omega)).1
    have HA := Lib.hid ha
    clear ha
    go_wp2_with (go_at_call 20; refine (al_no A n c v w (by exact HR.out) hn hnc hc2 x hx HA).mono ?_; rintro e w1 ⟨rfl, rfl⟩)
    exact (HK.out _ _ _ _ _ ⟨rfl, rfl, rfl, rfl, rfl, rfl, rfl, rfl⟩ HU.out (fun W h _ => h) (grown_refl _ P) ⟨fun h => (by cases h), fun _ => .inr HNO.out⟩).2
set_option maxRecDepth 1000000 in
set_option maxHeartbeats 8000000 in
theorem sp_c9 {w0 w : World} {R P G : Nat} {Q : QP} {S : SP} {x0 x5 : Value} {A : Option Addr} {n c : Nat} {v : List Int} {op : Bool} (a : Act) (hf : Fgs a R P G x0 x5 op (.int .u64 9) (.slice A n c)) (hu : Us w0 R P w Q) (hq : Qp w Q S) (hv : Rt w (A, n, c) v)
    {Qx : Exit → Act → World → Prop} (hK : SK w w0 R P G x0 x5 Q S (A, n, c) 9 v op Qx) (hE : SE w0 R 9 v Qx) :
    Code.wp Tryd.prog sp7 Qx a w := by
  have HU := Lib.hid hu
  have HQ := Lib.hid hq
  have HK := Lib.hid hK
  have HE := Lib.hid hE
  have HR : Hid (Rd w A v) := hv.1
  have hn : Hid (v.length = n) := hv.2.1
  have hnc : n ≤ c := hv.2.2.1
  have hc2 : c ≤ 9223372036854775807 := hv.2.2.2.1
  have u11 := hu.cell 11 _ rfl
  have f11 := hu.free 11
  have HV := Lib.hid hv
  have hb0 := num_bds hv.1.1
  obtain ⟨x, hx⟩ : ∃ x, Hid (num v = x) := ⟨_, Lib.hid rfl⟩
  rw [hx.out] at hb0
  obtain ⟨hb0, hb1⟩ := hb0
  clear hu hq hv hK hE
  obtain ⟨f, rfl⟩ := hf.lit
  clear hf
  conv => arg 2; whnf
  have HU1 := Lib.hid (HU.out.set (Q' := { Q with su := x }) 11 (.int .i64 x) rfl)
  have HQ1 : Hid (∀ W, Qp W Q S → Rt W (A, n, c) v → Qp W { Q with su := x } (upd S 9 v)) := Lib.hid fun W h1 h2 => by
    rw [show upd S 9 v = { S with su := num v } from rfl, hx.out]
    exact { h1 with su := rfl }
  have hg := Lib.hid (grownBy_set w P 11 (.int .i64 x))
  by_cases ha : alone v
  · have HA := Lib.hid ha
    clear ha
    have hr : rng 9 x ↔ ¬ 1152921504606846976 < x := by simp only [rng]; first | omega | (simp; omega) | simp
    by_cases hbad : 1152921504606846976 < x
    · have hno : ¬ iok 9 v := fun h => by have h1 := (h.2.2.2 (by unfold isNum; omega)).2; rw [hx.out] at h1; exact (hr.1 h1) hbad
      have HNO := Lib.hid hno
      clear hno hr
      cases op
      · go_upto_region 74 with (go_at_call 20; refine (al_yes A n c v w (by exact HR.out) hn hnc hc2 x hx HA).mono ?_; rintro e w1 ⟨rfl, rfl⟩)
        refine wp_region_lit ?_
        refine wpList_load_mid (op := ⟨some 218, .load 24 (.tmp 4), _, _, _, none⟩) rfl 24 (.tmp 4) rfl P 0 rfl _ _ (by exact HU1.out.range) Tryd.underlying24 rfl (size_sq.trans (congrArg some (QP.size _).symm)) ?_
        refine wpList_store_mid (op := ⟨none, .store 24 (.tmp 2) (.tmp 218), _, _, _, none⟩) rfl 24 (.tmp 2) (.tmp 218) rfl R 0 _ rfl rfl (by exact HU1.out.thereR) size_sq (QP.one _) ?_
        go_wp2_with fail
        exact HE.out _ _ ⟨rfl, rfl, rfl, (HU1.out.fin _).1, (HU1.out.fin _).2⟩ HNO.out
      · go_wp2_with (go_at_call 20; refine (al_yes A n c v w (by exact HR.out) hn hnc hc2 x hx HA).mono ?_; rintro e w1 ⟨rfl, rfl⟩)
        exact (HK.out _ _ _ _ _ ⟨rfl, rfl, rfl, rfl, rfl, rfl, rfl, rfl⟩ HU1.out HQ1.out hg.out ⟨fun h => (by cases h), fun _ => .inl rfl⟩).1
    · have hik : iok 9 v := ⟨fun h => by omega, fun h => by omega, fun h => by omega, fun _ => ⟨HA.out, by rw [hx.out]; exact hr.2 hbad⟩⟩
      have HI := Lib.hid hik
      clear hik
      clear hr
      have HGd : Hid (sgood 9 v) := ⟨HI.out, fun h => by omega, fun h => by omega, fun h => by omega, fun h => by omega⟩
      go_wp2_with (go_at_call 20; refine (al_yes A n c v w (by exact HR.out) hn hnc hc2 x hx HA).mono ?_; rintro e w1 ⟨rfl, rfl⟩)
      exact (HK.out _ _ _ _ _ ⟨rfl, rfl, rfl, rfl, rfl, rfl, rfl, rfl⟩ HU1.out HQ1.out hg.out ⟨fun h => ⟨h, HGd.out, rfl⟩, fun h => .inl h⟩).1
  · have HNO : Hid (¬ sgood 9 v) := Lib.hid fun h => ha (h.1.2.2.2 (by unfold isNum; omega)).1
    have HA := Lib.hid ha
    clear ha
    go_wp2_with (go_at_call 20; refine (al_no A n c v w (by exact HR.out) hn hnc hc2 x hx HA).mono ?_; rintro e w1 ⟨rfl, rfl⟩)
    exact (HK.out _ _ _ _ _ ⟨rfl, rfl, rfl, rfl, rfl, rfl, rfl, rfl⟩ HU.out (fun W h _ => h) (grown_refl _ P) ⟨fun h => (by cases h), fun _ => .inr HNO.out⟩).2
set_option maxRecDepth 1000000 in
set_option maxHeartbeats 8000000 in
theorem sp_c10 {w0 w : World} {R P G : Nat} {Q : QP} {S : SP} {x0 x5 : Value} {A : Option Addr} {n c : Nat} {v : List Int} {op : Bool} (a : Act) (hf : Fgs a R P G x0 x5 op (.int .u64 10) (.slice A n c)) (hu : Us w0 R P w Q) (hq : Qp w Q S) (hv : Rt w (A, n, c) v)
    {Qx : Exit → Act → World → Prop} (hK : SK w w0 R P G x0 x5 Q S (A, n, c) 10 v op Qx) (hE : SE w0 R 10 v Qx) :
    Code.wp Tryd.prog sp7 Qx a w := by
  have HU := Lib.hid hu
  have HQ := Lib.hid hq
  have HK := Lib.hid hK
  have HE := Lib.hid hE
  have HR : Hid (Rd w A v) := hv.1
  have hn : Hid (v.length = n) := hv.2.1
  have hnc : n ≤ c := hv.2.2.1
  have hc2 : c ≤ 9223372036854775807 := hv.2.2.2.1
  have u12 := hu.cell 12 _ rfl
  have f12 := hu.free 12
  have HV := Lib.hid hv
  have hb0 := num_bds hv.1.1
  obtain ⟨x, hx⟩ : ∃ x, Hid (num v = x) := ⟨_, Lib.hid rfl⟩
  rw [hx.out] at hb0
  obtain ⟨hb0, hb1⟩ := hb0
  clear hu hq hv hK hE
  obtain ⟨f, rfl⟩ := hf.lit
  clear hf
  conv => arg 2; whnf
  have HU1 := Lib.hid (HU.out.set (Q' := { Q with ae := x }) 12 (.int .i64 x) rfl)
  have HQ1 : Hid (∀ W, Qp W Q S → Rt W (A, n, c) v → Qp W { Q with ae := x } (upd S 10 v)) := Lib.hid fun W h1 h2 => by
    rw [show upd S 10 v = { S with ae := num v } from rfl, hx.out]
    exact { h1 with ae := rfl }
  have hg := Lib.hid (grownBy_set w P 12 (.int .i64 x))
  by_cases ha : alone v
  · have HA := Lib.hid ha
    clear ha
    have hr : rng 10 x ↔ ¬ 20 < x := by simp only [rng]; first | omega | (simp; omega) | simp
    by_cases hbad : 20 < x
    · have hno : ¬ iok 10 v := fun h => by have h1 := (h.2.2.2 (by unfold isNum; omega)).2; rw [hx.out] at h1; exact (hr.1 h1) hbad
      have HNO := Lib.hid hno
      clear hno hr
      cases op
      · go_upto_region 74 with (go_at_call 20; refine (al_yes A n c v w (by exact HR.out) hn hnc hc2 x hx HA).mono ?_; rintro e w1 ⟨rfl, rfl⟩)
        refine wp_region_lit ?_
        refine wpList_load_mid (op := ⟨some 218, .load 24 (.tmp 4), _, _, _, none⟩) rfl 24 (.tmp 4) rfl P 0 rfl _ _ (by exact HU1.out.range) Tryd.underlying24 rfl (size_sq.trans (congrArg some (QP.size _).symm)) ?_
        refine wpList_store_mid (op := ⟨none, .store 24 (.tmp 2) (.tmp 218), _, _, _, none⟩) rfl 24 (.tmp 2) (.tmp 218) rfl R 0 _ rfl rfl (by exact HU1.out.thereR) size_sq (QP.one _) ?_
        go_wp2_with fail
        exact HE.out _ _ ⟨rfl, rfl, rfl, (HU1.out.fin _).1, (HU1.out.fin _).2⟩ HNO.out
      · go_wp2_with (go_at_call 20; refine (al_yes A n c v w (by exact HR.out) hn hnc hc2 x hx HA).mono ?_; rintro e w1 ⟨rfl, rfl⟩)
        exact (HK.out _ _ _ _ _ ⟨rfl, rfl, rfl, rfl, rfl, rfl, rfl, rfl⟩ HU1.out HQ1.out hg.out ⟨fun h => (by cases h), fun _ => .inl rfl⟩).1
    · have hik : iok 10 v := ⟨fun h => by omega, fun h => by omega, fun h => by omega, fun _ => ⟨HA.out, by rw [hx.out]; exact hr.2 hbad⟩⟩
      have HI := Lib.hid hik
      clear hik
      clear hr
      have HGd : Hid (sgood 10 v) := ⟨HI.out, fun h => by omega, fun h => by omega, fun h => by omega, fun h => by omega⟩
      go_wp2_with (go_at_call 20; refine (al_yes A n c v w (by exact HR.out) hn hnc hc2 x hx HA).mono ?_; rintro e w1 ⟨rfl, rfl⟩)
      exact (HK.out _ _ _ _ _ ⟨rfl, rfl, rfl, rfl, rfl, rfl, rfl, rfl⟩ HU1.out HQ1.out hg.out ⟨fun h => ⟨h, HGd.out, rfl⟩, fun h => .inl h⟩).1
  · have HNO : Hid (¬ sgood 10 v) := Lib.hid fun h => ha (h.1.2.2.2 (by unfold isNum; omega)).1
    have HA := Lib.hid ha
    clear ha
    go_wp2_with (go_at_call 20; refine (al_no A n c v w (by exact HR.out) hn hnc hc2 x hx HA).mono ?_; rintro e w1 ⟨rfl, rfl⟩)
    exact (HK.out _ _ _ _ _ ⟨rfl, rfl, rfl, rfl, rfl, rfl, rfl, rfl⟩ HU.out (fun W h _ => h) (grown_refl _ P) ⟨fun h => (by cases h), fun _ => .inr HNO.out⟩).2
set_option maxRecDepth 1000000 in
set_option maxHeartbeats 8000000 in
theorem sp_c11 {w0 w : World} {R P G : Nat} {Q : QP} {S : SP} {x0 x5 : Value} {A : Option Addr} {n c : Nat} {v : List Int} {op : Bool} (a : Act) (hf : Fgs a R P G x0 x5 op (.int .u64 11) (.slice A n c)) (hu : Us w0 R P w Q) (hq : Qp w Q S) (hv : Rt w (A, n, c) v)
    {Qx : Exit → Act → World → Prop} (hK : SK w w0 R P G x0 x5 Q S (A, n, c) 11 v op Qx) (hE : SE w0 R 11 v Qx) :
    Code.wp Tryd.prog sp7 Qx a w := by
  have HU := Lib.hid hu
  have HQ := Lib.hid hq
  have HK := Lib.hid hK
  have HE := Lib.hid hE
  have HR : Hid (Rd w A v) := hv.1
  have hn : Hid (v.length = n) := hv.2.1
  have hnc : n ≤ c := hv.2.2.1
  have hc2 : c ≤ 9223372036854775807 := hv.2.2.2.1
  have u13 := hu.cell 13 _ rfl
  have f13 := hu.free 13
  have HV := Lib.hid hv
  have hb0 := num_bds hv.1.1
  obtain ⟨x, hx⟩ : ∃ x, Hid (num v = x) := ⟨_, Lib.hid rfl⟩
  rw [hx.out] at hb0
  obtain ⟨hb0, hb1⟩ := hb0
  clear hu hq hv hK hE
  obtain ⟨f, rfl⟩ := hf.lit
  clear hf
  conv => arg 2; whnf
  have HU1 := Lib.hid (HU.out.set (Q' := { Q with ad := x }) 13 (.int .i64 x) rfl)
  have HQ1 : Hid (∀ W, Qp W Q S → Rt W (A, n, c) v → Qp W { Q with ad := x } (upd S 11 v)) := Lib.hid fun W h1 h2 => by
    rw [show upd S 11 v = { S with ad := num v } from rfl, hx.out]
    exact { h1 with ad := rfl }
  have hg := Lib.hid (grownBy_set w P 13 (.int .i64 x))
  by_cases ha : alone v
  · have HA := Lib.hid ha
    clear ha
    have hr : rng 11 x ↔ ¬ 16384 ≤ x := by simp only [rng]; first | omega | (simp; omega) | simp
    by_cases hbad : 16384 ≤ x
    · have hno : ¬ iok 11 v := fun h => by have h1 := (h.2.2.2 (by unfold isNum; omega)).2; rw [hx.out] at h1; exact (hr.1 h1) hbad
      have HNO := Lib.hid hno
      clear hno hr
      cases op
      · go_upto_region 74 with (go_at_call 20; refine (al_yes A n c v w (by exact HR.out) hn hnc hc2 x hx HA).mono ?_; rintro e w1 ⟨rfl, rfl⟩)
        refine wp_region_lit ?_
        refine wpList_load_mid (op := ⟨some 218, .load 24 (.tmp 4), _, _, _, none⟩) rfl 24 (.tmp 4) rfl P 0 rfl _ _ (by exact HU1.out.range) Tryd.underlying24 rfl (size_sq.trans (congrArg some (QP.size _).symm)) ?_
        refine wpList_store_mid (op := ⟨none, .store 24 (.tmp 2) (.tmp 218), _, _, _, none⟩) rfl 24 (.tmp 2) (.tmp 218) rfl R 0 _ rfl rfl (by exact HU1.out.thereR) size_sq (QP.one _) ?_
        go_wp2_with fail
        exact HE.out _ _ ⟨rfl, rfl, rfl, (HU1.out.fin _).1, (HU1.out.fin _).2⟩ HNO.out
      · go_wp2_with (go_at_call 20; refine (al_yes A n c v w (by exact HR.out) hn hnc hc2 x hx HA).mono ?_; rintro e w1 ⟨rfl, rfl⟩)
        exact (HK.out _ _ _ _ _ ⟨rfl, rfl, rfl, rfl, rfl, rfl, rfl, rfl⟩ HU1.out HQ1.out hg.out ⟨fun h => (by cases h), fun _ => .inl rfl⟩).1
    · have hik : iok 11 v := ⟨fun h => by omega, fun h => by omega, fun h => by omega, fun _ => ⟨HA.out, by rw [hx.out]; exact hr.2 hbad⟩⟩
      have HI := Lib.hid hik
      clear hik
      clear hr
      have HGd : Hid (sgood 11 v) := ⟨HI.out, fun h => by omega, fun h => by omega, fun h => by omega, fun h => by omega⟩
      go_wp2_with (go_at_call 20; refine (al_yes A n c v w (by exact HR.out) hn hnc hc2 x hx HA).mono ?_; rintro e w1 ⟨rfl, rfl⟩)
      exact (HK.out _ _ _ _ _ ⟨rfl, rfl, rfl, rfl, rfl, rfl, rfl, rfl⟩ HU1.out HQ1.out hg.out ⟨fun h => ⟨h, HGd.out, rfl⟩, fun h => .inl h⟩).1
  · have HNO : Hid (¬ sgood 11 v) := Lib.hid fun h => ha (h.1.2.2.2 (by unfold isNum; omega)).1
    have HA := Lib.hid ha
    clear ha
    go_wp2_with (go_at_call 20; refine (al_no A n c v w (by exact HR.out) hn hnc hc2 x hx HA).mono ?_; rintro e w1 ⟨rfl, rfl⟩)
    exact (HK.out _ _ _ _ _ ⟨rfl, rfl, rfl, rfl, rfl, rfl, rfl, rfl⟩ HU.out (fun W h _ => h) (grown_refl _ P) ⟨fun h => (by cases h), fun _ => .inr HNO.out⟩).2
set_option maxRecDepth 1000000 in
set_option maxHeartbeats 8000000 in
theorem sp_c14 {w0 w : World} {R P G : Nat} {Q : QP} {S : SP} {x0 x5 : Value} {A : Option Addr} {n c : Nat} {v : List Int} {op : Bool} (a : Act) (hf : Fgs a R P G x0 x5 op (.int .u64 14) (.slice A n c)) (hu : Us w0 R P w Q) (hq : Qp w Q S) (hv : Rt w (A, n, c) v)
    {Qx : Exit → Act → World → Prop} (hK : SK w w0 R P G x0 x5 Q S (A, n, c) 14 v op Qx) (hE : SE w0 R 14 v Qx) :
    Code.wp Tryd.prog sp7 Qx a w := by
  have HU := Lib.hid hu
  have HQ := Lib.hid hq
  have HK := Lib.hid hK
  have HE := Lib.hid hE
  have HR : Hid (Rd w A v) := hv.1
  have hn : Hid (v.length = n) := hv.2.1
  have hnc : n ≤ c := hv.2.2.1
  have hc2 : c ≤ 9223372036854775807 := hv.2.2.2.1
  have u21 := hu.cell 21 _ rfl
  have f21 := hu.free 21
  have HV := Lib.hid hv
  have hb0 := num_bds hv.1.1
  obtain ⟨x, hx⟩ : ∃ x, Hid (num v = x) := ⟨_, Lib.hid rfl⟩
  rw [hx.out] at hb0
  obtain ⟨hb0, hb1⟩ := hb0
  clear hu hq hv hK hE
  obtain ⟨f, rfl⟩ := hf.lit
  clear hf
  conv => arg 2; whnf
  have HU1 := Lib.hid (HU.out.set (Q' := { Q with act := x }) 21 (.int .i64 x) rfl)
  have HQ1 : Hid (∀ W, Qp W Q S → Rt W (A, n, c) v → Qp W { Q with act := x } (upd S 14 v)) := Lib.hid fun W h1 h2 => by
    rw [show upd S 14 v = { S with act := num v } from rfl, hx.out]
    exact { h1 with act := rfl }
  have hg := Lib.hid (grownBy_set w P 21 (.int .i64 x))
  by_cases ha : alone v
  · have HA := Lib.hid ha
    clear ha
    have hr : rng 14 x ↔ ¬ x < 2 := by simp only [rng]; first | omega | (simp; omega) | simp
    by_cases hbad : x < 2
    · have hno : ¬ iok 14 v := fun h => by have h1 := (h.2.2.2 (by unfold isNum; omega)).2; rw [hx.out] at h1; exact (hr.1 h1) hbad
      have HNO := Lib.hid hno
      clear hno hr
      cases op
      · go_upto_region 74 with (go_at_call 20; refine (al_yes A n c v w (by exact HR.out) hn hnc hc2 x hx HA).mono ?_; rintro e w1 ⟨rfl, rfl⟩)
        refine wp_region_lit ?_
        refine wpList_load_mid (op := ⟨some 218, .load 24 (.tmp 4), _, _, _, none⟩) rfl 24 (.tmp 4) rfl P 0 rfl _ _ (by exact HU1.out.range) Tryd.underlying24 rfl (size_sq.trans (congrArg some (QP.size _).symm)) ?_
        refine wpList_store_mid (op := ⟨none, .store 24 (.tmp 2) (.tmp 218), _, _, _, none⟩) rfl 24 (.tmp 2) (.tmp 218) rfl R 0 _ rfl rfl (by exact HU1.out.thereR) size_sq (QP.one _) ?_
        go_wp2_with fail
        exact HE.out _ _ ⟨rfl, rfl, rfl, (HU1.out.fin _).1, (HU1.out.fin _).2⟩ HNO.out
      · go_wp2_with (go_at_call 20; refine (al_yes A n c v w (by exact HR.out) hn hnc hc2 x hx HA).mono ?_; rintro e w1 ⟨rfl, rfl⟩)
        exact (HK.out _ _ _ _ _ ⟨rfl, rfl, rfl, rfl, rfl, rfl, rfl, rfl⟩ HU1.out HQ1.out hg.out ⟨fun h => (by cases h), fun _ => .inl rfl⟩).1
    · have hik : iok 14 v := ⟨fun h => by omega, fun h => by omega, fun h => by omega, fun _ => ⟨HA.out, by rw [hx.out]; exact hr.2 hbad⟩⟩
      have HI := Lib.hid hik
      clear hik
      clear hr
      have HGd : Hid (sgood 14 v) := ⟨HI.out, fun h => by omega, fun h => by omega, fun h => by omega, fun h => by omega⟩
      go_wp2_with (go_at_call 20; refine (al_yes A n c v w (by exact HR.out) hn hnc hc2 x hx HA).mono ?_; rintro e w1 ⟨rfl, rfl⟩)
      exact (HK.out _ _ _ _ _ ⟨rfl, rfl, rfl, rfl, rfl, rfl, rfl, rfl⟩ HU1.out HQ1.out hg.out ⟨fun h => ⟨h, HGd.out, rfl⟩, fun h => .inl h⟩).1
  · have HNO : Hid (¬ sgood 14 v) := Lib.hid fun h => ha (h.1.2.2.2 (by unfold isNum; omega)).1
    have HA := Lib.hid ha
    clear ha
    go_wp2_with (go_at_call 20; refine (al_no A n c v w (by exact HR.out) hn hnc hc2 x hx HA).mono ?_; rintro e w1 ⟨rfl, rfl⟩)
    exact (HK.out _ _ _ _ _ ⟨rfl, rfl, rfl, rfl, rfl, rfl, rfl, rfl⟩ HU.out (fun W h _ => h) (grown_refl _ P) ⟨fun h => (by cases h), fun _ => .inr HNO.out⟩).2
end Go.Proofs.YtdjdcpcomhjnjaaDoor

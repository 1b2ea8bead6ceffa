/- The reference's reading of parameters: numbers. Conditions: none. -/
import Derived.Test.YtdjdcpcomhjnjaaDoorSpr
namespace Go.Proofs.YtdjdcpcomhjnjaaDoor
open Go.RowKit
set_option linter.unusedVariables false
set_option linter.unusedSimpArgs false

set_option maxRecDepth 1000000 in
set_option maxHeartbeats 8000000 in
theorem sp_c1 {w0 w : World} {R P G : Nat} {Q : QP} {S : SP} {x0 x5 : Value} {A : Option Addr} {n c : Nat} {v : List Int} {op : Bool} (a : Act) (hf : Fgs a R P G x0 x5 op (.int .u64 1) (.slice A n c)) (hu : Us w0 R P w Q) (hq : Qp w Q S) (hv : Rt w (A, n, c) v)
    {Qx : Exit → Act → World → Prop} (hK : SK w w0 R P G x0 x5 Q S (A, n, c) 1 v op Qx) (hE : SE w0 R 1 v Qx) :
    Code.wp Tryd.prog sp7 Qx a w := by
  have HU := Lib.hid hu
  have HQ := Lib.hid hq
  have HK := Lib.hid hK
  have HE := Lib.hid hE
  have HR : Hid (Rd w A v) := hv.1
  have hn : Hid (v.length = n) := hv.2.1
  have hnc : n ≤ c := hv.2.2.1
  have hc2 : c ≤ 9223372036854775807 := hv.2.2.2.1
  have u4 := hu.cell 4 _ rfl
  have f4 := hu.free 4
  have HV := Lib.hid hv
  have hb0 := num_bds hv.1.1
  obtain ⟨x, hx⟩ : ∃ x, Hid (num v = x) := ⟨_, Lib.hid rfl⟩
  rw [hx.out] at hb0
  obtain ⟨hb0, hb1⟩ := hb0
  clear hu hq hv hK hE
  obtain ⟨f, rfl⟩ := hf.lit
  clear hf
  conv => arg 2; whnf
  have HU1 := Lib.hid (HU.out.set (Q' := { Q with idle := x }) 4 (.int .i64 x) rfl)
  have HQ1 : Hid (∀ W, Qp W Q S → Rt W (A, n, c) v → Qp W { Q with idle := x } (upd S 1 v)) := Lib.hid fun W h1 h2 => by
    rw [show upd S 1 v = { S with idle := num v } from rfl, hx.out]
    exact { h1 with idle := rfl }
  have hg := Lib.hid (grownBy_set w P 4 (.int .i64 x))
  by_cases ha : alone v
  · have HA := Lib.hid ha
    clear ha
    have hik : iok 1 v := ⟨fun h => by omega, fun h => by omega, fun h => by omega, fun _ => ⟨HA.out, trivial⟩⟩
    have HI := Lib.hid hik
    clear hik
    by_cases hopn : 1073741824 ≤ x
    · have hno : ¬ sgood 1 v := fun h => by have h1 := h.2.2.1 rfl; rw [hx.out] at h1; omega
      have HNO := Lib.hid hno
      clear hno
      go_wp2_with (go_at_call 20; refine (al_yes A n c v w (by exact HR.out) hn hnc hc2 x hx HA).mono ?_; rintro e w1 ⟨rfl, rfl⟩)
      exact (HK.out _ _ _ _ _ ⟨rfl, rfl, rfl, rfl, rfl, rfl, rfl, rfl⟩ HU1.out HQ1.out hg.out ⟨fun h => (by cases h), fun _ => .inr HNO.out⟩).1
    · have HGd : Hid (sgood 1 v) := ⟨HI.out, fun h => by omega, fun _ => by rw [hx.out]; omega, fun h => by omega, fun h => by omega⟩
      go_wp2_with (go_at_call 20; refine (al_yes A n c v w (by exact HR.out) hn hnc hc2 x hx HA).mono ?_; rintro e w1 ⟨rfl, rfl⟩)
      exact (HK.out _ _ _ _ _ ⟨rfl, rfl, rfl, rfl, rfl, rfl, rfl, rfl⟩ HU1.out HQ1.out hg.out ⟨fun h => ⟨h, HGd.out, rfl⟩, fun h => .inl h⟩).1
  · have HNO : Hid (¬ sgood 1 v) := Lib.hid fun h => ha (h.1.2.2.2 (by unfold isNum; omega)).1
    have HA := Lib.hid ha
    clear ha
    go_wp2_with (go_at_call 20; refine (al_no A n c v w (by exact HR.out) hn hnc hc2 x hx HA).mono ?_; rintro e w1 ⟨rfl, rfl⟩)
    exact (HK.out _ _ _ _ _ ⟨rfl, rfl, rfl, rfl, rfl, rfl, rfl, rfl⟩ HU.out (fun W h _ => h) (grown_refl _ P) ⟨fun h => (by cases h), fun _ => .inr HNO.out⟩).2
set_option maxRecDepth 1000000 in
set_option maxHeartbeats 8000000 in
theorem sp_c4 {w0 w : World} {R P G : Nat} {Q : QP} {S : SP} {x0 x5 : Value} {A : Option Addr} {n c : Nat} {v : List Int} {op : Bool} (a : Act) (hf : Fgs a R P G x0 x5 op (.int .u64 4) (.slice A n c)) (hu : Us w0 R P w Q) (hq : Qp w Q S) (hv : Rt w (A, n, c) v)
    {Qx : Exit → Act → World → Prop} (hK : SK w w0 R P G x0 x5 Q S (A, n, c) 4 v op Qx) (hE : SE w0 R 4 v Qx) :
    Code.wp Tryd.prog sp7 Qx a w := by
  have HU := Lib.hid hu
  have HQ := Lib.hid hq
  have HK := Lib.hid hK
  have HE := Lib.hid hE
  have HR : Hid (Rd w A v) := hv.1
  have hn : Hid (v.length = n) := hv.2.1
  have hnc : n ≤ c := hv.2.2.1
  have hc2 : c ≤ 9223372036854775807 := hv.2.2.2.1
  have u6 := hu.cell 6 _ rfl
  have f6 := hu.free 6
  have HV := Lib.hid hv
  have hb0 := num_bds hv.1.1
  obtain ⟨x, hx⟩ : ∃ x, Hid (num v = x) := ⟨_, Lib.hid rfl⟩
  rw [hx.out] at hb0
  obtain ⟨hb0, hb1⟩ := hb0
  clear hu hq hv hK hE
  obtain ⟨f, rfl⟩ := hf.lit
  clear hf
  conv => arg 2; whnf
  have HU1 := Lib.hid (HU.out.set (Q' := { Q with data := x }) 6 (.int .i64 x) rfl)
  have HQ1 : Hid (∀ W, Qp W Q S → Rt W (A, n, c) v → Qp W { Q with data := x } (upd S 4 v)) := Lib.hid fun W h1 h2 => by
    rw [show upd S 4 v = { S with data := num v } from rfl, hx.out]
    exact { h1 with data := rfl }
  have hg := Lib.hid (grownBy_set w P 6 (.int .i64 x))
  by_cases ha : alone v
  · have HA := Lib.hid ha
    clear ha
    have hik : iok 4 v := ⟨fun h => by omega, fun h => by omega, fun h => by omega, fun _ => ⟨HA.out, trivial⟩⟩
    have HI := Lib.hid hik
    clear hik
    have HGd : Hid (sgood 4 v) := ⟨HI.out, fun h => by omega, fun h => by omega, fun h => by omega, fun h => by omega⟩
    go_wp2_with (go_at_call 20; refine (al_yes A n c v w (by exact HR.out) hn hnc hc2 x hx HA).mono ?_; rintro e w1 ⟨rfl, rfl⟩)
    exact (HK.out _ _ _ _ _ ⟨rfl, rfl, rfl, rfl, rfl, rfl, rfl, rfl⟩ HU1.out HQ1.out hg.out ⟨fun h => ⟨h, HGd.out, rfl⟩, fun h => .inl h⟩).1
  · have HNO : Hid (¬ sgood 4 v) := Lib.hid fun h => ha (h.1.2.2.2 (by unfold isNum; omega)).1
    have HA := Lib.hid ha
    clear ha
    go_wp2_with (go_at_call 20; refine (al_no A n c v w (by exact HR.out) hn hnc hc2 x hx HA).mono ?_; rintro e w1 ⟨rfl, rfl⟩)
    exact (HK.out _ _ _ _ _ ⟨rfl, rfl, rfl, rfl, rfl, rfl, rfl, rfl⟩ HU.out (fun W h _ => h) (grown_refl _ P) ⟨fun h => (by cases h), fun _ => .inr HNO.out⟩).2
set_option maxRecDepth 1000000 in
set_option maxHeartbeats 8000000 in
theorem sp_c5 {w0 w : World} {R P G : Nat} {Q : QP} {S : SP} {x0 x5 : Value} {A : Option Addr} {n c : Nat} {v : List Int} {op : Bool} (a : Act) (hf : Fgs a R P G x0 x5 op (.int .u64 5) (.slice A n c)) (hu : Us w0 R P w Q) (hq : Qp w Q S) (hv : Rt w (A, n, c) v)
    {Qx : Exit → Act → World → Prop} (hK : SK w w0 R P G x0 x5 Q S (A, n, c) 5 v op Qx) (hE : SE w0 R 5 v Qx) :
    Code.wp Tryd.prog sp7 Qx a w := by
  have HU := Lib.hid hu
  have HQ := Lib.hid hq
  have HK := Lib.hid hK
  have HE := Lib.hid hE
  have HR : Hid (Rd w A v) := hv.1
  have hn : Hid (v.length = n) := hv.2.1
  have hnc : n ≤ c := hv.2.2.1
  have hc2 : c ≤ 9223372036854775807 := hv.2.2.2.1
  have u7 := hu.cell 7 _ rfl
  have f7 := hu.free 7
  have HV := Lib.hid hv
  have hb0 := num_bds hv.1.1
  obtain ⟨x, hx⟩ : ∃ x, Hid (num v = x) := ⟨_, Lib.hid rfl⟩
  rw [hx.out] at hb0
  obtain ⟨hb0, hb1⟩ := hb0
  clear hu hq hv hK hE
  obtain ⟨f, rfl⟩ := hf.lit
  clear hf
  conv => arg 2; whnf
  have HU1 := Lib.hid (HU.out.set (Q' := { Q with bl := x }) 7 (.int .i64 x) rfl)
  have HQ1 : Hid (∀ W, Qp W Q S → Rt W (A, n, c) v → Qp W { Q with bl := x } (upd S 5 v)) := Lib.hid fun W h1 h2 => by
    rw [show upd S 5 v = { S with bl := num v } from rfl, hx.out]
    exact { h1 with bl := rfl }
  have hg := Lib.hid (grownBy_set w P 7 (.int .i64 x))
  by_cases ha : alone v
  · have HA := Lib.hid ha
    clear ha
    have hik : iok 5 v := ⟨fun h => by omega, fun h => by omega, fun h => by omega, fun _ => ⟨HA.out, trivial⟩⟩
    have HI := Lib.hid hik
    clear hik
    have HGd : Hid (sgood 5 v) := ⟨HI.out, fun h => by omega, fun h => by omega, fun h => by omega, fun h => by omega⟩
    go_wp2_with (go_at_call 20; refine (al_yes A n c v w (by exact HR.out) hn hnc hc2 x hx HA).mono ?_; rintro e w1 ⟨rfl, rfl⟩)
    exact (HK.out _ _ _ _ _ ⟨rfl, rfl, rfl, rfl, rfl, rfl, rfl, rfl⟩ HU1.out HQ1.out hg.out ⟨fun h => ⟨h, HGd.out, rfl⟩, fun h => .inl h⟩).1
  · have HNO : Hid (¬ sgood 5 v) := Lib.hid fun h => ha (h.1.2.2.2 (by unfold isNum; omega)).1
    have HA := Lib.hid ha
    clear ha
    go_wp2_with (go_at_call 20; refine (al_no A n c v w (by exact HR.out) hn hnc hc2 x hx HA).mono ?_; rintro e w1 ⟨rfl, rfl⟩)
    exact (HK.out _ _ _ _ _ ⟨rfl, rfl, rfl, rfl, rfl, rfl, rfl, rfl⟩ HU.out (fun W h _ => h) (grown_refl _ P) ⟨fun h => (by cases h), fun _ => .inr HNO.out⟩).2
set_option maxRecDepth 1000000 in
set_option maxHeartbeats 8000000 in
theorem sp_c6 {w0 w : World} {R P G : Nat} {Q : QP} {S : SP} {x0 x5 : Value} {A : Option Addr} {n c : Nat} {v : List Int} {op : Bool} (a : Act) (hf : Fgs a R P G x0 x5 op (.int .u64 6) (.slice A n c)) (hu : Us w0 R P w Q) (hq : Qp w Q S) (hv : Rt w (A, n, c) v)
    {Qx : Exit → Act → World → Prop} (hK : SK w w0 R P G x0 x5 Q S (A, n, c) 6 v op Qx) (hE : SE w0 R 6 v Qx) :
    Code.wp Tryd.prog sp7 Qx a w := by
  have HU := Lib.hid hu
  have HQ := Lib.hid hq
  have HK := Lib.hid hK
  have HE := Lib.hid hE
  have HR : Hid (Rd w A v) := hv.1
  have hn : Hid (v.length = n) := hv.2.1
  have hnc : n ≤ c := hv.2.2.1
  have hc2 : c ≤ 9223372036854775807 := hv.2.2.2.1
  have u8 := hu.cell 8 _ rfl
  have f8 := hu.free 8
  have HV := Lib.hid hv
  have hb0 := num_bds hv.1.1
  obtain ⟨x, hx⟩ : ∃ x, Hid (num v = x) := ⟨_, Lib.hid rfl⟩
  rw [hx.out] at hb0
  obtain ⟨hb0, hb1⟩ := hb0
  clear hu hq hv hK hE
  obtain ⟨f, rfl⟩ := hf.lit
  clear hf
  conv => arg 2; whnf
  have HU1 := Lib.hid (HU.out.set (Q' := { Q with br := x }) 8 (.int .i64 x) rfl)
  have HQ1 : Hid (∀ W, Qp W Q S → Rt W (A, n, c) v → Qp W { Q with br := x } (upd S 6 v)) := Lib.hid fun W h1 h2 => by
    rw [show upd S 6 v = { S with br := num v } from rfl, hx.out]
    exact { h1 with br := rfl }
  have hg := Lib.hid (grownBy_set w P 8 (.int .i64 x))
  by_cases ha : alone v
  · have HA := Lib.hid ha
    clear ha
    have hik : iok 6 v := ⟨fun h => by omega, fun h => by omega, fun h => by omega, fun _ => ⟨HA.out, trivial⟩⟩
    have HI := Lib.hid hik
    clear hik
    have HGd : Hid (sgood 6 v) := ⟨HI.out, fun h => by omega, fun h => by omega, fun h => by omega, fun h => by omega⟩
    go_wp2_with (go_at_call 20; refine (al_yes A n c v w (by exact HR.out) hn hnc hc2 x hx HA).mono ?_; rintro e w1 ⟨rfl, rfl⟩)
    exact (HK.out _ _ _ _ _ ⟨rfl, rfl, rfl, rfl, rfl, rfl, rfl, rfl⟩ HU1.out HQ1.out hg.out ⟨fun h => ⟨h, HGd.out, rfl⟩, fun h => .inl h⟩).1
  · have HNO : Hid (¬ sgood 6 v) := Lib.hid fun h => ha (h.1.2.2.2 (by unfold isNum; omega)).1
    have HA := Lib.hid ha
    clear ha
    go_wp2_with (go_at_call 20; refine (al_no A n c v w (by exact HR.out) hn hnc hc2 x hx HA).mono ?_; rintro e w1 ⟨rfl, rfl⟩)
    exact (HK.out _ _ _ _ _ ⟨rfl, rfl, rfl, rfl, rfl, rfl, rfl, rfl⟩ HU.out (fun W h _ => h) (grown_refl _ P) ⟨fun h => (by cases h), fun _ => .inr HNO.out⟩).2
set_option maxRecDepth 1000000 in
set_option maxHeartbeats 8000000 in
theorem sp_c7 {w0 w : World} {R P G : Nat} {Q : QP} {S : SP} {x0 x5 : Value} {A : Option Addr} {n c : Nat} {v : List Int} {op : Bool} (a : Act) (hf : Fgs a R P G x0 x5 op (.int .u64 7) (.slice A n c)) (hu : Us w0 R P w Q) (hq : Qp w Q S) (hv : Rt w (A, n, c) v)
    {Qx : Exit → Act → World → Prop} (hK : SK w w0 R P G x0 x5 Q S (A, n, c) 7 v op Qx) (hE : SE w0 R 7 v Qx) :
    Code.wp Tryd.prog sp7 Qx a w := by
  have HU := Lib.hid hu
  have HQ := Lib.hid hq
  have HK := Lib.hid hK
  have HE := Lib.hid hE
  have HR : Hid (Rd w A v) := hv.1
  have hn : Hid (v.length = n) := hv.2.1
  have hnc : n ≤ c := hv.2.2.1
  have hc2 : c ≤ 9223372036854775807 := hv.2.2.2.1
  have u9 := hu.cell 9 _ rfl
  have f9 := hu.free 9
  have HV := Lib.hid hv
  have hb0 := num_bds hv.1.1
  obtain ⟨x, hx⟩ : ∃ x, Hid (num v = x) := ⟨_, Lib.hid rfl⟩
  rw [hx.out] at hb0
  obtain ⟨hb0, hb1⟩ := hb0
  clear hu hq hv hK hE
  obtain ⟨f, rfl⟩ := hf.lit
  clear hf
  conv => arg 2; whnf
  have HU1 := Lib.hid (HU.out.set (Q' := { Q with un := x }) 9 (.int .i64 x) rfl)
  have HQ1 : Hid (∀ W, Qp W Q S → Rt W (A, n, c) v → Qp W { Q with un := x } (upd S 7 v)) := Lib.hid fun W h1 h2 => by
    rw [show upd S 7 v = { S with un := num v } from rfl, hx.out]
    exact { h1 with un := rfl }
  have hg := Lib.hid (grownBy_set w P 9 (.int .i64 x))
  by_cases ha : alone v
  · have HA := Lib.hid ha
    clear ha
    have hik : iok 7 v := ⟨fun h => by omega, fun h => by omega, fun h => by omega, fun _ => ⟨HA.out, trivial⟩⟩
    have HI := Lib.hid hik
    clear hik
    have HGd : Hid (sgood 7 v) := ⟨HI.out, fun h => by omega, fun h => by omega, fun h => by omega, fun h => by omega⟩
    go_wp2_with (go_at_call 20; refine (al_yes A n c v w (by exact HR.out) hn hnc hc2 x hx HA).mono ?_; rintro e w1 ⟨rfl, rfl⟩)
    exact (HK.out _ _ _ _ _ ⟨rfl, rfl, rfl, rfl, rfl, rfl, rfl, rfl⟩ HU1.out HQ1.out hg.out ⟨fun h => ⟨h, HGd.out, rfl⟩, fun h => .inl h⟩).1
  · have HNO : Hid (¬ sgood 7 v) := Lib.hid fun h => ha (h.1.2.2.2 (by unfold isNum; omega)).1
    have HA := Lib.hid ha
    clear ha
    go_wp2_with (go_at_call 20; refine (al_no A n c v w (by exact HR.out) hn hnc hc2 x hx HA).mono ?_; rintro e w1 ⟨rfl, rfl⟩)
    exact (HK.out _ _ _ _ _ ⟨rfl, rfl, rfl, rfl, rfl, rfl, rfl, rfl⟩ HU.out (fun W h _ => h) (grown_refl _ P) ⟨fun h => (by cases h), fun _ => .inr HNO.out⟩).2
set_option maxRecDepth 1000000 in
set_option maxHeartbeats 8000000 in
theorem sp_c8 {w0 w : World} {R P G : Nat} {Q : QP} {S : SP} {x0 x5 : Value} {A : Option Addr} {n c : Nat} {v : List Int} {op : Bool} (a : Act) (hf : Fgs a R P G x0 x5 op (.int .u64 8) (.slice A n c)) (hu : Us w0 R P w Q) (hq : Qp w Q S) (hv : Rt w (A, n, c) v)
    {Qx : Exit → Act → World → Prop} (hK : SK w w0 R P G x0 x5 Q S (A, n, c) 8 v op Qx) (hE : SE w0 R 8 v Qx) :
    Code.wp Tryd.prog sp7 Qx a w := by
  have HU := Lib.hid hu
  have HQ := Lib.hid hq
  have HK := Lib.hid hK
  have HE := Lib.hid hE
  have HR : Hid (Rd w A v) := hv.1
  have hn : Hid (v.length = n) := hv.2.1
  have hnc : n ≤ c := hv.2.2.1
  have hc2 : c ≤ 9223372036854775807 := hv.2.2.2.1
  have u10 := hu.cell 10 _ rfl
  have f10 := hu.free 10
  have HV := Lib.hid hv
  have hb0 := num_bds hv.1.1
  obtain ⟨x, hx⟩ : ∃ x, Hid (num v = x) := ⟨_, Lib.hid rfl⟩
  rw [hx.out] at hb0
  obtain ⟨hb0, hb1⟩ := hb0
  clear hu hq hv hK hE
  obtain ⟨f, rfl⟩ := hf.lit
  clear hf
  conv => arg 2; whnf
  have HU1 := Lib.hid (HU.out.set (Q' := { Q with sb := x }) 10 (.int .i64 x) rfl)
  have HQ1 : Hid (∀ W, Qp W Q S → Rt W (A, n, c) v → Qp W { Q with sb := x } (upd S 8 v)) := Lib.hid fun W h1 h2 => by
    rw [show upd S 8 v = { S with sb := num v } from rfl, hx.out]
    exact { h1 with sb := rfl }
  have hg := Lib.hid (grownBy_set w P 10 (.int .i64 x))
  by_cases ha : alone v
  · have HA := Lib.hid ha
    clear ha
    have hr : rng 8 x ↔ ¬ 1152921504606846976 < x := by simp only [rng]; first | omega | (simp; omega) | simp
    by_cases hbad : 1152921504606846976 < x
    · have hno : ¬ iok 8 v := fun h => by have h1 := (h.2.2.2 (by unfold isNum; omega)).2; rw [hx.out] at h1; exact (hr.1 h1) hbad
      have HNO := Lib.hid hno
      clear hno hr
      cases op
      · go_upto_region 74 with (go_at_call 20; refine (al_yes A n c v w (by exact HR.out) hn hnc hc2 x hx HA).mono ?_; rintro e w1 ⟨rfl, rfl⟩)
        refine wp_region_lit ?_
        refine wpList_load_mid (op := ⟨some 218, .load 24 (.tmp 4), _, _, _, none⟩) rfl 24 (.tmp 4) rfl P 0 rfl _ _ (by exact HU1.out.range) Tryd.underlying24 rfl (size_sq.trans (congrArg some (QP.size _).symm)) ?_
        refine wpList_store_mid (op := ⟨none, .store 24 (.tmp 2) (.tmp 218), _, _, _, none⟩) rfl 24 (.tmp 2) (.tmp 218) rfl R 0 _ rfl rfl (by exact HU1.out.thereR) size_sq (QP.one _) ?_
        go_wp2_with fail
        exact HE.out _ _ ⟨rfl, rfl, rfl, (HU1.out.fin _).1, (HU1.out.fin _).2⟩ HNO.out
      · go_wp2_with (go_at_call 20; refine (al_yes A n c v w (by exact HR.out) hn hnc hc2 x hx HA).mono ?_; rintro e w1 ⟨rfl, rfl⟩)
        exact (HK.out _ _ _ _ _ ⟨rfl, rfl, rfl, rfl, rfl, rfl, rfl, rfl⟩ HU1.out HQ1.out hg.out ⟨fun h => (by cases h), fun _ => .inl rfl⟩).1
    · have hik : iok 8 v := ⟨fun h => by omega, fun h => by omega, fun h => by omega, fun _ => ⟨HA.out, by rw [hx.out]; exact hr.2 hbad⟩⟩
      have HI := Lib.hid hik
      clear hik
      clear hr
      have HGd : Hid (sgood 8 v) := ⟨HI.out, fun h => by omega, fun h => by omega, fun h => by omega, fun h => by omega⟩
      go_wp2_with (go_at_call 20; refine (al_yes A n c v w (by exact HR.out) hn hnc hc2 x hx HA).mono ?_; rintro e w1 ⟨rfl, rfl⟩)
      exact (HK.out _ _ _ _ _ ⟨rfl, rfl, rfl, rfl, rfl, rfl, rfl, rfl⟩ HU1.out HQ1.out hg.out ⟨fun h => ⟨h, HGd.out, rfl⟩, fun h => .inl h⟩).1
  · have HNO : Hid (¬ sgood 8 v) := Lib.hid fun h => ha (h.1.2.2.2 (by unfold isNum; omega)).1
    have HA := Lib.hid ha
    clear ha
    go_wp2_with (go_at_call 20; refine (al_no A n c v w (by exact HR.out) hn hnc hc2 x hx HA).mono ?_; rintro e w1 ⟨rfl, rfl⟩)
    exact (HK.out _ _ _ _ _ ⟨rfl, rfl, rfl, rfl, rfl, rfl, rfl, rfl⟩ HU.out (fun W h _ => h) (grown_refl _ P) ⟨fun h => (by cases h), fun _ => .inr HNO.out⟩).2
end Go.Proofs.YtdjdcpcomhjnjaaDoor

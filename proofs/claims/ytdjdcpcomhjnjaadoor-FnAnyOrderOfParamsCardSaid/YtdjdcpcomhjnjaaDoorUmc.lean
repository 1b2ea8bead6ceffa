/- unmarshalTransportParams: the switch, times, the exponent, the token, the flag, unknown parameters. Conditions: none. -/
import Derived.Test.YtdjdcpcomhjnjaaDoorUma
namespace Go.Proofs.YtdjdcpcomhjnjaaDoor
open Go.RowKit
set_option linter.unusedVariables false
set_option linter.unusedSimpArgs false


set_option maxRecDepth 1000000 in
set_option maxHeartbeats 8000000 in
theorem um_c1 {w0 w : World} {R P : Nat} {T : TP} {S : SP} {a4 a6 : Addr} {x0 : Value} {A : Option Addr} {n c : Nat} {v : List Int} (a : Act) (hf : Fs a R P x0 (.int .i64 0) (.slice A n c) (.int .u64 1)) (hu : Ub w0 R P w T) (ht : Tp w a4 a6 T S) (hv : Rt w (A, n, c) v) (hg : Gl w0 a4 a6)
    {K : Act → World → Prop} {Q : Exit → Act → World → Prop} (hK : HK w0 R P x0 a4 a6 S 1 v K) (hE : HE w0 R 1 v Q) :
    Code.wp Tryd.prog umSw (Exit.then K Q) a w := by
  have HU := Lib.hid hu
  have HT := Lib.hid ht
  have HK' := Lib.hid hK
  have HE' := Lib.hid hE
  have HR : Hid (Rd w A v) := hv.1
  have hn : Hid (v.length = n) := hv.2.1
  have hnc : n ≤ c := hv.2.2.1
  have hc2 : c ≤ 9223372036854775807 := hv.2.2.2.1
  have u1 := hu.cell 1 _ rfl
  have f1 := hu.free 1
  have HV := Lib.hid hv
  obtain ⟨x, hx⟩ : ∃ x, Hid (num v = x) := ⟨_, Lib.hid rfl⟩
  obtain ⟨m, hm⟩ : ∃ m, Hid (nk v = m) := ⟨_, Lib.hid rfl⟩
  have hx0 := (num_bd hv.1.1).1
  have hx1 := (num_bd hv.1.1).2
  rw [hx.out] at hx0 hx1
  clear hu ht hv hK hE
  obtain ⟨f, rfl⟩ := hf.lit
  clear hf
  conv => arg 2; whnf
  have hi : nk v = (v.length : Nat) ↔ iok 1 v := ⟨fun h => ⟨fun h => by omega, fun h => by omega, fun h => by omega, fun _ => ⟨alone_nk.2 h, trivial⟩⟩, fun h => alone_nk.1 (h.2.2.2 (by unfold isNum; omega)).1⟩
  rw [hn.out, hm.out] at hi
  have HI := Lib.hid hi
  clear hi
  by_cases hb : 4294967296 < x
  · have HS : Hid (updI S 1 v = { S with idle := 0 }) := if_pos ⟨rfl, by rw [hx.out]; exact hb⟩
    go_wp2_with ((go_at_call 38; refine (cvut A n c v _ (by exact HR.out) hn (by omega) x m hx hm).mono ?_; rintro e w' ⟨rfl, q, rfl⟩; have HU0 := Lib.hid (HU.out.drewN q)))
    refine HK'.out _ _ _ _ _ _ _ ⟨rfl, rfl, rfl, rfl, rfl, rfl, rfl, rfl⟩ (HU0.out.set (T' := { T with idle := 0 }) 1 (.int .i64 0) rfl) ?_ HI.out
    rw [HS.out]
    exact { ((HU.out.drewN q).tp 1 _ (HT.out.drewN q)) with idle := rfl }
  · have HS : Hid (updI S 1 v = { S with idle := x }) := (if_neg (fun h => hb (by rw [← hx.out]; exact h.2))).trans (by rw [← hx.out]; rfl)
    go_wp2_with ((go_at_call 38; refine (cvut A n c v _ (by exact HR.out) hn (by omega) x m hx hm).mono ?_; rintro e w' ⟨rfl, q, rfl⟩; have HU0 := Lib.hid (HU.out.drewN q)))
    refine HK'.out _ _ _ _ _ _ _ ⟨rfl, rfl, rfl, rfl, rfl, rfl, rfl, rfl⟩ (HU0.out.set (T' := { T with idle := x * 1000000 }) 1 (.int .i64 (x * 1000000)) rfl) ?_ HI.out
    rw [HS.out]
    exact { ((HU.out.drewN q).tp 1 _ (HT.out.drewN q)) with idle := rfl }

set_option maxRecDepth 1000000 in
set_option maxHeartbeats 8000000 in
theorem um_c10 {w0 w : World} {R P : Nat} {T : TP} {S : SP} {a4 a6 : Addr} {x0 : Value} {A : Option Addr} {n c : Nat} {v : List Int} (a : Act) (hf : Fs a R P x0 (.int .i64 0) (.slice A n c) (.int .u64 10)) (hu : Ub w0 R P w T) (ht : Tp w a4 a6 T S) (hv : Rt w (A, n, c) v) (hg : Gl w0 a4 a6)
    {K : Act → World → Prop} {Q : Exit → Act → World → Prop} (hK : HK w0 R P x0 a4 a6 S 10 v K) (hE : HE w0 R 10 v Q) :
    Code.wp Tryd.prog umSw (Exit.then K Q) a w := by
  have HU := Lib.hid hu
  have HT := Lib.hid ht
  have HK' := Lib.hid hK
  have HE' := Lib.hid hE
  have HR : Hid (Rd w A v) := hv.1
  have hn : Hid (v.length = n) := hv.2.1
  have hnc : n ≤ c := hv.2.2.1
  have hc2 : c ≤ 9223372036854775807 := hv.2.2.2.1
  have u10 := hu.cell 10 _ rfl
  have f10 := hu.free 10
  have HV := Lib.hid hv
  obtain ⟨x, hx⟩ : ∃ x, Hid (num v = x) := ⟨_, Lib.hid rfl⟩
  obtain ⟨m, hm⟩ : ∃ m, Hid (nk v = m) := ⟨_, Lib.hid rfl⟩
  have hx0 := (num_bd hv.1.1).1
  have hx1 := (num_bd hv.1.1).2
  rw [hx.out] at hx0 hx1
  clear hu ht hv hK hE
  obtain ⟨f, rfl⟩ := hf.lit
  clear hf
  conv => arg 2; whnf
  have hr : rng 10 x ↔ ¬ 20 < x := by simp only [rng]; first | omega | (simp; omega) | simp
  by_cases hb : 20 < x
  · have hno : ¬ rng 10 (num v) := by rw [hx.out]; exact fun h => (hr.1 h) hb
    have HN := Lib.hid hno
    clear hno hr
    go_wp2_with (first | (go_at_call 38; refine (cvut A n c v _ (by exact HR.out) hn (by omega) x m hx hm).mono ?_; rintro e w' ⟨rfl, q, rfl⟩; have HU0 := Lib.hid (HU.out.drewN q)) | (refine wpList_load_mid rfl 76 (.tmp 4) rfl P 0 rfl _ _ (by exact HU0.out.range) Tryd.underlying76 rfl (size_tp.trans (congrArg some (TP.size _).symm)) ?_) | (refine wpList_store_mid rfl 76 (.tmp 2) _ rfl R 0 _ rfl rfl (by exact HU0.out.thereR) size_tp (TP.one _) ?_))
    refine HE'.out _ _ ⟨rfl, rfl, ⟨_, rfl⟩, (HU0.out.err _).1, (HU0.out.err _).2⟩ ?_
    intro h
    exact HN.out (h.2.2.2 (by unfold isNum; omega)).2
  · have hyes : rng 10 (num v) := by rw [hx.out]; exact hr.2 hb
    have hi : nk v = (v.length : Nat) ↔ iok 10 v := ⟨fun h => ⟨fun h => by omega, fun h => by omega, fun h => by omega, fun _ => ⟨alone_nk.2 h, hyes⟩⟩, fun h => alone_nk.1 (h.2.2.2 (by unfold isNum; omega)).1⟩
    rw [hn.out, hm.out] at hi
    have HI := Lib.hid hi
    clear hi hyes hr
    go_wp2_with (first | (go_at_call 38; refine (cvut A n c v _ (by exact HR.out) hn (by omega) x m hx hm).mono ?_; rintro e w' ⟨rfl, q, rfl⟩; have HU0 := Lib.hid (HU.out.drewN q)) | (refine wpList_load_mid rfl 76 (.tmp 4) rfl P 0 rfl _ _ (by exact HU0.out.range) Tryd.underlying76 rfl (size_tp.trans (congrArg some (TP.size _).symm)) ?_) | (refine wpList_store_mid rfl 76 (.tmp 2) _ rfl R 0 _ rfl rfl (by exact HU0.out.thereR) size_tp (TP.one _) ?_))
    refine HK'.out _ _ _ _ _ _ _ ⟨rfl, rfl, rfl, rfl, rfl, rfl, rfl, rfl⟩ (HU0.out.set (T' := { T with ae := x }) 10 (.int .i8 x) rfl) ?_ HI.out
    rw [show updI S 10 v = { S with ae := num v } from rfl, hx.out]
    exact { ((HU.out.drewN q).tp 10 _ (HT.out.drewN q)) with ae := rfl }

set_option maxRecDepth 1000000 in
set_option maxHeartbeats 8000000 in
theorem um_c11 {w0 w : World} {R P : Nat} {T : TP} {S : SP} {a4 a6 : Addr} {x0 : Value} {A : Option Addr} {n c : Nat} {v : List Int} (a : Act) (hf : Fs a R P x0 (.int .i64 0) (.slice A n c) (.int .u64 11)) (hu : Ub w0 R P w T) (ht : Tp w a4 a6 T S) (hv : Rt w (A, n, c) v) (hg : Gl w0 a4 a6)
    {K : Act → World → Prop} {Q : Exit → Act → World → Prop} (hK : HK w0 R P x0 a4 a6 S 11 v K) (hE : HE w0 R 11 v Q) :
    Code.wp Tryd.prog umSw (Exit.then K Q) a w := by
  have HU := Lib.hid hu
  have HT := Lib.hid ht
  have HK' := Lib.hid hK
  have HE' := Lib.hid hE
  have HR : Hid (Rd w A v) := hv.1
  have hn : Hid (v.length = n) := hv.2.1
  have hnc : n ≤ c := hv.2.2.1
  have hc2 : c ≤ 9223372036854775807 := hv.2.2.2.1
  have u11 := hu.cell 11 _ rfl
  have f11 := hu.free 11
  have HV := Lib.hid hv
  obtain ⟨x, hx⟩ : ∃ x, Hid (num v = x) := ⟨_, Lib.hid rfl⟩
  obtain ⟨m, hm⟩ : ∃ m, Hid (nk v = m) := ⟨_, Lib.hid rfl⟩
  have hx0 := (num_bd hv.1.1).1
  have hx1 := (num_bd hv.1.1).2
  rw [hx.out] at hx0 hx1
  clear hu ht hv hK hE
  obtain ⟨f, rfl⟩ := hf.lit
  clear hf
  conv => arg 2; whnf
  have hr : rng 11 x ↔ ¬ 16384 ≤ x := by simp only [rng]; first | omega | (simp; omega) | simp
  by_cases hb : 16384 ≤ x
  · have hno : ¬ rng 11 (num v) := by rw [hx.out]; exact fun h => (hr.1 h) hb
    have HN := Lib.hid hno
    clear hno hr
    go_wp2_with (first | (go_at_call 38; refine (cvut A n c v _ (by exact HR.out) hn (by omega) x m hx hm).mono ?_; rintro e w' ⟨rfl, q, rfl⟩; have HU0 := Lib.hid (HU.out.drewN q)) | (refine wpList_load_mid rfl 76 (.tmp 4) rfl P 0 rfl _ _ (by exact HU0.out.range) Tryd.underlying76 rfl (size_tp.trans (congrArg some (TP.size _).symm)) ?_) | (refine wpList_store_mid rfl 76 (.tmp 2) _ rfl R 0 _ rfl rfl (by exact HU0.out.thereR) size_tp (TP.one _) ?_))
    refine HE'.out _ _ ⟨rfl, rfl, ⟨_, rfl⟩, (HU0.out.err _).1, (HU0.out.err _).2⟩ ?_
    intro h
    exact HN.out (h.2.2.2 (by unfold isNum; omega)).2
  · have hyes : rng 11 (num v) := by rw [hx.out]; exact hr.2 hb
    have hi : nk v = (v.length : Nat) ↔ iok 11 v := ⟨fun h => ⟨fun h => by omega, fun h => by omega, fun h => by omega, fun _ => ⟨alone_nk.2 h, hyes⟩⟩, fun h => alone_nk.1 (h.2.2.2 (by unfold isNum; omega)).1⟩
    rw [hn.out, hm.out] at hi
    have HI := Lib.hid hi
    clear hi hyes hr
    go_wp2_with (first | (go_at_call 38; refine (cvut A n c v _ (by exact HR.out) hn (by omega) x m hx hm).mono ?_; rintro e w' ⟨rfl, q, rfl⟩; have HU0 := Lib.hid (HU.out.drewN q)) | (refine wpList_load_mid rfl 76 (.tmp 4) rfl P 0 rfl _ _ (by exact HU0.out.range) Tryd.underlying76 rfl (size_tp.trans (congrArg some (TP.size _).symm)) ?_) | (refine wpList_store_mid rfl 76 (.tmp 2) _ rfl R 0 _ rfl rfl (by exact HU0.out.thereR) size_tp (TP.one _) ?_))
    refine HK'.out _ _ _ _ _ _ _ ⟨rfl, rfl, rfl, rfl, rfl, rfl, rfl, rfl⟩ (HU0.out.set (T' := { T with ad := x * 1000000 }) 11 (.int .i64 (x * 1000000)) rfl) ?_ HI.out
    rw [show updI S 11 v = { S with ad := num v } from rfl, hx.out]
    exact { ((HU.out.drewN q).tp 11 _ (HT.out.drewN q)) with ad := rfl }

set_option maxRecDepth 1000000 in
set_option maxHeartbeats 8000000 in
theorem um_c2 {w0 w : World} {R P : Nat} {T : TP} {S : SP} {a4 a6 : Addr} {x0 : Value} {A : Option Addr} {n c : Nat} {v : List Int} (a : Act) (hf : Fs a R P x0 (.int .i64 0) (.slice A n c) (.int .u64 2)) (hu : Ub w0 R P w T) (ht : Tp w a4 a6 T S) (hv : Rt w (A, n, c) v) (hg : Gl w0 a4 a6)
    {K : Act → World → Prop} {Q : Exit → Act → World → Prop} (hK : HK w0 R P x0 a4 a6 S 2 v K) (hE : HE w0 R 2 v Q) :
    Code.wp Tryd.prog umSw (Exit.then K Q) a w := by
  have HU := Lib.hid hu
  have HT := Lib.hid ht
  have HK' := Lib.hid hK
  have HE' := Lib.hid hE
  have HR : Hid (Rd w A v) := hv.1
  have hn : Hid (v.length = n) := hv.2.1
  have hnc : n ≤ c := hv.2.2.1
  have hc2 : c ≤ 9223372036854775807 := hv.2.2.2.1
  have u2 := hu.cell 2 _ rfl
  have f2 := hu.free 2
  have HV := Lib.hid hv
  obtain ⟨x, hx⟩ : ∃ x, Hid (num v = x) := ⟨_, Lib.hid rfl⟩
  obtain ⟨m, hm⟩ : ∃ m, Hid (nk v = m) := ⟨_, Lib.hid rfl⟩
  have hx0 := (num_bd hv.1.1).1
  have hx1 := (num_bd hv.1.1).2
  rw [hx.out] at hx0 hx1
  clear hu ht hv hK hE
  have HU1 := Lib.hid (HU.out.set (T' := { T with rt := (A, n, c) }) 2 (triV (A, n, c)) rfl)
  obtain ⟨f, rfl⟩ := hf.lit
  clear hf
  conv => arg 2; whnf
  by_cases hb : n = 16
  · have HI : Hid ((16 : Int) = ((n : Nat) : Int) ↔ iok 2 v) := ⟨fun _ => ⟨fun _ => by rw [hn.out]; exact hb, fun h => by omega, fun h => by omega, fun h => absurd h (by unfold isNum; omega)⟩, fun _ => by omega⟩
    subst hb
    go_wp2_with (first | (refine wpList_load_mid rfl 76 (.tmp 4) rfl P 0 rfl _ _ (by exact HU.out.range) Tryd.underlying76 rfl (size_tp.trans (congrArg some (TP.size _).symm)) ?_) | (refine wpList_store_mid rfl 76 (.tmp 2) _ rfl R 0 _ rfl rfl (by exact HU.out.thereR) size_tp (TP.one _) ?_))
    refine HK'.out _ _ _ _ _ _ _ ⟨rfl, rfl, rfl, rfl, rfl, rfl, rfl, rfl⟩ HU1.out ?_ HI.out
    rw [show updI S 2 v = { S with rt := v } from rfl]
    exact { (HU.out.tp 2 _ HT.out) with rt := HU.out.rt 2 _ HV.out }
  · have hne : (n : Int) ≠ 16 := by omega
    go_wp2_with (first | (refine wpList_load_mid rfl 76 (.tmp 4) rfl P 0 rfl _ _ (by exact HU.out.range) Tryd.underlying76 rfl (size_tp.trans (congrArg some (TP.size _).symm)) ?_) | (refine wpList_store_mid rfl 76 (.tmp 2) _ rfl R 0 _ rfl rfl (by exact HU.out.thereR) size_tp (TP.one _) ?_))
    refine HE'.out _ _ ⟨rfl, rfl, ⟨_, rfl⟩, (HU.out.err _).1, (HU.out.err _).2⟩ ?_
    intro h
    exact hb (by rw [← hn.out]; exact h.1 rfl)

set_option maxRecDepth 1000000 in
set_option maxHeartbeats 8000000 in
theorem um_c12 {w0 w : World} {R P : Nat} {T : TP} {S : SP} {a4 a6 : Addr} {x0 : Value} {A : Option Addr} {n c : Nat} {v : List Int} (a : Act) (hf : Fs a R P x0 (.int .i64 0) (.slice A n c) (.int .u64 12)) (hu : Ub w0 R P w T) (ht : Tp w a4 a6 T S) (hv : Rt w (A, n, c) v) (hg : Gl w0 a4 a6)
    {K : Act → World → Prop} {Q : Exit → Act → World → Prop} (hK : HK w0 R P x0 a4 a6 S 12 v K) (hE : HE w0 R 12 v Q) :
    Code.wp Tryd.prog umSw (Exit.then K Q) a w := by
  have HU := Lib.hid hu
  have HT := Lib.hid ht
  have HK' := Lib.hid hK
  have HE' := Lib.hid hE
  have HR : Hid (Rd w A v) := hv.1
  have hn : Hid (v.length = n) := hv.2.1
  have hnc : n ≤ c := hv.2.2.1
  have hc2 : c ≤ 9223372036854775807 := hv.2.2.2.1
  have u12 := hu.cell 12 _ rfl
  have f12 := hu.free 12
  have HV := Lib.hid hv
  obtain ⟨x, hx⟩ : ∃ x, Hid (num v = x) := ⟨_, Lib.hid rfl⟩
  obtain ⟨m, hm⟩ : ∃ m, Hid (nk v = m) := ⟨_, Lib.hid rfl⟩
  have hx0 := (num_bd hv.1.1).1
  have hx1 := (num_bd hv.1.1).2
  rw [hx.out] at hx0 hx1
  clear hu ht hv hK hE
  obtain ⟨f, rfl⟩ := hf.lit
  clear hf
  conv => arg 2; whnf
  go_wp2_with fail
  refine HK'.out _ _ _ _ _ _ _ ⟨rfl, rfl, rfl, rfl, rfl, rfl, rfl, rfl⟩ (HU.out.set (T' := { T with nomig := true }) 12 (.bool true) rfl) ?_ ?_
  · rw [show updI S 12 v = { S with nomig := true } from rfl]
    exact { (HU.out.tp 12 _ HT.out) with nomig := rfl }
  · have := hn.out
    exact ⟨fun h => ⟨fun h => by omega, fun _ => by omega, fun h => by omega, fun h => absurd h (by unfold isNum; omega)⟩, fun h => by have := h.2.1 rfl; omega⟩

set_option maxRecDepth 1000000 in
set_option maxHeartbeats 8000000 in
theorem um_cx {w0 w : World} {R P : Nat} {T : TP} {S : SP} {a4 a6 : Addr} {x0 : Value} {A : Option Addr} {n c : Nat} {v : List Int} {id : Int} (h16 : id < 0 ∨ 16 < id) (a : Act) (hf : Fs a R P x0 (.int .i64 0) (.slice A n c) (.int .u64 id)) (hu : Ub w0 R P w T) (ht : Tp w a4 a6 T S) (hv : Rt w (A, n, c) v) (hg : Gl w0 a4 a6)
    {K : Act → World → Prop} {Q : Exit → Act → World → Prop} (hK : HK w0 R P x0 a4 a6 S id v K) (hE : HE w0 R id v Q) :
    Code.wp Tryd.prog umSw (Exit.then K Q) a w := by
  have HU := Lib.hid hu
  have HT := Lib.hid ht
  have HK' := Lib.hid hK
  have HE' := Lib.hid hE
  have HR : Hid (Rd w A v) := hv.1
  have hn : Hid (v.length = n) := hv.2.1
  have hnc : n ≤ c := hv.2.2.1
  have hc2 : c ≤ 9223372036854775807 := hv.2.2.2.1
  have HV := Lib.hid hv
  obtain ⟨x, hx⟩ : ∃ x, Hid (num v = x) := ⟨_, Lib.hid rfl⟩
  obtain ⟨m, hm⟩ : ∃ m, Hid (nk v = m) := ⟨_, Lib.hid rfl⟩
  have hx0 := (num_bd hv.1.1).1
  have hx1 := (num_bd hv.1.1).2
  rw [hx.out] at hx0 hx1
  clear hu ht hv hK hE
  obtain ⟨f, rfl⟩ := hf.lit
  clear hf
  conv => arg 2; whnf
  have q0 : (id == (0 : Int)) = false := by simp; omega
  have q1 : (id == (1 : Int)) = false := by simp; omega
  have q2 : (id == (2 : Int)) = false := by simp; omega
  have q3 : (id == (3 : Int)) = false := by simp; omega
  have q4 : (id == (4 : Int)) = false := by simp; omega
  have q5 : (id == (5 : Int)) = false := by simp; omega
  have q6 : (id == (6 : Int)) = false := by simp; omega
  have q7 : (id == (7 : Int)) = false := by simp; omega
  have q8 : (id == (8 : Int)) = false := by simp; omega
  have q9 : (id == (9 : Int)) = false := by simp; omega
  have q10 : (id == (10 : Int)) = false := by simp; omega
  have q11 : (id == (11 : Int)) = false := by simp; omega
  have q12 : (id == (12 : Int)) = false := by simp; omega
  have q13 : (id == (13 : Int)) = false := by simp; omega
  have q14 : (id == (14 : Int)) = false := by simp; omega
  have q15 : (id == (15 : Int)) = false := by simp; omega
  have q16 : (id == (16 : Int)) = false := by simp; omega
  have HS : Hid (updI S id v = S) := by
    unfold updI upd
    rw [if_neg (by omega)]
    repeat rw [if_neg (by omega)]
    exact Lib.hid rfl
  have HI : Hid (((n : Nat) : Int) = ((n : Nat) : Int) ↔ iok id v) := ⟨fun h => ⟨fun h => by omega, fun h => by omega, fun h => by omega, fun h => absurd h (by unfold isNum; omega)⟩, fun _ => rfl⟩
  clear h16
  go_wp2_with fail
  refine HK'.out _ _ _ _ _ _ _ ⟨rfl, rfl, rfl, rfl, rfl, rfl, rfl, rfl⟩ HU.out ?_ ⟨fun _ => HI.out.1 trivial, fun _ => rfl⟩
  rw [HS.out]
  exact HT.out

end Go.Proofs.YtdjdcpcomhjnjaaDoor

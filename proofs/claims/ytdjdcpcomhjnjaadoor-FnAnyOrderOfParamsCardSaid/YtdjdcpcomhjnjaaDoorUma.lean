/- unmarshalTransportParams: the switch, numbers and bytes with no test. Conditions: none. -/
import Derived.Test.YtdjdcpcomhjnjaaDoorUm
namespace Go.Proofs.YtdjdcpcomhjnjaaDoor
open Go.RowKit
set_option linter.unusedVariables false
set_option linter.unusedSimpArgs false

/-- What follows the switch. -/
def HK (w0 : World) (R P : Nat) (x0 : Value) (a4 a6 : Addr) (S : SP) (id : Int) (v : List Int) (K : Act → World → Prop) : Prop :=
  ∀ (a' : Act) (w' : World) (T' : TP) (n' : Int) (A' : Option Addr) (L c' : Nat), Fr a' R P x0 (.int .i64 n') (.slice A' L c') → Ub w0 R P w' T' → Tp w' a4 a6 T' (updI S id v) → (n' = (L : Nat) ↔ iok id v) → K a' w'
def HE (w0 : World) (R : Nat) (id : Int) (v : List Int) (Q : Exit → Act → World → Prop) : Prop := ∀ (a' : Act) (w' : World), Er a' w0 R w' → ¬ iok id v → Q .ret a' w'
theorem Tp.drewN {w : World} {a4 a6 : Addr} {T : TP} {S : SP} (h : Tp w a4 a6 T S) (q : Nat) : Tp (w.drewN q) a4 a6 T S := h.below (below_drewN (Below.refl _ _) q)
theorem TP.one (T : TP) : T.cells.toList.toArray.all (·.oneCell') = true := by
  simp [TP.cells, triV, Value.oneCell']

set_option maxHeartbeats 2000000 in
/-- ConsumeVarintInt64. -/
theorem cvit (A : Option Addr) (n c : Nat) (v : List Int) (w : World) (hr : Rd w A v) (hn : Hid (v.length = n)) (hn2 : n ≤ 9223372036854775807) (x m : Int) (hx : Hid (num v = x)) (hm : Hid (nk v = m)) :
    Calls Tryd.prog 40 #[.slice A n c] w fun e w' => e = .returned (.tuple #[.int .i64 x, .int .i64 m]) ∧ ∃ q, w' = w.drewN q := by
  have hx0 := (num_bd hr.1).1
  have hx1 := (num_bd hr.1).2
  rw [hx.out] at hx0 hx1
  go_enter Tryd.func40, Tryd.ntmps40
  go_wp2_with (go_at_call 38; refine (cv A n c v _ (by exact hr) hn.out (by omega)).mono ?_; rintro e w' ⟨h, q, rfl⟩; obtain rfl := h.nk; clear h; rw [hx.out, hm.out])
  go_ret2
  exact ⟨rfl, _, rfl⟩
/-- ConsumeVarint. -/
theorem cvut (A : Option Addr) (n c : Nat) (v : List Int) (w : World) (hr : Rd w A v) (hn : Hid (v.length = n)) (hn2 : n ≤ 9223372036854775807) (x m : Int) (hx : Hid (num v = x)) (hm : Hid (nk v = m)) :
    Calls Tryd.prog 38 #[.slice A n c] w fun e w' => e = .returned (.tuple #[.int .u64 x, .int .i64 m]) ∧ ∃ q, w' = w.drewN q :=
  (cv A n c v w hr hn.out hn2).mono fun e w' ⟨h, hq⟩ => ⟨by rw [h.nk, hx.out, hm.out], hq⟩

set_option maxRecDepth 1000000 in
set_option maxHeartbeats 8000000 in
theorem um_c0 {w0 w : World} {R P : Nat} {T : TP} {S : SP} {a4 a6 : Addr} {x0 : Value} {A : Option Addr} {n c : Nat} {v : List Int} (a : Act) (hf : Fs a R P x0 (.int .i64 0) (.slice A n c) (.int .u64 0)) (hu : Ub w0 R P w T) (ht : Tp w a4 a6 T S) (hv : Rt w (A, n, c) v) (hg : Gl w0 a4 a6)
    {K : Act → World → Prop} {Q : Exit → Act → World → Prop} (hK : HK w0 R P x0 a4 a6 S 0 v K) (hE : HE w0 R 0 v Q) :
    Code.wp Tryd.prog umSw (Exit.then K Q) a w := by
  have HU := Lib.hid hu
  have HT := Lib.hid ht
  have HK' := Lib.hid hK
  have HE' := Lib.hid hE
  have HR : Hid (Rd w A v) := hv.1
  have hn : Hid (v.length = n) := hv.2.1
  have hnc : n ≤ c := hv.2.2.1
  have hc2 : c ≤ 9223372036854775807 := hv.2.2.2.1
  have u0 := hu.cell 0 _ rfl
  have f0 := hu.free 0
  have HV := Lib.hid hv
  obtain ⟨x, hx⟩ : ∃ x, Hid (num v = x) := ⟨_, Lib.hid rfl⟩
  obtain ⟨m, hm⟩ : ∃ m, Hid (nk v = m) := ⟨_, Lib.hid rfl⟩
  have hx0 := (num_bd hv.1.1).1
  have hx1 := (num_bd hv.1.1).2
  rw [hx.out] at hx0 hx1
  clear hu ht hv hK hE
  have HU1 := Lib.hid (HU.out.set (T' := { T with od := (A, n, c) }) 0 (triV (A, n, c)) rfl)
  obtain ⟨f, rfl⟩ := hf.lit
  clear hf
  conv => arg 2; whnf
  go_wp2_with fail
  refine HK'.out _ _ _ _ _ _ _ ⟨rfl, rfl, rfl, rfl, rfl, rfl, rfl, rfl⟩ HU1.out ?_ ?_
  · rw [show updI S 0 v = { S with od := v } from rfl]
    exact { (HU.out.tp 0 _ HT.out) with od := HU.out.rt 0 _ HV.out }
  · exact ⟨fun _ => ⟨fun h => by omega, fun h => by omega, fun h => by omega, fun h => absurd h (by unfold isNum; omega)⟩, fun _ => rfl⟩

set_option maxRecDepth 1000000 in
set_option maxHeartbeats 8000000 in
theorem um_c15 {w0 w : World} {R P : Nat} {T : TP} {S : SP} {a4 a6 : Addr} {x0 : Value} {A : Option Addr} {n c : Nat} {v : List Int} (a : Act) (hf : Fs a R P x0 (.int .i64 0) (.slice A n c) (.int .u64 15)) (hu : Ub w0 R P w T) (ht : Tp w a4 a6 T S) (hv : Rt w (A, n, c) v) (hg : Gl w0 a4 a6)
    {K : Act → World → Prop} {Q : Exit → Act → World → Prop} (hK : HK w0 R P x0 a4 a6 S 15 v K) (hE : HE w0 R 15 v Q) :
    Code.wp Tryd.prog umSw (Exit.then K Q) a w := by
  have HU := Lib.hid hu
  have HT := Lib.hid ht
  have HK' := Lib.hid hK
  have HE' := Lib.hid hE
  have HR : Hid (Rd w A v) := hv.1
  have hn : Hid (v.length = n) := hv.2.1
  have hnc : n ≤ c := hv.2.2.1
  have hc2 : c ≤ 9223372036854775807 := hv.2.2.2.1
  have u24 := hu.cell 24 _ rfl
  have f24 := hu.free 24
  have HV := Lib.hid hv
  obtain ⟨x, hx⟩ : ∃ x, Hid (num v = x) := ⟨_, Lib.hid rfl⟩
  obtain ⟨m, hm⟩ : ∃ m, Hid (nk v = m) := ⟨_, Lib.hid rfl⟩
  have hx0 := (num_bd hv.1.1).1
  have hx1 := (num_bd hv.1.1).2
  rw [hx.out] at hx0 hx1
  clear hu ht hv hK hE
  have HU1 := Lib.hid (HU.out.set (T' := { T with is := (A, n, c) }) 24 (triV (A, n, c)) rfl)
  obtain ⟨f, rfl⟩ := hf.lit
  clear hf
  conv => arg 2; whnf
  go_wp2_with fail
  refine HK'.out _ _ _ _ _ _ _ ⟨rfl, rfl, rfl, rfl, rfl, rfl, rfl, rfl⟩ HU1.out ?_ ?_
  · rw [show updI S 15 v = { S with is := v } from rfl]
    exact { (HU.out.tp 24 _ HT.out) with is := HU.out.rt 24 _ HV.out }
  · exact ⟨fun _ => ⟨fun h => by omega, fun h => by omega, fun h => by omega, fun h => absurd h (by unfold isNum; omega)⟩, fun _ => rfl⟩

set_option maxRecDepth 1000000 in
set_option maxHeartbeats 8000000 in
theorem um_c16 {w0 w : World} {R P : Nat} {T : TP} {S : SP} {a4 a6 : Addr} {x0 : Value} {A : Option Addr} {n c : Nat} {v : List Int} (a : Act) (hf : Fs a R P x0 (.int .i64 0) (.slice A n c) (.int .u64 16)) (hu : Ub w0 R P w T) (ht : Tp w a4 a6 T S) (hv : Rt w (A, n, c) v) (hg : Gl w0 a4 a6)
    {K : Act → World → Prop} {Q : Exit → Act → World → Prop} (hK : HK w0 R P x0 a4 a6 S 16 v K) (hE : HE w0 R 16 v Q) :
    Code.wp Tryd.prog umSw (Exit.then K Q) a w := by
  have HU := Lib.hid hu
  have HT := Lib.hid ht
  have HK' := Lib.hid hK
  have HE' := Lib.hid hE
  have HR : Hid (Rd w A v) := hv.1
  have hn : Hid (v.length = n) := hv.2.1
  have hnc : n ≤ c := hv.2.2.1
  have hc2 : c ≤ 9223372036854775807 := hv.2.2.2.1
  have u25 := hu.cell 25 _ rfl
  have f25 := hu.free 25
  have HV := Lib.hid hv
  obtain ⟨x, hx⟩ : ∃ x, Hid (num v = x) := ⟨_, Lib.hid rfl⟩
  obtain ⟨m, hm⟩ : ∃ m, Hid (nk v = m) := ⟨_, Lib.hid rfl⟩
  have hx0 := (num_bd hv.1.1).1
  have hx1 := (num_bd hv.1.1).2
  rw [hx.out] at hx0 hx1
  clear hu ht hv hK hE
  have HU1 := Lib.hid (HU.out.set (T' := { T with rs := (A, n, c) }) 25 (triV (A, n, c)) rfl)
  obtain ⟨f, rfl⟩ := hf.lit
  clear hf
  conv => arg 2; whnf
  go_wp2_with fail
  refine HK'.out _ _ _ _ _ _ _ ⟨rfl, rfl, rfl, rfl, rfl, rfl, rfl, rfl⟩ HU1.out ?_ ?_
  · rw [show updI S 16 v = { S with rs := v } from rfl]
    exact { (HU.out.tp 25 _ HT.out) with rs := HU.out.rt 25 _ HV.out }
  · exact ⟨fun _ => ⟨fun h => by omega, fun h => by omega, fun h => by omega, fun h => absurd h (by unfold isNum; omega)⟩, fun _ => rfl⟩

set_option maxRecDepth 1000000 in
set_option maxHeartbeats 8000000 in
theorem um_c4 {w0 w : World} {R P : Nat} {T : TP} {S : SP} {a4 a6 : Addr} {x0 : Value} {A : Option Addr} {n c : Nat} {v : List Int} (a : Act) (hf : Fs a R P x0 (.int .i64 0) (.slice A n c) (.int .u64 4)) (hu : Ub w0 R P w T) (ht : Tp w a4 a6 T S) (hv : Rt w (A, n, c) v) (hg : Gl w0 a4 a6)
    {K : Act → World → Prop} {Q : Exit → Act → World → Prop} (hK : HK w0 R P x0 a4 a6 S 4 v K) (hE : HE w0 R 4 v Q) :
    Code.wp Tryd.prog umSw (Exit.then K Q) a w := by
  have HU := Lib.hid hu
  have HT := Lib.hid ht
  have HK' := Lib.hid hK
  have HE' := Lib.hid hE
  have HR : Hid (Rd w A v) := hv.1
  have hn : Hid (v.length = n) := hv.2.1
  have hnc : n ≤ c := hv.2.2.1
  have hc2 : c ≤ 9223372036854775807 := hv.2.2.2.1
  have u4 := hu.cell 4 _ rfl
  have f4 := hu.free 4
  have HV := Lib.hid hv
  obtain ⟨x, hx⟩ : ∃ x, Hid (num v = x) := ⟨_, Lib.hid rfl⟩
  obtain ⟨m, hm⟩ : ∃ m, Hid (nk v = m) := ⟨_, Lib.hid rfl⟩
  have hx0 := (num_bd hv.1.1).1
  have hx1 := (num_bd hv.1.1).2
  rw [hx.out] at hx0 hx1
  clear hu ht hv hK hE
  obtain ⟨f, rfl⟩ := hf.lit
  clear hf
  conv => arg 2; whnf
  have hi : nk v = (v.length : Nat) ↔ iok 4 v := ⟨fun h => ⟨fun h => by omega, fun h => by omega, fun h => by omega, fun _ => ⟨alone_nk.2 h, trivial⟩⟩, fun h => alone_nk.1 (h.2.2.2 (by unfold isNum; omega)).1⟩
  rw [hn.out, hm.out] at hi
  have HI := Lib.hid hi
  clear hi
  go_wp2_with (go_at_call 40; refine (cvit A n c v _ (by exact HR.out) hn (by omega) x m hx hm).mono ?_; rintro e w' ⟨rfl, q, rfl⟩; have HU1 := Lib.hid ((HU.out.drewN q).set (T' := { T with data := x }) 4 (.int .i64 x) rfl))
  refine HK'.out _ _ _ _ _ _ _ ⟨rfl, rfl, rfl, rfl, rfl, rfl, rfl, rfl⟩ HU1.out ?_ HI.out
  rw [show updI S 4 v = { S with data := num v } from rfl, hx.out]
  exact { ((HU.out.drewN q).tp 4 _ (HT.out.drewN q)) with data := rfl }

set_option maxRecDepth 1000000 in
set_option maxHeartbeats 8000000 in
theorem um_c5 {w0 w : World} {R P : Nat} {T : TP} {S : SP} {a4 a6 : Addr} {x0 : Value} {A : Option Addr} {n c : Nat} {v : List Int} (a : Act) (hf : Fs a R P x0 (.int .i64 0) (.slice A n c) (.int .u64 5)) (hu : Ub w0 R P w T) (ht : Tp w a4 a6 T S) (hv : Rt w (A, n, c) v) (hg : Gl w0 a4 a6)
    {K : Act → World → Prop} {Q : Exit → Act → World → Prop} (hK : HK w0 R P x0 a4 a6 S 5 v K) (hE : HE w0 R 5 v Q) :
    Code.wp Tryd.prog umSw (Exit.then K Q) a w := by
  have HU := Lib.hid hu
  have HT := Lib.hid ht
  have HK' := Lib.hid hK
  have HE' := Lib.hid hE
  have HR : Hid (Rd w A v) := hv.1
  have hn : Hid (v.length = n) := hv.2.1
  have hnc : n ≤ c := hv.2.2.1
  have hc2 : c ≤ 9223372036854775807 := hv.2.2.2.1
  have u5 := hu.cell 5 _ rfl
  have f5 := hu.free 5
  have HV := Lib.hid hv
  obtain ⟨x, hx⟩ : ∃ x, Hid (num v = x) := ⟨_, Lib.hid rfl⟩
  obtain ⟨m, hm⟩ : ∃ m, Hid (nk v = m) := ⟨_, Lib.hid rfl⟩
  have hx0 := (num_bd hv.1.1).1
  have hx1 := (num_bd hv.1.1).2
  rw [hx.out] at hx0 hx1
  clear hu ht hv hK hE
  obtain ⟨f, rfl⟩ := hf.lit
  clear hf
  conv => arg 2; whnf
  have hi : nk v = (v.length : Nat) ↔ iok 5 v := ⟨fun h => ⟨fun h => by omega, fun h => by omega, fun h => by omega, fun _ => ⟨alone_nk.2 h, trivial⟩⟩, fun h => alone_nk.1 (h.2.2.2 (by unfold isNum; omega)).1⟩
  rw [hn.out, hm.out] at hi
  have HI := Lib.hid hi
  clear hi
  go_wp2_with (go_at_call 40; refine (cvit A n c v _ (by exact HR.out) hn (by omega) x m hx hm).mono ?_; rintro e w' ⟨rfl, q, rfl⟩; have HU1 := Lib.hid ((HU.out.drewN q).set (T' := { T with bl := x }) 5 (.int .i64 x) rfl))
  refine HK'.out _ _ _ _ _ _ _ ⟨rfl, rfl, rfl, rfl, rfl, rfl, rfl, rfl⟩ HU1.out ?_ HI.out
  rw [show updI S 5 v = { S with bl := num v } from rfl, hx.out]
  exact { ((HU.out.drewN q).tp 5 _ (HT.out.drewN q)) with bl := rfl }

set_option maxRecDepth 1000000 in
set_option maxHeartbeats 8000000 in
theorem um_c6 {w0 w : World} {R P : Nat} {T : TP} {S : SP} {a4 a6 : Addr} {x0 : Value} {A : Option Addr} {n c : Nat} {v : List Int} (a : Act) (hf : Fs a R P x0 (.int .i64 0) (.slice A n c) (.int .u64 6)) (hu : Ub w0 R P w T) (ht : Tp w a4 a6 T S) (hv : Rt w (A, n, c) v) (hg : Gl w0 a4 a6)
    {K : Act → World → Prop} {Q : Exit → Act → World → Prop} (hK : HK w0 R P x0 a4 a6 S 6 v K) (hE : HE w0 R 6 v Q) :
    Code.wp Tryd.prog umSw (Exit.then K Q) a w := by
  have HU := Lib.hid hu
  have HT := Lib.hid ht
  have HK' := Lib.hid hK
  have HE' := Lib.hid hE
  have HR : Hid (Rd w A v) := hv.1
  have hn : Hid (v.length = n) := hv.2.1
  have hnc : n ≤ c := hv.2.2.1
  have hc2 : c ≤ 9223372036854775807 := hv.2.2.2.1
  have u6 := hu.cell 6 _ rfl
  have f6 := hu.free 6
  have HV := Lib.hid hv
  obtain ⟨x, hx⟩ : ∃ x, Hid (num v = x) := ⟨_, Lib.hid rfl⟩
  obtain ⟨m, hm⟩ : ∃ m, Hid (nk v = m) := ⟨_, Lib.hid rfl⟩
  have hx0 := (num_bd hv.1.1).1
  have hx1 := (num_bd hv.1.1).2
  rw [hx.out] at hx0 hx1
  clear hu ht hv hK hE
  obtain ⟨f, rfl⟩ := hf.lit
  clear hf
  conv => arg 2; whnf
  have hi : nk v = (v.length : Nat) ↔ iok 6 v := ⟨fun h => ⟨fun h => by omega, fun h => by omega, fun h => by omega, fun _ => ⟨alone_nk.2 h, trivial⟩⟩, fun h => alone_nk.1 (h.2.2.2 (by unfold isNum; omega)).1⟩
  rw [hn.out, hm.out] at hi
  have HI := Lib.hid hi
  clear hi
  go_wp2_with (go_at_call 40; refine (cvit A n c v _ (by exact HR.out) hn (by omega) x m hx hm).mono ?_; rintro e w' ⟨rfl, q, rfl⟩; have HU1 := Lib.hid ((HU.out.drewN q).set (T' := { T with br := x }) 6 (.int .i64 x) rfl))
  refine HK'.out _ _ _ _ _ _ _ ⟨rfl, rfl, rfl, rfl, rfl, rfl, rfl, rfl⟩ HU1.out ?_ HI.out
  rw [show updI S 6 v = { S with br := num v } from rfl, hx.out]
  exact { ((HU.out.drewN q).tp 6 _ (HT.out.drewN q)) with br := rfl }

set_option maxRecDepth 1000000 in
set_option maxHeartbeats 8000000 in
theorem um_c7 {w0 w : World} {R P : Nat} {T : TP} {S : SP} {a4 a6 : Addr} {x0 : Value} {A : Option Addr} {n c : Nat} {v : List Int} (a : Act) (hf : Fs a R P x0 (.int .i64 0) (.slice A n c) (.int .u64 7)) (hu : Ub w0 R P w T) (ht : Tp w a4 a6 T S) (hv : Rt w (A, n, c) v) (hg : Gl w0 a4 a6)
    {K : Act → World → Prop} {Q : Exit → Act → World → Prop} (hK : HK w0 R P x0 a4 a6 S 7 v K) (hE : HE w0 R 7 v Q) :
    Code.wp Tryd.prog umSw (Exit.then K Q) a w := by
  have HU := Lib.hid hu
  have HT := Lib.hid ht
  have HK' := Lib.hid hK
  have HE' := Lib.hid hE
  have HR : Hid (Rd w A v) := hv.1
  have hn : Hid (v.length = n) := hv.2.1
  have hnc : n ≤ c := hv.2.2.1
  have hc2 : c ≤ 9223372036854775807 := hv.2.2.2.1
  have u7 := hu.cell 7 _ rfl
  have f7 := hu.free 7
  have HV := Lib.hid hv
  obtain ⟨x, hx⟩ : ∃ x, Hid (num v = x) := ⟨_, Lib.hid rfl⟩
  obtain ⟨m, hm⟩ : ∃ m, Hid (nk v = m) := ⟨_, Lib.hid rfl⟩
  have hx0 := (num_bd hv.1.1).1
  have hx1 := (num_bd hv.1.1).2
  rw [hx.out] at hx0 hx1
  clear hu ht hv hK hE
  obtain ⟨f, rfl⟩ := hf.lit
  clear hf
  conv => arg 2; whnf
  have hi : nk v = (v.length : Nat) ↔ iok 7 v := ⟨fun h => ⟨fun h => by omega, fun h => by omega, fun h => by omega, fun _ => ⟨alone_nk.2 h, trivial⟩⟩, fun h => alone_nk.1 (h.2.2.2 (by unfold isNum; omega)).1⟩
  rw [hn.out, hm.out] at hi
  have HI := Lib.hid hi
  clear hi
  go_wp2_with (go_at_call 40; refine (cvit A n c v _ (by exact HR.out) hn (by omega) x m hx hm).mono ?_; rintro e w' ⟨rfl, q, rfl⟩; have HU1 := Lib.hid ((HU.out.drewN q).set (T' := { T with un := x }) 7 (.int .i64 x) rfl))
  refine HK'.out _ _ _ _ _ _ _ ⟨rfl, rfl, rfl, rfl, rfl, rfl, rfl, rfl⟩ HU1.out ?_ HI.out
  rw [show updI S 7 v = { S with un := num v } from rfl, hx.out]
  exact { ((HU.out.drewN q).tp 7 _ (HT.out.drewN q)) with un := rfl }

end Go.Proofs.YtdjdcpcomhjnjaaDoor

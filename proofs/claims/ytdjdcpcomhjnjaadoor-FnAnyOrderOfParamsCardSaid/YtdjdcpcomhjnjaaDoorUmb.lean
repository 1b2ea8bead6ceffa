/- unmarshalTransportParams: the switch, numbers that are tested. Conditions: none. -/
import Derived.Test.YtdjdcpcomhjnjaaDoorUma
namespace Go.Proofs.YtdjdcpcomhjnjaaDoor
open Go.RowKit
set_option linter.unusedVariables false
set_option linter.unusedSimpArgs false


set_option maxRecDepth 1000000 in
set_option maxHeartbeats 8000000 in
theorem um_c3 {w0 w : World} {R P : Nat} {T : TP} {S : SP} {a4 a6 : Addr} {x0 : Value} {A : Option Addr} {n c : Nat} {v : List Int} (a : Act) (hf : Fs a R P x0 (.int .i64 0) (.slice A n c) (.int .u64 3)) (hu : Ub w0 R P w T) (ht : Tp w a4 a6 T S) (hv : Rt w (A, n, c) v) (hg : Gl w0 a4 a6)
    {K : Act → World → Prop} {Q : Exit → Act → World → Prop} (hK : HK w0 R P x0 a4 a6 S 3 v K) (hE : HE w0 R 3 v Q) :
    Code.wp Tryd.prog umSw (Exit.then K Q) a w := by
  have HU := Lib.hid hu
  have HT := Lib.hid ht
  have HK' := Lib.hid hK
  have HE' := Lib.hid hE
  have HR : Hid (Rd w A v) := hv.1
  have hn : Hid (v.length = n) := hv.2.1
  have hnc : n ≤ c := hv.2.2.1
  have hc2 : c ≤ 9223372036854775807 := hv.2.2.2.1
  have u3 := hu.cell 3 _ rfl
  have f3 := hu.free 3
  have HV := Lib.hid hv
  obtain ⟨x, hx⟩ : ∃ x, Hid (num v = x) := ⟨_, Lib.hid rfl⟩
  obtain ⟨m, hm⟩ : ∃ m, Hid (nk v = m) := ⟨_, Lib.hid rfl⟩
  have hx0 := (num_bd hv.1.1).1
  have hx1 := (num_bd hv.1.1).2
  rw [hx.out] at hx0 hx1
  clear hu ht hv hK hE
  obtain ⟨f, rfl⟩ := hf.lit
  clear hf
  conv => arg 2; whnf
  have hr : rng 3 x ↔ ¬ x < 1200 := by simp only [rng]; first | omega | (simp; omega) | simp
  by_cases hb : x < 1200
  · have hno : ¬ rng 3 (num v) := by rw [hx.out]; exact fun h => (hr.1 h) hb
    have HN := Lib.hid hno
    clear hno hr
    go_wp2_with (first | (go_at_call 40; refine (cvit A n c v _ (by exact HR.out) hn (by omega) x m hx hm).mono ?_; rintro e w' ⟨rfl, q, rfl⟩; have HU1 := Lib.hid ((HU.out.drewN q).set (T' := { T with udp := x }) 3 (.int .i64 x) rfl)) | (refine wpList_load_mid rfl 76 (.tmp 4) rfl P 0 rfl _ _ (by exact HU1.out.range) Tryd.underlying76 rfl (size_tp.trans (congrArg some (TP.size _).symm)) ?_) | (refine wpList_store_mid rfl 76 (.tmp 2) _ rfl R 0 _ rfl rfl (by exact HU1.out.thereR) size_tp (TP.one _) ?_))
    refine HE'.out _ _ ⟨rfl, rfl, ⟨_, rfl⟩, (HU1.out.err _).1, (HU1.out.err _).2⟩ ?_
    intro h
    exact HN.out (h.2.2.2 (by unfold isNum; omega)).2
  · have hyes : rng 3 (num v) := by rw [hx.out]; exact hr.2 hb
    have hi : nk v = (v.length : Nat) ↔ iok 3 v := ⟨fun h => ⟨fun h => by omega, fun h => by omega, fun h => by omega, fun _ => ⟨alone_nk.2 h, hyes⟩⟩, fun h => alone_nk.1 (h.2.2.2 (by unfold isNum; omega)).1⟩
    rw [hn.out, hm.out] at hi
    have HI := Lib.hid hi
    clear hi hyes hr
    go_wp2_with (first | (go_at_call 40; refine (cvit A n c v _ (by exact HR.out) hn (by omega) x m hx hm).mono ?_; rintro e w' ⟨rfl, q, rfl⟩; have HU1 := Lib.hid ((HU.out.drewN q).set (T' := { T with udp := x }) 3 (.int .i64 x) rfl)) | (refine wpList_load_mid rfl 76 (.tmp 4) rfl P 0 rfl _ _ (by exact HU1.out.range) Tryd.underlying76 rfl (size_tp.trans (congrArg some (TP.size _).symm)) ?_) | (refine wpList_store_mid rfl 76 (.tmp 2) _ rfl R 0 _ rfl rfl (by exact HU1.out.thereR) size_tp (TP.one _) ?_))
    refine HK'.out _ _ _ _ _ _ _ ⟨rfl, rfl, rfl, rfl, rfl, rfl, rfl, rfl⟩ HU1.out ?_ HI.out
    rw [show updI S 3 v = { S with udp := num v } from rfl, hx.out]
    exact { ((HU.out.drewN q).tp 3 _ (HT.out.drewN q)) with udp := rfl }

set_option maxRecDepth 1000000 in
set_option maxHeartbeats 8000000 in
theorem um_c8 {w0 w : World} {R P : Nat} {T : TP} {S : SP} {a4 a6 : Addr} {x0 : Value} {A : Option Addr} {n c : Nat} {v : List Int} (a : Act) (hf : Fs a R P x0 (.int .i64 0) (.slice A n c) (.int .u64 8)) (hu : Ub w0 R P w T) (ht : Tp w a4 a6 T S) (hv : Rt w (A, n, c) v) (hg : Gl w0 a4 a6)
    {K : Act → World → Prop} {Q : Exit → Act → World → Prop} (hK : HK w0 R P x0 a4 a6 S 8 v K) (hE : HE w0 R 8 v Q) :
    Code.wp Tryd.prog umSw (Exit.then K Q) a w := by
  have HU := Lib.hid hu
  have HT := Lib.hid ht
  have HK' := Lib.hid hK
  have HE' := Lib.hid hE
  have HR : Hid (Rd w A v) := hv.1
  have hn : Hid (v.length = n) := hv.2.1
  have hnc : n ≤ c := hv.2.2.1
  have hc2 : c ≤ 9223372036854775807 := hv.2.2.2.1
  have u8 := hu.cell 8 _ rfl
  have f8 := hu.free 8
  have HV := Lib.hid hv
  obtain ⟨x, hx⟩ : ∃ x, Hid (num v = x) := ⟨_, Lib.hid rfl⟩
  obtain ⟨m, hm⟩ : ∃ m, Hid (nk v = m) := ⟨_, Lib.hid rfl⟩
  have hx0 := (num_bd hv.1.1).1
  have hx1 := (num_bd hv.1.1).2
  rw [hx.out] at hx0 hx1
  clear hu ht hv hK hE
  obtain ⟨f, rfl⟩ := hf.lit
  clear hf
  conv => arg 2; whnf
  have hr : rng 8 x ↔ ¬ 1152921504606846976 < x := by simp only [rng]; first | omega | (simp; omega) | simp
  by_cases hb : 1152921504606846976 < x
  · have hno : ¬ rng 8 (num v) := by rw [hx.out]; exact fun h => (hr.1 h) hb
    have HN := Lib.hid hno
    clear hno hr
    go_wp2_with (first | (go_at_call 40; refine (cvit A n c v _ (by exact HR.out) hn (by omega) x m hx hm).mono ?_; rintro e w' ⟨rfl, q, rfl⟩; have HU1 := Lib.hid ((HU.out.drewN q).set (T' := { T with sb := x }) 8 (.int .i64 x) rfl)) | (refine wpList_load_mid rfl 76 (.tmp 4) rfl P 0 rfl _ _ (by exact HU1.out.range) Tryd.underlying76 rfl (size_tp.trans (congrArg some (TP.size _).symm)) ?_) | (refine wpList_store_mid rfl 76 (.tmp 2) _ rfl R 0 _ rfl rfl (by exact HU1.out.thereR) size_tp (TP.one _) ?_))
    refine HE'.out _ _ ⟨rfl, rfl, ⟨_, rfl⟩, (HU1.out.err _).1, (HU1.out.err _).2⟩ ?_
    intro h
    exact HN.out (h.2.2.2 (by unfold isNum; omega)).2
  · have hyes : rng 8 (num v) := by rw [hx.out]; exact hr.2 hb
    have hi : nk v = (v.length : Nat) ↔ iok 8 v := ⟨fun h => ⟨fun h => by omega, fun h => by omega, fun h => by omega, fun _ => ⟨alone_nk.2 h, hyes⟩⟩, fun h => alone_nk.1 (h.2.2.2 (by unfold isNum; omega)).1⟩
    rw [hn.out, hm.out] at hi
    have HI := Lib.hid hi
    clear hi hyes hr
    go_wp2_with (first | (go_at_call 40; refine (cvit A n c v _ (by exact HR.out) hn (by omega) x m hx hm).mono ?_; rintro e w' ⟨rfl, q, rfl⟩; have HU1 := Lib.hid ((HU.out.drewN q).set (T' := { T with sb := x }) 8 (.int .i64 x) rfl)) | (refine wpList_load_mid rfl 76 (.tmp 4) rfl P 0 rfl _ _ (by exact HU1.out.range) Tryd.underlying76 rfl (size_tp.trans (congrArg some (TP.size _).symm)) ?_) | (refine wpList_store_mid rfl 76 (.tmp 2) _ rfl R 0 _ rfl rfl (by exact HU1.out.thereR) size_tp (TP.one _) ?_))
    refine HK'.out _ _ _ _ _ _ _ ⟨rfl, rfl, rfl, rfl, rfl, rfl, rfl, rfl⟩ HU1.out ?_ HI.out
    rw [show updI S 8 v = { S with sb := num v } from rfl, hx.out]
    exact { ((HU.out.drewN q).tp 8 _ (HT.out.drewN q)) with sb := rfl }

set_option maxRecDepth 1000000 in
set_option maxHeartbeats 8000000 in
theorem um_c9 {w0 w : World} {R P : Nat} {T : TP} {S : SP} {a4 a6 : Addr} {x0 : Value} {A : Option Addr} {n c : Nat} {v : List Int} (a : Act) (hf : Fs a R P x0 (.int .i64 0) (.slice A n c) (.int .u64 9)) (hu : Ub w0 R P w T) (ht : Tp w a4 a6 T S) (hv : Rt w (A, n, c) v) (hg : Gl w0 a4 a6)
    {K : Act → World → Prop} {Q : Exit → Act → World → Prop} (hK : HK w0 R P x0 a4 a6 S 9 v K) (hE : HE w0 R 9 v Q) :
    Code.wp Tryd.prog umSw (Exit.then K Q) a w := by
  have HU := Lib.hid hu
  have HT := Lib.hid ht
  have HK' := Lib.hid hK
  have HE' := Lib.hid hE
  have HR : Hid (Rd w A v) := hv.1
  have hn : Hid (v.length = n) := hv.2.1
  have hnc : n ≤ c := hv.2.2.1
  have hc2 : c ≤ 9223372036854775807 := hv.2.2.2.1
  have u9 := hu.cell 9 _ rfl
  have f9 := hu.free 9
  have HV := Lib.hid hv
  obtain ⟨x, hx⟩ : ∃ x, Hid (num v = x) := ⟨_, Lib.hid rfl⟩
  obtain ⟨m, hm⟩ : ∃ m, Hid (nk v = m) := ⟨_, Lib.hid rfl⟩
  have hx0 := (num_bd hv.1.1).1
  have hx1 := (num_bd hv.1.1).2
  rw [hx.out] at hx0 hx1
  clear hu ht hv hK hE
  obtain ⟨f, rfl⟩ := hf.lit
  clear hf
  conv => arg 2; whnf
  have hr : rng 9 x ↔ ¬ 1152921504606846976 < x := by simp only [rng]; first | omega | (simp; omega) | simp
  by_cases hb : 1152921504606846976 < x
  · have hno : ¬ rng 9 (num v) := by rw [hx.out]; exact fun h => (hr.1 h) hb
    have HN := Lib.hid hno
    clear hno hr
    go_wp2_with (first | (go_at_call 40; refine (cvit A n c v _ (by exact HR.out) hn (by omega) x m hx hm).mono ?_; rintro e w' ⟨rfl, q, rfl⟩; have HU1 := Lib.hid ((HU.out.drewN q).set (T' := { T with su := x }) 9 (.int .i64 x) rfl)) | (refine wpList_load_mid rfl 76 (.tmp 4) rfl P 0 rfl _ _ (by exact HU1.out.range) Tryd.underlying76 rfl (size_tp.trans (congrArg some (TP.size _).symm)) ?_) | (refine wpList_store_mid rfl 76 (.tmp 2) _ rfl R 0 _ rfl rfl (by exact HU1.out.thereR) size_tp (TP.one _) ?_))
    refine HE'.out _ _ ⟨rfl, rfl, ⟨_, rfl⟩, (HU1.out.err _).1, (HU1.out.err _).2⟩ ?_
    intro h
    exact HN.out (h.2.2.2 (by unfold isNum; omega)).2
  · have hyes : rng 9 (num v) := by rw [hx.out]; exact hr.2 hb
    have hi : nk v = (v.length : Nat) ↔ iok 9 v := ⟨fun h => ⟨fun h => by omega, fun h => by omega, fun h => by omega, fun _ => ⟨alone_nk.2 h, hyes⟩⟩, fun h => alone_nk.1 (h.2.2.2 (by unfold isNum; omega)).1⟩
    rw [hn.out, hm.out] at hi
    have HI := Lib.hid hi
    clear hi hyes hr
    go_wp2_with (first | (go_at_call 40; refine (cvit A n c v _ (by exact HR.out) hn (by omega) x m hx hm).mono ?_; rintro e w' ⟨rfl, q, rfl⟩; have HU1 := Lib.hid ((HU.out.drewN q).set (T' := { T with su := x }) 9 (.int .i64 x) rfl)) | (refine wpList_load_mid rfl 76 (.tmp 4) rfl P 0 rfl _ _ (by exact HU1.out.range) Tryd.underlying76 rfl (size_tp.trans (congrArg some (TP.size _).symm)) ?_) | (refine wpList_store_mid rfl 76 (.tmp 2) _ rfl R 0 _ rfl rfl (by exact HU1.out.thereR) size_tp (TP.one _) ?_))
    refine HK'.out _ _ _ _ _ _ _ ⟨rfl, rfl, rfl, rfl, rfl, rfl, rfl, rfl⟩ HU1.out ?_ HI.out
    rw [show updI S 9 v = { S with su := num v } from rfl, hx.out]
    exact { ((HU.out.drewN q).tp 9 _ (HT.out.drewN q)) with su := rfl }

set_option maxRecDepth 1000000 in
set_option maxHeartbeats 8000000 in
theorem um_c14 {w0 w : World} {R P : Nat} {T : TP} {S : SP} {a4 a6 : Addr} {x0 : Value} {A : Option Addr} {n c : Nat} {v : List Int} (a : Act) (hf : Fs a R P x0 (.int .i64 0) (.slice A n c) (.int .u64 14)) (hu : Ub w0 R P w T) (ht : Tp w a4 a6 T S) (hv : Rt w (A, n, c) v) (hg : Gl w0 a4 a6)
    {K : Act → World → Prop} {Q : Exit → Act → World → Prop} (hK : HK w0 R P x0 a4 a6 S 14 v K) (hE : HE w0 R 14 v Q) :
    Code.wp Tryd.prog umSw (Exit.then K Q) a w := by
  have HU := Lib.hid hu
  have HT := Lib.hid ht
  have HK' := Lib.hid hK
  have HE' := Lib.hid hE
  have HR : Hid (Rd w A v) := hv.1
  have hn : Hid (v.length = n) := hv.2.1
  have hnc : n ≤ c := hv.2.2.1
  have hc2 : c ≤ 9223372036854775807 := hv.2.2.2.1
  have u23 := hu.cell 23 _ rfl
  have f23 := hu.free 23
  have HV := Lib.hid hv
  obtain ⟨x, hx⟩ : ∃ x, Hid (num v = x) := ⟨_, Lib.hid rfl⟩
  obtain ⟨m, hm⟩ : ∃ m, Hid (nk v = m) := ⟨_, Lib.hid rfl⟩
  have hx0 := (num_bd hv.1.1).1
  have hx1 := (num_bd hv.1.1).2
  rw [hx.out] at hx0 hx1
  clear hu ht hv hK hE
  obtain ⟨f, rfl⟩ := hf.lit
  clear hf
  conv => arg 2; whnf
  have hr : rng 14 x ↔ ¬ x < 2 := by simp only [rng]; first | omega | (simp; omega) | simp
  by_cases hb : x < 2
  · have hno : ¬ rng 14 (num v) := by rw [hx.out]; exact fun h => (hr.1 h) hb
    have HN := Lib.hid hno
    clear hno hr
    go_wp2_with (first | (go_at_call 40; refine (cvit A n c v _ (by exact HR.out) hn (by omega) x m hx hm).mono ?_; rintro e w' ⟨rfl, q, rfl⟩; have HU1 := Lib.hid ((HU.out.drewN q).set (T' := { T with act := x }) 23 (.int .i64 x) rfl)) | (refine wpList_load_mid rfl 76 (.tmp 4) rfl P 0 rfl _ _ (by exact HU1.out.range) Tryd.underlying76 rfl (size_tp.trans (congrArg some (TP.size _).symm)) ?_) | (refine wpList_store_mid rfl 76 (.tmp 2) _ rfl R 0 _ rfl rfl (by exact HU1.out.thereR) size_tp (TP.one _) ?_))
    refine HE'.out _ _ ⟨rfl, rfl, ⟨_, rfl⟩, (HU1.out.err _).1, (HU1.out.err _).2⟩ ?_
    intro h
    exact HN.out (h.2.2.2 (by unfold isNum; omega)).2
  · have hyes : rng 14 (num v) := by rw [hx.out]; exact hr.2 hb
    have hi : nk v = (v.length : Nat) ↔ iok 14 v := ⟨fun h => ⟨fun h => by omega, fun h => by omega, fun h => by omega, fun _ => ⟨alone_nk.2 h, hyes⟩⟩, fun h => alone_nk.1 (h.2.2.2 (by unfold isNum; omega)).1⟩
    rw [hn.out, hm.out] at hi
    have HI := Lib.hid hi
    clear hi hyes hr
    go_wp2_with (first | (go_at_call 40; refine (cvit A n c v _ (by exact HR.out) hn (by omega) x m hx hm).mono ?_; rintro e w' ⟨rfl, q, rfl⟩; have HU1 := Lib.hid ((HU.out.drewN q).set (T' := { T with act := x }) 23 (.int .i64 x) rfl)) | (refine wpList_load_mid rfl 76 (.tmp 4) rfl P 0 rfl _ _ (by exact HU1.out.range) Tryd.underlying76 rfl (size_tp.trans (congrArg some (TP.size _).symm)) ?_) | (refine wpList_store_mid rfl 76 (.tmp 2) _ rfl R 0 _ rfl rfl (by exact HU1.out.thereR) size_tp (TP.one _) ?_))
    refine HK'.out _ _ _ _ _ _ _ ⟨rfl, rfl, rfl, rfl, rfl, rfl, rfl, rfl⟩ HU1.out ?_ HI.out
    rw [show updI S 14 v = { S with act := num v } from rfl, hx.out]
    exact { ((HU.out.drewN q).tp 23 _ (HT.out.drewN q)) with act := rfl }

end Go.Proofs.YtdjdcpcomhjnjaaDoor

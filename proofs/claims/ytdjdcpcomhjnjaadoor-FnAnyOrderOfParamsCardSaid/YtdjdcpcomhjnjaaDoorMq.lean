/- What is written is read: the plain law. No program. Conditions: none. -/
import Derived.Test.YtdjdcpcomhjnjaaDoorZpf
namespace Go.Proofs.YtdjdcpcomhjnjaaDoor
set_option linter.unusedVariables false
set_option linter.unusedSimpArgs false
/-- One parameter's bytes. -/
def put (id : Int) (v : List Int) : List Int := enc id ++ (enc ((v.length : Nat) : Int) ++ v)
def flatp (ps : List (Int × List Int)) : List Int := (ps.map fun p => put p.1 p.2).flatten
theorem flatp_append (a b : List (Int × List Int)) : flatp (a ++ b) = flatp a ++ flatp b := by simp [flatp]
def okp (p : Int × List Int) : Prop := 0 ≤ p.1 ∧ p.1 ≤ 4611686018427387903 ∧ p.2.length ≤ 1000000
theorem pstep_put {l r : List Int} {k : Nat} {id : Int} {v : List Int} (h : okp (id, v)) (hl : l.drop k = put id v ++ r) : pstep l k = some (id, v, k + (put id v).length) := by
  obtain ⟨h0, h1, h2⟩ := h
  have e1 : rv (l.drop k) = some (id, esz id) := by
    rw [hl, put, List.append_assoc]
    exact rv_enc h0 h1 _
  have e2 : l.drop (k + esz id) = enc ((v.length : Nat) : Int) ++ (v ++ r) := by
    rw [← List.drop_drop, hl, put, List.append_assoc, List.drop_append_of_le_length (by rw [enc_length]; exact Nat.le_refl _), List.drop_eq_nil_of_le (by rw [enc_length]; exact Nat.le_refl _), List.nil_append, List.append_assoc]
  have e3 : rv (l.drop (k + esz id)) = some (((v.length : Nat) : Int), esz ((v.length : Nat) : Int)) := by
    rw [e2]
    exact rv_enc (by omega) (by simp only at h2; omega) _
  have e4 := rvb_some e3 (by rw [e2, List.length_append, List.length_append, enc_length]; omega)
  rw [pstep_some e1 e4]
  have e5 : (List.drop (esz ((v.length : Nat) : Int)) (l.drop (k + esz id))).take ((v.length : Nat) : Int).toNat = v := by
    rw [e2, List.drop_append_of_le_length (by rw [enc_length]; exact Nat.le_refl _), List.drop_eq_nil_of_le (by rw [enc_length]; exact Nat.le_refl _), List.nil_append, Int.toNat_natCast, List.take_left' rfl]
  rw [e5]
  congr 3
  rw [put, List.length_append, List.length_append, enc_length, enc_length]
  simp
  omega
theorem path_put : ∀ {ps : List (Int × List Int)} {l : List Int} {k : Nat}, (∀ p ∈ ps, okp p) → l.drop k = flatp ps → k ≤ l.length → Path l k ps l.length
  | [], l, k, _, hl, hk => by
    have : (l.drop k).length = 0 := by rw [hl]; rfl
    rw [List.length_drop] at this
    show k = l.length
    omega
  | (id, v) :: ps, l, k, h, hl, hk => by
    have hl' : l.drop k = put id v ++ flatp ps := hl
    refine ⟨_, pstep_put (h (id, v) (by simp)) hl', ?_⟩
    have hlen : (put id v).length ≤ (l.drop k).length := by rw [hl', List.length_append]; omega
    rw [List.length_drop] at hlen
    refine path_put (fun p hp => h p (List.mem_cons_of_mem _ hp)) ?_ (by omega)
    rw [← List.drop_drop, hl', List.drop_append_of_le_length (Nat.le_refl _), List.drop_eq_nil_of_le (Nat.le_refl _), List.nil_append]

def bo (id : Int) (A : Option Addr) (d : List Int) : List (Int × List Int) := if A = none then [] else [(id, d)]
def no (id dflt x : Int) : List (Int × List Int) := if x = dflt then [] else [(id, enc x)]
def fo (x : Bool) : List (Int × List Int) := if x then [(12, [])] else []
def po (A : Option Addr) (v : List Int) : List (Int × List Int) := if A = none then [] else [(13, v)]
def pv (S : SP) : List Int := S.v4 ++ ([S.p4 / 256, S.p4 % 256] ++ (S.v6 ++ ([S.p6 / 256, S.p6 % 256] ++ ([((S.pid.length : Nat) : Int)] ++ (S.pid ++ S.ptok)))))
def mps (Q : QP) (S : SP) : List (Int × List Int) := bo 0 Q.od.1 S.od ++ (no 1 0 S.idle ++ (bo 2 Q.rt.1 S.rt ++ (no 3 65527 S.udp ++ (no 4 0 S.data ++ (no 5 0 S.bl ++ (no 6 0 S.br ++ (no 7 0 S.un ++ (no 8 0 S.sb ++ (no 9 0 S.su ++ (no 10 3 S.ae ++ (no 11 25 S.ad ++ (fo S.nomig ++ (po Q.pid.1 (pv S) ++ (no 14 2 S.act ++ (bo 15 Q.is.1 S.is ++ (bo 16 Q.rs.1 S.rs))))))))))))))))
theorem bsec_eq (id : Int) (A : Option Addr) (d : List Int) : bsec id A d = flatp (bo id A d) := by
  unfold bsec bo
  split
  · rfl
  · simp [flatp, put]
theorem nsec_eq (id dflt x : Int) : nsec id dflt x = flatp (no id dflt x) := by
  unfold nsec no
  split
  · rfl
  · simp [flatp, put, enc_length]
theorem fsec_eq (x : Bool) : fsec x = flatp (fo x) := by
  cases x
  · rfl
  · rfl
/-- The reference's 'Fits'. -/
structure Fq (Q : QP) (S : SP) : Prop where
  odn : Q.od.1 = none → S.od = []
  od : S.od.length ≤ 20
  rtn : Q.rt.1 = none → S.rt = []
  rt : Q.rt.1 ≠ none → S.rt.length = 16
  isn : Q.is.1 = none → S.is = []
  is : S.is.length ≤ 20
  rsn : Q.rs.1 = none → S.rs = []
  rs : S.rs.length ≤ 20
  idle : 0 ≤ S.idle ∧ S.idle ≤ 1073741823
  udp : 1200 ≤ S.udp ∧ S.udp ≤ 65527
  data : 0 ≤ S.data ∧ S.data ≤ 4611686018427387903
  bl : 0 ≤ S.bl ∧ S.bl ≤ 4611686018427387903
  br : 0 ≤ S.br ∧ S.br ≤ 4611686018427387903
  un : 0 ≤ S.un ∧ S.un ≤ 4611686018427387903
  sb : 0 ≤ S.sb ∧ S.sb ≤ 1152921504606846976
  su : 0 ≤ S.su ∧ S.su ≤ 1152921504606846976
  ae : 0 ≤ S.ae ∧ S.ae ≤ 20
  ad : 0 ≤ S.ad ∧ S.ad ≤ 16383
  act : 2 ≤ S.act ∧ S.act ≤ 4611686018427387903
  pre : (Q.pid.1 = none ∧ S.v4 = [] ∧ S.v6 = [] ∧ S.pid = [] ∧ S.ptok = [] ∧ S.p4 = 0 ∧ S.p6 = 0) ∨ (Q.pid.1 ≠ none ∧ (S.v4.length = 4 ∧ ¬ zeroB S.v4) ∧ (S.v6.length = 16 ∧ ¬ zeroB S.v6) ∧ (1 ≤ S.pid.length ∧ S.pid.length ≤ 20) ∧ S.ptok.length = 16 ∧ (0 < S.p4 ∧ S.p4 ≤ 65535) ∧ (0 < S.p6 ∧ S.p6 ≤ 65535))
theorem Fq.fit {Q : QP} {S : SP} (h : Fq Q S) : Fit S := by
  have hrt : S.rt.length ≤ 50 := by
    by_cases e : Q.rt.1 = none
    · rw [h.rtn e]; simp
    · have := h.rt e; omega
  have h1 := h.od; have h2 := h.is; have h3 := h.rs
  have r_idle := h.idle
  have r_udp := h.udp
  have r_data := h.data
  have r_bl := h.bl
  have r_br := h.br
  have r_un := h.un
  have r_sb := h.sb
  have r_su := h.su
  have r_ae := h.ae
  have r_ad := h.ad
  have r_act := h.act
  have hp := h.pre
  refine ⟨⟨by omega, by omega, hrt, by omega, by omega, by omega, by omega, by omega, by omega, by omega, by omega, by omega, ?_, ?_, by omega, by omega, by omega⟩, by omega, by omega, by omega, ?_⟩
  · rcases hp with ⟨_, _, _, e, _⟩ | ⟨_, _, _, e, _⟩
    · rw [e]; simp
    · omega
  · rcases hp with ⟨_, _, _, _, e, _⟩ | ⟨_, _, _, _, e, _⟩
    · rw [e]; simp
    · omega
  · rcases hp with ⟨_, e1, e2, _, _, e3, e4⟩ | ⟨_, e1, e2, _, _, e3, e4⟩
    · exact .inl ⟨e1, e2, e3, e4⟩
    · exact .inr ⟨e1.1, e2.1, by omega, by omega⟩
theorem mem_app {P : Int × List Int → Prop} {a b : List (Int × List Int)} (ha : ∀ p ∈ a, P p) (hb : ∀ p ∈ b, P p) : ∀ p ∈ a ++ b, P p := fun p hp => (List.mem_append.1 hp).elim (ha p) (hb p)
theorem bo_all {P : Int × List Int → Prop} {id : Int} {A : Option Addr} {d : List Int} (h : A ≠ none → P (id, d)) : ∀ p ∈ bo id A d, P p := by
  intro p hp
  unfold bo at hp
  split at hp
  · simp at hp
  · rename_i hA
    obtain rfl : p = (id, d) := by simpa using hp
    exact h hA
theorem no_all {P : Int × List Int → Prop} {id dflt x : Int} (h : P (id, enc x)) : ∀ p ∈ no id dflt x, P p := by
  intro p hp
  unfold no at hp
  split at hp
  · simp at hp
  · obtain rfl : p = (id, enc x) := by simpa using hp
    exact h
theorem fo_all {P : Int × List Int → Prop} {x : Bool} (h : P (12, [])) : ∀ p ∈ fo x, P p := by
  intro p hp
  cases x
  · simp [fo] at hp
  · obtain rfl : p = (12, []) := by simpa [fo] using hp
    exact h
theorem po_all {P : Int × List Int → Prop} {A : Option Addr} {v : List Int} (h : A ≠ none → P (13, v)) : ∀ p ∈ po A v, P p := by
  intro p hp
  unfold po at hp
  split at hp
  · simp at hp
  · rename_i hA
    obtain rfl : p = (13, v) := by simpa using hp
    exact h hA
theorem enc_alone {x : Int} (h0 : 0 ≤ x) (h1 : x ≤ 4611686018427387903) : alone (enc x) ∧ num (enc x) = x := by
  have h := rv_enc h0 h1 []
  rw [List.append_nil] at h
  exact ⟨⟨x, by rw [h, enc_length]⟩, num_of h⟩
theorem pv_length {S : SP} (h4 : S.v4.length = 4) (h6 : S.v6.length = 16) (ht : S.ptok.length = 16) : (pv S).length = 25 + S.pid.length + 16 := by
  simp only [pv, List.length_append, List.length_cons, List.length_nil, h4, h6, ht]
  omega
theorem psec_eq {Q : QP} {S : SP} (h : Fq Q S) : psec Q.pid.1 S.v4 S.v6 S.pid S.ptok S.p4 S.p6 = flatp (po Q.pid.1 (pv S)) := by
  unfold psec po
  split
  · rfl
  · rename_i hA
    rcases h.pre with ⟨e, _⟩ | ⟨_, h4, h6, _, ht, _⟩
    · exact absurd e hA
    · have e := pv_length h4.1 h6.1 ht
      rw [← e]
      have e13 : enc 13 = [13] := rfl
      simp [flatp, put, pv, e13]
theorem marq_eq {Q : QP} {S : SP} (h : Fq Q S) : marq Q S = flatp (mps Q S) := by
  unfold marq mps
  simp only [flatp_append, bsec_eq, nsec_eq, fsec_eq, psec_eq h]
theorem mps_ok {Q : QP} {S : SP} (h : Fq Q S) : ∀ p ∈ mps Q S, okp p := by
  have hpl : Q.pid.1 ≠ none → (pv S).length ≤ 1000000 := fun hA => by
    rcases h.pre with ⟨e, _⟩ | ⟨_, h4, h6, hd, ht, _⟩
    · exact absurd e hA
    · rw [pv_length h4.1 h6.1 ht]; omega
  exact mem_app (bo_all fun hA => ⟨by simp only; omega, by simp only; omega, by have := h.od; simp only; omega⟩) (mem_app (no_all ⟨by simp only; omega, by simp only; omega, by have := (esz_bd S.idle).2; simp only [enc_length]; omega⟩) (mem_app (bo_all fun hA => ⟨by simp only; omega, by simp only; omega, by have := h.rt hA; simp only; omega⟩) (mem_app (no_all ⟨by simp only; omega, by simp only; omega, by have := (esz_bd S.udp).2; simp only [enc_length]; omega⟩) (mem_app (no_all ⟨by simp only; omega, by simp only; omega, by have := (esz_bd S.data).2; simp only [enc_length]; omega⟩) (mem_app (no_all ⟨by simp only; omega, by simp only; omega, by have := (esz_bd S.bl).2; simp only [enc_length]; omega⟩) (mem_app (no_all ⟨by simp only; omega, by simp only; omega, by have := (esz_bd S.br).2; simp only [enc_length]; omega⟩) (mem_app (no_all ⟨by simp only; omega, by simp only; omega, by have := (esz_bd S.un).2; simp only [enc_length]; omega⟩) (mem_app (no_all ⟨by simp only; omega, by simp only; omega, by have := (esz_bd S.sb).2; simp only [enc_length]; omega⟩) (mem_app (no_all ⟨by simp only; omega, by simp only; omega, by have := (esz_bd S.su).2; simp only [enc_length]; omega⟩) (mem_app (no_all ⟨by simp only; omega, by simp only; omega, by have := (esz_bd S.ae).2; simp only [enc_length]; omega⟩) (mem_app (no_all ⟨by simp only; omega, by simp only; omega, by have := (esz_bd S.ad).2; simp only [enc_length]; omega⟩) (mem_app (fo_all ⟨by simp only; omega, by simp only; omega, by decide⟩) (mem_app (po_all fun hA => ⟨by simp only; omega, by simp only; omega, hpl hA⟩) (mem_app (no_all ⟨by simp only; omega, by simp only; omega, by have := (esz_bd S.act).2; simp only [enc_length]; omega⟩) (mem_app (bo_all fun hA => ⟨by simp only; omega, by simp only; omega, by have := h.is; simp only; omega⟩) (bo_all fun hA => ⟨by simp only; omega, by simp only; omega, by have := h.rs; simp only; omega⟩))))))))))))))))
theorem sg_num {x a b : Int} (id : Int) (h0 : a ≤ x) (h1 : x ≤ b) (hab : 0 ≤ a ∧ b ≤ 4611686018427387903) (hi : isNum id) (hr : ∀ x, a ≤ x → x ≤ b → rng id x) (ho : ∀ x, a ≤ x → x ≤ b → (id = 1 → x < 1073741824) ∧ (id = 3 → x ≤ 65527)) : sgood id (enc x) := by
  obtain ⟨ha, hn⟩ := enc_alone (x := x) (by omega) (by omega)
  have hi' := hi
  unfold isNum at hi'
  refine ⟨⟨fun h => by omega, fun h => by omega, fun h => by omega, fun _ => ⟨ha, by rw [hn]; exact hr x h0 h1⟩⟩, fun h => by omega, fun h => by rw [hn]; exact (ho x h0 h1).1 h, fun h => by rw [hn]; exact (ho x h0 h1).2 h, fun h => by omega⟩
theorem take_app {a b : List Int} {n : Nat} (h : a.length = n) : (a ++ b).take n = a := List.take_left' h
theorem drop_app {a b : List Int} {n : Nat} (h : a.length = n) : (a ++ b).drop n = b := List.drop_left' h
/-- What a written preferred address reads as. -/
theorem pv_read {S : SP} (h4 : S.v4.length = 4) (h6 : S.v6.length = 16) (ht : S.ptok.length = 16) (hp4 : 0 ≤ S.p4) (hp6 : 0 ≤ S.p6) :
    (pv S).take 4 = S.v4 ∧ ((pv S).drop 6).take 16 = S.v6 ∧ be16 (pv S) 4 = S.p4 ∧ be16 (pv S) 22 = S.p6 ∧ (pv S).getD 24 0 = (S.pid.length : Nat) ∧ ((pv S).drop 25).take S.pid.length = S.pid ∧ (pv S).drop (25 + S.pid.length) = S.ptok := by
  have d4 : (pv S).drop 4 = [S.p4 / 256, S.p4 % 256] ++ (S.v6 ++ ([S.p6 / 256, S.p6 % 256] ++ ([((S.pid.length : Nat) : Int)] ++ (S.pid ++ S.ptok)))) := drop_app h4
  have d6 : (pv S).drop 6 = S.v6 ++ ([S.p6 / 256, S.p6 % 256] ++ ([((S.pid.length : Nat) : Int)] ++ (S.pid ++ S.ptok))) := by
    rw [show 6 = 4 + 2 from rfl, ← List.drop_drop, d4]; rfl
  have d22 : (pv S).drop 22 = [S.p6 / 256, S.p6 % 256] ++ ([((S.pid.length : Nat) : Int)] ++ (S.pid ++ S.ptok)) := by
    rw [show 22 = 6 + 16 from rfl, ← List.drop_drop, d6]; exact drop_app h6
  have d25 : (pv S).drop 25 = S.pid ++ S.ptok := by
    rw [show 25 = 22 + 3 from rfl, ← List.drop_drop, d22]; rfl
  have g : ∀ k i, (pv S).getD (k + i) 0 = ((pv S).drop k).getD i 0 := fun k i => by
    rw [List.getD_eq_getElem?_getD, List.getD_eq_getElem?_getD, List.getElem?_drop]
  refine ⟨take_app h4, by rw [d6]; exact take_app h6, ?_, ?_, ?_, by rw [d25]; exact take_app rfl, by rw [← List.drop_drop, d25]; exact drop_app rfl⟩
  · unfold be16
    rw [g 4 0, show 4 + 1 = 4 + 1 from rfl, g 4 1, d4]
    simp
    omega
  · unfold be16
    rw [g 22 0, g 22 1, d22]
    simp
    omega
  · rw [show 24 = 22 + 2 from rfl, g 22 2, d22]
    simp
theorem mps_good {Q : QP} {S : SP} (h : Fq Q S) : ∀ p ∈ mps Q S, sgood p.1 p.2 := by
  have hpv : Q.pid.1 ≠ none → sgood 13 (pv S) := fun hA => by
    rcases h.pre with ⟨e, _⟩ | ⟨_, h4, h6, hd, ht, hp4, hp6⟩
    · exact absurd e hA
    · obtain ⟨r1, r2, r3, r4, r5, _, _⟩ := pv_read h4.1 h6.1 ht (by omega) (by omega)
      refine ⟨⟨fun h => by omega, fun h => by omega, fun _ => ⟨by rw [pv_length h4.1 h6.1 ht]; omega, by rw [pv_length h4.1 h6.1 ht, r5]; omega⟩, fun h => absurd h (by unfold isNum; omega)⟩, fun h => by omega, fun h => by omega, fun h => by omega, fun _ => ?_⟩
      rw [r5, r1, r2, r3, r4]
      exact ⟨by omega, by omega, h4.2, h6.2, by omega, by omega⟩
  exact mem_app (bo_all fun hA => ⟨⟨fun h => by omega, fun h => by omega, fun h => by omega, fun h => absurd h (by unfold isNum; omega)⟩, fun _ => h.od, fun h => by omega, fun h => by omega, fun h => by omega⟩) (mem_app (no_all (sg_num 1 h.idle.1 h.idle.2 (by decide) (by simp [isNum]) (fun x h0 h1 => by simp [rng]; try omega) (fun x h0 h1 => ⟨by omega, by omega⟩))) (mem_app (bo_all fun hA => ⟨⟨fun _ => h.rt hA, fun h => by omega, fun h => by omega, fun h => absurd h (by unfold isNum; omega)⟩, fun h => by omega, fun h => by omega, fun h => by omega, fun h => by omega⟩) (mem_app (no_all (sg_num 3 h.udp.1 h.udp.2 (by decide) (by simp [isNum]) (fun x h0 h1 => by simp [rng]; try omega) (fun x h0 h1 => ⟨by omega, by omega⟩))) (mem_app (no_all (sg_num 4 h.data.1 h.data.2 (by decide) (by simp [isNum]) (fun x h0 h1 => by simp [rng]; try omega) (fun x h0 h1 => ⟨by omega, by omega⟩))) (mem_app (no_all (sg_num 5 h.bl.1 h.bl.2 (by decide) (by simp [isNum]) (fun x h0 h1 => by simp [rng]; try omega) (fun x h0 h1 => ⟨by omega, by omega⟩))) (mem_app (no_all (sg_num 6 h.br.1 h.br.2 (by decide) (by simp [isNum]) (fun x h0 h1 => by simp [rng]; try omega) (fun x h0 h1 => ⟨by omega, by omega⟩))) (mem_app (no_all (sg_num 7 h.un.1 h.un.2 (by decide) (by simp [isNum]) (fun x h0 h1 => by simp [rng]; try omega) (fun x h0 h1 => ⟨by omega, by omega⟩))) (mem_app (no_all (sg_num 8 h.sb.1 h.sb.2 (by decide) (by simp [isNum]) (fun x h0 h1 => by simp [rng]; try omega) (fun x h0 h1 => ⟨by omega, by omega⟩))) (mem_app (no_all (sg_num 9 h.su.1 h.su.2 (by decide) (by simp [isNum]) (fun x h0 h1 => by simp [rng]; try omega) (fun x h0 h1 => ⟨by omega, by omega⟩))) (mem_app (no_all (sg_num 10 h.ae.1 h.ae.2 (by decide) (by simp [isNum]) (fun x h0 h1 => by simp [rng]; try omega) (fun x h0 h1 => ⟨by omega, by omega⟩))) (mem_app (no_all (sg_num 11 h.ad.1 h.ad.2 (by decide) (by simp [isNum]) (fun x h0 h1 => by simp [rng]; try omega) (fun x h0 h1 => ⟨by omega, by omega⟩))) (mem_app (fo_all ⟨⟨fun h => by omega, fun _ => rfl, fun h => by omega, fun h => absurd h (by unfold isNum; omega)⟩, fun h => by omega, fun h => by omega, fun h => by omega, fun h => by omega⟩) (mem_app (po_all hpv) (mem_app (no_all (sg_num 14 h.act.1 h.act.2 (by decide) (by simp [isNum]) (fun x h0 h1 => by simp [rng]; try omega) (fun x h0 h1 => ⟨by omega, by omega⟩))) (mem_app (bo_all fun hA => ⟨⟨fun h => by omega, fun h => by omega, fun h => by omega, fun h => absurd h (by unfold isNum; omega)⟩, fun _ => h.is, fun h => by omega, fun h => by omega, fun h => by omega⟩) (bo_all fun hA => ⟨⟨fun h => by omega, fun h => by omega, fun h => by omega, fun h => absurd h (by unfold isNum; omega)⟩, fun _ => h.rs, fun h => by omega, fun h => by omega, fun h => by omega⟩))))))))))))))))
theorem foldS_append (S : SP) (a b : List (Int × List Int)) : foldS S (a ++ b) = foldS (foldS S a) b := by simp [foldS]
theorem st_bo {id : Int} {A : Option Addr} {d : List Int} {c c' : SP} (h1 : upd c id d = c') (h2 : A = none → c = c') : foldS c (bo id A d) = c' := by
  unfold bo
  split
  · rename_i h; exact h2 h
  · exact h1
theorem st_no {id dflt x : Int} {c c' : SP} (h1 : upd c id (enc x) = c') (h2 : x = dflt → c = c') : foldS c (no id dflt x) = c' := by
  unfold no
  split
  · rename_i h; exact h2 h
  · exact h1
theorem st_po {A : Option Addr} {v : List Int} {c c' : SP} (h1 : A ≠ none → upd c 13 v = c') (h2 : A = none → c = c') : foldS c (po A v) = c' := by
  unfold po
  split
  · rename_i h; exact h2 h
  · rename_i h; exact h1 h
theorem mps_fold {Q : QP} {S : SP} (h : Fq Q S) : foldS usual (mps Q S) = S := by
  unfold mps
  have s1 : foldS ⟨[], [], [], [], 0, 65527, 0, 0, 0, 0, 0, 0, 3, 25, false, [], [], 0, 0, [], [], 2⟩ (bo 0 Q.od.1 S.od) = ⟨S.od, [], [], [], 0, 65527, 0, 0, 0, 0, 0, 0, 3, 25, false, [], [], 0, 0, [], [], 2⟩ := st_bo rfl (fun e => by rw [h.odn e])
  have e_idle : num (enc S.idle) = S.idle := (enc_alone (by have := h.idle; omega) (by have := h.idle; omega)).2
  have s2 : foldS ⟨S.od, [], [], [], 0, 65527, 0, 0, 0, 0, 0, 0, 3, 25, false, [], [], 0, 0, [], [], 2⟩ (no 1 0 S.idle) = ⟨S.od, [], [], [], S.idle, 65527, 0, 0, 0, 0, 0, 0, 3, 25, false, [], [], 0, 0, [], [], 2⟩ := st_no (by show (⟨S.od, [], [], [], num (enc S.idle), 65527, 0, 0, 0, 0, 0, 0, 3, 25, false, [], [], 0, 0, [], [], 2⟩ : SP) = _; rw [e_idle]) (fun e => by rw [e])
  have s3 : foldS ⟨S.od, [], [], [], S.idle, 65527, 0, 0, 0, 0, 0, 0, 3, 25, false, [], [], 0, 0, [], [], 2⟩ (bo 2 Q.rt.1 S.rt) = ⟨S.od, S.rt, [], [], S.idle, 65527, 0, 0, 0, 0, 0, 0, 3, 25, false, [], [], 0, 0, [], [], 2⟩ := st_bo rfl (fun e => by rw [h.rtn e])
  have e_udp : num (enc S.udp) = S.udp := (enc_alone (by have := h.udp; omega) (by have := h.udp; omega)).2
  have s4 : foldS ⟨S.od, S.rt, [], [], S.idle, 65527, 0, 0, 0, 0, 0, 0, 3, 25, false, [], [], 0, 0, [], [], 2⟩ (no 3 65527 S.udp) = ⟨S.od, S.rt, [], [], S.idle, S.udp, 0, 0, 0, 0, 0, 0, 3, 25, false, [], [], 0, 0, [], [], 2⟩ := st_no (by show (⟨S.od, S.rt, [], [], S.idle, num (enc S.udp), 0, 0, 0, 0, 0, 0, 3, 25, false, [], [], 0, 0, [], [], 2⟩ : SP) = _; rw [e_udp]) (fun e => by rw [e])
  have e_data : num (enc S.data) = S.data := (enc_alone (by have := h.data; omega) (by have := h.data; omega)).2
  have s5 : foldS ⟨S.od, S.rt, [], [], S.idle, S.udp, 0, 0, 0, 0, 0, 0, 3, 25, false, [], [], 0, 0, [], [], 2⟩ (no 4 0 S.data) = ⟨S.od, S.rt, [], [], S.idle, S.udp, S.data, 0, 0, 0, 0, 0, 3, 25, false, [], [], 0, 0, [], [], 2⟩ := st_no (by show (⟨S.od, S.rt, [], [], S.idle, S.udp, num (enc S.data), 0, 0, 0, 0, 0, 3, 25, false, [], [], 0, 0, [], [], 2⟩ : SP) = _; rw [e_data]) (fun e => by rw [e])
  have e_bl : num (enc S.bl) = S.bl := (enc_alone (by have := h.bl; omega) (by have := h.bl; omega)).2
  have s6 : foldS ⟨S.od, S.rt, [], [], S.idle, S.udp, S.data, 0, 0, 0, 0, 0, 3, 25, false, [], [], 0, 0, [], [], 2⟩ (no 5 0 S.bl) = ⟨S.od, S.rt, [], [], S.idle, S.udp, S.data, S.bl, 0, 0, 0, 0, 3, 25, false, [], [], 0, 0, [], [], 2⟩ := st_no (by show (⟨S.od, S.rt, [], [], S.idle, S.udp, S.data, num (enc S.bl), 0, 0, 0, 0, 3, 25, false, [], [], 0, 0, [], [], 2⟩ : SP) = _; rw [e_bl]) (fun e => by rw [e])
  have e_br : num (enc S.br) = S.br := (enc_alone (by have := h.br; omega) (by have := h.br; omega)).2
  have s7 : foldS ⟨S.od, S.rt, [], [], S.idle, S.udp, S.data, S.bl, 0, 0, 0, 0, 3, 25, false, [], [], 0, 0, [], [], 2⟩ (no 6 0 S.br) = ⟨S.od, S.rt, [], [], S.idle, S.udp, S.data, S.bl, S.br, 0, 0, 0, 3, 25, false, [], [], 0, 0, [], [], 2⟩ := st_no (by show (⟨S.od, S.rt, [], [], S.idle, S.udp, S.data, S.bl, num (enc S.br), 0, 0, 0, 3, 25, false, [], [], 0, 0, [], [], 2⟩ : SP) = _; rw [e_br]) (fun e => by rw [e])
  have e_un : num (enc S.un) = S.un := (enc_alone (by have := h.un; omega) (by have := h.un; omega)).2
  have s8 : foldS ⟨S.od, S.rt, [], [], S.idle, S.udp, S.data, S.bl, S.br, 0, 0, 0, 3, 25, false, [], [], 0, 0, [], [], 2⟩ (no 7 0 S.un) = ⟨S.od, S.rt, [], [], S.idle, S.udp, S.data, S.bl, S.br, S.un, 0, 0, 3, 25, false, [], [], 0, 0, [], [], 2⟩ := st_no (by show (⟨S.od, S.rt, [], [], S.idle, S.udp, S.data, S.bl, S.br, num (enc S.un), 0, 0, 3, 25, false, [], [], 0, 0, [], [], 2⟩ : SP) = _; rw [e_un]) (fun e => by rw [e])
  have e_sb : num (enc S.sb) = S.sb := (enc_alone (by have := h.sb; omega) (by have := h.sb; omega)).2
  have s9 : foldS ⟨S.od, S.rt, [], [], S.idle, S.udp, S.data, S.bl, S.br, S.un, 0, 0, 3, 25, false, [], [], 0, 0, [], [], 2⟩ (no 8 0 S.sb) = ⟨S.od, S.rt, [], [], S.idle, S.udp, S.data, S.bl, S.br, S.un, S.sb, 0, 3, 25, false, [], [], 0, 0, [], [], 2⟩ := st_no (by show (⟨S.od, S.rt, [], [], S.idle, S.udp, S.data, S.bl, S.br, S.un, num (enc S.sb), 0, 3, 25, false, [], [], 0, 0, [], [], 2⟩ : SP) = _; rw [e_sb]) (fun e => by rw [e])
  have e_su : num (enc S.su) = S.su := (enc_alone (by have := h.su; omega) (by have := h.su; omega)).2
  have s10 : foldS ⟨S.od, S.rt, [], [], S.idle, S.udp, S.data, S.bl, S.br, S.un, S.sb, 0, 3, 25, false, [], [], 0, 0, [], [], 2⟩ (no 9 0 S.su) = ⟨S.od, S.rt, [], [], S.idle, S.udp, S.data, S.bl, S.br, S.un, S.sb, S.su, 3, 25, false, [], [], 0, 0, [], [], 2⟩ := st_no (by show (⟨S.od, S.rt, [], [], S.idle, S.udp, S.data, S.bl, S.br, S.un, S.sb, num (enc S.su), 3, 25, false, [], [], 0, 0, [], [], 2⟩ : SP) = _; rw [e_su]) (fun e => by rw [e])
  have e_ae : num (enc S.ae) = S.ae := (enc_alone (by have := h.ae; omega) (by have := h.ae; omega)).2
  have s11 : foldS ⟨S.od, S.rt, [], [], S.idle, S.udp, S.data, S.bl, S.br, S.un, S.sb, S.su, 3, 25, false, [], [], 0, 0, [], [], 2⟩ (no 10 3 S.ae) = ⟨S.od, S.rt, [], [], S.idle, S.udp, S.data, S.bl, S.br, S.un, S.sb, S.su, S.ae, 25, false, [], [], 0, 0, [], [], 2⟩ := st_no (by show (⟨S.od, S.rt, [], [], S.idle, S.udp, S.data, S.bl, S.br, S.un, S.sb, S.su, num (enc S.ae), 25, false, [], [], 0, 0, [], [], 2⟩ : SP) = _; rw [e_ae]) (fun e => by rw [e])
  have e_ad : num (enc S.ad) = S.ad := (enc_alone (by have := h.ad; omega) (by have := h.ad; omega)).2
  have s12 : foldS ⟨S.od, S.rt, [], [], S.idle, S.udp, S.data, S.bl, S.br, S.un, S.sb, S.su, S.ae, 25, false, [], [], 0, 0, [], [], 2⟩ (no 11 25 S.ad) = ⟨S.od, S.rt, [], [], S.idle, S.udp, S.data, S.bl, S.br, S.un, S.sb, S.su, S.ae, S.ad, false, [], [], 0, 0, [], [], 2⟩ := st_no (by show (⟨S.od, S.rt, [], [], S.idle, S.udp, S.data, S.bl, S.br, S.un, S.sb, S.su, S.ae, num (enc S.ad), false, [], [], 0, 0, [], [], 2⟩ : SP) = _; rw [e_ad]) (fun e => by rw [e])
  have s13 : foldS ⟨S.od, S.rt, [], [], S.idle, S.udp, S.data, S.bl, S.br, S.un, S.sb, S.su, S.ae, S.ad, false, [], [], 0, 0, [], [], 2⟩ (fo S.nomig) = ⟨S.od, S.rt, [], [], S.idle, S.udp, S.data, S.bl, S.br, S.un, S.sb, S.su, S.ae, S.ad, S.nomig, [], [], 0, 0, [], [], 2⟩ := (by cases S.nomig <;> rfl)
  have hp1 : Q.pid.1 ≠ none → upd ⟨S.od, S.rt, [], [], S.idle, S.udp, S.data, S.bl, S.br, S.un, S.sb, S.su, S.ae, S.ad, S.nomig, [], [], 0, 0, [], [], 2⟩ 13 (pv S) = ⟨S.od, S.rt, [], [], S.idle, S.udp, S.data, S.bl, S.br, S.un, S.sb, S.su, S.ae, S.ad, S.nomig, S.v4, S.v6, S.p4, S.p6, S.pid, S.ptok, 2⟩ := fun hA => by
    rcases h.pre with ⟨e, _⟩ | ⟨_, h4, h6, hd, ht, hp4, hp6⟩
    · exact absurd e hA
    · obtain ⟨r1, r2, r3, r4, r5, r6, r7⟩ := pv_read h4.1 h6.1 ht (by omega) (by omega)
      show pref ⟨S.od, S.rt, [], [], S.idle, S.udp, S.data, S.bl, S.br, S.un, S.sb, S.su, S.ae, S.ad, S.nomig, [], [], 0, 0, [], [], 2⟩ (pv S) = _
      unfold pref
      rw [r1, r2, r3, r4, r5, Int.toNat_natCast, r6, r7]
  have hp2 : Q.pid.1 = none → (⟨S.od, S.rt, [], [], S.idle, S.udp, S.data, S.bl, S.br, S.un, S.sb, S.su, S.ae, S.ad, S.nomig, [], [], 0, 0, [], [], 2⟩ : SP) = ⟨S.od, S.rt, [], [], S.idle, S.udp, S.data, S.bl, S.br, S.un, S.sb, S.su, S.ae, S.ad, S.nomig, S.v4, S.v6, S.p4, S.p6, S.pid, S.ptok, 2⟩ := fun hA => by
    rcases h.pre with ⟨_, e1, e2, e3, e4, e5, e6⟩ | ⟨hA', _⟩
    · rw [e1, e2, e3, e4, e5, e6]
    · exact absurd hA hA'
  have s14 : foldS ⟨S.od, S.rt, [], [], S.idle, S.udp, S.data, S.bl, S.br, S.un, S.sb, S.su, S.ae, S.ad, S.nomig, [], [], 0, 0, [], [], 2⟩ (po Q.pid.1 (pv S)) = ⟨S.od, S.rt, [], [], S.idle, S.udp, S.data, S.bl, S.br, S.un, S.sb, S.su, S.ae, S.ad, S.nomig, S.v4, S.v6, S.p4, S.p6, S.pid, S.ptok, 2⟩ := st_po hp1 hp2
  have e_act : num (enc S.act) = S.act := (enc_alone (by have := h.act; omega) (by have := h.act; omega)).2
  have s15 : foldS ⟨S.od, S.rt, [], [], S.idle, S.udp, S.data, S.bl, S.br, S.un, S.sb, S.su, S.ae, S.ad, S.nomig, S.v4, S.v6, S.p4, S.p6, S.pid, S.ptok, 2⟩ (no 14 2 S.act) = ⟨S.od, S.rt, [], [], S.idle, S.udp, S.data, S.bl, S.br, S.un, S.sb, S.su, S.ae, S.ad, S.nomig, S.v4, S.v6, S.p4, S.p6, S.pid, S.ptok, S.act⟩ := st_no (by show (⟨S.od, S.rt, [], [], S.idle, S.udp, S.data, S.bl, S.br, S.un, S.sb, S.su, S.ae, S.ad, S.nomig, S.v4, S.v6, S.p4, S.p6, S.pid, S.ptok, num (enc S.act)⟩ : SP) = _; rw [e_act]) (fun e => by rw [e])
  have s16 : foldS ⟨S.od, S.rt, [], [], S.idle, S.udp, S.data, S.bl, S.br, S.un, S.sb, S.su, S.ae, S.ad, S.nomig, S.v4, S.v6, S.p4, S.p6, S.pid, S.ptok, S.act⟩ (bo 15 Q.is.1 S.is) = ⟨S.od, S.rt, S.is, [], S.idle, S.udp, S.data, S.bl, S.br, S.un, S.sb, S.su, S.ae, S.ad, S.nomig, S.v4, S.v6, S.p4, S.p6, S.pid, S.ptok, S.act⟩ := st_bo rfl (fun e => by rw [h.isn e])
  have s17 : foldS ⟨S.od, S.rt, S.is, [], S.idle, S.udp, S.data, S.bl, S.br, S.un, S.sb, S.su, S.ae, S.ad, S.nomig, S.v4, S.v6, S.p4, S.p6, S.pid, S.ptok, S.act⟩ (bo 16 Q.rs.1 S.rs) = ⟨S.od, S.rt, S.is, S.rs, S.idle, S.udp, S.data, S.bl, S.br, S.un, S.sb, S.su, S.ae, S.ad, S.nomig, S.v4, S.v6, S.p4, S.p6, S.pid, S.ptok, S.act⟩ := st_bo rfl (fun e => by rw [h.rsn e])
  simp only [foldS_append]
  rw [show usual = ⟨[], [], [], [], 0, 65527, 0, 0, 0, 0, 0, 0, 3, 25, false, [], [], 0, 0, [], [], 2⟩ from rfl, s1, s2, s3, s4, s5, s6, s7, s8, s9, s10, s11, s12, s13, s14, s15, s16, s17]
theorem bo_sub (id : Int) (A : Option Addr) (d : List Int) : (bo id A d).map Prod.fst |>.Sublist [id] := by
  unfold bo; split <;> simp
theorem no_sub (id dflt x : Int) : (no id dflt x).map Prod.fst |>.Sublist [id] := by
  unfold no; split <;> simp
theorem fo_sub (x : Bool) : (fo x).map Prod.fst |>.Sublist [12] := by cases x <;> simp [fo]
theorem po_sub (A : Option Addr) (v : List Int) : (po A v).map Prod.fst |>.Sublist [13] := by
  unfold po; split <;> simp
theorem mps_nodup (Q : QP) (S : SP) : ((mps Q S).map Prod.fst).Nodup := by
  have h : ((mps Q S).map Prod.fst).Sublist [0, 1, 2, 3, 4, 5, 6, 7, 8, 9, 10, 11, 12, 13, 14, 15, 16] := by
    unfold mps
    simp only [List.map_append]
    exact (bo_sub _ _ _) |>.append ((no_sub _ _ _) |>.append ((bo_sub _ _ _) |>.append ((no_sub _ _ _) |>.append ((no_sub _ _ _) |>.append ((no_sub _ _ _) |>.append ((no_sub _ _ _) |>.append ((no_sub _ _ _) |>.append ((no_sub _ _ _) |>.append ((no_sub _ _ _) |>.append ((no_sub _ _ _) |>.append ((no_sub _ _ _) |>.append ((fo_sub _) |>.append ((po_sub _ _) |>.append ((no_sub _ _ _) |>.append ((bo_sub _ _ _) |>.append ((bo_sub _ _ _)))))))))))))))))
  exact h.nodup (by decide)
/-- What is written is read. -/
theorem mar_good {Q : QP} {S : SP} (h : Fq Q S) : GoodS (marq Q S) S := by
  refine ⟨mps Q S, ?_, ⟨mps_good h, mps_nodup Q S⟩, (mps_fold h).symm⟩
  rw [marq_eq h]
  exact path_put (mps_ok h) rfl (Nat.zero_le _)
end Go.Proofs.YtdjdcpcomhjnjaaDoor

/- The reference's reading of parameters: other numbers. Conditions: none. -/
import Derived.Test.YtdjdcpcomhjnjaaDoorSpr
namespace Go.Proofs.YtdjdcpcomhjnjaaDoor
open Go.RowKit
set_option linter.unusedVariables false
set_option linter.unusedSimpArgs false

set_option maxRecDepth 1000000 in
set_option maxHeartbeats 8000000 in
theorem sp_o {w0 w : World} {R P G : Nat} {Q : QP} {S : SP} {x0 x5 : Value} {A : Option Addr} {n c : Nat} {v : List Int} {op : Bool} {id : Int} (hid : ∀ k : Nat, k ≤ 16 → id ≠ (k : Nat)) (a : Act) (hf : Fgs a R P G x0 x5 op (.int .u64 id) (.slice A n c)) (hu : Us w0 R P w Q) (hq : Qp w Q S) (hv : Rt w (A, n, c) v)
    {Qx : Exit → Act → World → Prop} (hK : SK w w0 R P G x0 x5 Q S (A, n, c) id v op Qx) (hE : SE w0 R id v Qx) :
    Code.wp Tryd.prog sp7 Qx a w := by
  have HU := Lib.hid hu
  have HQ := Lib.hid hq
  have HK := Lib.hid hK
  have HE := Lib.hid hE
  have HR : Hid (Rd w A v) := hv.1
  have hn : Hid (v.length = n) := hv.2.1
  have hnc : n ≤ c := hv.2.2.1
  have hc2 : c ≤ 9223372036854775807 := hv.2.2.2.1
  have HV := Lib.hid hv
  have hb0 := num_bds hv.1.1
  obtain ⟨x, hx⟩ : ∃ x, Hid (num v = x) := ⟨_, Lib.hid rfl⟩
  rw [hx.out] at hb0
  obtain ⟨hb0, hb1⟩ := hb0
  clear hu hq hv hK hE
  obtain ⟨f, rfl⟩ := hf.lit
  clear hf
  conv => arg 2; whnf
  have q0 : (id == 0) = false := by have := hid 0 (by decide); rw [beq_eq_false_iff_ne]; omega
  have q1 : (id == 1) = false := by have := hid 1 (by decide); rw [beq_eq_false_iff_ne]; omega
  have q2 : (id == 2) = false := by have := hid 2 (by decide); rw [beq_eq_false_iff_ne]; omega
  have q3 : (id == 3) = false := by have := hid 3 (by decide); rw [beq_eq_false_iff_ne]; omega
  have q4 : (id == 4) = false := by have := hid 4 (by decide); rw [beq_eq_false_iff_ne]; omega
  have q5 : (id == 5) = false := by have := hid 5 (by decide); rw [beq_eq_false_iff_ne]; omega
  have q6 : (id == 6) = false := by have := hid 6 (by decide); rw [beq_eq_false_iff_ne]; omega
  have q7 : (id == 7) = false := by have := hid 7 (by decide); rw [beq_eq_false_iff_ne]; omega
  have q8 : (id == 8) = false := by have := hid 8 (by decide); rw [beq_eq_false_iff_ne]; omega
  have q9 : (id == 9) = false := by have := hid 9 (by decide); rw [beq_eq_false_iff_ne]; omega
  have q10 : (id == 10) = false := by have := hid 10 (by decide); rw [beq_eq_false_iff_ne]; omega
  have q11 : (id == 11) = false := by have := hid 11 (by decide); rw [beq_eq_false_iff_ne]; omega
  have q12 : (id == 12) = false := by have := hid 12 (by decide); rw [beq_eq_false_iff_ne]; omega
  have q13 : (id == 13) = false := by have := hid 13 (by decide); rw [beq_eq_false_iff_ne]; omega
  have q14 : (id == 14) = false := by have := hid 14 (by decide); rw [beq_eq_false_iff_ne]; omega
  have q15 : (id == 15) = false := by have := hid 15 (by decide); rw [beq_eq_false_iff_ne]; omega
  have q16 : (id == 16) = false := by have := hid 16 (by decide); rw [beq_eq_false_iff_ne]; omega
  have hni : ¬ isNum id := by
    intro h
    have h14 := hid 14 (by decide)
    rcases h with ⟨h1, h2, _⟩ | h
    · exact hid id.toNat (by omega) (by omega)
    · omega
  have HGd : Hid (sgood id v) := ⟨⟨fun h => absurd h (hid 2 (by decide)), fun h => absurd h (hid 12 (by decide)), fun h => absurd h (hid 13 (by decide)), fun h => absurd h hni⟩, fun h => by have h0 := hid 0 (by decide); have h1 := hid 15 (by decide); have h2 := hid 16 (by decide); omega, fun h => absurd h (hid 1 (by decide)), fun h => absurd h (hid 3 (by decide)), fun h => absurd h (hid 13 (by decide))⟩
  have HUp : Hid (S = upd S id v) := by
    show S = upd S id v
    unfold upd
    rw [if_neg (show ¬ id = 0 from hid 0 (by decide))]; rw [if_neg (show ¬ id = 1 from hid 1 (by decide))]; rw [if_neg (show ¬ id = 2 from hid 2 (by decide))]; rw [if_neg (show ¬ id = 3 from hid 3 (by decide))]; rw [if_neg (show ¬ id = 4 from hid 4 (by decide))]; rw [if_neg (show ¬ id = 5 from hid 5 (by decide))]; rw [if_neg (show ¬ id = 6 from hid 6 (by decide))]; rw [if_neg (show ¬ id = 7 from hid 7 (by decide))]; rw [if_neg (show ¬ id = 8 from hid 8 (by decide))]; rw [if_neg (show ¬ id = 9 from hid 9 (by decide))]; rw [if_neg (show ¬ id = 10 from hid 10 (by decide))]; rw [if_neg (show ¬ id = 11 from hid 11 (by decide))]; rw [if_neg (show ¬ id = 12 from hid 12 (by decide))]; rw [if_neg (show ¬ id = 13 from hid 13 (by decide))]; rw [if_neg (show ¬ id = 14 from hid 14 (by decide))]; rw [if_neg (show ¬ id = 15 from hid 15 (by decide))]; rw [if_neg (show ¬ id = 16 from hid 16 (by decide))]
  clear hid hni
  go_wp2_with fail
  exact (HK.out _ _ _ _ _ ⟨rfl, rfl, rfl, rfl, rfl, rfl, rfl, rfl⟩ HU.out (fun W h _ => h) (grown_refl _ P) ⟨fun h => ⟨h, HGd.out, HUp.out⟩, fun h => .inl h⟩).2
end Go.Proofs.YtdjdcpcomhjnjaaDoor

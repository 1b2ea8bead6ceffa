/- unmarshalTransportParams: the switch, a preferred address: what its regions leave. Conditions: none. -/
import Derived.Test.YtdjdcpcomhjnjaaDoorUmd
namespace Go.Proofs.YtdjdcpcomhjnjaaDoor
open Go.RowKit
set_option linter.unusedVariables false
set_option linter.unusedSimpArgs false



theorem wp_then {P : Program} {c : Code} {K E : Act → World → Prop} {Q : Exit → Act → World → Prop} {a : Act} {w : World} (h : Code.wp P c (Exit.then K (Qr E)) a w) (hE : ∀ a' w', E a' w' → Q .ret a' w') (h2 : ∀ a' w', K a' w' → Q .normal a' w') : Code.wp P c Q a w := wp_mono h fun e a w h => by
  cases e with
  | normal => exact h2 _ _ h
  | ret => exact hE _ _ h
  | exit _ => exact h.elim
  | goto _ => exact h.elim
  | panic _ => exact h.elim
  | outgrown => exact h.elim
/-- The bytes of a value at its address. -/
theorem Rd.at {w : World} {b o : Nat} {v : List Int} (h : Rd w (some ⟨b, o, none⟩) v) (i : Nat) (hi : i < v.length) : w.cell? ⟨b, o + i, none⟩ = some (.int .u8 (v.getD i 0)) := by
  obtain ⟨b', o', e, hc⟩ := h.2 (by omega)
  obtain ⟨rfl, rfl⟩ : b = b' ∧ o = o' := by simpa using e
  exact hc i hi
theorem Bs.at {v : List Int} (h : Bs v) (i : Nat) : 0 ≤ v.getD i 0 ∧ v.getD i 0 ≤ 255 := by
  by_cases hi : i < v.length
  · have := h v[i] (List.getElem_mem hi)
    simpa [List.getD_eq_getElem?_getD, List.getElem?_eq_getElem hi] using this
  · simp [List.getD_eq_getElem?_getD, List.getElem?_eq_none (Nat.le_of_not_lt hi)]

set_option maxRecDepth 100000 in
theorem um65_q {w0 w : World} {R P : Nat} {T : TP} {a4 a6 : Addr} {x0 x6 : Value} (b o n c : Nat) (v : List Int) (a : Act) (hf : Fr a R P x0 x6 (.slice (some ⟨b, o, none⟩) n c)) (hu : Ub w0 R P w T) (hg : Gl w0 a4 a6) (hr : Rd w (some ⟨b, o, none⟩) v) (hv : v.length = n) (hn : 25 ≤ n) (hnc : n ≤ c) (hc2 : c ≤ 9223372036854775807)
    {Q : Exit → Act → World → Prop} (hK : ∀ (a' : Act) (w' : World), Fr a' R P x0 x6 (.slice (some ⟨b, o, none⟩) n c) → Ub w0 R P w' { T with v4 := ⟨0, (281470681743360 + ((((v.getD 0 0) * 256 + (v.getD 1 0)) * 256 + (v.getD 2 0)) * 256 + (v.getD 3 0))), some a4, be16 v 4⟩ } → (∀ t d, Rt w t d → Rt w' t d) → Q .normal a' w') :
    Code.wp Tryd.prog um65 Q a w := by
  have hb := hr.1
  exact wp_then (E := fun _ _ => False) (K := fun a' w' => Q .normal a' w') (um65_wp b o n c (v.getD 0 0) (v.getD 1 0) (v.getD 2 0) (v.getD 3 0) (v.getD 4 0) (v.getD 5 0) (be16 v 4) a hf hu hg (by omega) (by omega) (by omega) rfl (hb.at 0) (hb.at 1) (hb.at 2) (hb.at 3) (hb.at 4) (hb.at 5) (hr.at 0 (by omega)) (hr.at 1 (by omega)) (hr.at 2 (by omega)) (hr.at 3 (by omega)) (hr.at 4 (by omega)) (hr.at 5 (by omega)) hK) (fun _ _ h => h.elim) (fun _ _ h => h)

set_option maxRecDepth 100000 in
theorem um67_q {w0 w : World} {R P : Nat} {T : TP} {a4 a6 : Addr} {x0 x6 : Value} (b o n c : Nat) (v : List Int) (a : Act) (hf : Fr a R P x0 x6 (.slice (some ⟨b, (o + 6), none⟩) (n - 6) (c - 6))) (hu : Ub w0 R P w T) (hg : Gl w0 a4 a6) (hr : Rd w (some ⟨b, o, none⟩) v) (hv : v.length = n) (hn : 25 ≤ n) (hnc : n ≤ c) (hc2 : c ≤ 9223372036854775807)
    {Q : Exit → Act → World → Prop} (hK : ∀ (a' : Act) (w' : World), Fr a' R P x0 x6 (.slice (some ⟨b, (o + 6), none⟩) (n - 6) (c - 6)) → Ub w0 R P w' { T with v6 := ⟨((((((((v.getD 6 0) * 256 + (v.getD 7 0)) * 256 + (v.getD 8 0)) * 256 + (v.getD 9 0)) * 256 + (v.getD 10 0)) * 256 + (v.getD 11 0)) * 256 + (v.getD 12 0)) * 256 + (v.getD 13 0)), ((((((((v.getD 14 0) * 256 + (v.getD 15 0)) * 256 + (v.getD 16 0)) * 256 + (v.getD 17 0)) * 256 + (v.getD 18 0)) * 256 + (v.getD 19 0)) * 256 + (v.getD 20 0)) * 256 + (v.getD 21 0)), some a6, be16 v 22⟩ } → (∀ t d, Rt w t d → Rt w' t d) → Q .normal a' w') :
    Code.wp Tryd.prog um67 Q a w := by
  have hb := hr.1
  exact wp_then (E := fun _ _ => False) (K := fun a' w' => Q .normal a' w') (um67_wp b (o + 6) (n - 6) (c - 6) (v.getD 6 0) (v.getD 7 0) (v.getD 8 0) (v.getD 9 0) (v.getD 10 0) (v.getD 11 0) (v.getD 12 0) (v.getD 13 0) (v.getD 14 0) (v.getD 15 0) (v.getD 16 0) (v.getD 17 0) (v.getD 18 0) (v.getD 19 0) (v.getD 20 0) (v.getD 21 0) (v.getD 22 0) (v.getD 23 0) (be16 v 22) a hf hu hg (by omega) (by omega) (by omega) rfl (hb.at 6) (hb.at 7) (hb.at 8) (hb.at 9) (hb.at 10) (hb.at 11) (hb.at 12) (hb.at 13) (hb.at 14) (hb.at 15) (hb.at 16) (hb.at 17) (hb.at 18) (hb.at 19) (hb.at 20) (hb.at 21) (hb.at 22) (hb.at 23) (hr.at 6 (by omega)) (hr.at 7 (by omega)) (hr.at 8 (by omega)) (hr.at 9 (by omega)) (hr.at 10 (by omega)) (hr.at 11 (by omega)) (hr.at 12 (by omega)) (hr.at 13 (by omega)) (hr.at 14 (by omega)) (hr.at 15 (by omega)) (hr.at 16 (by omega)) (hr.at 17 (by omega)) (hr.at 18 (by omega)) (hr.at 19 (by omega)) (hr.at 20 (by omega)) (hr.at 21 (by omega)) (hr.at 22 (by omega)) (hr.at 23 (by omega)) hK) (fun _ _ h => h.elim) (fun _ _ h => h)

theorem take4_eq {v : List Int} (h : 4 ≤ v.length) : v.take 4 = [v.getD 0 0, v.getD 1 0, v.getD 2 0, v.getD 3 0] := by
  match v, h with
  | _ :: _ :: _ :: _ :: _, _ => rfl
theorem take16_eq {v : List Int} (h : 16 ≤ v.length) : v.take 16 = [v.getD 0 0, v.getD 1 0, v.getD 2 0, v.getD 3 0, v.getD 4 0, v.getD 5 0, v.getD 6 0, v.getD 7 0, v.getD 8 0, v.getD 9 0, v.getD 10 0, v.getD 11 0, v.getD 12 0, v.getD 13 0, v.getD 14 0, v.getD 15 0] := by
  match v, h with
  | _ :: _ :: _ :: _ :: _ :: _ :: _ :: _ :: _ :: _ :: _ :: _ :: _ :: _ :: _ :: _ :: _, _ => rfl
theorem take16_6 {v : List Int} (h : 22 ≤ v.length) : (v.drop 6).take 16 = [v.getD 6 0, v.getD 7 0, v.getD 8 0, v.getD 9 0, v.getD 10 0, v.getD 11 0, v.getD 12 0, v.getD 13 0, v.getD 14 0, v.getD 15 0, v.getD 16 0, v.getD 17 0, v.getD 18 0, v.getD 19 0, v.getD 20 0, v.getD 21 0] := by
  rw [take16_eq (by rw [List.length_drop]; omega)]
  simp [List.getD_eq_getElem?_getD]
theorem drop24_eq {v : List Int} (h : 25 ≤ v.length) : v.drop 24 = v.getD 24 0 :: v.drop 25 := by
  have := List.drop_eq_getElem_cons (l := v) (i := 24) (by omega)
  rw [this]
  simp [List.getD_eq_getElem?_getD, List.getElem?_eq_getElem (show 24 < v.length by omega)]
theorem r8b_none24 {v : List Int} (h : 25 ≤ v.length) (hs : (v.length : Int) < 25 + v.getD 24 0) : r8b (v.drop 24) = none := by
  rw [drop24_eq h, r8b, if_pos (by rw [List.length_drop]; omega)]
theorem r8b_some24 {v : List Int} (h : 25 ≤ v.length) (hs : ¬ (v.length : Int) < 25 + v.getD 24 0) : r8b (v.drop 24) = some ((v.drop 25).take (v.getD 24 0).toNat, 1 + (v.getD 24 0).toNat) := by
  rw [drop24_eq h, r8b, if_neg (by rw [List.length_drop]; omega)]
theorem ad4_of {a4 : Addr} {v : List Int} (hb : Bs v) (h : 25 ≤ v.length) : Ad4 a4 ⟨0, (281470681743360 + ((((v.getD 0 0) * 256 + (v.getD 1 0)) * 256 + (v.getD 2 0)) * 256 + (v.getD 3 0))), some a4, be16 v 4⟩ (v.take 4) (be16 v 4) := by
  have h4 := hb.at 4
  have h5 := hb.at (4 + 1)
  exact .inr ⟨_, _, _, _, ⟨hb.at 0, hb.at 1, hb.at 2, hb.at 3⟩, by unfold be16; omega, take4_eq (by omega), rfl⟩
theorem ad6_of {a6 : Addr} {v : List Int} (hb : Bs v) (h : 25 ≤ v.length) : Ad6 a6 ⟨((((((((v.getD 6 0) * 256 + (v.getD 7 0)) * 256 + (v.getD 8 0)) * 256 + (v.getD 9 0)) * 256 + (v.getD 10 0)) * 256 + (v.getD 11 0)) * 256 + (v.getD 12 0)) * 256 + (v.getD 13 0)), ((((((((v.getD 14 0) * 256 + (v.getD 15 0)) * 256 + (v.getD 16 0)) * 256 + (v.getD 17 0)) * 256 + (v.getD 18 0)) * 256 + (v.getD 19 0)) * 256 + (v.getD 20 0)) * 256 + (v.getD 21 0)), some a6, be16 v 22⟩ ((v.drop 6).take 16) (be16 v 22) := by
  have h4 := hb.at 22
  have h5 := hb.at (22 + 1)
  exact .inr ⟨_, _, _, _, _, _, _, _, _, _, _, _, _, _, _, _, ⟨⟨hb.at 6, hb.at 7, hb.at 8, hb.at 9⟩, ⟨hb.at 10, hb.at 11, hb.at 12, hb.at 13⟩, ⟨hb.at 14, hb.at 15, hb.at 16, hb.at 17⟩, ⟨hb.at 18, hb.at 19, hb.at 20, hb.at 21⟩⟩, by unfold be16; omega, take16_6 (by omega), rfl⟩

end Go.Proofs.YtdjdcpcomhjnjaaDoor

/- Parameters in any order, their numbers in any length: the plain law. No program. A number in one, two, four, eight bytes. No program. What spec.Chosen puts: the plain law. No program. Conditions: as each part says. -/
import Derived.Test.YtdjdcpcomhjnjaaDoorMq
namespace Go.Proofs.YtdjdcpcomhjnjaaDoor
section
set_option linter.unusedVariables false
set_option linter.unusedSimpArgs false
/-- Bytes that are a number in some length. -/
def isForm (x : Int) (b : List Int) : Prop := ∀ r, rv (b ++ r) = some (x, b.length)
theorem isForm_enc {x : Int} (h0 : 0 ≤ x) (h1 : x ≤ 4611686018427387903) : isForm x (enc x) := fun r => by rw [rv_enc h0 h1, enc_length]
theorem isForm.alone {x : Int} {b : List Int} (h : isForm x b) : alone b ∧ num b = x := by
  have h' := h []
  rw [List.append_nil] at h'
  exact ⟨⟨x, h'⟩, num_of h'⟩
/-- Two, four, eight bytes. -/
theorem form2 {a b : Int} (ha : 0 ≤ a ∧ a < 64) : isForm (a * 256 + b) [64 + a, b] := fun r => by
  show rv ((64 + a) :: b :: r) = _
  rw [rv_2 (by omega) (by omega), show (64 + a) % 64 = a by omega]
  rfl
theorem form4 {a b c d : Int} (ha : 0 ≤ a ∧ a < 64) : isForm (((a * 256 + b) * 256 + c) * 256 + d) [128 + a, b, c, d] := fun r => by
  show rv ((128 + a) :: b :: c :: d :: r) = _
  rw [rv_4 (by omega) (by omega), show (128 + a) % 64 = a by omega]
  rfl
theorem form8 {a b c d e f g h : Int} (ha : 0 ≤ a ∧ a < 64) : isForm (((((((a * 256 + b) * 256 + c) * 256 + d) * 256 + e) * 256 + f) * 256 + g) * 256 + h) [192 + a, b, c, d, e, f, g, h] := fun r => by
  show rv ((192 + a) :: b :: c :: d :: e :: f :: g :: h :: r) = _
  rw [rv_8 (by omega), show (192 + a) % 64 = a by omega]
  rfl
/-- Bytes that are one parameter. -/
def isP (p : Int × List Int) (b : List Int) : Prop := ∃ ib lb, b = ib ++ (lb ++ p.2) ∧ isForm p.1 ib ∧ isForm ((p.2.length : Nat) : Int) lb
theorem pstep_isP {l r b : List Int} {k : Nat} {id : Int} {v : List Int} (h : isP (id, v) b) (hl : l.drop k = b ++ r) : pstep l k = some (id, v, k + b.length) := by
  obtain ⟨ib, lb, rfl, h1, h2⟩ := h
  simp only at h1 h2 hl
  have e1 : rv (l.drop k) = some (id, ib.length) := by rw [hl, List.append_assoc]; exact h1 _
  have e2 : l.drop (k + ib.length) = lb ++ (v ++ r) := by
    rw [← List.drop_drop, hl, List.append_assoc, List.drop_left' rfl, List.append_assoc]
  have e3 : rv (l.drop (k + ib.length)) = some (((v.length : Nat) : Int), lb.length) := by rw [e2]; exact h2 _
  have e4 := rvb_some e3 (by rw [e2, List.length_append, List.length_append]; omega)
  rw [pstep_some e1 e4]
  have e5 : (List.drop lb.length (l.drop (k + ib.length))).take ((v.length : Nat) : Int).toNat = v := by
    rw [e2, List.drop_left' rfl, Int.toNat_natCast, List.take_left' rfl]
  rw [e5]
  congr 3
  show _ = k + (ib ++ (lb ++ v)).length
  rw [List.length_append, List.length_append, Int.toNat_natCast]
  omega
/-- Each of them is the parameter beside it. -/
def allP : List (Int × List Int) → List (List Int) → Prop
  | [], [] => True
  | p :: ps, b :: bs => isP p b ∧ allP ps bs
  | _, _ => False
theorem path_isP : ∀ {ps : List (Int × List Int)} {bs : List (List Int)} {l : List Int} {k : Nat}, allP ps bs → l.drop k = bs.flatten → k ≤ l.length → Path l k ps l.length
  | [], [], l, k, _, hl, hk => by
    have : (l.drop k).length = 0 := by rw [hl]; rfl
    rw [List.length_drop] at this
    show k = l.length
    omega
  | (id, v) :: ps, b :: bs, l, k, ⟨h1, h2⟩, hl, hk => by
    have hl' : l.drop k = b ++ bs.flatten := hl
    refine ⟨_, pstep_isP h1 hl', ?_⟩
    have hlen : b.length ≤ (l.drop k).length := by rw [hl', List.length_append]; omega
    rw [List.length_drop] at hlen
    refine path_isP h2 ?_ (by omega)
    rw [← List.drop_drop, hl', List.drop_left' rfl]
  | [], _ :: _, _, _, h, _, _ => h.elim
  | _ :: _, [], _, _, h, _, _ => h.elim
theorem upd_far {S : SP} {id : Int} {v : List Int} (h : 16 < id) : upd S id v = S := by
  unfold upd
  rw [if_neg (show ¬ id = 0 by omega)]; rw [if_neg (show ¬ id = 1 by omega)]; rw [if_neg (show ¬ id = 2 by omega)]; rw [if_neg (show ¬ id = 3 by omega)]; rw [if_neg (show ¬ id = 4 by omega)]; rw [if_neg (show ¬ id = 5 by omega)]; rw [if_neg (show ¬ id = 6 by omega)]; rw [if_neg (show ¬ id = 7 by omega)]; rw [if_neg (show ¬ id = 8 by omega)]; rw [if_neg (show ¬ id = 9 by omega)]; rw [if_neg (show ¬ id = 10 by omega)]; rw [if_neg (show ¬ id = 11 by omega)]; rw [if_neg (show ¬ id = 12 by omega)]; rw [if_neg (show ¬ id = 13 by omega)]; rw [if_neg (show ¬ id = 14 by omega)]; rw [if_neg (show ¬ id = 15 by omega)]; rw [if_neg (show ¬ id = 16 by omega)]
theorem far_good {id : Int} {v : List Int} (h : 16 < id) : sgood id v :=
  ⟨⟨fun e => by omega, fun e => by omega, fun e => by omega, fun e => absurd e (by unfold isNum; omega)⟩, fun e => by omega, fun e => by omega, fun e => by omega, fun e => by omega⟩
set_option maxHeartbeats 4000000 in
theorem upd_c0 {S : SP} {v v' : List Int} {id : Int} (h : id ≠ 0) : upd (upd S 0 v) id v' = upd (upd S id v') 0 v := by
  by_cases e1 : id = 1
  · subst e1; rfl
  by_cases e2 : id = 2
  · subst e2; rfl
  by_cases e3 : id = 3
  · subst e3; rfl
  by_cases e4 : id = 4
  · subst e4; rfl
  by_cases e5 : id = 5
  · subst e5; rfl
  by_cases e6 : id = 6
  · subst e6; rfl
  by_cases e7 : id = 7
  · subst e7; rfl
  by_cases e8 : id = 8
  · subst e8; rfl
  by_cases e9 : id = 9
  · subst e9; rfl
  by_cases e10 : id = 10
  · subst e10; rfl
  by_cases e11 : id = 11
  · subst e11; rfl
  by_cases e12 : id = 12
  · subst e12; rfl
  by_cases e13 : id = 13
  · subst e13; rfl
  by_cases e14 : id = 14
  · subst e14; rfl
  by_cases e15 : id = 15
  · subst e15; rfl
  by_cases e16 : id = 16
  · subst e16; rfl
  have hn : ∀ S : SP, upd S id v' = S := fun S => by
    unfold upd
    rw [if_neg h]; rw [if_neg e1]; rw [if_neg e2]; rw [if_neg e3]; rw [if_neg e4]; rw [if_neg e5]; rw [if_neg e6]; rw [if_neg e7]; rw [if_neg e8]; rw [if_neg e9]; rw [if_neg e10]; rw [if_neg e11]; rw [if_neg e12]; rw [if_neg e13]; rw [if_neg e14]; rw [if_neg e15]; rw [if_neg e16]
  rw [hn, hn]
theorem upd_c1 {S : SP} {v v' : List Int} {id : Int} (h : id ≠ 1) : upd (upd S 1 v) id v' = upd (upd S id v') 1 v := by
  by_cases e0 : id = 0
  · subst e0; rfl
  by_cases e2 : id = 2
  · subst e2; rfl
  by_cases e3 : id = 3
  · subst e3; rfl
  by_cases e4 : id = 4
  · subst e4; rfl
  by_cases e5 : id = 5
  · subst e5; rfl
  by_cases e6 : id = 6
  · subst e6; rfl
  by_cases e7 : id = 7
  · subst e7; rfl
  by_cases e8 : id = 8
  · subst e8; rfl
  by_cases e9 : id = 9
  · subst e9; rfl
  by_cases e10 : id = 10
  · subst e10; rfl
  by_cases e11 : id = 11
  · subst e11; rfl
  by_cases e12 : id = 12
  · subst e12; rfl
  by_cases e13 : id = 13
  · subst e13; rfl
  by_cases e14 : id = 14
  · subst e14; rfl
  by_cases e15 : id = 15
  · subst e15; rfl
  by_cases e16 : id = 16
  · subst e16; rfl
  have hn : ∀ S : SP, upd S id v' = S := fun S => by
    unfold upd
    rw [if_neg e0]; rw [if_neg h]; rw [if_neg e2]; rw [if_neg e3]; rw [if_neg e4]; rw [if_neg e5]; rw [if_neg e6]; rw [if_neg e7]; rw [if_neg e8]; rw [if_neg e9]; rw [if_neg e10]; rw [if_neg e11]; rw [if_neg e12]; rw [if_neg e13]; rw [if_neg e14]; rw [if_neg e15]; rw [if_neg e16]
  rw [hn, hn]
theorem upd_c2 {S : SP} {v v' : List Int} {id : Int} (h : id ≠ 2) : upd (upd S 2 v) id v' = upd (upd S id v') 2 v := by
  by_cases e0 : id = 0
  · subst e0; rfl
  by_cases e1 : id = 1
  · subst e1; rfl
  by_cases e3 : id = 3
  · subst e3; rfl
  by_cases e4 : id = 4
  · subst e4; rfl
  by_cases e5 : id = 5
  · subst e5; rfl
  by_cases e6 : id = 6
  · subst e6; rfl
  by_cases e7 : id = 7
  · subst e7; rfl
  by_cases e8 : id = 8
  · subst e8; rfl
  by_cases e9 : id = 9
  · subst e9; rfl
  by_cases e10 : id = 10
  · subst e10; rfl
  by_cases e11 : id = 11
  · subst e11; rfl
  by_cases e12 : id = 12
  · subst e12; rfl
  by_cases e13 : id = 13
  · subst e13; rfl
  by_cases e14 : id = 14
  · subst e14; rfl
  by_cases e15 : id = 15
  · subst e15; rfl
  by_cases e16 : id = 16
  · subst e16; rfl
  have hn : ∀ S : SP, upd S id v' = S := fun S => by
    unfold upd
    rw [if_neg e0]; rw [if_neg e1]; rw [if_neg h]; rw [if_neg e3]; rw [if_neg e4]; rw [if_neg e5]; rw [if_neg e6]; rw [if_neg e7]; rw [if_neg e8]; rw [if_neg e9]; rw [if_neg e10]; rw [if_neg e11]; rw [if_neg e12]; rw [if_neg e13]; rw [if_neg e14]; rw [if_neg e15]; rw [if_neg e16]
  rw [hn, hn]
theorem upd_c3 {S : SP} {v v' : List Int} {id : Int} (h : id ≠ 3) : upd (upd S 3 v) id v' = upd (upd S id v') 3 v := by
  by_cases e0 : id = 0
  · subst e0; rfl
  by_cases e1 : id = 1
  · subst e1; rfl
  by_cases e2 : id = 2
  · subst e2; rfl
  by_cases e4 : id = 4
  · subst e4; rfl
  by_cases e5 : id = 5
  · subst e5; rfl
  by_cases e6 : id = 6
  · subst e6; rfl
  by_cases e7 : id = 7
  · subst e7; rfl
  by_cases e8 : id = 8
  · subst e8; rfl
  by_cases e9 : id = 9
  · subst e9; rfl
  by_cases e10 : id = 10
  · subst e10; rfl
  by_cases e11 : id = 11
  · subst e11; rfl
  by_cases e12 : id = 12
  · subst e12; rfl
  by_cases e13 : id = 13
  · subst e13; rfl
  by_cases e14 : id = 14
  · subst e14; rfl
  by_cases e15 : id = 15
  · subst e15; rfl
  by_cases e16 : id = 16
  · subst e16; rfl
  have hn : ∀ S : SP, upd S id v' = S := fun S => by
    unfold upd
    rw [if_neg e0]; rw [if_neg e1]; rw [if_neg e2]; rw [if_neg h]; rw [if_neg e4]; rw [if_neg e5]; rw [if_neg e6]; rw [if_neg e7]; rw [if_neg e8]; rw [if_neg e9]; rw [if_neg e10]; rw [if_neg e11]; rw [if_neg e12]; rw [if_neg e13]; rw [if_neg e14]; rw [if_neg e15]; rw [if_neg e16]
  rw [hn, hn]
theorem upd_c4 {S : SP} {v v' : List Int} {id : Int} (h : id ≠ 4) : upd (upd S 4 v) id v' = upd (upd S id v') 4 v := by
  by_cases e0 : id = 0
  · subst e0; rfl
  by_cases e1 : id = 1
  · subst e1; rfl
  by_cases e2 : id = 2
  · subst e2; rfl
  by_cases e3 : id = 3
  · subst e3; rfl
  by_cases e5 : id = 5
  · subst e5; rfl
  by_cases e6 : id = 6
  · subst e6; rfl
  by_cases e7 : id = 7
  · subst e7; rfl
  by_cases e8 : id = 8
  · subst e8; rfl
  by_cases e9 : id = 9
  · subst e9; rfl
  by_cases e10 : id = 10
  · subst e10; rfl
  by_cases e11 : id = 11
  · subst e11; rfl
  by_cases e12 : id = 12
  · subst e12; rfl
  by_cases e13 : id = 13
  · subst e13; rfl
  by_cases e14 : id = 14
  · subst e14; rfl
  by_cases e15 : id = 15
  · subst e15; rfl
  by_cases e16 : id = 16
  · subst e16; rfl
  have hn : ∀ S : SP, upd S id v' = S := fun S => by
    unfold upd
    rw [if_neg e0]; rw [if_neg e1]; rw [if_neg e2]; rw [if_neg e3]; rw [if_neg h]; rw [if_neg e5]; rw [if_neg e6]; rw [if_neg e7]; rw [if_neg e8]; rw [if_neg e9]; rw [if_neg e10]; rw [if_neg e11]; rw [if_neg e12]; rw [if_neg e13]; rw [if_neg e14]; rw [if_neg e15]; rw [if_neg e16]
  rw [hn, hn]
theorem upd_c5 {S : SP} {v v' : List Int} {id : Int} (h : id ≠ 5) : upd (upd S 5 v) id v' = upd (upd S id v') 5 v := by
  by_cases e0 : id = 0
  · subst e0; rfl
  by_cases e1 : id = 1
  · subst e1; rfl
  by_cases e2 : id = 2
  · subst e2; rfl
  by_cases e3 : id = 3
  · subst e3; rfl
  by_cases e4 : id = 4
  · subst e4; rfl
  by_cases e6 : id = 6
  · subst e6; rfl
  by_cases e7 : id = 7
  · subst e7; rfl
  by_cases e8 : id = 8
  · subst e8; rfl
  by_cases e9 : id = 9
  · subst e9; rfl
  by_cases e10 : id = 10
  · subst e10; rfl
  by_cases e11 : id = 11
  · subst e11; rfl
  by_cases e12 : id = 12
  · subst e12; rfl
  by_cases e13 : id = 13
  · subst e13; rfl
  by_cases e14 : id = 14
  · subst e14; rfl
  by_cases e15 : id = 15
  · subst e15; rfl
  by_cases e16 : id = 16
  · subst e16; rfl
  have hn : ∀ S : SP, upd S id v' = S := fun S => by
    unfold upd
    rw [if_neg e0]; rw [if_neg e1]; rw [if_neg e2]; rw [if_neg e3]; rw [if_neg e4]; rw [if_neg h]; rw [if_neg e6]; rw [if_neg e7]; rw [if_neg e8]; rw [if_neg e9]; rw [if_neg e10]; rw [if_neg e11]; rw [if_neg e12]; rw [if_neg e13]; rw [if_neg e14]; rw [if_neg e15]; rw [if_neg e16]
  rw [hn, hn]
theorem upd_c6 {S : SP} {v v' : List Int} {id : Int} (h : id ≠ 6) : upd (upd S 6 v) id v' = upd (upd S id v') 6 v := by
  by_cases e0 : id = 0
  · subst e0; rfl
  by_cases e1 : id = 1
  · subst e1; rfl
  by_cases e2 : id = 2
  · subst e2; rfl
  by_cases e3 : id = 3
  · subst e3; rfl
  by_cases e4 : id = 4
  · subst e4; rfl
  by_cases e5 : id = 5
  · subst e5; rfl
  by_cases e7 : id = 7
  · subst e7; rfl
  by_cases e8 : id = 8
  · subst e8; rfl
  by_cases e9 : id = 9
  · subst e9; rfl
  by_cases e10 : id = 10
  · subst e10; rfl
  by_cases e11 : id = 11
  · subst e11; rfl
  by_cases e12 : id = 12
  · subst e12; rfl
  by_cases e13 : id = 13
  · subst e13; rfl
  by_cases e14 : id = 14
  · subst e14; rfl
  by_cases e15 : id = 15
  · subst e15; rfl
  by_cases e16 : id = 16
  · subst e16; rfl
  have hn : ∀ S : SP, upd S id v' = S := fun S => by
    unfold upd
    rw [if_neg e0]; rw [if_neg e1]; rw [if_neg e2]; rw [if_neg e3]; rw [if_neg e4]; rw [if_neg e5]; rw [if_neg h]; rw [if_neg e7]; rw [if_neg e8]; rw [if_neg e9]; rw [if_neg e10]; rw [if_neg e11]; rw [if_neg e12]; rw [if_neg e13]; rw [if_neg e14]; rw [if_neg e15]; rw [if_neg e16]
  rw [hn, hn]
theorem upd_c7 {S : SP} {v v' : List Int} {id : Int} (h : id ≠ 7) : upd (upd S 7 v) id v' = upd (upd S id v') 7 v := by
  by_cases e0 : id = 0
  · subst e0; rfl
  by_cases e1 : id = 1
  · subst e1; rfl
  by_cases e2 : id = 2
  · subst e2; rfl
  by_cases e3 : id = 3
  · subst e3; rfl
  by_cases e4 : id = 4
  · subst e4; rfl
  by_cases e5 : id = 5
  · subst e5; rfl
  by_cases e6 : id = 6
  · subst e6; rfl
  by_cases e8 : id = 8
  · subst e8; rfl
  by_cases e9 : id = 9
  · subst e9; rfl
  by_cases e10 : id = 10
  · subst e10; rfl
  by_cases e11 : id = 11
  · subst e11; rfl
  by_cases e12 : id = 12
  · subst e12; rfl
  by_cases e13 : id = 13
  · subst e13; rfl
  by_cases e14 : id = 14
  · subst e14; rfl
  by_cases e15 : id = 15
  · subst e15; rfl
  by_cases e16 : id = 16
  · subst e16; rfl
  have hn : ∀ S : SP, upd S id v' = S := fun S => by
    unfold upd
    rw [if_neg e0]; rw [if_neg e1]; rw [if_neg e2]; rw [if_neg e3]; rw [if_neg e4]; rw [if_neg e5]; rw [if_neg e6]; rw [if_neg h]; rw [if_neg e8]; rw [if_neg e9]; rw [if_neg e10]; rw [if_neg e11]; rw [if_neg e12]; rw [if_neg e13]; rw [if_neg e14]; rw [if_neg e15]; rw [if_neg e16]
  rw [hn, hn]
theorem upd_c8 {S : SP} {v v' : List Int} {id : Int} (h : id ≠ 8) : upd (upd S 8 v) id v' = upd (upd S id v') 8 v := by
  by_cases e0 : id = 0
  · subst e0; rfl
  by_cases e1 : id = 1
  · subst e1; rfl
  by_cases e2 : id = 2
  · subst e2; rfl
  by_cases e3 : id = 3
  · subst e3; rfl
  by_cases e4 : id = 4
  · subst e4; rfl
  by_cases e5 : id = 5
  · subst e5; rfl
  by_cases e6 : id = 6
  · subst e6; rfl
  by_cases e7 : id = 7
  · subst e7; rfl
  by_cases e9 : id = 9
  · subst e9; rfl
  by_cases e10 : id = 10
  · subst e10; rfl
  by_cases e11 : id = 11
  · subst e11; rfl
  by_cases e12 : id = 12
  · subst e12; rfl
  by_cases e13 : id = 13
  · subst e13; rfl
  by_cases e14 : id = 14
  · subst e14; rfl
  by_cases e15 : id = 15
  · subst e15; rfl
  by_cases e16 : id = 16
  · subst e16; rfl
  have hn : ∀ S : SP, upd S id v' = S := fun S => by
    unfold upd
    rw [if_neg e0]; rw [if_neg e1]; rw [if_neg e2]; rw [if_neg e3]; rw [if_neg e4]; rw [if_neg e5]; rw [if_neg e6]; rw [if_neg e7]; rw [if_neg h]; rw [if_neg e9]; rw [if_neg e10]; rw [if_neg e11]; rw [if_neg e12]; rw [if_neg e13]; rw [if_neg e14]; rw [if_neg e15]; rw [if_neg e16]
  rw [hn, hn]
theorem upd_c9 {S : SP} {v v' : List Int} {id : Int} (h : id ≠ 9) : upd (upd S 9 v) id v' = upd (upd S id v') 9 v := by
  by_cases e0 : id = 0
  · subst e0; rfl
  by_cases e1 : id = 1
  · subst e1; rfl
  by_cases e2 : id = 2
  · subst e2; rfl
  by_cases e3 : id = 3
  · subst e3; rfl
  by_cases e4 : id = 4
  · subst e4; rfl
  by_cases e5 : id = 5
  · subst e5; rfl
  by_cases e6 : id = 6
  · subst e6; rfl
  by_cases e7 : id = 7
  · subst e7; rfl
  by_cases e8 : id = 8
  · subst e8; rfl
  by_cases e10 : id = 10
  · subst e10; rfl
  by_cases e11 : id = 11
  · subst e11; rfl
  by_cases e12 : id = 12
  · subst e12; rfl
  by_cases e13 : id = 13
  · subst e13; rfl
  by_cases e14 : id = 14
  · subst e14; rfl
  by_cases e15 : id = 15
  · subst e15; rfl
  by_cases e16 : id = 16
  · subst e16; rfl
  have hn : ∀ S : SP, upd S id v' = S := fun S => by
    unfold upd
    rw [if_neg e0]; rw [if_neg e1]; rw [if_neg e2]; rw [if_neg e3]; rw [if_neg e4]; rw [if_neg e5]; rw [if_neg e6]; rw [if_neg e7]; rw [if_neg e8]; rw [if_neg h]; rw [if_neg e10]; rw [if_neg e11]; rw [if_neg e12]; rw [if_neg e13]; rw [if_neg e14]; rw [if_neg e15]; rw [if_neg e16]
  rw [hn, hn]
theorem upd_c10 {S : SP} {v v' : List Int} {id : Int} (h : id ≠ 10) : upd (upd S 10 v) id v' = upd (upd S id v') 10 v := by
  by_cases e0 : id = 0
  · subst e0; rfl
  by_cases e1 : id = 1
  · subst e1; rfl
  by_cases e2 : id = 2
  · subst e2; rfl
  by_cases e3 : id = 3
  · subst e3; rfl
  by_cases e4 : id = 4
  · subst e4; rfl
  by_cases e5 : id = 5
  · subst e5; rfl
  by_cases e6 : id = 6
  · subst e6; rfl
  by_cases e7 : id = 7
  · subst e7; rfl
  by_cases e8 : id = 8
  · subst e8; rfl
  by_cases e9 : id = 9
  · subst e9; rfl
  by_cases e11 : id = 11
  · subst e11; rfl
  by_cases e12 : id = 12
  · subst e12; rfl
  by_cases e13 : id = 13
  · subst e13; rfl
  by_cases e14 : id = 14
  · subst e14; rfl
  by_cases e15 : id = 15
  · subst e15; rfl
  by_cases e16 : id = 16
  · subst e16; rfl
  have hn : ∀ S : SP, upd S id v' = S := fun S => by
    unfold upd
    rw [if_neg e0]; rw [if_neg e1]; rw [if_neg e2]; rw [if_neg e3]; rw [if_neg e4]; rw [if_neg e5]; rw [if_neg e6]; rw [if_neg e7]; rw [if_neg e8]; rw [if_neg e9]; rw [if_neg h]; rw [if_neg e11]; rw [if_neg e12]; rw [if_neg e13]; rw [if_neg e14]; rw [if_neg e15]; rw [if_neg e16]
  rw [hn, hn]
theorem upd_c11 {S : SP} {v v' : List Int} {id : Int} (h : id ≠ 11) : upd (upd S 11 v) id v' = upd (upd S id v') 11 v := by
  by_cases e0 : id = 0
  · subst e0; rfl
  by_cases e1 : id = 1
  · subst e1; rfl
  by_cases e2 : id = 2
  · subst e2; rfl
  by_cases e3 : id = 3
  · subst e3; rfl
  by_cases e4 : id = 4
  · subst e4; rfl
  by_cases e5 : id = 5
  · subst e5; rfl
  by_cases e6 : id = 6
  · subst e6; rfl
  by_cases e7 : id = 7
  · subst e7; rfl
  by_cases e8 : id = 8
  · subst e8; rfl
  by_cases e9 : id = 9
  · subst e9; rfl
  by_cases e10 : id = 10
  · subst e10; rfl
  by_cases e12 : id = 12
  · subst e12; rfl
  by_cases e13 : id = 13
  · subst e13; rfl
  by_cases e14 : id = 14
  · subst e14; rfl
  by_cases e15 : id = 15
  · subst e15; rfl
  by_cases e16 : id = 16
  · subst e16; rfl
  have hn : ∀ S : SP, upd S id v' = S := fun S => by
    unfold upd
    rw [if_neg e0]; rw [if_neg e1]; rw [if_neg e2]; rw [if_neg e3]; rw [if_neg e4]; rw [if_neg e5]; rw [if_neg e6]; rw [if_neg e7]; rw [if_neg e8]; rw [if_neg e9]; rw [if_neg e10]; rw [if_neg h]; rw [if_neg e12]; rw [if_neg e13]; rw [if_neg e14]; rw [if_neg e15]; rw [if_neg e16]
  rw [hn, hn]
theorem upd_c12 {S : SP} {v v' : List Int} {id : Int} (h : id ≠ 12) : upd (upd S 12 v) id v' = upd (upd S id v') 12 v := by
  by_cases e0 : id = 0
  · subst e0; rfl
  by_cases e1 : id = 1
  · subst e1; rfl
  by_cases e2 : id = 2
  · subst e2; rfl
  by_cases e3 : id = 3
  · subst e3; rfl
  by_cases e4 : id = 4
  · subst e4; rfl
  by_cases e5 : id = 5
  · subst e5; rfl
  by_cases e6 : id = 6
  · subst e6; rfl
  by_cases e7 : id = 7
  · subst e7; rfl
  by_cases e8 : id = 8
  · subst e8; rfl
  by_cases e9 : id = 9
  · subst e9; rfl
  by_cases e10 : id = 10
  · subst e10; rfl
  by_cases e11 : id = 11
  · subst e11; rfl
  by_cases e13 : id = 13
  · subst e13; rfl
  by_cases e14 : id = 14
  · subst e14; rfl
  by_cases e15 : id = 15
  · subst e15; rfl
  by_cases e16 : id = 16
  · subst e16; rfl
  have hn : ∀ S : SP, upd S id v' = S := fun S => by
    unfold upd
    rw [if_neg e0]; rw [if_neg e1]; rw [if_neg e2]; rw [if_neg e3]; rw [if_neg e4]; rw [if_neg e5]; rw [if_neg e6]; rw [if_neg e7]; rw [if_neg e8]; rw [if_neg e9]; rw [if_neg e10]; rw [if_neg e11]; rw [if_neg h]; rw [if_neg e13]; rw [if_neg e14]; rw [if_neg e15]; rw [if_neg e16]
  rw [hn, hn]
theorem upd_c13 {S : SP} {v v' : List Int} {id : Int} (h : id ≠ 13) : upd (upd S 13 v) id v' = upd (upd S id v') 13 v := by
  by_cases e0 : id = 0
  · subst e0; rfl
  by_cases e1 : id = 1
  · subst e1; rfl
  by_cases e2 : id = 2
  · subst e2; rfl
  by_cases e3 : id = 3
  · subst e3; rfl
  by_cases e4 : id = 4
  · subst e4; rfl
  by_cases e5 : id = 5
  · subst e5; rfl
  by_cases e6 : id = 6
  · subst e6; rfl
  by_cases e7 : id = 7
  · subst e7; rfl
  by_cases e8 : id = 8
  · subst e8; rfl
  by_cases e9 : id = 9
  · subst e9; rfl
  by_cases e10 : id = 10
  · subst e10; rfl
  by_cases e11 : id = 11
  · subst e11; rfl
  by_cases e12 : id = 12
  · subst e12; rfl
  by_cases e14 : id = 14
  · subst e14; rfl
  by_cases e15 : id = 15
  · subst e15; rfl
  by_cases e16 : id = 16
  · subst e16; rfl
  have hn : ∀ S : SP, upd S id v' = S := fun S => by
    unfold upd
    rw [if_neg e0]; rw [if_neg e1]; rw [if_neg e2]; rw [if_neg e3]; rw [if_neg e4]; rw [if_neg e5]; rw [if_neg e6]; rw [if_neg e7]; rw [if_neg e8]; rw [if_neg e9]; rw [if_neg e10]; rw [if_neg e11]; rw [if_neg e12]; rw [if_neg h]; rw [if_neg e14]; rw [if_neg e15]; rw [if_neg e16]
  rw [hn, hn]
theorem upd_c14 {S : SP} {v v' : List Int} {id : Int} (h : id ≠ 14) : upd (upd S 14 v) id v' = upd (upd S id v') 14 v := by
  by_cases e0 : id = 0
  · subst e0; rfl
  by_cases e1 : id = 1
  · subst e1; rfl
  by_cases e2 : id = 2
  · subst e2; rfl
  by_cases e3 : id = 3
  · subst e3; rfl
  by_cases e4 : id = 4
  · subst e4; rfl
  by_cases e5 : id = 5
  · subst e5; rfl
  by_cases e6 : id = 6
  · subst e6; rfl
  by_cases e7 : id = 7
  · subst e7; rfl
  by_cases e8 : id = 8
  · subst e8; rfl
  by_cases e9 : id = 9
  · subst e9; rfl
  by_cases e10 : id = 10
  · subst e10; rfl
  by_cases e11 : id = 11
  · subst e11; rfl
  by_cases e12 : id = 12
  · subst e12; rfl
  by_cases e13 : id = 13
  · subst e13; rfl
  by_cases e15 : id = 15
  · subst e15; rfl
  by_cases e16 : id = 16
  · subst e16; rfl
  have hn : ∀ S : SP, upd S id v' = S := fun S => by
    unfold upd
    rw [if_neg e0]; rw [if_neg e1]; rw [if_neg e2]; rw [if_neg e3]; rw [if_neg e4]; rw [if_neg e5]; rw [if_neg e6]; rw [if_neg e7]; rw [if_neg e8]; rw [if_neg e9]; rw [if_neg e10]; rw [if_neg e11]; rw [if_neg e12]; rw [if_neg e13]; rw [if_neg h]; rw [if_neg e15]; rw [if_neg e16]
  rw [hn, hn]
theorem upd_c15 {S : SP} {v v' : List Int} {id : Int} (h : id ≠ 15) : upd (upd S 15 v) id v' = upd (upd S id v') 15 v := by
  by_cases e0 : id = 0
  · subst e0; rfl
  by_cases e1 : id = 1
  · subst e1; rfl
  by_cases e2 : id = 2
  · subst e2; rfl
  by_cases e3 : id = 3
  · subst e3; rfl
  by_cases e4 : id = 4
  · subst e4; rfl
  by_cases e5 : id = 5
  · subst e5; rfl
  by_cases e6 : id = 6
  · subst e6; rfl
  by_cases e7 : id = 7
  · subst e7; rfl
  by_cases e8 : id = 8
  · subst e8; rfl
  by_cases e9 : id = 9
  · subst e9; rfl
  by_cases e10 : id = 10
  · subst e10; rfl
  by_cases e11 : id = 11
  · subst e11; rfl
  by_cases e12 : id = 12
  · subst e12; rfl
  by_cases e13 : id = 13
  · subst e13; rfl
  by_cases e14 : id = 14
  · subst e14; rfl
  by_cases e16 : id = 16
  · subst e16; rfl
  have hn : ∀ S : SP, upd S id v' = S := fun S => by
    unfold upd
    rw [if_neg e0]; rw [if_neg e1]; rw [if_neg e2]; rw [if_neg e3]; rw [if_neg e4]; rw [if_neg e5]; rw [if_neg e6]; rw [if_neg e7]; rw [if_neg e8]; rw [if_neg e9]; rw [if_neg e10]; rw [if_neg e11]; rw [if_neg e12]; rw [if_neg e13]; rw [if_neg e14]; rw [if_neg h]; rw [if_neg e16]
  rw [hn, hn]
theorem upd_c16 {S : SP} {v v' : List Int} {id : Int} (h : id ≠ 16) : upd (upd S 16 v) id v' = upd (upd S id v') 16 v := by
  by_cases e0 : id = 0
  · subst e0; rfl
  by_cases e1 : id = 1
  · subst e1; rfl
  by_cases e2 : id = 2
  · subst e2; rfl
  by_cases e3 : id = 3
  · subst e3; rfl
  by_cases e4 : id = 4
  · subst e4; rfl
  by_cases e5 : id = 5
  · subst e5; rfl
  by_cases e6 : id = 6
  · subst e6; rfl
  by_cases e7 : id = 7
  · subst e7; rfl
  by_cases e8 : id = 8
  · subst e8; rfl
  by_cases e9 : id = 9
  · subst e9; rfl
  by_cases e10 : id = 10
  · subst e10; rfl
  by_cases e11 : id = 11
  · subst e11; rfl
  by_cases e12 : id = 12
  · subst e12; rfl
  by_cases e13 : id = 13
  · subst e13; rfl
  by_cases e14 : id = 14
  · subst e14; rfl
  by_cases e15 : id = 15
  · subst e15; rfl
  have hn : ∀ S : SP, upd S id v' = S := fun S => by
    unfold upd
    rw [if_neg e0]; rw [if_neg e1]; rw [if_neg e2]; rw [if_neg e3]; rw [if_neg e4]; rw [if_neg e5]; rw [if_neg e6]; rw [if_neg e7]; rw [if_neg e8]; rw [if_neg e9]; rw [if_neg e10]; rw [if_neg e11]; rw [if_neg e12]; rw [if_neg e13]; rw [if_neg e14]; rw [if_neg e15]; rw [if_neg h]
  rw [hn, hn]
theorem upd_comm {S : SP} {id id' : Int} {v v' : List Int} (h0 : 0 ≤ id) (h : id' ≠ id ∨ 16 < id) : upd (upd S id v) id' v' = upd (upd S id' v') id v := by
  by_cases hf : 16 < id
  · rw [upd_far hf, upd_far hf]
  have h' : id' ≠ id := h.resolve_right hf
  by_cases e0 : id = 0
  · subst e0; exact upd_c0 h'
  by_cases e1 : id = 1
  · subst e1; exact upd_c1 h'
  by_cases e2 : id = 2
  · subst e2; exact upd_c2 h'
  by_cases e3 : id = 3
  · subst e3; exact upd_c3 h'
  by_cases e4 : id = 4
  · subst e4; exact upd_c4 h'
  by_cases e5 : id = 5
  · subst e5; exact upd_c5 h'
  by_cases e6 : id = 6
  · subst e6; exact upd_c6 h'
  by_cases e7 : id = 7
  · subst e7; exact upd_c7 h'
  by_cases e8 : id = 8
  · subst e8; exact upd_c8 h'
  by_cases e9 : id = 9
  · subst e9; exact upd_c9 h'
  by_cases e10 : id = 10
  · subst e10; exact upd_c10 h'
  by_cases e11 : id = 11
  · subst e11; exact upd_c11 h'
  by_cases e12 : id = 12
  · subst e12; exact upd_c12 h'
  by_cases e13 : id = 13
  · subst e13; exact upd_c13 h'
  by_cases e14 : id = 14
  · subst e14; exact upd_c14 h'
  by_cases e15 : id = 15
  · subst e15; exact upd_c15 h'
  by_cases e16 : id = 16
  · subst e16; exact upd_c16 h'
  omega
theorem foldS_perm {S : SP} {ps qs : List (Int × List Int)} (hp : ps.Perm qs) (h0 : ∀ p ∈ ps, 0 ≤ p.1) (hd : ∀ p ∈ ps, ∀ q ∈ ps, p ≠ q → q.1 ≠ p.1 ∨ 16 < p.1) : foldS S ps = foldS S qs := by
  refine List.Perm.foldl_eq' hp (fun x hx y hy z => ?_) S
  by_cases e : x = y
  · rw [e]
  · exact upd_comm (h0 x hx) (hd x hx y hy e)
theorem foldS_far : ∀ {qs : List (Int × List Int)} {S : SP}, (∀ q ∈ qs, 16 < q.1) → foldS S qs = S
  | [], S, _ => rfl
  | q :: qs, S, h => by
    show foldS (upd S q.1 q.2) qs = S
    rw [upd_far (h q (by simp))]
    exact foldS_far fun p hp => h p (List.mem_cons_of_mem _ hp)
theorem nodup_inj : ∀ {ks : List (Int × List Int)}, (ks.map Prod.fst).Nodup → ∀ {p q : Int × List Int}, p ∈ ks → q ∈ ks → p.1 = q.1 → p = q
  | [], _, p, q, hp, _, _ => by simp at hp
  | k :: ks, hn, p, q, hp, hq, e => by
    rw [List.map_cons, List.nodup_cons] at hn
    rcases List.mem_cons.1 hp with h1 | h1
    · rcases List.mem_cons.1 hq with h2 | h2
      · rw [h1, h2]
      · refine absurd ?_ hn.1
        have h3 : q.1 ∈ ks.map Prod.fst := List.mem_map_of_mem h2
        rw [← e, h1] at h3
        exact h3
    · rcases List.mem_cons.1 hq with h2 | h2
      · refine absurd ?_ hn.1
        have h3 : p.1 ∈ ks.map Prod.fst := List.mem_map_of_mem h1
        rw [e, h2] at h3
        exact h3
      · exact nodup_inj hn.2 h1 h2 e
/-- Known ones and others in any order are read as the known ones. -/
theorem any_good {l : List Int} {S : SP} {ps ks fs : List (Int × List Int)} {bs : List (List Int)} (hb : allP ps bs) (hl : l = bs.flatten) (hp : ps.Perm (ks ++ fs)) (hk : ∀ p ∈ ks, sgood p.1 p.2 ∧ 0 ≤ p.1) (hn : (ks.map Prod.fst).Nodup) (hf : ∀ q ∈ fs, 16 < q.1) (hS : foldS usual ks = S) : GoodI l S := by
  have hg : ∀ p ∈ ps, sgood p.1 p.2 := fun p h => by
    rcases List.mem_append.1 (hp.mem_iff.1 h) with h | h
    · exact (hk p h).1
    · exact far_good (hf p h)
  refine ⟨ps, path_isP hb (by rw [hl]; rfl) (Nat.zero_le _), fun p h => (hg p h).1, ?_⟩
  rw [fold_eq hg, foldS_perm hp, foldS_append, hS, foldS_far hf]
  · intro p h
    rcases List.mem_append.1 (hp.mem_iff.1 h) with h | h
    · exact (hk p h).2
    · have := hf p h; omega
  · intro p h q h' hne
    rcases List.mem_append.1 (hp.mem_iff.1 h) with h | h
    · rcases List.mem_append.1 (hp.mem_iff.1 h') with h' | h'
      · refine .inl fun e => hne ?_
        exact nodup_inj hn h h' e.symm
      · by_cases hp16 : 16 < p.1
        · exact .inr hp16
        · have := hf q h'
          exact .inl (by omega)
    · exact .inr (hf p h)
end

section
set_option linter.unusedVariables false
/-- A number in 2^j bytes. -/
def fm : Nat → Int → List Int
  | 0, v => [v]
  | 1, v => [64 + v / 256, v % 256]
  | 2, v => [128 + v / 16777216, v / 65536 % 256, v / 256 % 256, v % 256]
  | _, v => [192 + v / 72057594037927936, v / 281474976710656 % 256, v / 1099511627776 % 256, v / 4294967296 % 256, v / 16777216 % 256, v / 65536 % 256, v / 256 % 256, v % 256]
def fmax : Nat → Int
  | 0 => 63
  | 1 => 16383
  | 2 => 1073741823
  | _ => 4611686018427387903
theorem fm_form {j : Nat} (hj : j ≤ 3) {v : Int} (h0 : 0 ≤ v) (h1 : v ≤ fmax j) : isForm v (fm j v) := by
  rcases (show j = 0 ∨ j = 1 ∨ j = 2 ∨ j = 3 by omega) with rfl | rfl | rfl | rfl
  · intro r
    exact rv_1 (by have : v ≤ 63 := h1; omega) h0
  · have h1 : v ≤ 16383 := h1
    have e := form2 (a := v / 256) (b := v % 256) (by omega)
    rwa [show v / 256 * 256 + v % 256 = v by omega] at e
  · have h1 : v ≤ 1073741823 := h1
    have e := form4 (a := v / 16777216) (b := v / 65536 % 256) (c := v / 256 % 256) (d := v % 256) (by omega)
    rwa [show ((v / 16777216 * 256 + v / 65536 % 256) * 256 + v / 256 % 256) * 256 + v % 256 = v by omega] at e
  · have h1 : v ≤ 4611686018427387903 := h1
    have e := form8 (a := v / 72057594037927936) (b := v / 281474976710656 % 256) (c := v / 1099511627776 % 256) (d := v / 4294967296 % 256) (e := v / 16777216 % 256) (f := v / 65536 % 256) (g := v / 256 % 256) (h := v % 256) (by omega)
    rwa [show ((((((v / 72057594037927936 * 256 + v / 281474976710656 % 256) * 256 + v / 1099511627776 % 256) * 256 + v / 4294967296 % 256) * 256 + v / 16777216 % 256) * 256 + v / 65536 % 256) * 256 + v / 256 % 256) * 256 + v % 256 = v by omega] at e
theorem fm_length {j : Nat} (hj : j ≤ 3) (v : Int) : (fm j v).length = 2 ^ j := by
  rcases (show j = 0 ∨ j = 1 ∨ j = 2 ∨ j = 3 by omega) with rfl | rfl | rfl | rfl <;> rfl
theorem fm_bs {j : Nat} (hj : j ≤ 3) {v : Int} (h0 : 0 ≤ v) (h1 : v ≤ fmax j) : Bs (fm j v) := by
  rcases (show j = 0 ∨ j = 1 ∨ j = 2 ∨ j = 3 by omega) with rfl | rfl | rfl | rfl
  · have h1 : v ≤ 63 := h1
    intro x hx
    simp [fm] at hx
    omega
  · have h1 : v ≤ 16383 := h1
    intro x hx
    simp [fm] at hx
    omega
  · have h1 : v ≤ 1073741823 := h1
    intro x hx
    simp [fm] at hx
    omega
  · have h1 : v ≤ 4611686018427387903 := h1
    intro x hx
    simp [fm] at hx
    omega
theorem enc_fm {v : Int} (h0 : 0 ≤ v) (h1 : v ≤ 4611686018427387903) : ∃ j, j ≤ 3 ∧ enc v = fm j v ∧ v ≤ fmax j := by
  unfold enc
  split
  · exact ⟨0, by omega, rfl, by assumption⟩
  · split
    · exact ⟨1, by omega, rfl, by assumption⟩
    · split
      · exact ⟨2, by omega, rfl, by assumption⟩
      · exact ⟨3, by omega, rfl, h1⟩
end

section
set_option linter.unusedVariables false
set_option linter.unusedSimpArgs false
/-- A number's parameter, in some length; none only where it is the usual one. -/
def ns (id dflt x : Int) (sec : List (Int × List Int)) : Prop := (sec = [] ∧ x = dflt) ∨ ∃ v, sec = [(id, v)] ∧ isForm x v
def nms (S : SP) : List (Int × Int × Int) := [(1, 0, S.idle), (3, 65527, S.udp), (4, 0, S.data), (5, 0, S.bl), (6, 0, S.br), (7, 0, S.un), (8, 0, S.sb), (9, 0, S.su), (10, 3, S.ae), (11, 25, S.ad), (14, 2, S.act)]
def secs : List (Int × Int × Int) → List (Int × List Int) → Prop
  | [], L => L = []
  | r :: rs, L => ∃ s L', L = s ++ L' ∧ ns r.1 r.2.1 r.2.2 s ∧ secs rs L'
theorem secs_snoc : ∀ {rs : List (Int × Int × Int)} {L s : List (Int × List Int)} {r : Int × Int × Int}, secs rs L → ns r.1 r.2.1 r.2.2 s → secs (rs ++ [r]) (L ++ s)
  | [], L, s, r, h, hs => by
    obtain rfl : L = [] := h
    exact ⟨s, [], by simp, hs, rfl⟩
  | q :: rs, L, s, r, ⟨s', L', e, h1, h2⟩, hs => ⟨s', L' ++ s, by rw [e, List.append_assoc], h1, secs_snoc h2 hs⟩
theorem ns_all {P : Int × List Int → Prop} {id dflt x : Int} {sec : List (Int × List Int)} (hs : ns id dflt x sec) (h : ∀ v, isForm x v → P (id, v)) : ∀ p ∈ sec, P p := by
  intro p hp
  rcases hs with ⟨rfl, _⟩ | ⟨v, rfl, hv⟩
  · simp at hp
  · obtain rfl : p = (id, v) := by simpa using hp
    exact h v hv
theorem ns_sub {id dflt x : Int} {sec : List (Int × List Int)} (hs : ns id dflt x sec) : (sec.map Prod.fst).Sublist [id] := by
  rcases hs with ⟨rfl, _⟩ | ⟨v, rfl, hv⟩ <;> simp
theorem st_ns {id dflt x : Int} {c c' : SP} {sec : List (Int × List Int)} (hs : ns id dflt x sec) (h1 : ∀ v, num v = x → upd c id v = c') (h2 : x = dflt → c = c') : foldS c sec = c' := by
  rcases hs with ⟨rfl, h⟩ | ⟨v, rfl, hv⟩
  · exact h2 h
  · exact h1 v hv.alone.2
theorem sg_form {x a b : Int} {v : List Int} (id : Int) (hv : isForm x v) (h0 : a ≤ x) (h1 : x ≤ b) (hi : isNum id) (hr : ∀ x, a ≤ x → x ≤ b → rng id x) (ho : ∀ x, a ≤ x → x ≤ b → (id = 1 → x < 1073741824) ∧ (id = 3 → x ≤ 65527)) : sgood id v := by
  obtain ⟨ha, hn⟩ := hv.alone
  have hi' := hi
  unfold isNum at hi'
  refine ⟨⟨fun h => by omega, fun h => by omega, fun h => by omega, fun _ => ⟨ha, by rw [hn]; exact hr x h0 h1⟩⟩, fun h => by omega, fun h => by rw [hn]; exact (ho x h0 h1).1 h, fun h => by rw [hn]; exact (ho x h0 h1).2 h, fun h => by omega⟩
/-- The known ones, in the order in which they are put. -/
def kn (Q : QP) (S : SP) (L : List (Int × List Int)) : List (Int × List Int) := bo 0 Q.od.1 S.od ++ (bo 2 Q.rt.1 S.rt ++ (bo 15 Q.is.1 S.is ++ (bo 16 Q.rs.1 S.rs ++ (L ++ (fo S.nomig ++ po Q.pid.1 (pv S))))))
theorem mem_app2 {P : Int × List Int → Prop} {a b : List (Int × List Int)} (ha : ∀ p ∈ a, P p) (hb : ∀ p ∈ b, P p) : ∀ p ∈ a ++ b, P p := fun p hp => (List.mem_append.1 hp).elim (ha p) (hb p)
theorem kn_good {Q : QP} {S : SP} {L : List (Int × List Int)} (h : Fq Q S) (hL : secs (nms S) L) : ∀ p ∈ kn Q S L, sgood p.1 p.2 ∧ 0 ≤ p.1 := by
  have hpo : ∀ p ∈ po Q.pid.1 (pv S), sgood p.1 p.2 ∧ 0 ≤ p.1 := fun p hp => ⟨mps_good h p (by unfold mps; simp only [List.mem_append]; simp [hp]), by
    unfold po at hp
    split at hp
    · simp at hp
    · obtain rfl : p = (13, pv S) := by simpa using hp
      simp only; omega⟩
  obtain ⟨s1, L1, rfl, h1, s2, L2, rfl, h2, s3, L3, rfl, h3, s4, L4, rfl, h4, s5, L5, rfl, h5, s6, L6, rfl, h6, s7, L7, rfl, h7, s8, L8, rfl, h8, s9, L9, rfl, h9, s10, L10, rfl, h10, s11, L11, rfl, h11, rfl⟩ := hL
  exact mem_app2 (bo_all fun hA => ⟨⟨⟨fun h => by omega, fun h => by omega, fun h => by omega, fun h => absurd h (by unfold isNum; omega)⟩, fun _ => h.od, fun h => by omega, fun h => by omega, fun h => by omega⟩, by simp only; omega⟩) (mem_app2 (bo_all fun hA => ⟨⟨⟨fun _ => h.rt hA, fun h => by omega, fun h => by omega, fun h => absurd h (by unfold isNum; omega)⟩, fun h => by omega, fun h => by omega, fun h => by omega, fun h => by omega⟩, by simp only; omega⟩) (mem_app2 (bo_all fun hA => ⟨⟨⟨fun h => by omega, fun h => by omega, fun h => by omega, fun h => absurd h (by unfold isNum; omega)⟩, fun _ => h.is, fun h => by omega, fun h => by omega, fun h => by omega⟩, by simp only; omega⟩) (mem_app2 (bo_all fun hA => ⟨⟨⟨fun h => by omega, fun h => by omega, fun h => by omega, fun h => absurd h (by unfold isNum; omega)⟩, fun _ => h.rs, fun h => by omega, fun h => by omega, fun h => by omega⟩, by simp only; omega⟩) (mem_app2 (mem_app2 (ns_all (id := 1) h1 fun v hv => ⟨sg_form 1 hv h.idle.1 h.idle.2 (by simp [isNum]) (fun x h0 h1 => by simp [rng]; try omega) (fun x h0 h1 => ⟨by omega, by omega⟩), by simp only; omega⟩) (mem_app2 (ns_all (id := 3) h2 fun v hv => ⟨sg_form 3 hv h.udp.1 h.udp.2 (by simp [isNum]) (fun x h0 h1 => by simp [rng]; try omega) (fun x h0 h1 => ⟨by omega, by omega⟩), by simp only; omega⟩) (mem_app2 (ns_all (id := 4) h3 fun v hv => ⟨sg_form 4 hv h.data.1 h.data.2 (by simp [isNum]) (fun x h0 h1 => by simp [rng]; try omega) (fun x h0 h1 => ⟨by omega, by omega⟩), by simp only; omega⟩) (mem_app2 (ns_all (id := 5) h4 fun v hv => ⟨sg_form 5 hv h.bl.1 h.bl.2 (by simp [isNum]) (fun x h0 h1 => by simp [rng]; try omega) (fun x h0 h1 => ⟨by omega, by omega⟩), by simp only; omega⟩) (mem_app2 (ns_all (id := 6) h5 fun v hv => ⟨sg_form 6 hv h.br.1 h.br.2 (by simp [isNum]) (fun x h0 h1 => by simp [rng]; try omega) (fun x h0 h1 => ⟨by omega, by omega⟩), by simp only; omega⟩) (mem_app2 (ns_all (id := 7) h6 fun v hv => ⟨sg_form 7 hv h.un.1 h.un.2 (by simp [isNum]) (fun x h0 h1 => by simp [rng]; try omega) (fun x h0 h1 => ⟨by omega, by omega⟩), by simp only; omega⟩) (mem_app2 (ns_all (id := 8) h7 fun v hv => ⟨sg_form 8 hv h.sb.1 h.sb.2 (by simp [isNum]) (fun x h0 h1 => by simp [rng]; try omega) (fun x h0 h1 => ⟨by omega, by omega⟩), by simp only; omega⟩) (mem_app2 (ns_all (id := 9) h8 fun v hv => ⟨sg_form 9 hv h.su.1 h.su.2 (by simp [isNum]) (fun x h0 h1 => by simp [rng]; try omega) (fun x h0 h1 => ⟨by omega, by omega⟩), by simp only; omega⟩) (mem_app2 (ns_all (id := 10) h9 fun v hv => ⟨sg_form 10 hv h.ae.1 h.ae.2 (by simp [isNum]) (fun x h0 h1 => by simp [rng]; try omega) (fun x h0 h1 => ⟨by omega, by omega⟩), by simp only; omega⟩) (mem_app2 (ns_all (id := 11) h10 fun v hv => ⟨sg_form 11 hv h.ad.1 h.ad.2 (by simp [isNum]) (fun x h0 h1 => by simp [rng]; try omega) (fun x h0 h1 => ⟨by omega, by omega⟩), by simp only; omega⟩) (mem_app2 (ns_all (id := 14) h11 fun v hv => ⟨sg_form 14 hv h.act.1 h.act.2 (by simp [isNum]) (fun x h0 h1 => by simp [rng]; try omega) (fun x h0 h1 => ⟨by omega, by omega⟩), by simp only; omega⟩) (fun p hp => by simp at hp)))))))))))) (mem_app2 (fo_all ⟨⟨⟨fun h => by omega, fun _ => rfl, fun h => by omega, fun h => absurd h (by unfold isNum; omega)⟩, fun h => by omega, fun h => by omega, fun h => by omega, fun h => by omega⟩, by simp only; omega⟩) hpo)))))
theorem kn_nodup {Q : QP} {S : SP} {L : List (Int × List Int)} (hL : secs (nms S) L) : ((kn Q S L).map Prod.fst).Nodup := by
  have h : ((kn Q S L).map Prod.fst).Sublist [0, 2, 15, 16, 1, 3, 4, 5, 6, 7, 8, 9, 10, 11, 14, 12, 13] := by
    obtain ⟨s1, L1, rfl, h1, s2, L2, rfl, h2, s3, L3, rfl, h3, s4, L4, rfl, h4, s5, L5, rfl, h5, s6, L6, rfl, h6, s7, L7, rfl, h7, s8, L8, rfl, h8, s9, L9, rfl, h9, s10, L10, rfl, h10, s11, L11, rfl, h11, rfl⟩ := hL
    unfold kn
    simp only [List.map_append, List.append_assoc, List.map_nil, List.nil_append]
    exact (bo_sub _ _ _) |>.append ((bo_sub _ _ _) |>.append ((bo_sub _ _ _) |>.append ((bo_sub _ _ _) |>.append ((ns_sub h1) |>.append ((ns_sub h2) |>.append ((ns_sub h3) |>.append ((ns_sub h4) |>.append ((ns_sub h5) |>.append ((ns_sub h6) |>.append ((ns_sub h7) |>.append ((ns_sub h8) |>.append ((ns_sub h9) |>.append ((ns_sub h10) |>.append ((ns_sub h11) |>.append ((fo_sub _) |>.append (po_sub _ _))))))))))))))))
  exact h.nodup (by decide)
theorem kn_fold {Q : QP} {S : SP} {L : List (Int × List Int)} (h : Fq Q S) (hL : secs (nms S) L) : foldS usual (kn Q S L) = S := by
  obtain ⟨s1, L1, rfl, h1, s2, L2, rfl, h2, s3, L3, rfl, h3, s4, L4, rfl, h4, s5, L5, rfl, h5, s6, L6, rfl, h6, s7, L7, rfl, h7, s8, L8, rfl, h8, s9, L9, rfl, h9, s10, L10, rfl, h10, s11, L11, rfl, h11, rfl⟩ := hL
  unfold kn
  have eod : foldS ⟨[], [], [], [], 0, 65527, 0, 0, 0, 0, 0, 0, 3, 25, false, [], [], 0, 0, [], [], 2⟩ (bo 0 Q.od.1 S.od) = ⟨S.od, [], [], [], 0, 65527, 0, 0, 0, 0, 0, 0, 3, 25, false, [], [], 0, 0, [], [], 2⟩ := st_bo rfl (fun e => by rw [h.odn e])
  have ert : foldS ⟨S.od, [], [], [], 0, 65527, 0, 0, 0, 0, 0, 0, 3, 25, false, [], [], 0, 0, [], [], 2⟩ (bo 2 Q.rt.1 S.rt) = ⟨S.od, S.rt, [], [], 0, 65527, 0, 0, 0, 0, 0, 0, 3, 25, false, [], [], 0, 0, [], [], 2⟩ := st_bo rfl (fun e => by rw [h.rtn e])
  have eis : foldS ⟨S.od, S.rt, [], [], 0, 65527, 0, 0, 0, 0, 0, 0, 3, 25, false, [], [], 0, 0, [], [], 2⟩ (bo 15 Q.is.1 S.is) = ⟨S.od, S.rt, S.is, [], 0, 65527, 0, 0, 0, 0, 0, 0, 3, 25, false, [], [], 0, 0, [], [], 2⟩ := st_bo rfl (fun e => by rw [h.isn e])
  have ers : foldS ⟨S.od, S.rt, S.is, [], 0, 65527, 0, 0, 0, 0, 0, 0, 3, 25, false, [], [], 0, 0, [], [], 2⟩ (bo 16 Q.rs.1 S.rs) = ⟨S.od, S.rt, S.is, S.rs, 0, 65527, 0, 0, 0, 0, 0, 0, 3, 25, false, [], [], 0, 0, [], [], 2⟩ := st_bo rfl (fun e => by rw [h.rsn e])
  have eidle : foldS ⟨S.od, S.rt, S.is, S.rs, 0, 65527, 0, 0, 0, 0, 0, 0, 3, 25, false, [], [], 0, 0, [], [], 2⟩ s1 = ⟨S.od, S.rt, S.is, S.rs, S.idle, 65527, 0, 0, 0, 0, 0, 0, 3, 25, false, [], [], 0, 0, [], [], 2⟩ := st_ns h1 (fun v hv => by show (⟨S.od, S.rt, S.is, S.rs, num v, 65527, 0, 0, 0, 0, 0, 0, 3, 25, false, [], [], 0, 0, [], [], 2⟩ : SP) = _; rw [hv]) (fun e => by
    have e : S.idle = 0 := e
    rw [e])
  have eudp : foldS ⟨S.od, S.rt, S.is, S.rs, S.idle, 65527, 0, 0, 0, 0, 0, 0, 3, 25, false, [], [], 0, 0, [], [], 2⟩ s2 = ⟨S.od, S.rt, S.is, S.rs, S.idle, S.udp, 0, 0, 0, 0, 0, 0, 3, 25, false, [], [], 0, 0, [], [], 2⟩ := st_ns h2 (fun v hv => by show (⟨S.od, S.rt, S.is, S.rs, S.idle, num v, 0, 0, 0, 0, 0, 0, 3, 25, false, [], [], 0, 0, [], [], 2⟩ : SP) = _; rw [hv]) (fun e => by
    have e : S.udp = 65527 := e
    rw [e])
  have edata : foldS ⟨S.od, S.rt, S.is, S.rs, S.idle, S.udp, 0, 0, 0, 0, 0, 0, 3, 25, false, [], [], 0, 0, [], [], 2⟩ s3 = ⟨S.od, S.rt, S.is, S.rs, S.idle, S.udp, S.data, 0, 0, 0, 0, 0, 3, 25, false, [], [], 0, 0, [], [], 2⟩ := st_ns h3 (fun v hv => by show (⟨S.od, S.rt, S.is, S.rs, S.idle, S.udp, num v, 0, 0, 0, 0, 0, 3, 25, false, [], [], 0, 0, [], [], 2⟩ : SP) = _; rw [hv]) (fun e => by
    have e : S.data = 0 := e
    rw [e])
  have ebl : foldS ⟨S.od, S.rt, S.is, S.rs, S.idle, S.udp, S.data, 0, 0, 0, 0, 0, 3, 25, false, [], [], 0, 0, [], [], 2⟩ s4 = ⟨S.od, S.rt, S.is, S.rs, S.idle, S.udp, S.data, S.bl, 0, 0, 0, 0, 3, 25, false, [], [], 0, 0, [], [], 2⟩ := st_ns h4 (fun v hv => by show (⟨S.od, S.rt, S.is, S.rs, S.idle, S.udp, S.data, num v, 0, 0, 0, 0, 3, 25, false, [], [], 0, 0, [], [], 2⟩ : SP) = _; rw [hv]) (fun e => by
    have e : S.bl = 0 := e
    rw [e])
  have ebr : foldS ⟨S.od, S.rt, S.is, S.rs, S.idle, S.udp, S.data, S.bl, 0, 0, 0, 0, 3, 25, false, [], [], 0, 0, [], [], 2⟩ s5 = ⟨S.od, S.rt, S.is, S.rs, S.idle, S.udp, S.data, S.bl, S.br, 0, 0, 0, 3, 25, false, [], [], 0, 0, [], [], 2⟩ := st_ns h5 (fun v hv => by show (⟨S.od, S.rt, S.is, S.rs, S.idle, S.udp, S.data, S.bl, num v, 0, 0, 0, 3, 25, false, [], [], 0, 0, [], [], 2⟩ : SP) = _; rw [hv]) (fun e => by
    have e : S.br = 0 := e
    rw [e])
  have eun : foldS ⟨S.od, S.rt, S.is, S.rs, S.idle, S.udp, S.data, S.bl, S.br, 0, 0, 0, 3, 25, false, [], [], 0, 0, [], [], 2⟩ s6 = ⟨S.od, S.rt, S.is, S.rs, S.idle, S.udp, S.data, S.bl, S.br, S.un, 0, 0, 3, 25, false, [], [], 0, 0, [], [], 2⟩ := st_ns h6 (fun v hv => by show (⟨S.od, S.rt, S.is, S.rs, S.idle, S.udp, S.data, S.bl, S.br, num v, 0, 0, 3, 25, false, [], [], 0, 0, [], [], 2⟩ : SP) = _; rw [hv]) (fun e => by
    have e : S.un = 0 := e
    rw [e])
  have esb : foldS ⟨S.od, S.rt, S.is, S.rs, S.idle, S.udp, S.data, S.bl, S.br, S.un, 0, 0, 3, 25, false, [], [], 0, 0, [], [], 2⟩ s7 = ⟨S.od, S.rt, S.is, S.rs, S.idle, S.udp, S.data, S.bl, S.br, S.un, S.sb, 0, 3, 25, false, [], [], 0, 0, [], [], 2⟩ := st_ns h7 (fun v hv => by show (⟨S.od, S.rt, S.is, S.rs, S.idle, S.udp, S.data, S.bl, S.br, S.un, num v, 0, 3, 25, false, [], [], 0, 0, [], [], 2⟩ : SP) = _; rw [hv]) (fun e => by
    have e : S.sb = 0 := e
    rw [e])
  have esu : foldS ⟨S.od, S.rt, S.is, S.rs, S.idle, S.udp, S.data, S.bl, S.br, S.un, S.sb, 0, 3, 25, false, [], [], 0, 0, [], [], 2⟩ s8 = ⟨S.od, S.rt, S.is, S.rs, S.idle, S.udp, S.data, S.bl, S.br, S.un, S.sb, S.su, 3, 25, false, [], [], 0, 0, [], [], 2⟩ := st_ns h8 (fun v hv => by show (⟨S.od, S.rt, S.is, S.rs, S.idle, S.udp, S.data, S.bl, S.br, S.un, S.sb, num v, 3, 25, false, [], [], 0, 0, [], [], 2⟩ : SP) = _; rw [hv]) (fun e => by
    have e : S.su = 0 := e
    rw [e])
  have eae : foldS ⟨S.od, S.rt, S.is, S.rs, S.idle, S.udp, S.data, S.bl, S.br, S.un, S.sb, S.su, 3, 25, false, [], [], 0, 0, [], [], 2⟩ s9 = ⟨S.od, S.rt, S.is, S.rs, S.idle, S.udp, S.data, S.bl, S.br, S.un, S.sb, S.su, S.ae, 25, false, [], [], 0, 0, [], [], 2⟩ := st_ns h9 (fun v hv => by show (⟨S.od, S.rt, S.is, S.rs, S.idle, S.udp, S.data, S.bl, S.br, S.un, S.sb, S.su, num v, 25, false, [], [], 0, 0, [], [], 2⟩ : SP) = _; rw [hv]) (fun e => by
    have e : S.ae = 3 := e
    rw [e])
  have ead : foldS ⟨S.od, S.rt, S.is, S.rs, S.idle, S.udp, S.data, S.bl, S.br, S.un, S.sb, S.su, S.ae, 25, false, [], [], 0, 0, [], [], 2⟩ s10 = ⟨S.od, S.rt, S.is, S.rs, S.idle, S.udp, S.data, S.bl, S.br, S.un, S.sb, S.su, S.ae, S.ad, false, [], [], 0, 0, [], [], 2⟩ := st_ns h10 (fun v hv => by show (⟨S.od, S.rt, S.is, S.rs, S.idle, S.udp, S.data, S.bl, S.br, S.un, S.sb, S.su, S.ae, num v, false, [], [], 0, 0, [], [], 2⟩ : SP) = _; rw [hv]) (fun e => by
    have e : S.ad = 25 := e
    rw [e])
  have eact : foldS ⟨S.od, S.rt, S.is, S.rs, S.idle, S.udp, S.data, S.bl, S.br, S.un, S.sb, S.su, S.ae, S.ad, false, [], [], 0, 0, [], [], 2⟩ s11 = ⟨S.od, S.rt, S.is, S.rs, S.idle, S.udp, S.data, S.bl, S.br, S.un, S.sb, S.su, S.ae, S.ad, false, [], [], 0, 0, [], [], S.act⟩ := st_ns h11 (fun v hv => by show (⟨S.od, S.rt, S.is, S.rs, S.idle, S.udp, S.data, S.bl, S.br, S.un, S.sb, S.su, S.ae, S.ad, false, [], [], 0, 0, [], [], num v⟩ : SP) = _; rw [hv]) (fun e => by
    have e : S.act = 2 := e
    rw [e])
  have enomig : foldS ⟨S.od, S.rt, S.is, S.rs, S.idle, S.udp, S.data, S.bl, S.br, S.un, S.sb, S.su, S.ae, S.ad, false, [], [], 0, 0, [], [], S.act⟩ (fo S.nomig) = ⟨S.od, S.rt, S.is, S.rs, S.idle, S.udp, S.data, S.bl, S.br, S.un, S.sb, S.su, S.ae, S.ad, S.nomig, [], [], 0, 0, [], [], S.act⟩ := (by cases S.nomig <;> rfl)
  have hp1 : Q.pid.1 ≠ none → upd ⟨S.od, S.rt, S.is, S.rs, S.idle, S.udp, S.data, S.bl, S.br, S.un, S.sb, S.su, S.ae, S.ad, S.nomig, [], [], 0, 0, [], [], S.act⟩ 13 (pv S) = ⟨S.od, S.rt, S.is, S.rs, S.idle, S.udp, S.data, S.bl, S.br, S.un, S.sb, S.su, S.ae, S.ad, S.nomig, S.v4, S.v6, S.p4, S.p6, S.pid, S.ptok, S.act⟩ := fun hA => by
    rcases h.pre with ⟨e, _⟩ | ⟨_, h4, h6, hd, ht, hp4, hp6⟩
    · exact absurd e hA
    · obtain ⟨r1, r2, r3, r4, r5, r6, r7⟩ := pv_read h4.1 h6.1 ht (by omega) (by omega)
      show pref ⟨S.od, S.rt, S.is, S.rs, S.idle, S.udp, S.data, S.bl, S.br, S.un, S.sb, S.su, S.ae, S.ad, S.nomig, [], [], 0, 0, [], [], S.act⟩ (pv S) = _
      unfold pref
      rw [r1, r2, r3, r4, r5, Int.toNat_natCast, r6, r7]
  have hp2 : Q.pid.1 = none → (⟨S.od, S.rt, S.is, S.rs, S.idle, S.udp, S.data, S.bl, S.br, S.un, S.sb, S.su, S.ae, S.ad, S.nomig, [], [], 0, 0, [], [], S.act⟩ : SP) = ⟨S.od, S.rt, S.is, S.rs, S.idle, S.udp, S.data, S.bl, S.br, S.un, S.sb, S.su, S.ae, S.ad, S.nomig, S.v4, S.v6, S.p4, S.p6, S.pid, S.ptok, S.act⟩ := fun hA => by
    rcases h.pre with ⟨_, e1, e2, e3, e4, e5, e6⟩ | ⟨hA', _⟩
    · rw [e1, e2, e3, e4, e5, e6]
    · exact absurd hA hA'
  have epo : foldS ⟨S.od, S.rt, S.is, S.rs, S.idle, S.udp, S.data, S.bl, S.br, S.un, S.sb, S.su, S.ae, S.ad, S.nomig, [], [], 0, 0, [], [], S.act⟩ (po Q.pid.1 (pv S)) = ⟨S.od, S.rt, S.is, S.rs, S.idle, S.udp, S.data, S.bl, S.br, S.un, S.sb, S.su, S.ae, S.ad, S.nomig, S.v4, S.v6, S.p4, S.p6, S.pid, S.ptok, S.act⟩ := st_po hp1 hp2
  simp only [foldS_append, List.append_assoc, List.append_nil]
  rw [show usual = ⟨[], [], [], [], 0, 65527, 0, 0, 0, 0, 0, 0, 3, 25, false, [], [], 0, 0, [], [], 2⟩ from rfl, eod, ert, eis, ers, eidle, eudp, edata, ebl, ebr, eun, esb, esu, eae, ead, eact, enomig, epo]
/-- Whatever the order: they are read as the parameters. -/
theorem chosen_good {Q : QP} {S : SP} {l : List Int} {L ps fs : List (Int × List Int)} {bs : List (List Int)} (h : Fq Q S) (hL : secs (nms S) L) (hb : allP ps bs) (hl : l = bs.flatten) (hp : ps.Perm (kn Q S L ++ fs)) (hf : ∀ q ∈ fs, 16 < q.1) : GoodI l S :=
  any_good hb hl hp (kn_good h hL) (kn_nodup hL) hf (kn_fold h hL)
end

end Go.Proofs.YtdjdcpcomhjnjaaDoor

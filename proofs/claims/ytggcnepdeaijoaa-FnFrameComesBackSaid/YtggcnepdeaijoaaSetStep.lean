/- What rangeset.add and rangeset.sub do, step by step: the plain law of their loops. No program. Conditions: none. -/
import Derived.Test.YtggcnepdeaijoaaSet
namespace Go.Proofs.Ytggcnepdeaijoaa
set_option linter.unusedVariables false

theorem drop_cons {α : Type} {l : List α} {i : Nat} (h : i < l.length) : l.drop i = l[i] :: l.drop (i + 1) := List.drop_eq_getElem_cons h
theorem take_snoc {α : Type} {l : List α} {i : Nat} (h : i < l.length) : l.take (i + 1) = l.take i ++ [l[i]] := List.take_succ_eq_append_getElem h
theorem set_eq {α : Type} {l : List α} {i : Nat} (h : i < l.length) (x : α) : l.set i x = l.take i ++ x :: l.drop (i + 1) := by
  rw [List.set_eq_take_append_cons_drop, if_pos h]

/-- add, behind i ranges that lie ahead of the new one. -/
def AddInv (s e : Int) (l : Rgs) (i : Nat) : Prop := addP s e l = l.take i ++ addP s e (l.drop i)
theorem AddInv.zero (s e : Int) (l : Rgs) : AddInv s e l 0 := by simp [AddInv]
theorem AddInv.skip {s e : Int} {l : Rgs} {i : Nat} (h : AddInv s e l i) (hi : i < l.length) (h1 : ¬ e < l[i].1) (h2 : l[i].2 < s) : AddInv s e l (i + 1) := by
  unfold AddInv at h ⊢
  rw [h, drop_cons hi, take_snoc hi, List.append_assoc]
  conv => lhs; unfold addP
  rw [if_neg h1, if_pos h2]
  rfl
theorem AddInv.before {s e : Int} {l : Rgs} {i : Nat} (h : AddInv s e l i) (hi : i < l.length) (h1 : e < l[i].1) : addP s e l = l.take i ++ [(s, e)] ++ l.drop i := by
  rw [h, drop_cons hi]
  conv => lhs; unfold addP
  rw [if_pos h1]
  simp
theorem AddInv.inside {s e : Int} {l : Rgs} {i : Nat} (h : AddInv s e l i) (hi : i < l.length) (h1 : ¬ e < l[i].1) (h2 : ¬ l[i].2 < s) (h3 : e ≤ l[i].2) : addP s e l = l.set i (min s l[i].1, l[i].2) := by
  rw [h, drop_cons hi, set_eq hi]
  conv => lhs; unfold addP
  rw [if_neg h1, if_neg h2, if_pos h3]
theorem AddInv.last {s e : Int} {l : Rgs} (h : AddInv s e l l.length) : addP s e l = l ++ [(s, e)] := by
  rw [h]; simp [addP]

/-- The loop over the later ranges. -/
def SwInv (e : Int) (l : Rgs) (i : Nat) (E : Int) (j : Nat) : Prop := swallow e (l.drop (i + 1)) = swallow E (l.drop j)
theorem SwInv.step {e : Int} {l : Rgs} {i : Nat} {E : Int} {j : Nat} (h : SwInv e l i E j) (hj : j < l.length) (h1 : l[j].1 ≤ E) : SwInv e l i (if E < l[j].2 then l[j].2 else E) (j + 1) := by
  unfold SwInv at h ⊢
  rw [h, drop_cons hj]
  conv => lhs; unfold swallow
  rw [if_pos h1]
theorem SwInv.stop {e : Int} {l : Rgs} {i : Nat} {E : Int} {j : Nat} (h : SwInv e l i E j) (h1 : ∀ hj : j < l.length, ¬ l[j].1 ≤ E) : swallow e (l.drop (i + 1)) = (E, l.drop j) := by
  rw [h]
  by_cases hj : j < l.length
  · rw [drop_cons hj]
    conv => lhs; unfold swallow
    rw [if_neg (h1 hj)]
  · rw [List.drop_eq_nil_of_le (by omega)]
    rfl
/-- What is left when the loop has come to j. -/
theorem AddInv.over {s e : Int} {l : Rgs} {i : Nat} (h : AddInv s e l i) (hi : i < l.length) (h1 : ¬ e < l[i].1) (h2 : ¬ l[i].2 < s) (h3 : ¬ e ≤ l[i].2) {E : Int} {j : Nat} (hj : i + 1 ≤ j) (hsw : swallow e (l.drop (i + 1)) = (E, l.drop j)) :
    addP s e l = (l.set i (min s l[i].1, E)).take (i + 1) ++ (l.set i (min s l[i].1, E)).drop j := by
  rw [h, drop_cons hi]
  conv => lhs; unfold addP
  rw [if_neg h1, if_neg h2, if_neg h3, hsw]
  have e1 : (l.set i (min s l[i].1, E)).take (i + 1) = l.take i ++ [(min s l[i].1, E)] := by
    rw [set_eq hi, List.take_append, List.length_take, Nat.min_eq_left (by omega), List.take_of_length_le (by rw [List.length_take]; omega), show i + 1 - i = 1 by omega]
    rfl
  have e2 : (l.set i (min s l[i].1, E)).drop j = l.drop j := by
    rw [List.drop_set, if_pos (by omega)]
  rw [e1, e2]
  simp

/-- Removing the places from a to b. -/
def cutAB (L : Rgs) (a b : Nat) : Rgs := L.take a ++ L.drop b

/-- sub, behind i ranges: P stays, X is to go, Y stays behind it; L is what the set holds now. -/
def SubInv (s e : Int) (l : Rgs) (i : Nat) (L P X Y : Rgs) : Prop :=
  L = P ++ X ++ Y ++ l.drop i ∧ P.length + X.length + Y.length = i ∧ subP s e l = P ++ Y ++ subP s e (l.drop i) ∧ CanonB none (l.drop i) ∧
  (X ≠ [] → ∀ r ∈ l.drop i, s < r.1) ∧ (Y ≠ [] → ∀ r ∈ l.drop i, e < r.1)
theorem SubInv.zero {s e : Int} {l : Rgs} (h : Canon l) : SubInv s e l 0 l [] [] [] := ⟨by simp, rfl, by simp, h, by simp, by simp⟩
section
variable {s e : Int} {l L P X Y : Rgs} {i : Nat}
theorem SubInv.at (h : SubInv s e l i L P X Y) (hi : i < l.length) : L[i]? = some l[i] := by
  obtain ⟨h1, h2, _⟩ := h
  rw [h1, drop_cons hi, List.getElem?_append_right (by simp; omega)]
  simp only [List.length_append, h2, Nat.sub_self]
  rfl
theorem SubInv.len (h : SubInv s e l i L P X Y) (hi : i ≤ l.length) : L.length = l.length := by
  obtain ⟨h1, h2, _⟩ := h
  rw [h1]
  simp only [List.length_append, List.length_drop]
  omega
theorem canonB_next {r : Int × Int} {t : Rgs} (h : CanonB none (r :: t)) : r.1 < r.2 ∧ CanonB none t ∧ ∀ q ∈ t, r.2 < q.1 := by
  refine ⟨h.2.1, canonB_weak h.2.2 (by simp), fun q hq => ?_⟩
  have go : ∀ (t : Rgs) (a : Int), CanonB (some a) t → ∀ q ∈ t, a < q.1 := by
    intro t
    induction t with
    | nil => intro a _ q hq; cases hq
    | cons x t ih =>
      intro a h q hq
      have h1 := h.1 a rfl
      rcases List.mem_cons.1 hq with rfl | hq
      · exact h1
      · have := ih x.2 h.2.2 q hq
        have := h.2.1
        omega
  exact go t r.2 h.2.2 q hq
theorem SubInv.open_ (h : SubInv s e l i L P X Y) (hi : i < l.length) : l[i].1 < l[i].2 ∧ CanonB none (l.drop (i + 1)) ∧ (∀ q ∈ l.drop (i + 1), l[i].2 < q.1) ∧ (X ≠ [] → s < l[i].1) ∧ (Y ≠ [] → e < l[i].1) := by
  obtain ⟨_, _, _, h4, h5, h6⟩ := h
  rw [drop_cons hi] at h4 h5 h6
  have := canonB_next h4
  exact ⟨this.1, this.2.1, this.2.2, fun hx => h5 hx _ (List.mem_cons_self ..), fun hy => h6 hy _ (List.mem_cons_self ..)⟩
theorem cutAB_eq (P X R : Rgs) : cutAB (P ++ X ++ R) P.length (P.length + X.length) = P ++ R := by
  unfold cutAB
  rw [List.append_assoc, List.take_left, ← List.append_assoc, ← List.length_append, List.drop_left]
/-- The loop stops. -/
theorem SubInv.done (h : SubInv s e l i L P X Y) (hs : ∀ hi : i < l.length, e < l[i].1) : subP s e l = cutAB L P.length (P.length + X.length) := by
  have h' := h
  obtain ⟨h1, h2, h3, h4, h5, h6⟩ := h
  have e1 : subP s e (l.drop i) = l.drop i := by
    by_cases hi : i < l.length
    · rw [drop_cons hi]
      conv => lhs; unfold subP
      rw [if_pos (hs hi)]
    · rw [List.drop_eq_nil_of_le (by omega)]; rfl
  rw [h3, e1, h1, List.append_assoc (P ++ X), cutAB_eq]
  simp
theorem SubInv.step {r : Int × Int} {R : Rgs} {P' X' Y' : Rgs} (h : SubInv s e l i L P X Y) (hi : i < l.length) (hse : s < e) (h1 : ¬ e < l[i].1) (hL : P' ++ X' ++ Y' = P ++ X ++ Y ++ [r]) (hS : P ++ Y ++ R = P' ++ Y') (hR : subP s e (l.drop i) = R ++ subP s e (l.drop (i + 1)))
    (hx : X' ≠ [] → ∀ q ∈ l.drop (i + 1), s < q.1) (hy : Y' ≠ [] → ∀ q ∈ l.drop (i + 1), e < q.1) : SubInv s e l (i + 1) (L.set i r) P' X' Y' := by
  have ho := h.open_ hi
  obtain ⟨a1, a2, a3, a4, a5, a6⟩ := h
  refine ⟨?_, ?_, ?_, ho.2.1, hx, hy⟩
  · rw [a1, drop_cons hi, hL, List.set_append_right _ _ (by simp; omega)]
    simp only [List.length_append, a2, Nat.sub_self, List.set_cons_zero]
    simp
  · have := congrArg List.length hL
    simp only [List.length_append, List.length_cons, List.length_nil] at this
    omega
  · rw [a3, hR, ← List.append_assoc, hS]
theorem SubInv.noY (h : SubInv s e l i L P X Y) (hi : i < l.length) (h1 : ¬ e < l[i].1) : Y = [] := by
  by_cases hy : Y = []
  · exact hy
  · exact absurd ((h.open_ hi).2.2.2.2 hy) h1
theorem SubInv.noX (h : SubInv s e l i L P X Y) (hi : i < l.length) (h1 : ¬ s < l[i].1) : X = [] := by
  by_cases hx : X = []
  · exact hx
  · exact absurd ((h.open_ hi).2.2.2.1 hx) h1
theorem SubInv.set_self (h : SubInv s e l i L P X Y) (hi : i < l.length) : L.set i l[i] = L := by
  have hg := h.at hi
  obtain ⟨hlt, he⟩ := List.getElem?_eq_some_iff.1 hg
  rw [← he]
  exact List.set_getElem_self hlt
/-- A range that lies ahead. -/
theorem SubInv.skip (h : SubInv s e l i L P X Y) (hi : i < l.length) (hse : s < e) (h1 : ¬ e < l[i].1) (h2 : l[i].2 < s) : SubInv s e l (i + 1) L (P ++ [l[i]]) [] [] ∧ X = [] ∧ Y = [] := by
  have ho := h.open_ hi
  obtain rfl := h.noY hi h1
  obtain rfl := h.noX hi (by omega)
  have := h.step (r := l[i]) (R := [l[i]]) (P' := P ++ [l[i]]) (X' := []) (Y' := []) hi hse h1 (by simp) (by simp) (by
    rw [drop_cons hi]
    conv => lhs; unfold subP
    rw [if_neg h1, if_pos h2]
    rfl) (by simp) (by simp)
  rw [h.set_self hi] at this
  exact ⟨this, rfl, rfl⟩
/-- A range that goes whole. -/
theorem SubInv.whole (h : SubInv s e l i L P X Y) (hi : i < l.length) (hse : s < e) (h1 : ¬ e < l[i].1) (h2 : ¬ l[i].2 < s) (h3 : s ≤ l[i].1) (h4 : l[i].2 ≤ e) : SubInv s e l (i + 1) L P (X ++ [l[i]]) [] ∧ Y = [] := by
  have ho := h.open_ hi
  obtain rfl := h.noY hi h1
  have := h.step (r := l[i]) (R := []) (P' := P) (X' := X ++ [l[i]]) (Y' := []) hi hse h1 (by simp) (by simp) (by
    rw [drop_cons hi]
    conv => lhs; unfold subP
    rw [if_neg h1, if_neg h2, if_pos ⟨h3, h4⟩]
    rfl) (fun _ q hq => by have := ho.2.2.1 q hq; omega) (by simp)
  rw [h.set_self hi] at this
  exact ⟨this, rfl⟩
/-- A range whose head goes. -/
theorem SubInv.head (h : SubInv s e l i L P X Y) (hi : i < l.length) (hse : s < e) (h1 : ¬ e < l[i].1) (h2 : ¬ l[i].2 < s) (h3 : s ≤ l[i].1) (h4 : ¬ l[i].2 ≤ e) : SubInv s e l (i + 1) (L.set i (e, l[i].2)) P X [(e, l[i].2)] := by
  have ho := h.open_ hi
  obtain rfl := h.noY hi h1
  exact h.step (R := [(e, l[i].2)]) hi hse h1 (by simp) (by simp) (by
    rw [drop_cons hi]
    conv => lhs; unfold subP
    rw [if_neg h1, if_neg h2, if_neg (by omega), if_pos h3]
    rfl) (fun hx q hq => by have := ho.2.2.1 q hq; have := ho.2.2.2.1 hx; omega) (fun _ q hq => by have := ho.2.2.1 q hq; omega)
/-- A range whose end goes. -/
theorem SubInv.tail (h : SubInv s e l i L P X Y) (hi : i < l.length) (hse : s < e) (h1 : ¬ e < l[i].1) (h2 : ¬ l[i].2 < s) (h3 : ¬ s ≤ l[i].1) (h4 : l[i].2 ≤ e) : SubInv s e l (i + 1) (L.set i (l[i].1, s)) (P ++ [(l[i].1, s)]) [] [] ∧ X = [] ∧ Y = [] := by
  have ho := h.open_ hi
  obtain rfl := h.noY hi h1
  obtain rfl := h.noX hi (by omega)
  exact ⟨h.step (R := [(l[i].1, s)]) hi hse h1 (by simp) (by simp) (by
    rw [drop_cons hi]
    conv => lhs; unfold subP
    rw [if_neg h1, if_neg h2, if_neg (by omega), if_neg h3, if_pos h4]
    rfl) (by simp) (by simp), rfl, rfl⟩
/-- A range that is cut in two. -/
theorem SubInv.mid (h : SubInv s e l i L P X Y) (hi : i < l.length) (hse : s < e) (h1 : ¬ e < l[i].1) (h2 : ¬ l[i].2 < s) (h3 : ¬ s ≤ l[i].1) (h4 : ¬ l[i].2 ≤ e) : subP s e l = (L.set i (l[i].1, s)).take (i + 1) ++ [(e, l[i].2)] ++ (L.set i (l[i].1, s)).drop (i + 1) := by
  have ho := h.open_ hi
  obtain rfl := h.noY hi h1
  obtain rfl := h.noX hi (by omega)
  obtain ⟨a1, a2, a3, a4, a5, a6⟩ := h
  have hP : P.length = i := by simpa using a2
  have e1 : L.set i (l[i].1, s) = (P ++ [(l[i].1, s)]) ++ l.drop (i + 1) := by
    rw [a1, drop_cons hi, List.set_append_right _ _ (by simp; omega)]
    simp only [List.append_nil, hP, Nat.sub_self, List.set_cons_zero, List.append_assoc, List.cons_append, List.nil_append]
  have e2 : (P ++ [(l[i].1, s)]).length = i + 1 := by simp [hP]
  rw [e1, a3, drop_cons hi, ← e2, List.take_left, List.drop_left, e2]
  conv => lhs; unfold subP
  rw [if_neg h1, if_neg h2, if_neg (by omega), if_neg h3, if_neg h4]
  simp
end

theorem swallow_len : ∀ (l : Rgs) (e : Int), (swallow e l).2.length ≤ l.length := by
  intro l
  induction l with
  | nil => intro e; simp [swallow]
  | cons r l ih =>
    intro e
    unfold swallow
    split
    · have := ih (if e < r.2 then r.2 else e)
      simp only [List.length_cons]
      omega
    · exact Nat.le_refl _
theorem addP_len : ∀ (l : Rgs) (s e : Int), (addP s e l).length ≤ l.length + 1 := by
  intro l
  induction l with
  | nil => intro s e; simp [addP]
  | cons r l ih =>
    intro s e
    unfold addP
    split
    · simp
    split
    · have := ih s e
      simp only [List.length_cons]
      omega
    split
    · simp
    · have := swallow_len l e
      simp only [List.length_cons]
      omega
theorem subP_len : ∀ (l : Rgs) (s e : Int), (subP s e l).length ≤ l.length + 1 := by
  intro l
  induction l with
  | nil => intro s e; simp [subP]
  | cons r l ih =>
    intro s e
    have := ih s e
    unfold subP
    split
    · simp
    split
    · simp only [List.length_cons]; omega
    split
    · simp only [List.length_cons]; omega
    split
    · simp only [List.length_cons]; omega
    split
    · simp only [List.length_cons]; omega
    · simp
theorem stepP_len (S : Rgs) (o : Opr) : (stepP S o).length ≤ S.length + 1 := by
  unfold stepP
  split
  · exact subP_len S _ _
  split
  · omega
  · exact addP_len S _ _
theorem setP_take (l : List Opr) (k : Nat) (h : k < l.length) : setP (l.take (k + 1)) = stepP (setP (l.take k)) l[k] := by
  unfold setP
  rw [take_snoc h, List.foldl_append]
  rfl
theorem setP_len (l : List Opr) : ∀ k, k ≤ l.length → (setP (l.take k)).length ≤ k := by
  intro k
  induction k with
  | zero => intro _; simp [setP]
  | succ k ih =>
    intro h
    rw [setP_take l k (by omega)]
    have := ih (by omega)
    have := stepP_len (setP (l.take k)) (l[k]'(by omega))
    omega
/-- The ops are ones that the statement lets in. -/
def OpsOk (l : List Opr) : Prop := ∀ o ∈ l, o.st ≤ o.en ∧ (o.sub = true → o.st < o.en)
theorem OpsOk.take {l : List Opr} (h : OpsOk l) (k : Nat) : OpsOk (l.take k) := fun o ho => h o (List.mem_of_mem_take ho)
theorem OpsOk.canon {l : List Opr} (h : OpsOk l) : Canon (setP l) := (setP_spec l h).1

end Go.Proofs.Ytggcnepdeaijoaa

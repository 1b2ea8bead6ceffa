/- What spec.Ranges does, step by step: the plain law of its loops. No program. Conditions: none. -/
import Derived.Test.YtdogepkfgobcfaaSetSpec
import Derived.Test.YtdogepkfgobcfaaSetStep
namespace Go.Proofs.Ytdogepkfgobcfaa
set_option linter.unusedVariables false

theorem insC_skip (x : Int) : ∀ (A R : List Int), (∀ a ∈ A, a < x) → insC x (A ++ R) = A ++ insC x R := by
  intro A
  induction A with
  | nil => intro R _; rfl
  | cons a A ih =>
    intro R h
    rw [List.cons_append, List.cons_append, insC, if_pos (h a (List.mem_cons_self ..)), ih R fun b hb => h b (List.mem_cons_of_mem _ hb)]
/-- Where a number is laid into the cuts. -/
theorem insC_at {x : Int} {D : List Int} {k : Nat} (hs : D.Pairwise (· < ·)) (hk : k ≤ D.length) (h1 : k = 0 ∨ ∃ h : k - 1 < D.length, D[k - 1] < x) (h2 : ∀ h : k < D.length, x ≤ D[k]) :
    ((∃ h : k < D.length, D[k] = x) → insC x D = D) ∧ ((∀ h : k < D.length, ¬ D[k] = x) → insC x D = D.take k ++ [x] ++ D.drop k) := by
  have hA : ∀ a ∈ D.take k, a < x := by
    intro a ha
    obtain ⟨i, hi, rfl⟩ := List.mem_iff_getElem.1 ha
    rw [List.length_take] at hi
    rw [List.getElem_take]
    rcases h1 with h1 | ⟨hlt, h1⟩
    · omega
    · rcases Nat.eq_or_lt_of_le (show i ≤ k - 1 by omega) with rfl | hik
      · exact h1
      · have := List.pairwise_iff_getElem.1 hs i (k - 1) (by omega) hlt hik
        omega
  have e : insC x D = D.take k ++ insC x (D.drop k) := by
    conv => lhs; rw [← List.take_append_drop k D]
    exact insC_skip x _ _ hA
  constructor
  · rintro ⟨h, hx⟩
    rw [e, drop_cons h, insC, if_neg (by omega), if_pos hx, ← drop_cons h, List.take_append_drop]
  · intro hn
    rw [e]
    by_cases h : k < D.length
    · have := h2 h
      rw [drop_cons h, insC, if_neg (by omega), if_neg (hn h)]
      simp
    · rw [List.drop_eq_nil_of_le (by omega), List.append_nil]
      rfl

/-- The cuts behind j of an op's two numbers. -/
def insN (o : Opr) (C : List Int) : Nat → List Int
  | 0 => C
  | 1 => insC o.st C
  | _ => insC o.en (insC o.st C)
def elt (o : Opr) (j : Nat) : Int := if j = 0 then o.st else o.en
theorem insN_succ (o : Opr) (C : List Int) (j : Nat) (h : j < 2) : insN o C (j + 1) = insC (elt o j) (insN o C j) := by
  match j, h with
  | 0, _ => rfl
  | 1, _ => rfl
theorem insN_sorted (o : Opr) {C : List Int} (h : C.Pairwise (· < ·)) : ∀ j, (insN o C j).Pairwise (· < ·)
  | 0 => h
  | 1 => insC_sorted _ _ h
  | _ + 2 => insC_sorted _ _ (insC_sorted _ _ h)
theorem cutsP_take (l : List Opr) (k : Nat) (h : k < l.length) : cutsP (l.take (k + 1)) = insN l[k] (cutsP (l.take k)) 2 := by
  unfold cutsP
  rw [take_snoc h, List.foldl_append]
  rfl
theorem insC_len (x : Int) : ∀ l : List Int, (insC x l).length ≤ l.length + 1 := by
  intro l
  induction l with
  | nil => simp [insC]
  | cons a l ih =>
    unfold insC
    split
    · simp only [List.length_cons]; omega
    · split <;> simp
theorem insN_len (o : Opr) (C : List Int) (j : Nat) : (insN o C j).length ≤ C.length + 2 := by
  have a := insC_len o.st C
  have b := insC_len o.en (insC o.st C)
  match j with
  | 0 => exact Nat.le_add_right _ _
  | 1 => show (insC o.st C).length ≤ _; omega
  | _ + 2 => show (insC o.en (insC o.st C)).length ≤ _; omega
theorem cutsP_len (l : List Opr) : ∀ k, k ≤ l.length → (cutsP (l.take k)).length ≤ 2 * k := by
  intro k
  induction k with
  | zero => intro _; simp [cutsP]
  | succ k ih =>
    intro h
    rw [cutsP_take l k (by omega)]
    have := ih (by omega)
    have := insN_len (l[k]'(by omega)) (cutsP (l.take k)) 2
    omega

theorem runs_snoc (f : Int → Bool) : ∀ (L : List Int) (acc : Rgs) (a b : Int), runs f acc a (L ++ [b]) = ext f (runs f acc a L) ((a :: L).getLast (by simp)) b := by
  intro L
  induction L with
  | nil => intro acc a b; rfl
  | cons x L ih =>
    intro acc a b
    rw [List.cons_append]
    show runs f (ext f acc a x) x (L ++ [b]) = _
    rw [ih]
    rfl
/-- The runs up to cut k - 1. -/
def runSt (f : Int → Bool) (C : List Int) (k : Nat) : Rgs := match C with | [] => [] | c :: r => runs f [] c (r.take (k - 1))
theorem runSt_one (f : Int → Bool) (C : List Int) : runSt f C 1 = [] := by
  cases C <;> simp [runSt, runs]
theorem runSt_succ (f : Int → Bool) {C : List Int} {k : Nat} (h1 : 1 ≤ k) (h : k < C.length) : runSt f C (k + 1) = ext f (runSt f C k) (C[k - 1]'(by omega)) C[k] := by
  cases C with
  | nil => simp at h
  | cons c r =>
    obtain ⟨j, rfl⟩ : ∃ j, k = j + 1 := ⟨k - 1, by omega⟩
    have hj : j < r.length := by simpa using h
    show runs f [] c (r.take (j + 1 + 1 - 1)) = ext f (runs f [] c (r.take (j + 1 - 1))) _ _
    have e1 : r.take (j + 1 + 1 - 1) = r.take j ++ [r[j]] := take_snoc hj
    rw [e1, runs_snoc]
    congr 1
    rw [List.getLast_eq_getElem]
    simp only [List.length_cons, List.length_take, Nat.add_sub_cancel, Nat.min_eq_left (Nat.le_of_lt hj)]
    cases j with
    | zero => rfl
    | succ j => simp
theorem runSt_all (l : List Opr) (k : Nat) (h : (cutsP l).length ≤ k) : runSt (has l) (cutsP l) k = specR l := by
  unfold runSt specR
  cases hc : cutsP l with
  | nil => rfl
  | cons c r =>
    rw [hc] at h
    show runs (has l) [] c (r.take (k - 1)) = runs (has l) [] c r
    rw [List.take_of_length_le (by simp at h; omega)]
theorem runSt_len (f : Int → Bool) (C : List Int) : ∀ k, k ≤ C.length → (runSt f C k).length ≤ k := by
  intro k
  induction k with
  | zero => intro _; cases C <;> simp [runSt, runs]
  | succ k ih =>
    intro h
    rcases Nat.eq_zero_or_pos k with rfl | hk
    · rw [runSt_one]; simp
    · rw [runSt_succ f hk (by omega)]
      have := ih (by omega)
      unfold ext
      split
      · split
        · rename_i r hr
          have hpos : 0 < (runSt f C k).length := by
            cases hq : runSt f C k with
            | nil => rw [hq] at hr; cases hr
            | cons _ _ => simp
          split
          · simp; omega
          · simp; omega
        · simp
      · omega
/-- A run more, by cases. -/
theorem ext_no {f : Int → Bool} (acc : Rgs) {a : Int} (b : Int) (h : f a = false) : ext f acc a b = acc := by
  unfold ext; rw [if_neg (by simp [h])]
theorem ext_nil {f : Int → Bool} {a : Int} (b : Int) (h : f a = true) : ext f [] a b = [(a, b)] := by
  unfold ext; rw [if_pos h]; rfl
theorem ext_join {f : Int → Bool} {acc : Rgs} {a : Int} (b : Int) (h : f a = true) (hl : 0 < acc.length) (he : (acc[acc.length - 1]'(by omega)).2 = a) : ext f acc a b = acc.set (acc.length - 1) ((acc[acc.length - 1]'(by omega)).1, b) := by
  unfold ext
  have hg : acc.getLast? = some (acc[acc.length - 1]'(by omega)) := by rw [List.getLast?_eq_getElem?, List.getElem?_eq_getElem (by omega)]
  rw [if_pos h, hg]
  simp only
  rw [if_pos he, set_eq (by omega), List.drop_eq_nil_of_le (by omega), List.dropLast_eq_take]
theorem ext_new {f : Int → Bool} {acc : Rgs} {a : Int} (b : Int) (h : f a = true) (hl : 0 < acc.length) (he : ¬ (acc[acc.length - 1]'(by omega)).2 = a) : ext f acc a b = acc ++ [(a, b)] := by
  unfold ext
  have hg : acc.getLast? = some (acc[acc.length - 1]'(by omega)) := by rw [List.getLast?_eq_getElem?, List.getElem?_eq_getElem (by omega)]
  rw [if_pos h, hg]
  simp only
  rw [if_neg he]

theorem ext_last (f : Int → Bool) {acc : Rgs} {a : Int} (b : Int) (h : f a = true) (hl : acc.length - 1 < acc.length) :
    ((acc[acc.length - 1]).2 = a → ext f acc a b = acc.set (acc.length - 1) ((acc[acc.length - 1]).1, b)) ∧ (¬ (acc[acc.length - 1]).2 = a → ext f acc a b = acc ++ [(a, b)]) :=
  ⟨fun he => ext_join b h (by omega) he, fun he => ext_new b h (by omega) he⟩

/-- What an append of one and a copy up by one make of a list. -/
def insG {α : Type} (z : α) (l : List α) (i : Nat) : List α := (l ++ [z]).take (i + 1) ++ ((l ++ [z]).drop i).take (l.length - i) ++ (l ++ [z]).drop (i + 1 + (l.length - i))
theorem insG_spec {α : Type} (z : α) (l : List α) (i : Nat) (hi : i ≤ l.length) (x : α) : (insG z l i).length = l.length + 1 ∧ (insG z l i).set i x = l.take i ++ [x] ++ l.drop i := by
  have e1 : (l ++ [z]).drop (i + 1 + (l.length - i)) = [] := List.drop_eq_nil_of_le (by simp; omega)
  have e2 : ((l ++ [z]).drop i).take (l.length - i) = l.drop i := by
    rw [List.drop_append_of_le_length hi, List.take_append_of_le_length (by simp), List.take_of_length_le (by simp)]
  have hlt : i < (l ++ [z]).length := by simp; omega
  have e3 : (l ++ [z]).take (i + 1) = l.take i ++ [(l ++ [z])[i]] := by
    rw [take_snoc hlt, List.take_append_of_le_length hi]
  unfold insG
  rw [e1, e2, e3]
  generalize (l ++ [z])[i] = y
  have hl : (l.take i).length = i := by simp; omega
  constructor
  · simp; omega
  · rw [List.append_nil, List.append_assoc, List.set_append_right _ _ (by omega), hl]
    simp

end Go.Proofs.Ytdogepkfgobcfaa

/- contains, rangeContaining and the law's own search, on lists: the plain law. No program. Conditions: none. -/
import Derived.Test.YtdogepkfgobcfaaSetCuts
namespace Go.Proofs.Ytdogepkfgobcfaa
set_option linter.unusedVariables false

def contP (v : Int) : Rgs → Bool
  | [] => false
  | r :: l => if r.2 ≤ v then contP v l else decide (r.1 ≤ v)
def rcP (v : Int) : Rgs → Int × Int
  | [] => (0, 0)
  | r :: l => if r.2 ≤ v then rcP v l else if r.1 ≤ v then r else (0, 0)
def lastP (v : Int) (acc : Int × Int) (l : Rgs) : Int × Int := l.foldl (fun a r => if r.1 ≤ v ∧ v < r.2 then r else a) acc

theorem canon_tail {r : Int × Int} {l : Rgs} (h : Canon (r :: l)) : Canon l ∧ r.1 < r.2 ∧ ∀ q ∈ l, r.2 < q.1 := by
  have := canonB_next h
  exact ⟨this.2.1, this.1, this.2.2⟩
theorem contP_in (v : Int) : ∀ l : Rgs, Canon l → (contP v l = true ↔ In v l) := by
  intro l
  induction l with
  | nil => intro _; simp [contP, In]
  | cons r l ih =>
    intro h
    obtain ⟨h1, h2, h3⟩ := canon_tail h
    rw [in_cons]
    unfold contP
    split
    · rename_i c
      rw [ih h1]
      constructor
      · exact .inr
      · rintro (h4 | h4)
        · omega
        · exact h4
    · rename_i c
      constructor
      · intro h4
        have := of_decide_eq_true h4
        exact .inl ⟨this, by omega⟩
      · rintro (h4 | ⟨q, hq, h4⟩)
        · exact decide_eq_true h4.1
        · have := h3 q hq
          omega
theorem lastP_out (v : Int) (acc : Int × Int) : ∀ l : Rgs, (∀ q ∈ l, v < q.1) → lastP v acc l = acc := by
  intro l
  induction l with
  | nil => intro _; rfl
  | cons r l ih =>
    intro h
    unfold lastP
    rw [List.foldl_cons, if_neg (by have := h r (List.mem_cons_self ..); omega)]
    exact ih fun q hq => h q (List.mem_cons_of_mem _ hq)
theorem lastP_rc (v : Int) : ∀ l : Rgs, Canon l → lastP v (0, 0) l = rcP v l := by
  intro l
  induction l with
  | nil => intro _; rfl
  | cons r l ih =>
    intro h
    obtain ⟨h1, h2, h3⟩ := canon_tail h
    have e : lastP v (0, 0) (r :: l) = lastP v (if r.1 ≤ v ∧ v < r.2 then r else (0, 0)) l := rfl
    have e2 : rcP v (r :: l) = if r.2 ≤ v then rcP v l else if r.1 ≤ v then r else (0, 0) := rfl
    rw [e, e2]
    by_cases c : r.2 ≤ v
    · rw [if_pos c, if_neg (by omega)]
      exact ih h1
    · rw [if_neg c]
      by_cases c2 : r.1 ≤ v
      · rw [if_pos ⟨c2, by omega⟩, if_pos c2]
        exact lastP_out v r l fun q hq => by have := h3 q hq; omega
      · rw [if_neg (fun x => c2 x.1), if_neg c2]
        exact lastP_out v _ l fun q hq => by have := h3 q hq; omega
theorem lastP_take (v : Int) (acc : Int × Int) (l : Rgs) (k : Nat) (h : k < l.length) : lastP v acc (l.take (k + 1)) = if l[k].1 ≤ v ∧ v < l[k].2 then l[k] else lastP v acc (l.take k) := by
  unfold lastP
  rw [take_snoc h, List.foldl_append]
  rfl
theorem contP_drop (v : Int) {l : Rgs} {k : Nat} (h : k < l.length) : contP v (l.drop k) = if l[k].2 ≤ v then contP v (l.drop (k + 1)) else decide (l[k].1 ≤ v) := by
  rw [drop_cons h]; rfl
theorem rcP_drop (v : Int) {l : Rgs} {k : Nat} (h : k < l.length) : rcP v (l.drop k) = if l[k].2 ≤ v then rcP v (l.drop (k + 1)) else if l[k].1 ≤ v then l[k] else (0, 0) := by
  rw [drop_cons h]; rfl
/-- What the program's set says of a number is what the last op whose range has it says. -/
theorem cont_has (l : List Opr) (h : OpsOk l) (v : Int) : contP v (setP l) = has l v := by
  rw [Bool.eq_iff_iff, contP_in v _ h.canon]
  exact (setP_spec l h).2 v

/-- How many numbers, as int64 reckons. -/
def totP (l : Rgs) : Int := l.foldl (fun a r => wrap64' (a + wrap64' (r.2 - r.1))) 0
where wrap64' (x : Int) : Int := (x + 9223372036854775808) % 18446744073709551616 - 9223372036854775808
theorem totP_take (l : Rgs) (k : Nat) (h : k < l.length) : totP (l.take (k + 1)) = totP.wrap64' (totP (l.take k) + totP.wrap64' (l[k].2 - l[k].1)) := by
  unfold totP
  rw [take_snoc h, List.foldl_append]
  rfl

end Go.Proofs.Ytdogepkfgobcfaa

/- Sets of numbers as ordered lists of ranges: the plain law. No program. Conditions: none. -/
import Derived.Test.YtggcnepdeaijoaaPure
namespace Go.Proofs.Ytggcnepdeaijoaa
set_option linter.unusedVariables false

abbrev Rgs := List (Int × Int)
/-- x lies in one of the ranges. -/
def In (x : Int) (l : Rgs) : Prop := ∃ r ∈ l, r.1 ≤ x ∧ x < r.2
/-- In order, none empty, none touching the next; all behind lo. -/
def CanonB : Option Int → Rgs → Prop
  | _, [] => True
  | lo, r :: l => (∀ a, lo = some a → a < r.1) ∧ r.1 < r.2 ∧ CanonB (some r.2) l
def Canon (l : Rgs) : Prop := CanonB none l

theorem in_nil (x : Int) : ¬ In x [] := fun ⟨r, h, _⟩ => by cases h
theorem in_cons (x : Int) (r : Int × Int) (l : Rgs) : In x (r :: l) ↔ (r.1 ≤ x ∧ x < r.2) ∨ In x l := by
  simp [In]
theorem canonB_weak {a : Int} {lo : Option Int} {l : Rgs} (h : CanonB (some a) l) (hlo : ∀ b, lo = some b → b ≤ a) : CanonB lo l := by
  cases l with
  | nil => trivial
  | cons r l => exact ⟨fun b hb => by have := hlo b hb; have := h.1 a rfl; omega, h.2.1, h.2.2⟩
theorem in_gt {a x : Int} {l : Rgs} (h : CanonB (some a) l) (hx : In x l) : a < x := by
  induction l generalizing a with
  | nil => exact absurd hx (in_nil x)
  | cons r l ih =>
    rcases (in_cons x r l).1 hx with h1 | h1
    · have := h.1 a rfl; omega
    · have h2 := ih h.2.2 h1
      have := h.1 a rfl
      have := h.2.1
      omega

/-- Two lists in order with the same numbers are the same. -/
theorem canon_unique : ∀ (l l' : Rgs) (lo lo' : Option Int), CanonB lo l → CanonB lo' l' → (∀ x, In x l ↔ In x l') → l = l' := by
  intro l
  induction l with
  | nil =>
    intro l' lo lo' _ h' he
    cases l' with
    | nil => rfl
    | cons r l' =>
      have := (he r.1).2 ((in_cons _ _ _).2 (.inl ⟨by omega, h'.2.1⟩))
      exact absurd this (in_nil _)
  | cons r l ih =>
    intro l' lo lo' h h' he
    cases l' with
    | nil =>
      have := (he r.1).1 ((in_cons _ _ _).2 (.inl ⟨by omega, h.2.1⟩))
      exact absurd this (in_nil _)
    | cons r' l' =>
      have hr := h.2.1
      have hr' := h'.2.1
      -- the first numbers
      have e1 : r.1 = r'.1 := by
        have a := (he r.1).1 ((in_cons _ _ _).2 (.inl ⟨by omega, hr⟩))
        have b := (he r'.1).2 ((in_cons _ _ _).2 (.inl ⟨by omega, hr'⟩))
        have a' : r'.1 ≤ r.1 := by
          rcases (in_cons _ _ _).1 a with a | a
          · exact a.1
          · have := in_gt h'.2.2 a; omega
        have b' : r.1 ≤ r'.1 := by
          rcases (in_cons _ _ _).1 b with b | b
          · exact b.1
          · have := in_gt h.2.2 b; omega
        omega
      have e2 : r.2 = r'.2 := by
        rcases Int.lt_trichotomy r.2 r'.2 with c | c | c
        · have a := (he r.2).2 ((in_cons _ _ _).2 (.inl ⟨by omega, c⟩))
          rcases (in_cons _ _ _).1 a with a | a
          · omega
          · have := in_gt h.2.2 a; omega
        · exact c
        · have a := (he r'.2).1 ((in_cons _ _ _).2 (.inl ⟨by omega, c⟩))
          rcases (in_cons _ _ _).1 a with a | a
          · omega
          · have := in_gt h'.2.2 a; omega
      have er : r = r' := Prod.ext e1 e2
      subst er
      congr 1
      refine ih l' _ _ h.2.2 h'.2.2 fun x => ?_
      constructor
      · intro hx
        have g := in_gt h.2.2 hx
        rcases (in_cons _ _ _).1 ((he x).1 ((in_cons _ _ _).2 (.inr hx))) with a | a
        · omega
        · exact a
      · intro hx
        have g := in_gt h'.2.2 hx
        rcases (in_cons _ _ _).1 ((he x).2 ((in_cons _ _ _).2 (.inr hx))) with a | a
        · omega
        · exact a

/-- What the loop over the later ranges does: those that the range up to e reaches are taken into it. -/
def swallow (e : Int) : Rgs → Int × Rgs
  | [] => (e, [])
  | r :: l => if r.1 ≤ e then swallow (if e < r.2 then r.2 else e) l else (e, r :: l)
/-- rangeset.add of a range that is not empty. -/
def addP (s e : Int) : Rgs → Rgs
  | [] => [(s, e)]
  | r :: l => if e < r.1 then (s, e) :: r :: l
      else if r.2 < s then r :: addP s e l
      else if e ≤ r.2 then (min s r.1, r.2) :: l
      else (min s r.1, (swallow e l).1) :: (swallow e l).2

theorem swallow_spec : ∀ (l : Rgs) (e a : Int), CanonB (some a) l → a ≤ e →
    e ≤ (swallow e l).1 ∧ CanonB (some (swallow e l).1) (swallow e l).2 ∧ ∀ x, a ≤ x → (x < e ∨ In x l ↔ x < (swallow e l).1 ∨ In x (swallow e l).2) := by
  intro l
  induction l with
  | nil => intro e a _ _; exact ⟨by simp [swallow], trivial, fun x _ => by simp [swallow]⟩
  | cons r l ih =>
    intro e a h hae
    have h1 := h.1 a rfl
    have h2 := h.2.1
    unfold swallow
    split
    · rename_i hre
      have hi : r.2 ≤ (if e < r.2 then r.2 else e) := by split <;> omega
      have he : e ≤ (if e < r.2 then r.2 else e) := by split <;> omega
      have h3 := ih _ r.2 h.2.2 hi
      refine ⟨by omega, h3.2.1, fun x hx => ?_⟩
      rw [in_cons]
      by_cases hxr : r.2 ≤ x
      · have := h3.2.2 x hxr
        rw [← this]
        constructor
        · rintro (c | c | c)
          · exact .inl (by omega)
          · omega
          · exact .inr c
        · rintro (c | c)
          · by_cases he2 : e < r.2
            · rw [if_pos he2] at c; omega
            · rw [if_neg he2] at c; exact .inl c
          · exact .inr (.inr c)
      · constructor
        · intro _
          exact .inl (by omega)
        · intro _
          by_cases hx1 : r.1 ≤ x
          · exact .inr (.inl ⟨hx1, by omega⟩)
          · exact .inl (by omega)
    · rename_i hre
      exact ⟨Int.le_refl _, ⟨fun b hb => by cases hb; omega, h2, h.2.2⟩, fun x _ => Iff.rfl⟩

theorem addP_spec : ∀ (l : Rgs) (s e : Int) (lo : Option Int), CanonB lo l → s < e → (∀ a, lo = some a → a < s) →
    CanonB lo (addP s e l) ∧ ∀ x, In x (addP s e l) ↔ (s ≤ x ∧ x < e) ∨ In x l := by
  intro l
  induction l with
  | nil => intro s e lo _ hse hlo; exact ⟨⟨hlo, hse, trivial⟩, fun x => by simp [addP, In]⟩
  | cons r l ih =>
    intro s e lo h hse hlo
    have h2 := h.2.1
    unfold addP
    split
    · rename_i c1
      exact ⟨⟨hlo, hse, fun b hb => by cases hb; omega, h2, h.2.2⟩, fun x => by rw [in_cons]⟩
    split
    · rename_i c1 c2
      have h3 := ih s e (some r.2) h.2.2 hse (fun a ha => by cases ha; omega)
      refine ⟨⟨h.1, h2, h3.1⟩, fun x => ?_⟩
      rw [in_cons, in_cons, h3.2 x]
      constructor
      · rintro (c | c | c)
        · exact .inr (.inl c)
        · exact .inl c
        · exact .inr (.inr c)
      · rintro (c | c | c)
        · exact .inr (.inl c)
        · exact .inl c
        · exact .inr (.inr c)
    have hmin : min s r.1 ≤ s ∧ min s r.1 ≤ r.1 ∧ (min s r.1 = s ∨ min s r.1 = r.1) := by omega
    have hlo' : ∀ a, lo = some a → a < min s r.1 := fun a ha => by have := hlo a ha; have := h.1 a ha; omega
    split
    · rename_i c1 c2 c3
      refine ⟨⟨hlo', by show min s r.1 < r.2; omega, h.2.2⟩, fun x => ?_⟩
      rw [in_cons, in_cons]
      constructor
      · rintro (c | c)
        · have : (s ≤ x ∧ x < e) ∨ (r.1 ≤ x ∧ x < r.2) := by simp only at c; omega
          rcases this with c | c
          · exact .inl c
          · exact .inr (.inl c)
        · exact .inr (.inr c)
      · rintro (c | c | c)
        · exact .inl (by simp only; omega)
        · exact .inl (by simp only; omega)
        · exact .inr c
    · rename_i c1 c2 c3
      have h3 := swallow_spec l e r.2 h.2.2 (by omega)
      refine ⟨⟨hlo', by show min s r.1 < (swallow e l).1; have := h3.1; omega, h3.2.1⟩, fun x => ?_⟩
      rw [in_cons, in_cons]
      by_cases hx : r.2 ≤ x
      · have h4 := h3.2.2 x hx
        constructor
        · intro hh
          have : x < (swallow e l).1 ∨ In x (swallow e l).2 := hh.imp (fun c => c.2) id
          rcases h4.2 this with c | c
          · exact .inl ⟨by omega, c⟩
          · exact .inr (.inr c)
        · intro hh
          have : x < e ∨ In x l := by
            rcases hh with c | c | c
            · exact .inl c.2
            · omega
            · exact .inr c
          exact (h4.1 this).imp (fun c => ⟨by simp only; omega, c⟩) id
      · have h5 : ¬ In x (swallow e l).2 := fun c => by have := in_gt h3.2.1 c; have := h3.1; omega
        have h6 : ¬ In x l := fun c => by have := in_gt h.2.2 c; omega
        have := h3.1
        constructor
        · rintro (c | c)
          · have : (s ≤ x ∧ x < e) ∨ (r.1 ≤ x ∧ x < r.2) := by simp only at c; omega
            rcases this with c | c
            · exact .inl c
            · exact .inr (.inl c)
          · exact absurd c h5
        · rintro (c | c | c)
          · exact .inl (by simp only; omega)
          · exact .inl (by simp only; omega)
          · exact absurd c h6

/-- rangeset.sub of a range that is not empty. -/
def subP (s e : Int) : Rgs → Rgs
  | [] => []
  | r :: l => if e < r.1 then r :: l
      else if r.2 < s then r :: subP s e l
      else if s ≤ r.1 ∧ r.2 ≤ e then subP s e l
      else if s ≤ r.1 then (e, r.2) :: subP s e l
      else if r.2 ≤ e then (r.1, s) :: subP s e l
      else (r.1, s) :: (e, r.2) :: l

theorem subP_spec : ∀ (l : Rgs) (s e : Int) (lo : Option Int), CanonB lo l → s < e →
    CanonB lo (subP s e l) ∧ ∀ x, In x (subP s e l) ↔ In x l ∧ ¬ (s ≤ x ∧ x < e) := by
  intro l
  induction l with
  | nil => intro s e lo _ _; exact ⟨trivial, fun x => by simp [subP, In]⟩
  | cons r l ih =>
    intro s e lo h hse
    have h2 := h.2.1
    have h3 := ih s e (some r.2) h.2.2 hse
    have hgt : ∀ x, In x l → r.2 < x := fun x => in_gt h.2.2
    unfold subP
    split
    · rename_i c1
      refine ⟨h, fun x => ?_⟩
      rw [in_cons]
      constructor
      · rintro (c | c)
        · exact ⟨.inl c, by omega⟩
        · have := hgt x c; exact ⟨.inr c, by omega⟩
      · exact fun c => c.1
    split
    · rename_i c1 c2
      refine ⟨⟨h.1, h2, h3.1⟩, fun x => ?_⟩
      rw [in_cons, in_cons, h3.2 x]
      constructor
      · rintro (c | c)
        · exact ⟨.inl c, by omega⟩
        · exact ⟨.inr c.1, c.2⟩
      · rintro ⟨c | c, d⟩
        · exact .inl c
        · exact .inr ⟨c, d⟩
    split
    · rename_i c1 c2 c3
      refine ⟨canonB_weak h3.1 (fun b hb => by have := h.1 b hb; omega), fun x => ?_⟩
      rw [in_cons, h3.2 x]
      constructor
      · exact fun c => ⟨.inr c.1, c.2⟩
      · rintro ⟨c | c, d⟩
        · omega
        · exact ⟨c, d⟩
    split
    · rename_i c1 c2 c3 c4
      refine ⟨⟨fun a ha => by have := h.1 a ha; show a < e; omega, by show e < r.2; omega, h3.1⟩, fun x => ?_⟩
      rw [in_cons, in_cons, h3.2 x]
      constructor
      · rintro (c | c)
        · simp only at c
          exact ⟨.inl (by omega), by omega⟩
        · exact ⟨.inr c.1, c.2⟩
      · rintro ⟨c | c, d⟩
        · exact .inl (by simp only; omega)
        · exact .inr ⟨c, d⟩
    split
    · rename_i c1 c2 c3 c4 c5
      refine ⟨⟨h.1, by show r.1 < s; omega, canonB_weak h3.1 (fun b hb => by cases hb; show s ≤ r.2; omega)⟩, fun x => ?_⟩
      rw [in_cons, in_cons, h3.2 x]
      constructor
      · rintro (c | c)
        · simp only at c
          exact ⟨.inl (by omega), by omega⟩
        · exact ⟨.inr c.1, c.2⟩
      · rintro ⟨c | c, d⟩
        · exact .inl (by simp only; omega)
        · exact .inr ⟨c, d⟩
    · rename_i c1 c2 c3 c4 c5
      refine ⟨⟨h.1, by show r.1 < s; omega, fun a ha => by cases ha; show s < e; omega, by show e < r.2; omega, h.2.2⟩, fun x => ?_⟩
      rw [in_cons, in_cons, in_cons]
      constructor
      · rintro (c | c | c)
        · simp only at c
          exact ⟨.inl (by omega), by omega⟩
        · simp only at c
          exact ⟨.inl (by omega), by omega⟩
        · have := hgt x c
          exact ⟨.inr c, by omega⟩
      · rintro ⟨c | c, d⟩
        · by_cases hx : x < s
          · exact .inl (by simp only; omega)
          · exact .inr (.inl (by simp only; omega))
        · exact .inr (.inr c)

/-- One op: what it adds or takes. -/
structure Opr where
  sub : Bool
  st : Int
  en : Int
/-- spec.Has: the last op whose range has x has added it. -/
def hasF : Bool → List Opr → Int → Bool
  | b, [], _ => b
  | b, o :: l, x => hasF (if o.st ≤ x ∧ x < o.en then !o.sub else b) l x
def has (l : List Opr) (x : Int) : Bool := hasF false l x
theorem hasF_append (l l' : List Opr) (b : Bool) (x : Int) : hasF b (l ++ l') x = hasF (hasF b l x) l' x := by
  induction l generalizing b with
  | nil => rfl
  | cons o l ih => exact ih _

/-- What one op makes of a set. -/
def stepP (S : Rgs) (o : Opr) : Rgs := if o.sub then subP o.st o.en S else if o.st = o.en then S else addP o.st o.en S
def setP (l : List Opr) : Rgs := l.foldl stepP []

theorem stepP_spec {S : Rgs} {o : Opr} (h : Canon S) (ho : o.st ≤ o.en) (hs : o.sub = true → o.st < o.en) :
    Canon (stepP S o) ∧ ∀ x, In x (stepP S o) ↔ (if o.st ≤ x ∧ x < o.en then o.sub = false else In x S) := by
  unfold stepP
  cases hb : o.sub
  · simp only [Bool.false_eq_true, if_false]
    split
    · rename_i c
      exact ⟨h, fun x => by rw [if_neg (by omega)]⟩
    · rename_i c
      have := addP_spec S o.st o.en none h (by omega) (fun a ha => by cases ha)
      refine ⟨this.1, fun x => ?_⟩
      rw [this.2 x]
      split
      · rename_i c; simp [c]
      · rename_i c; simp [c]
  · simp only [if_true]
    have := subP_spec S o.st o.en none h (hs hb)
    refine ⟨this.1, fun x => ?_⟩
    rw [this.2 x]
    split
    · rename_i c; simp [c]
    · rename_i c; simp [c]

theorem fold_spec : ∀ (l : List Opr) (S : Rgs) (f : Int → Bool), Canon S → (∀ x, In x S ↔ f x = true) → (∀ o ∈ l, o.st ≤ o.en ∧ (o.sub = true → o.st < o.en)) →
    Canon (l.foldl stepP S) ∧ ∀ x, In x (l.foldl stepP S) ↔ hasF (f x) l x = true := by
  intro l
  induction l with
  | nil => intro S f h hf _; exact ⟨h, hf⟩
  | cons o l ih =>
    intro S f h hf ho
    have h1 := ho o (List.mem_cons_self ..)
    have h2 := stepP_spec h h1.1 h1.2
    refine ih (stepP S o) (fun x => if o.st ≤ x ∧ x < o.en then !o.sub else f x) h2.1 (fun x => ?_) (fun o' ho' => ho o' (List.mem_cons_of_mem _ ho'))
    rw [h2.2 x]
    split
    · simp
    · exact hf x

/-- The set behind ops. -/
theorem setP_spec (l : List Opr) (ho : ∀ o ∈ l, o.st ≤ o.en ∧ (o.sub = true → o.st < o.en)) : Canon (setP l) ∧ ∀ x, In x (setP l) ↔ has l x = true :=
  fold_spec l [] (fun _ => false) trivial (fun x => by simp [In]) ho

end Go.Proofs.Ytggcnepdeaijoaa

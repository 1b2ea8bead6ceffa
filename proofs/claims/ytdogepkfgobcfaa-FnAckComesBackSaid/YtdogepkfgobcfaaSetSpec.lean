/- What spec.Ranges does: cuts in order, then the runs between them: the plain law. No program. Conditions: none. -/
import Derived.Test.YtdogepkfgobcfaaSet
namespace Go.Proofs.Ytdogepkfgobcfaa
set_option linter.unusedVariables false

theorem canonB_iff : ∀ (l : Rgs) (lo : Option Int), CanonB lo l ↔ (∀ r ∈ l, r.1 < r.2 ∧ ∀ a, lo = some a → a < r.1) ∧ l.Pairwise (fun a b => a.2 < b.1) := by
  intro l
  induction l with
  | nil => intro lo; simp [CanonB]
  | cons r l ih =>
    intro lo
    rw [List.pairwise_cons]
    unfold CanonB
    rw [ih]
    constructor
    · rintro ⟨h1, h2, h3, h4⟩
      refine ⟨fun r' hr' => ?_, fun r' hr' => (h3 r' hr').2 _ rfl, h4⟩
      rcases List.mem_cons.1 hr' with rfl | hr'
      · exact ⟨h2, h1⟩
      · have := h3 r' hr'
        exact ⟨this.1, fun a ha => by have := h1 a ha; have := this; have := (h3 r' hr').2 _ rfl; omega⟩
    · rintro ⟨h1, h2, h3⟩
      refine ⟨(h1 r (List.mem_cons_self ..)).2, (h1 r (List.mem_cons_self ..)).1, fun r' hr' => ⟨(h1 r' (List.mem_cons_of_mem _ hr')).1, fun a ha => by cases ha; exact h2 r' hr'⟩, h3⟩
theorem canon_iff (l : Rgs) : Canon l ↔ (∀ r ∈ l, r.1 < r.2) ∧ l.Pairwise (fun a b => a.2 < b.1) := by
  unfold Canon
  rw [canonB_iff]
  simp
theorem canon_snoc {l : Rgs} {r : Int × Int} (h : Canon l) (hr : r.1 < r.2) (hl : ∀ r' ∈ l, r'.2 < r.1) : Canon (l ++ [r]) := by
  rw [canon_iff] at h ⊢
  refine ⟨fun r' hr' => ?_, ?_⟩
  · rcases List.mem_append.1 hr' with h' | h'
    · exact h.1 r' h'
    · obtain rfl : r' = r := by simpa using h'
      exact hr
  · rw [List.pairwise_append]
    exact ⟨h.2, by simp, fun a ha b hb => by obtain rfl : b = r := by simpa using hb
                                             exact hl a ha⟩
theorem canon_snoc_inv {l : Rgs} {r : Int × Int} (h : Canon (l ++ [r])) : Canon l ∧ r.1 < r.2 ∧ ∀ r' ∈ l, r'.2 < r.1 := by
  rw [canon_iff, List.pairwise_append] at h
  exact ⟨(canon_iff l).2 ⟨fun r' hr' => h.1 r' (by simp [hr']), h.2.1⟩, h.1 r (by simp), fun r' hr' => h.2.2.2 r' hr' r (by simp)⟩
theorem in_snoc (x : Int) (l : Rgs) (r : Int × Int) : In x (l ++ [r]) ↔ In x l ∨ (r.1 ≤ x ∧ x < r.2) := by
  unfold In
  constructor
  · rintro ⟨r', h, h1⟩
    rcases List.mem_append.1 h with h | h
    · exact .inl ⟨r', h, h1⟩
    · obtain rfl : r' = r := by simpa using h
      exact .inr h1
  · rintro (⟨r', h, h1⟩ | h)
    · exact ⟨r', by simp [h], h1⟩
    · exact ⟨r, by simp, h⟩

/-- A number laid into the cuts. -/
def insC (c : Int) : List Int → List Int
  | [] => [c]
  | a :: l => if a < c then a :: insC c l else if a = c then a :: l else c :: a :: l
def cutsP (ops : List Opr) : List Int := ops.foldl (fun l o => insC o.en (insC o.st l)) []

theorem mem_insC (c x : Int) : ∀ l : List Int, x ∈ insC c l ↔ x = c ∨ x ∈ l := by
  intro l
  induction l with
  | nil => simp [insC]
  | cons a l ih =>
    unfold insC
    split
    · rw [List.mem_cons, ih, List.mem_cons]
      constructor
      · rintro (h | h | h) <;> simp [h]
      · rintro (h | h | h) <;> simp [h]
    · split
      · rename_i h; subst h; simp
      · simp
theorem insC_sorted (c : Int) : ∀ l : List Int, l.Pairwise (· < ·) → (insC c l).Pairwise (· < ·) := by
  intro l
  induction l with
  | nil => intro _; simp [insC]
  | cons a l ih =>
    intro h
    rw [List.pairwise_cons] at h
    unfold insC
    split
    · rename_i hac
      rw [List.pairwise_cons]
      refine ⟨fun x hx => ?_, ih h.2⟩
      rcases (mem_insC c x l).1 hx with rfl | hx
      · exact hac
      · exact h.1 x hx
    · split
      · rw [List.pairwise_cons]; exact h
      · rw [List.pairwise_cons, List.pairwise_cons]
        refine ⟨fun x hx => ?_, h⟩
        rcases List.mem_cons.1 hx with rfl | hx
        · omega
        · have := h.1 x hx; omega

theorem cuts_spec (ops : List Opr) : (cutsP ops).Pairwise (· < ·) ∧ ∀ o ∈ ops, o.st ∈ cutsP ops ∧ o.en ∈ cutsP ops := by
  have go : ∀ (ops : List Opr) (l : List Int), l.Pairwise (· < ·) → (ops.foldl (fun l o => insC o.en (insC o.st l)) l).Pairwise (· < ·) ∧ (∀ x ∈ l, x ∈ ops.foldl (fun l o => insC o.en (insC o.st l)) l) ∧ ∀ o ∈ ops, o.st ∈ ops.foldl (fun l o => insC o.en (insC o.st l)) l ∧ o.en ∈ ops.foldl (fun l o => insC o.en (insC o.st l)) l := by
    intro ops
    induction ops with
    | nil => intro l h; exact ⟨h, fun x hx => hx, fun o ho => by cases ho⟩
    | cons o ops ih =>
      intro l h
      have h1 := ih (insC o.en (insC o.st l)) (insC_sorted _ _ (insC_sorted _ _ h))
      refine ⟨h1.1, fun x hx => h1.2.1 x ((mem_insC _ _ _).2 (.inr ((mem_insC _ _ _).2 (.inr hx)))), fun o' ho' => ?_⟩
      rcases List.mem_cons.1 ho' with rfl | ho'
      · exact ⟨h1.2.1 _ ((mem_insC _ _ _).2 (.inr ((mem_insC _ _ _).2 (.inl rfl)))), h1.2.1 _ ((mem_insC _ _ _).2 (.inl rfl))⟩
      · exact h1.2.2 o' ho'
  have := go ops [] List.Pairwise.nil
  exact ⟨this.1, this.2.2⟩

/-- One run more. -/
def ext (f : Int → Bool) (acc : Rgs) (a b : Int) : Rgs :=
  if f a then (match acc.getLast? with
    | some r => if r.2 = a then acc.dropLast ++ [(r.1, b)] else acc ++ [(a, b)]
    | none => [(a, b)]) else acc
def runs (f : Int → Bool) : Rgs → Int → List Int → Rgs
  | acc, _, [] => acc
  | acc, a, b :: r => runs f (ext f acc a b) b r
def specR (ops : List Opr) : Rgs := match cutsP ops with | [] => [] | c :: r => runs (has ops) [] c r

/-- What holds of the runs up to a. -/
def RunOk (f : Int → Bool) (acc : Rgs) (a : Int) : Prop := Canon acc ∧ (∀ r ∈ acc, r.2 ≤ a) ∧ ∀ x, In x acc ↔ f x = true ∧ x < a

theorem ext_ok {f : Int → Bool} {acc : Rgs} {a b : Int} (h : RunOk f acc a) (hab : a < b) (hf : ∀ x, a ≤ x → x < b → f x = f a) : RunOk f (ext f acc a b) b := by
  obtain ⟨h1, h2, h3⟩ := h
  have hsplit : ∀ x, (f x = true ∧ x < b) ↔ (f x = true ∧ x < a) ∨ (f a = true ∧ a ≤ x ∧ x < b) := by
    intro x
    constructor
    · rintro ⟨p, q⟩
      by_cases hx : x < a
      · exact .inl ⟨p, hx⟩
      · exact .inr ⟨by rw [← hf x (by omega) q]; exact p, by omega, q⟩
    · rintro (⟨p, q⟩ | ⟨p, q, r⟩)
      · exact ⟨p, by omega⟩
      · exact ⟨by rw [hf x q r]; exact p, r⟩
  unfold ext
  split
  · rename_i hfa
    cases hl : acc.getLast? with
    | none =>
      have e : acc = [] := by simpa using hl
      subst e
      refine ⟨⟨by simp, hab, trivial⟩, fun r hr => by obtain rfl : r = (a, b) := by simpa using hr
                                                      exact Int.le_refl _, fun x => ?_⟩
      rw [hsplit x, in_cons, ← h3 x]
      simp [hfa, In]
    | some r =>
      obtain ⟨pre, rfl⟩ : ∃ pre, acc = pre ++ [r] := by
        rw [List.getLast?_eq_some_iff] at hl
        exact hl
      have hc := canon_snoc_inv h1
      simp only [List.dropLast_concat]
      split
      · rename_i hra
        refine ⟨canon_snoc hc.1 (by show r.1 < b; have := hc.2.1; omega) (fun r' hr' => hc.2.2 r' hr'), fun r' hr' => ?_, fun x => ?_⟩
        · rcases List.mem_append.1 hr' with h' | h'
          · have := h2 r' (by simp [h']); omega
          · obtain rfl : r' = (r.1, b) := by simpa using h'
            exact Int.le_refl _
        · rw [hsplit x, ← h3 x, in_snoc, in_snoc]
          have := hc.2.1
          constructor
          · rintro (p | ⟨p, q⟩)
            · exact .inl (.inl p)
            · by_cases hx : x < a
              · exact .inl (.inr ⟨p, by omega⟩)
              · exact .inr ⟨hfa, by omega, q⟩
          · rintro ((p | ⟨p, q⟩) | ⟨_, p, q⟩)
            · exact .inl p
            · exact .inr ⟨p, by show x < b; omega⟩
            · exact .inr ⟨by show r.1 ≤ x; omega, q⟩
      · rename_i hra
        have hra' : r.2 < a := by have := h2 r (by simp); omega
        refine ⟨canon_snoc h1 hab (fun r' hr' => ?_), fun r' hr' => ?_, fun x => ?_⟩
        · rcases List.mem_append.1 hr' with h' | h'
          · have := hc.2.2 r' h'; have := hc.2.1; show r'.2 < a; omega
          · obtain rfl : r' = r := by simpa using h'
            exact hra'
        · rcases List.mem_append.1 hr' with h' | h'
          · have := h2 r' h'; omega
          · obtain rfl : r' = (a, b) := by simpa using h'
            exact Int.le_refl _
        · rw [hsplit x, ← h3 x, in_snoc x (pre ++ [r]) (a, b)]
          simp [hfa]
  · rename_i hfa
    refine ⟨h1, fun r hr => by have := h2 r hr; omega, fun x => ?_⟩
    rw [hsplit x, h3 x]
    simp [hfa]

theorem runs_ok {f : Int → Bool} : ∀ (r : List Int) (acc : Rgs) (a : Int), RunOk f acc a → (a :: r).Pairwise (· < ·) →
    (∀ x y, a ≤ x → x ≤ y → (∀ c ∈ r, ¬ (x < c ∧ c ≤ y)) → f x = f y) → ∃ z, RunOk f (runs f acc a r) z ∧ a ≤ z ∧ (∀ c ∈ r, c ≤ z) := by
  intro r
  induction r with
  | nil => intro acc a h _ _; exact ⟨a, h, Int.le_refl _, by simp⟩
  | cons b r ih =>
    intro acc a h hs hf
    rw [List.pairwise_cons] at hs
    have hab := hs.1 b (List.mem_cons_self ..)
    have hs2 := hs.2
    rw [List.pairwise_cons] at hs2
    have h1 := ext_ok h hab (fun x h1 h2 => (hf a x (Int.le_refl _) h1 (fun c hc => by
      rcases List.mem_cons.1 hc with rfl | hc
      · omega
      · have := hs2.1 c hc; omega)).symm)
    obtain ⟨z, h2, h3, h4⟩ := ih (ext f acc a b) b h1 hs.2 (fun x y hx hxy hc => by
      refine hf x y (by omega) hxy fun c hc' => ?_
      rcases List.mem_cons.1 hc' with rfl | hc'
      · omega
      · exact hc c hc')
    exact ⟨z, h2, by omega, fun c hc => by
      rcases List.mem_cons.1 hc with rfl | hc
      · exact h3
      · exact h4 c hc⟩

theorem hasF_same {x y : Int} : ∀ (ops : List Opr) (b : Bool), (∀ o ∈ ops, (o.st ≤ x ∧ x < o.en) ↔ (o.st ≤ y ∧ y < o.en)) → hasF b ops x = hasF b ops y := by
  intro ops
  induction ops with
  | nil => intro b _; rfl
  | cons o ops ih =>
    intro b h
    unfold hasF
    have h1 := h o (List.mem_cons_self ..)
    rw [show (if o.st ≤ x ∧ x < o.en then !o.sub else b) = (if o.st ≤ y ∧ y < o.en then !o.sub else b) by simp only [h1]]
    exact ih _ fun o' ho' => h o' (List.mem_cons_of_mem _ ho')
theorem hasF_out {x : Int} : ∀ (ops : List Opr) (b : Bool), (∀ o ∈ ops, ¬ (o.st ≤ x ∧ x < o.en)) → hasF b ops x = b := by
  intro ops
  induction ops with
  | nil => intro b _; rfl
  | cons o ops ih =>
    intro b h
    unfold hasF
    rw [if_neg (h o (List.mem_cons_self ..))]
    exact ih _ fun o' ho' => h o' (List.mem_cons_of_mem _ ho')

/-- spec.Ranges: in order, and with the numbers that spec.Has tells. -/
theorem specR_spec (ops : List Opr) : Canon (specR ops) ∧ ∀ x, In x (specR ops) ↔ has ops x = true := by
  obtain ⟨hs, hm⟩ := cuts_spec ops
  unfold specR
  cases hc : cutsP ops with
  | nil =>
    refine ⟨trivial, fun x => ?_⟩
    have e : ops = [] := by
      cases ops with
      | nil => rfl
      | cons o ops => have := (hm o (List.mem_cons_self ..)).1; rw [hc] at this; cases this
    subst e
    simp [In, has, hasF]
  | cons c r =>
    rw [hc] at hs hm
    have hs' := List.pairwise_cons.1 hs
    have hmin : ∀ t ∈ c :: r, c ≤ t := fun t ht => by
      rcases List.mem_cons.1 ht with rfl | ht
      · exact Int.le_refl _
      · have := hs'.1 t ht; omega
    have h0 : RunOk (has ops) [] c := by
      refine ⟨trivial, by simp, fun x => ?_⟩
      constructor
      · exact fun h => absurd h (in_nil x)
      · rintro ⟨h, hx⟩
        have : has ops x = false := hasF_out ops false fun o ho => by have := hmin _ (hm o ho).1; omega
        rw [this] at h
        cases h
    obtain ⟨z, h1, h2, h3⟩ := runs_ok r [] c h0 hs (fun x y hx hxy hcut => hasF_same ops false fun o ho => by
      have key : ∀ t ∈ c :: r, ¬ (x < t ∧ t ≤ y) := fun t ht => by
        rcases List.mem_cons.1 ht with rfl | ht
        · omega
        · exact hcut t ht
      have a := key _ (hm o ho).1
      have b := key _ (hm o ho).2
      omega)
    refine ⟨h1.1, fun x => ?_⟩
    rw [h1.2.2 x]
    constructor
    · exact fun h => h.1
    · intro h
      refine ⟨h, ?_⟩
      rcases Int.lt_or_le x z with hx | hx
      · exact hx
      · have : has ops x = false := hasF_out ops false fun o ho => by
          have : o.en ≤ z := by
            rcases List.mem_cons.1 (hm o ho).2 with h | h
            · omega
            · exact h3 _ h
          omega
        rw [this] at h
        cases h

/-- What the program's set holds is what the reference's ranges are. -/
theorem set_eq_spec (ops : List Opr) (ho : ∀ o ∈ ops, o.st ≤ o.en ∧ (o.sub = true → o.st < o.en)) : setP ops = specR ops := by
  have h1 := setP_spec ops ho
  have h2 := specR_spec ops
  exact canon_unique _ _ none none h1.1 h2.1 fun x => by rw [h1.2 x, h2.2 x]

end Go.Proofs.Ytdogepkfgobcfaa

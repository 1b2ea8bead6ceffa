/- What an acknowledgement's bytes are read as: the plain law. No program. Conditions: none. -/
import Derived.Test.YtggcnepdeaijoaaPure
import Derived.Test.YtggcnepdeaijoaaSetStep
namespace Go.Proofs.Ytggcnepdeaijoaa
set_option linter.unusedVariables false

/-- The number at place k, and the place behind it. -/
def nm (l : List Int) (k : Nat) : Option (Int × Nat) := match rv (l.drop k) with
  | none => none
  | some (v, m) => some (v, k + m)
theorem nm_none {l : List Int} {k : Nat} (h : rv (l.drop k) = none) : nm l k = none := by simp [nm, h]
theorem nm_some {l : List Int} {k : Nat} {v : Int} {m : Nat} (h : rv (l.drop k) = some (v, m)) : nm l k = some (v, k + m) := by simp [nm, h]
theorem nm_bd {l : List Int} {k : Nat} {v : Int} {k1 : Nat} (hl : Bs l) (h : nm l k = some (v, k1)) : 0 ≤ v ∧ v ≤ 4611686018427387903 ∧ k + 1 ≤ k1 ∧ k1 ≤ k + 8 ∧ k1 ≤ l.length := by
  unfold nm at h
  cases hv : rv (l.drop k) with
  | none => rw [hv] at h; cases h
  | some p =>
    obtain ⟨v', m⟩ := p
    rw [hv] at h
    simp only [Option.some.injEq, Prod.mk.injEq] at h
    obtain ⟨rfl, rfl⟩ := h
    have := rv_bd (hl.drop k) hv
    rw [List.length_drop] at this
    omega

/-- The ranges behind the first one: so many of them, behind least, from place k on. -/
def ackG (l : List Int) : Nat → Int → Nat → Option (Rgs × Nat)
  | 0, _, k => some ([], k)
  | c + 1, least, k => match nm l k with
    | none => none
    | some (gap, k1) => match nm l k1 with
      | none => none
      | some (len, k2) => if least - gap - 2 < len then none else match ackG l c (least - gap - 2 - len) k2 with
        | none => none
        | some (R, k') => some ((least - gap - 2 - len, least - gap - 2 + 1) :: R, k')
/-- A range whose greatest number is M, and c ranges behind it. -/
def ackM (l : List Int) (c : Nat) (M : Int) (k : Nat) : Option (Rgs × Nat) := match nm l k with
  | none => none
  | some (len, k1) => if M < len then none else match ackG l c (M - len) k1 with
    | none => none
    | some (R, k') => some ((M - len, M + 1) :: R, k')
theorem ackG_succ (l : List Int) (c : Nat) (least : Int) (k : Nat) : ackG l (c + 1) least k = match nm l k with
    | none => none
    | some (gap, k1) => ackM l c (least - gap - 2) k1 := by
  show (match nm l k with
    | none => none
    | some (gap, k1) => match nm l k1 with
      | none => none
      | some (len, k2) => if least - gap - 2 < len then none else match ackG l c (least - gap - 2 - len) k2 with
        | none => none
        | some (R, k') => some ((least - gap - 2 - len, least - gap - 2 + 1) :: R, k')) = _
  cases nm l k <;> rfl
/-- What came before, and the rest. -/
def joinR (acc : Rgs) (r : Option (Rgs × Nat)) : Option (Rgs × Nat) := match r with
  | none => none
  | some (R, k) => some (acc ++ R, k)
theorem joinR_nil (r : Option (Rgs × Nat)) : joinR [] r = r := by cases r <;> rfl
theorem ackM_none {l : List Int} {c : Nat} {M : Int} {k : Nat} (h : nm l k = none) : ackM l c M k = none := by simp [ackM, h]
theorem ackM_short {l : List Int} {c : Nat} {M : Int} {k : Nat} {len : Int} {k1 : Nat} (h : nm l k = some (len, k1)) (hs : M < len) : ackM l c M k = none := by simp [ackM, h, hs]
theorem ackM_some {l : List Int} {c : Nat} {M : Int} {k : Nat} {len : Int} {k1 : Nat} (acc : Rgs) (h : nm l k = some (len, k1)) (hs : ¬ M < len) : joinR acc (ackM l c M k) = joinR (acc ++ [(M - len, M + 1)]) (ackG l c (M - len) k1) := by
  simp only [ackM, h, if_neg hs]
  cases ackG l c (M - len) k1 with
  | none => rfl
  | some p => obtain ⟨R, k'⟩ := p; simp [joinR]
theorem ackG_zero (l : List Int) (least : Int) (k : Nat) (acc : Rgs) : joinR acc (ackG l 0 least k) = some (acc, k) := by simp [ackG, joinR]

/-- What an acknowledgement tells. -/
structure AckR where
  rs : Rgs
  lg : Int
  dl : Int
  e0 : Int
  e1 : Int
  e2 : Int
  n : Nat
/-- The counts behind the ranges, of a frame of type 3. -/
def ecnP (l : List Int) (rs : Rgs) (lg dl : Int) (k : Nat) : Option AckR :=
  if l.getD 0 0 = 3 then match nm l k with
    | none => none
    | some (e0, k1) => match nm l k1 with
      | none => none
      | some (e1, k2) => match nm l k2 with
        | none => none
        | some (e2, k3) => some ⟨rs, lg, dl, e0, e1, e2, k3⟩
  else some ⟨rs, lg, dl, 0, 0, 0, k⟩
def ackP (l : List Int) : Option AckR := match nm l 1 with
  | none => none
  | some (lg, k1) => match nm l k1 with
    | none => none
    | some (dl, k2) => match nm l k2 with
      | none => none
      | some (ct, k3) => match ackM l ct.toNat lg k3 with
        | none => none
        | some (R, k) => ecnP l R lg dl k
theorem ackP_1 {l : List Int} (h : nm l 1 = none) : ackP l = none := by simp [ackP, h]
theorem ackP_2 {l : List Int} {lg : Int} {k1 : Nat} (h1 : nm l 1 = some (lg, k1)) (h : nm l k1 = none) : ackP l = none := by simp [ackP, h1, h]
theorem ackP_3 {l : List Int} {lg dl : Int} {k1 k2 : Nat} (h1 : nm l 1 = some (lg, k1)) (h2 : nm l k1 = some (dl, k2)) (h : nm l k2 = none) : ackP l = none := by simp [ackP, h1, h2, h]
theorem ackP_4 {l : List Int} {lg dl ct : Int} {k1 k2 k3 : Nat} (h1 : nm l 1 = some (lg, k1)) (h2 : nm l k1 = some (dl, k2)) (h3 : nm l k2 = some (ct, k3)) :
    ackP l = match ackM l ct.toNat lg k3 with
        | none => none
        | some (R, k) => ecnP l R lg dl k := by simp [ackP, h1, h2, h3]
def finP (l : List Int) (lg dl : Int) (T : Option (Rgs × Nat)) : Option AckR := match T with
  | none => none
  | some (R, k) => ecnP l R lg dl k
theorem ackP_join {l : List Int} {v1 v2 v3 : Int} {k1 k2 k3 : Nat} (e1 : nm l 1 = some (v1, k1)) (e2 : nm l k1 = some (v2, k2)) (e3 : nm l k2 = some (v3, k3)) {T : Option (Rgs × Nat)} (hT : joinR [] (ackM l v3.toNat v1 k3) = T) : ackP l = finP l v1 v2 T := by
  rw [joinR_nil] at hT
  rw [ackP_4 e1 e2 e3, hT]
  rfl

/-- The law's own bound: numbers in a range. -/
theorem ecnP_no {l : List Int} (rs : Rgs) (lg dl : Int) (k : Nat) (h : ¬ l.getD 0 0 = 3) : ecnP l rs lg dl k = some ⟨rs, lg, dl, 0, 0, 0, k⟩ := if_neg h

end Go.Proofs.Ytggcnepdeaijoaa

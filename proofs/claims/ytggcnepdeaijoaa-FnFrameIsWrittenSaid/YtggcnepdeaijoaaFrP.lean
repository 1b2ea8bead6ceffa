/- What a frame's bytes are read as: the plain law. No program. Conditions: none. -/
import Derived.Test.YtggcnepdeaijoaaAckSet
import Derived.Test.YtggcnepdeaijoaaCvb
namespace Go.Proofs.Ytggcnepdeaijoaa
set_option linter.unusedVariables false

/-- A number below 2^62. -/
def N62 (v : Int) : Prop := 0 ≤ v ∧ v ≤ 4611686018427387903
/-- The bytes behind a length at place k, and the place behind them. -/
def vbs (l : List Int) (k : Nat) : Option (List Int × Nat) := match rvb (l.drop k) with
  | none => none
  | some (bs, m) => some (bs, k + m)
theorem vbs_none {l : List Int} {k : Nat} (h : rvb (l.drop k) = none) : vbs l k = none := by simp [vbs, h]
theorem vbs_some {l : List Int} {k : Nat} {bs : List Int} {m : Nat} (h : rvb (l.drop k) = some (bs, m)) : vbs l k = some (bs, k + m) := by simp [vbs, h]

/-- A frame: its numbers, its data, its length. -/
abbrev FR := List Int × List (List Int) × Nat
def P1 (l : List Int) : Option FR := match nm l 1 with
  | none => none
  | some (a, k) => some ([a], [], k)
def P2 (l : List Int) : Option FR := match nm l 1 with
  | none => none
  | some (a, k) => match nm l k with
    | none => none
    | some (b, k') => some ([a, b], [], k')
def P3 (l : List Int) : Option FR := match nm l 1 with
  | none => none
  | some (a, k) => match nm l k with
    | none => none
    | some (b, k') => match nm l k' with
      | none => none
      | some (c, k'') => some ([a, b, c], [], k'')
/-- Of streams: which kind, how many; with the bound, and without. -/
def Pms (y : Int) (l : List Int) : Option FR := match nm l 1 with
  | none => none
  | some (a, k) => if 1152921504606846976 < a then none else some ([y, a], [], k)
def Psb (y : Int) (l : List Int) : Option FR := match nm l 1 with
  | none => none
  | some (a, k) => some ([y, a], [], k)
def Pcr (l : List Int) : Option FR := match nm l 1 with
  | none => none
  | some (a, k) => match vbs l k with
    | none => none
    | some (bs, k') => some ([a], [bs], k')
def Ptk (l : List Int) : Option FR := match vbs l 1 with
  | none => none
  | some (bs, k) => if bs.length = 0 then none else some ([], [bs], k)
def Pct (l : List Int) : Option FR := match nm l 1 with
  | none => none
  | some (a, k) => match nm l k with
    | none => none
    | some (b, k') => match vbs l k' with
      | none => none
      | some (bs, k'') => some ([a, b], [bs], k'')
def Ppc (l : List Int) : Option FR := if l.length < 9 then none else some ([], [(l.drop 1).take 8], 9)
def Pid (l : List Int) : Option FR := match nm l 1 with
  | none => none
  | some (a, k) => match nm l k with
    | none => none
    | some (b, k') => if a < b then none else match vbs l k' with
      | none => none
      | some (bs, k'') => if bs.length < 1 ∨ 20 < bs.length then none else if l.length < k'' + 16 then none else some ([a, b], [bs, (l.drop k'').take 16], k'' + 16)
/-- A stream's frame of type t. -/
def Pof (t : Int) (l : List Int) (k : Nat) : Option (Int × Nat) := if t / 4 % 2 = 1 then nm l k else some (0, k)
def Pda (t : Int) (l : List Int) (k : Nat) : Option (List Int × Nat) := if t / 2 % 2 = 1 then vbs l k else some (l.drop k, l.length)
def Pst (t : Int) (l : List Int) : Option FR := match nm l 1 with
  | none => none
  | some (a, k) => match Pof t l k with
    | none => none
    | some (b, k') => match Pda t l k' with
      | none => none
      | some (bs, k'') => if 4611686018427387904 ≤ b + bs.length then none else some ([a, b, t % 2], [bs], k'')
/-- A frame of bytes l whose first byte is t, as the program reads it. -/
def frT (t : Int) (l : List Int) : Option FR :=
  if t = 4 then P3 l
  else if t = 5 ∨ t = 17 ∨ t = 21 then P2 l
  else if t = 6 then Pcr l
  else if t = 7 then Ptk l
  else if 8 ≤ t ∧ t < 16 then Pst t l
  else if t = 16 ∨ t = 20 ∨ t = 25 then P1 l
  else if t = 18 ∨ t = 19 then Pms (t % 2) l
  else if t = 22 ∨ t = 23 then Psb (t % 2) l
  else if t = 24 then Pid l
  else if t = 26 ∨ t = 27 then Ppc l
  else if t = 28 then Pct l
  else if t = 29 then Pcr l
  else none

end Go.Proofs.Ytggcnepdeaijoaa

/- Words for memory: a slice of bytes that reads as a list; laws that carry it over new blocks, draws and cuts. Conditions: none. -/
import Derived.Test.YtdjdcpcomhjnjaaDoorRows
import Derived.Test.YtdjdcpcomhjnjaaDoorPure
import Derived.WalkKit
import Derived.WalkSpells
import Derived.WalkLawsBesides
import Derived.Deep.QuietTactic
import Derived.BigQuiet
import Derived.Lib.Hide
namespace Go.Proofs.YtdjdcpcomhjnjaaDoor
open Go.RowKit
set_option linter.unusedVariables false

/-- The slice value at the address A reads, from its head on, as the bytes l. Where there is no byte nothing is said of A. -/
def Rd (w : World) (A : Option Addr) (l : List Int) : Prop :=
  Bs l ∧ (0 < l.length → ∃ b o, A = some ⟨b, o, none⟩ ∧ ∀ i, i < l.length → w.cell? ⟨b, o + i, none⟩ = some (.int .u8 (l.getD i 0)))

theorem Rd.bs {w : World} {A : Option Addr} {l : List Int} (h : Rd w A l) : Bs l := h.1
theorem Rd.nil (w : World) (A : Option Addr) : Rd w A [] := ⟨Bs.nil, fun h => by simp at h⟩
theorem Rd.keep {w w' : World} {A : Option Addr} {l : List Int} (h : Rd w A l) (hk : ∀ p : Addr, p.block < w.heap.size → w'.cell? p = w.cell? p) : Rd w' A l := by
  refine ⟨h.1, fun hl => ?_⟩
  obtain ⟨b, o, e, hc⟩ := h.2 hl
  exact ⟨b, o, e, fun i hi => by rw [hk _ (World.block_lt_of_cell? _ _ (hc i hi))]; exact hc i hi⟩
theorem Rd.below {w w' : World} {A : Option Addr} {l : List Int} (h : Rd w A l) (hb : Below w.heap.size w w') : Rd w' A l := h.keep fun _ hp => hb.cell hp
theorem Rd.drewN {w : World} {A : Option Addr} {l : List Int} (h : Rd w A l) (n : Nat) : Rd (w.drewN n) A l := h
theorem Rd.alloc {w : World} {A : Option Addr} {l : List Int} (h : Rd w A l) (o : Obj) : Rd (w.alloc o) A l := h.keep fun p hp => World.cell?_alloc_lt w o p hp
theorem Rd.take {w : World} {A : Option Addr} {l : List Int} (h : Rd w A l) (n : Nat) : Rd w A (l.take n) := by
  refine ⟨h.1.take n, fun hl => ?_⟩
  obtain ⟨b, o, e, hc⟩ := h.2 (by rw [List.length_take] at hl; omega)
  refine ⟨b, o, e, fun i hi => ?_⟩
  have hi' : i < n ∧ i < l.length := by rw [List.length_take] at hi; omega
  rw [hc i hi'.2]
  simp [List.getD, hi'.1]
/-- A cut 's[k:]'. -/
theorem Rd.cut {w : World} {A : Option Addr} {l : List Int} (h : Rd w A l) {k cap : Nat} (hc : l.length ≤ cap) : Rd w (if cap = k then A else A.map (·.add k)) (l.drop k) := by
  refine ⟨h.1.drop k, fun hl => ?_⟩
  rw [List.length_drop] at hl
  obtain ⟨b, o, e, hcell⟩ := h.2 (by omega)
  rw [if_neg (by omega), e]
  refine ⟨b, o + k, by simp [Addr.add_lit], fun i hi => ?_⟩
  rw [List.length_drop] at hi
  rw [Nat.add_assoc, hcell (k + i) (by omega)]
  simp [List.getD, List.getElem?_drop]
/-- The same, at an address that the walk has written out. -/
theorem Rd.cut_at {w : World} {b o : Nat} {l : List Int} (h : Rd w (some ⟨b, o, none⟩) l) {k cap : Nat} (hc : l.length ≤ cap) : Rd w (if cap = k then some ⟨b, o, none⟩ else some ⟨b, o + k, none⟩) (l.drop k) := by
  have := h.cut (k := k) hc
  simpa [Addr.add_lit] using this

theorem below_drewN {B : Nat} {a w : World} (h : Below B a w) (n : Nat) : Below B a (w.drewN n) := ⟨h.os, h.tape, h.output, h.size, h.block⟩
theorem ret1_eq {k : IntKind} {a b : Int} (h : a = b) : Ending.returned (.int k a) = Ending.returned (.int k b) := by rw [h]
theorem ret2_eq {k : IntKind} {a b : Int} {y : Value} (h : a = b) : Ending.returned (.tuple #[.int k a, y]) = Ending.returned (.tuple #[.int k b, y]) := by rw [h]

/-- WHAT A WALK IS TOLD OF A SLICE OF BYTES THAT CAME IN: it reads as l; its capacity is c; nil has no byte. -/
structure ByteArg (w : World) (A : Option Addr) (l : List Int) (c : Nat) : Prop where
  rd : Rd w A l
  le : l.length ≤ c
  max : c ≤ maxLen
  nil : A = none → l = [] ∧ c = 0

end Go.Proofs.YtdjdcpcomhjnjaaDoor

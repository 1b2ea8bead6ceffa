/- How a slice of pairs and an array of three numbers that came in are read. Conditions: none. -/
import Derived.Test.YtdogepkfgobcfaaFrame
import Derived.Test.YtdogepkfgobcfaaRangeOps
import Derived.Deep.Slices
import Derived.Deep.Strs
import Derived.Laws.IdiomArrays
namespace Go.Proofs.Ytdogepkfgobcfaa
open Go.ChangeShapes Go.WideShapes Go.ChangeAt Go.RowKit Go.Deep

/-- The pairs' numbers are int64s. -/
def PairsBd (l : Rgs) : Prop := ∀ p ∈ l, (-9223372036854775808 ≤ p.1 ∧ p.1 ≤ 9223372036854775807) ∧ (-9223372036854775808 ≤ p.2 ∧ p.2 ≤ 9223372036854775807)
/-- WHAT A WALK IS TOLD OF A SLICE OF PAIRS THAT CAME IN. -/
structure PairsArg (w : World) (A : Option Addr) (l : Rgs) (c : Nat) : Prop where
  rd : RdE EPr w A l
  bd : PairsBd l
  le : l.length ≤ c
  max : c ≤ maxLen

set_option maxRecDepth 100000 in
theorem openedPairs {H : Type} {enc : TypeId × Value → H} {W : World} {base : Nat} {v : Value} {d : DataW H} {p : List MemPlace}
    (hok : Value.okWide Try.prog W .any base 45 v) (h : DataW.Trod enc Try.prog W 0 (fun _ => true) true 45 v d p) :
    ∃ A l c, v = .slice A (List.length l) c ∧ PairsArg W A l c := by
  obtain ⟨a0, len0, cap0, rfl⟩ := okWide_slice Try.underlying45 hok
  obtain ⟨fuel, hf⟩ := h
  rcases open_slice Try.underlying45 hf with ⟨hcs, _⟩ | ⟨a, len, cap, m, n, D, Pl, hcs, _, hl, hm, hmm, _, hi⟩
  · simp [Value.cells] at hcs
    obtain ⟨rfl, rfl, rfl⟩ := hcs
    exact ⟨none, [], 0, rfl, ⟨RdE.nil_ _ _ _, (fun o ho => by simp at ho), by simp, by simp⟩⟩
  · simp [Value.cells] at hcs
    obtain ⟨rfl, rfl, rfl⟩ := hcs
    have hC : Try.prog.cellsOf 47 = 2 := by kernel_rfl
    have hC2 : Try.prog.cellsOf 2 = 1 := by kernel_rfl
    have each : ∀ i, i < len0 → ∃ o : Int × Int, (W.cell? (a.add (i * 2 + 0)) = some (.int .i64 o.1) ∧ W.cell? (a.add (i * 2 + 1)) = some (.int .i64 o.2)) ∧
        (-9223372036854775808 ≤ o.1 ∧ o.1 ≤ 9223372036854775807) ∧ (-9223372036854775808 ≤ o.2 ∧ o.2 ≤ 9223372036854775807) := by
      intro i hil
      obtain ⟨cs, hc, ht⟩ := hi i (by rw [hmm]; split <;> omega)
      rw [hC] at hc
      obtain ⟨_, hcl, hat⟩ := World.cells?_some hc
      obtain ⟨xs, k, _, _, _, hxl, hel⟩ := DataW.trod_array Try.underlying47 ht
      rw [hC2] at hel
      match xs, hxl with
      | [y0, y1], _ =>
        have h0 := hel 0 (by decide)
        have h1 := hel 1 (by decide)
        match cs, hcl with
        | [c0, c1], _ =>
          simp at h0 h1
          obtain ⟨x, e1, _, wx⟩ := DataW.trod_int Try.underlying2 h0
          obtain ⟨z, e2, _, wz⟩ := DataW.trod_int Try.underlying2 h1
          simp at e1 e2
          subst e1 e2
          have a0 := hat 0 (by decide)
          have a1 := hat 1 (by decide)
          rw [Go.Deep.add_add] at a0 a1
          exact ⟨⟨x, z⟩, ⟨a0, a1⟩, bounds_i64 wx, bounds_i64 wz⟩
    obtain ⟨O, hO⟩ := Go.Deep.choose_lt each
    have hlen : ((List.range len0).map O).length = len0 := by simp
    refine ⟨some a, (List.range len0).map O, cap0, by rw [hlen], ⟨?_, ?_, by rw [hlen]; exact hl, hm⟩⟩
    · intro hpos
      rw [hlen] at hpos
      obtain ⟨b, off, spot⟩ := a
      have hc := (hO 0 hpos).1.1
      have hspot : spot = none := by simpa [Addr.add] using World.cell?_spot hc
      subst hspot
      refine ⟨b, off, rfl, fun i j v hi hj hv => ?_⟩
      rw [hlen] at hi
      have ho := (hO i hi).1
      rw [List.getElem_map, List.getElem_range] at hv
      rw [← Addr.add_lit]
      have hj3 : j < 2 := hj
      match j, hj3 with
      | 0, _ => exact ho.1.trans hv
      | 1, _ => exact ho.2.trans hv
    · intro o ho
      obtain ⟨i, hi, rfl⟩ := List.mem_map.1 ho
      exact (hO i (List.mem_range.1 hi)).2

theorem list3 {α : Type} (l : List α) (h : l.length = 3) : ∃ a b c, l = [a, b, c] := by
  match l, h with
  | [a, b, c], _ => exact ⟨a, b, c, rfl⟩

/-- WHAT A WALK IS TOLD OF AN ARRAY OF THREE NUMBERS THAT CAME IN. -/
def I64 (x : Int) : Prop := -9223372036854775808 ≤ x ∧ x ≤ 9223372036854775807
set_option maxRecDepth 100000 in
theorem opened3 {H : Type} {enc : TypeId × Value → H} {W : World} {base : Nat} {v : Value} {d : DataW H} {p : List MemPlace}
    (hok : Value.okWide Try.prog W .any base 56 v) (h : DataW.Trod enc Try.prog W 0 (fun _ => true) true 56 v d p) :
    ∃ x y z, v = .agg #[.int .i64 x, .int .i64 y, .int .i64 z] ∧ I64 x ∧ I64 y ∧ I64 z := by
  obtain ⟨cs, rfl, hsz, _⟩ : ∃ cs, v = .agg cs ∧ cs.size = Try.prog.cellsOf 56 ∧ Row.okWide Try.prog W .any base 56 cs := by
    simpa [Value.okWide, Try.underlying56] using hok
  have hC : Try.prog.cellsOf 56 = 3 := by kernel_rfl
  have hC2 : Try.prog.cellsOf 2 = 1 := by kernel_rfl
  rw [hC] at hsz
  obtain ⟨l⟩ := cs
  obtain ⟨c0, c1, c2, rfl⟩ := list3 l hsz
  obtain ⟨fuel, hf⟩ := h
  obtain ⟨y0, y1, y2, m, hx, hy0, hy1, hy2⟩ := trod_array3 Try.underlying56 hC2 hf
  obtain ⟨x0, e0, rfl, w0⟩ := DataW.trod_int Try.underlying2 hy0
  obtain ⟨x1, e1, rfl, w1⟩ := DataW.trod_int Try.underlying2 hy1
  obtain ⟨x2, e2, rfl, w2⟩ := DataW.trod_int Try.underlying2 hy2
  simp at e0 e1 e2
  subst e0 e1 e2
  exact ⟨x0, x1, x2, rfl, bounds_i64 w0, bounds_i64 w1, bounds_i64 w2⟩

end Go.Proofs.Ytdogepkfgobcfaa

/- How a slice of ops that came in is read. Conditions: none. -/
import Derived.Test.YtdogepkfgobcfaaFrame
import Derived.Test.YtdogepkfgobcfaaRangeOps
import Derived.Deep.Slices
import Derived.Deep.Strs
namespace Go.Proofs.Ytdogepkfgobcfaa
open Go.ChangeShapes Go.WideShapes Go.ChangeAt Go.RowKit Go.Deep

/-- WHAT A WALK IS TOLD OF A SLICE OF OPS THAT CAME IN. -/
structure OpsArg (w : World) (A : Option Addr) (l : List Opr) (c : Nat) : Prop where
  rd : RdE EOp w A l
  bd : OpsBd l
  le : l.length ≤ c
  max : c ≤ maxLen

theorem und_op : ∃ f0 f1 f2 : Field, Try.prog.underlying 41 = some (.struct #[f0, f1, f2]) ∧ f0.offset = 0 ∧ f1.offset = 1 ∧ f2.offset = 2 ∧ f0.type = 4 ∧ f1.type = 2 ∧ f2.type = 2 :=
  ⟨_, _, _, Try.underlying41, rfl, rfl, rfl, rfl, rfl, rfl⟩

set_option maxRecDepth 100000 in
theorem openedOps {H : Type} {enc : TypeId × Value → H} {W : World} {base : Nat} {v : Value} {d : DataW H} {p : List MemPlace}
    (hok : Value.okWide Try.prog W .any base 38 v) (h : DataW.Trod enc Try.prog W 0 (fun _ => true) true 38 v d p) :
    ∃ A l c, v = .slice A (List.length l) c ∧ OpsArg W A l c := by
  obtain ⟨a0, len0, cap0, rfl⟩ := okWide_slice Try.underlying38 hok
  obtain ⟨fuel, hf⟩ := h
  rcases open_slice Try.underlying38 hf with ⟨hcs, _⟩ | ⟨a, len, cap, m, n, D, Pl, hcs, _, hl, hm, hmm, _, hi⟩
  · simp [Value.cells] at hcs
    obtain ⟨rfl, rfl, rfl⟩ := hcs
    exact ⟨none, [], 0, rfl, ⟨RdE.nil_ _ _ _, (fun o ho => by simp at ho), by simp, by simp⟩⟩
  · simp [Value.cells] at hcs
    obtain ⟨rfl, rfl, rfl⟩ := hcs
    have hC : Try.prog.cellsOf 41 = 3 := by kernel_rfl
    have hC1 : Try.prog.cellsOf 4 = 1 := by kernel_rfl
    have hC2 : Try.prog.cellsOf 2 = 1 := by kernel_rfl
    obtain ⟨f0, f1, f2, hu, o0, o1, o2, t0, t1, t2⟩ := und_op
    have each : ∀ i, i < len0 → ∃ o : Opr, (W.cell? (a.add (i * 3 + 0)) = some (.bool o.sub) ∧ W.cell? (a.add (i * 3 + 1)) = some (.int .i64 o.st) ∧ W.cell? (a.add (i * 3 + 2)) = some (.int .i64 o.en)) ∧
        (-9223372036854775808 ≤ o.st ∧ o.st ≤ 9223372036854775807) ∧ (-9223372036854775808 ≤ o.en ∧ o.en ≤ 9223372036854775807) := by
      intro i hil
      obtain ⟨cs, hc, ht⟩ := hi i (by rw [hmm]; split <;> omega)
      rw [hC] at hc
      obtain ⟨_, hcl, hat⟩ := World.cells?_some hc
      obtain ⟨y0, y1, y2, k, _, _, h0, h1, h2⟩ := trod_struct3 hu ht
      rw [o0, t0, hC1] at h0
      rw [o1, t1, hC2] at h1
      rw [o2, t2, hC2] at h2
      obtain ⟨b, e0, _⟩ := DataW.trod_bool Try.underlying4 h0
      obtain ⟨x, e1, _, wx⟩ := DataW.trod_int Try.underlying2 h1
      obtain ⟨z, e2, _, wz⟩ := DataW.trod_int Try.underlying2 h2
      match cs, hcl with
      | [c0, c1, c2], _ =>
        simp at e0 e1 e2
        subst e0 e1 e2
        have a0 := hat 0 (by decide)
        have a1 := hat 1 (by decide)
        have a2 := hat 2 (by decide)
        rw [Go.Deep.add_add] at a0 a1 a2
        exact ⟨⟨b, x, z⟩, ⟨a0, a1, a2⟩, bounds_i64 wx, bounds_i64 wz⟩
    haveI : Inhabited Opr := ⟨⟨false, 0, 0⟩⟩
    obtain ⟨O, hO⟩ := Go.Deep.choose_lt each
    have hlen : ((List.range len0).map O).length = len0 := by simp
    refine ⟨some a, (List.range len0).map O, cap0, by rw [hlen], ⟨?_, ?_, by rw [hlen]; exact hl, hm⟩⟩
    · intro hpos
      rw [hlen] at hpos
      obtain ⟨b, off, spot⟩ := a
      have hc := (hO 0 hpos).1.1
      have hspot : spot = none := by simpa [Addr.add] using World.cell?_spot hc
      subst hspot
      refine ⟨b, off, rfl, fun i j v hi hj hv => ?_⟩
      rw [hlen] at hi
      have ho := (hO i hi).1
      rw [List.getElem_map, List.getElem_range] at hv
      rw [← Addr.add_lit]
      have hj3 : j < 3 := hj
      match j, hj3 with
      | 0, _ => exact ho.1.trans hv
      | 1, _ => exact ho.2.1.trans hv
      | 2, _ => exact ho.2.2.trans hv
    · intro o ho
      obtain ⟨i, hi, rfl⟩ := List.mem_map.1 ho
      exact (hO i (List.mem_range.1 hi)).2

end Go.Proofs.Ytdogepkfgobcfaa

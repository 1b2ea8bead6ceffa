/- How a slice of numbers of 32 bits that came in is read. Conditions: none. -/
import Derived.Test.YtdogepkfgobcfaaFrame
import Derived.Test.YtdogepkfgobcfaaVersLaw
namespace Go.Proofs.Ytdogepkfgobcfaa
open Go.ChangeShapes Go.WideShapes Go.ChangeAt Go.RowKit

theorem Rd32.take {w : World} {A : Option Addr} {l : List Int} (h : Rd32 w A l) (n : Nat) : Rd32 w A (l.take n) := by
  refine ⟨fun x hx => h.1 x (List.mem_of_mem_take hx), fun hl => ?_⟩
  obtain ⟨b, o, e, hc⟩ := h.2 (by rw [List.length_take] at hl; omega)
  refine ⟨b, o, e, fun i hi => ?_⟩
  have hi' : i < n ∧ i < l.length := by rw [List.length_take] at hi; omega
  rw [hc i hi'.2]
  simp [List.getD, hi'.1]

set_option maxRecDepth 100000 in
theorem opened32 {H : Type} {enc : TypeId × Value → H} {W : World} {base : Nat} {v : Value} {d : DataW H} {p : List MemPlace}
    (hok : Value.okWide Try.prog W .any base 33 v) (h : DataW.Trod enc Try.prog W 0 (fun _ => true) true 33 v d p) :
    ∃ A l c, v = .slice A (List.length l) c ∧ U32Arg W A l c := by
  obtain ⟨a0, len0, cap0, rfl⟩ := okWide_slice Try.underlying33 hok
  obtain ⟨fuel, hf⟩ := h
  rcases open_ints Try.underlying33 Try.underlying26 (by kernel_rfl) hf with ⟨hcs, _⟩ | ⟨x, l, c, zs, hcs, _, hl, hm, hz, _, hcell, hwz⟩
  · simp [Value.cells] at hcs
    obtain ⟨rfl, rfl, rfl⟩ := hcs
    exact ⟨none, [], 0, rfl, ⟨by simp, by simp⟩, by simp, by simp⟩
  · simp [Value.cells] at hcs
    obtain ⟨rfl, rfl, rfl⟩ := hcs
    have hz' : zs.length = cap0 := by simpa using hz
    have hlen : (zs.take len0).length = len0 := by rw [List.length_take]; omega
    refine ⟨some x, zs.take len0, cap0, by rw [hlen], Rd32.take ⟨fun x hx => bounds_u32 (hwz x hx), fun hp => ?_⟩ len0, by rw [hlen]; exact hl, hm⟩
    obtain ⟨b, off, spot⟩ := x
    have hc := hcell 0 hp
    have hspot : spot = none := by simpa [Addr.add] using World.cell?_spot hc
    subst hspot
    exact ⟨b, off, rfl, fun i hi => by have := hcell i hi; rwa [Addr.add_lit] at this⟩

end Go.Proofs.Ytdogepkfgobcfaa

/- What every row's proof shares: the two facts of the program's head, how a slice of bytes that came in is read, bounds of numbers. Conditions: none. -/
import Derived.Test.YtdjdcpcomhjnjaaDoorBase
import Derived.ProofKit
import Derived.OpenShut
import Derived.ShutString
import Derived.ChangeOld
import Derived.Below
namespace Go.Proofs.YtdjdcpcomhjnjaaDoor
open Go.ChangeShapes Go.WideShapes Go.ChangeAt Go.RowKit

set_option maxRecDepth 100000 in
theorem own : ownKnob Tryd.prog.godebug = none := by kernel_rfl
set_option maxRecDepth 100000 in
theorem laidOut : laidOutB Tryd.prog = true := by kernel_rfl

theorem bs_of_wf {l : List Int} (h : ∀ n ∈ l, (Lit.int .u8 n).wf = true) : Bs l := fun x hx => bounds_u8 (h x hx)

theorem bd_i64 {a : Int} (h : (Lit.int .i64 a).wf = true) : -9223372036854775808 ≤ a ∧ a ≤ 9223372036854775807 := bounds_i64 h
theorem bd_u64 {a : Int} (h : (Lit.int .u64 a).wf = true) : 0 ≤ a ∧ a ≤ 18446744073709551615 := bounds_u64 h

set_option maxRecDepth 100000 in
theorem opened {H : Type} {enc : TypeId × Value → H} {W : World} {base : Nat} {v : Value} {d : DataW H} {p : List MemPlace}
    (hok : Value.okWide Tryd.prog W .any base 22 v) (h : DataW.Trod enc Tryd.prog W 0 (fun _ => true) true 22 v d p) :
    ∃ A l c, v = .slice A (List.length l) c ∧ ByteArg W A l c := by
  obtain ⟨a0, len0, cap0, rfl⟩ := okWide_slice Tryd.underlying22 hok
  obtain ⟨fuel, hf⟩ := h
  rcases open_ints Tryd.underlying22 Tryd.underlying5 (by kernel_rfl) hf with ⟨hcs, _⟩ | ⟨x, l, c, zs, hcs, _, hl, hm, hz, _, hcell, hwz⟩
  · simp [Value.cells] at hcs
    obtain ⟨rfl, rfl, rfl⟩ := hcs
    exact ⟨none, [], 0, rfl, Rd.nil _ _, by simp, by simp, fun _ => ⟨rfl, rfl⟩⟩
  · simp [Value.cells] at hcs
    obtain ⟨rfl, rfl, rfl⟩ := hcs
    have hz' : zs.length = cap0 := by simpa using hz
    have hlen : (zs.take len0).length = len0 := by rw [List.length_take]; omega
    refine ⟨some x, zs.take len0, cap0, by rw [hlen], Rd.take ⟨bs_of_wf hwz, fun hp => ?_⟩ len0, by rw [hlen]; exact hl, hm, fun e => by cases e⟩
    obtain ⟨b, off, spot⟩ := x
    have hc := hcell 0 hp
    have hspot : spot = none := by simpa [Addr.add] using World.cell?_spot hc
    subst hspot
    exact ⟨b, off, rfl, fun i hi => by have := hcell i hi; rwa [Addr.add_lit] at this⟩

end Go.Proofs.YtdjdcpcomhjnjaaDoor

/- Bytes out of a string of bytes. Conditions: none. -/
import Derived.Test.YtggcnepdeaijoaaEqual
import Derived.Test.YtggcnepdeaijoaaOwn
import Derived.Lib.ConvBytes
namespace Go.Proofs.Ytggcnepdeaijoaa
open Go.RowKit
set_option linter.unusedVariables false

theorem strOfNums_size (bs : List Int) : (strOfNums bs).size = bs.length := by simp [strOfNums, ByteArray.size]
theorem strOfNums_get (bs : List Int) (hb : Bs bs) (j : Nat) (hj : j < bs.length) : ((((strOfNums bs).data.toList.getD j 0).toNat : Nat) : Int) = bs.getD j 0 := by
  have h := hb.getD j
  have e : (strOfNums bs).data.toList.getD j 0 = UInt8.ofNat (bs.getD j 0).toNat := by
    simp [strOfNums, List.getD, List.getElem?_eq_getElem hj]
  rw [e, UInt8.toNat_ofNat']
  omega
theorem run_cvS (w : World) (bs : List Int) (hb : Bs bs) (hl : bs.length ≤ 4294967295) : ∃ c W', (convert 9 22 (.string (strOfNums bs))).run Try.prog w = .ok (.slice (some ⟨w.heap.size, 0, none⟩) bs.length c) W' ∧ Hid (Rd W' (some ⟨w.heap.size, 0, none⟩) bs ∧ Below w.heap.size w W' ∧ bs.length ≤ c ∧ c ≤ 9223372036854775807 ∧ W'.heap.size = w.heap.size + 1) := by
  have h := Lib.run_convert_string_bytes (P := Try.prog) w 9 22 5 (strOfNums bs) Try.underlying9 Try.underlying22 Try.underlying5
  have hz := strOfNums_size bs
  rw [hz] at h
  refine ⟨_, _, h, ⟨hb, fun _ => ⟨_, 0, rfl, fun i hi => ?_⟩⟩, ⟨rfl, rfl, rfl, ?_, fun j hj => Lib.bytesWorld_at_old _ _ _ _ hj⟩, grownCap_ge _ _ _ _, ?_, Lib.bytesWorld_size _ _ _⟩
  · rw [Nat.zero_add, Lib.bytesWorld_cell w _ _ i (by rw [hz]; exact hi), strOfNums_get bs hb i hi]
  · rw [Lib.bytesWorld_size]; omega
  · have := grownCap_le_maxLen w bs.length 0 5 (by unfold maxLen; omega)
    unfold maxLen at this
    omega

end Go.Proofs.Ytggcnepdeaijoaa

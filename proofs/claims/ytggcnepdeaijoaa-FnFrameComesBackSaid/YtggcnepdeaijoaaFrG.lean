/- What a frame's bytes are by the reference: the plain law. No program. Conditions: none. -/
import Derived.Test.YtggcnepdeaijoaaFrP
import Derived.Test.YtggcnepdeaijoaaReaderU
import Derived.Test.YtggcnepdeaijoaaZFc
namespace Go.Proofs.Ytggcnepdeaijoaa
set_option linter.unusedVariables false

/-- What the reference leaves open though the program reads it. -/
def opB (t : Int) (l : List Int) (r : FR) : Prop :=
  (t = 6 ∧ 4611686018427387903 < r.1.getD 0 0 + ((r.2.1.getD 0 []).length : Int)) ∨
  ((t = 22 ∨ t = 23) ∧ 1152921504606846976 < r.1.getD 1 0) ∨
  (t = 24 ∧ ∃ a k b k', nm l 1 = some (a, k) ∧ nm l k = some (b, k') ∧ 64 ≤ l.getD k' 0)
open Classical in
/-- A frame that the reference calls good. -/
noncomputable def frG (t : Int) (l : List Int) : Option FR := match frT t l with
  | none => none
  | some r => if opB t l r then none else some r
theorem frG_some {t : Int} {l : List Int} {r : FR} (h : frG t l = some r) : frT t l = some r := by
  unfold frG at h
  cases hT : frT t l with
  | none => rw [hT] at h; cases h
  | some r' =>
    rw [hT] at h
    simp only at h
    split at h
    · cases h
    · exact h
theorem frG_of {t : Int} {l : List Int} {r : FR} (h : frT t l = some r) (ho : ¬ opB t l r) : frG t l = some r := by
  unfold frG
  rw [h]
  exact if_neg ho
theorem frG_none {t : Int} {l : List Int} (h : frT t l = none) : frG t l = none := by
  unfold frG
  rw [h]
theorem frG_open {t : Int} {l : List Int} {r : FR} (h : frT t l = some r) (ho : opB t l r) : frG t l = none := by
  unfold frG
  rw [h]
  exact if_pos ho

theorem num_f {l : List Int} {k : Nat} {bad : Bool} {v : Int} {k1 : Nat} (h : NumSt l k bad v k1 false) : bad = false ∧ nm l k = some (v, k1) := by
  obtain ⟨h1, h2, h3, h4, h5⟩ := h
  rcases h5 with ⟨_, hb, hv⟩ | ⟨h, _⟩
  · exact ⟨hb, by rw [nm_some hv]; simp; omega⟩
  · cases h
theorem num_t {l : List Int} {k : Nat} {bad : Bool} {v : Int} {k1 : Nat} (h : NumSt l k bad v k1 true) : bad = true ∨ nm l k = none := by
  obtain ⟨h1, h2, h3, h4, h5⟩ := h
  rcases h5 with ⟨h, _⟩ | ⟨_, _, h⟩
  · cases h
  · exact h.imp id nm_none
theorem nb_f {l : List Int} {k : Nat} {bad : Bool} {v : Int} {k1 : Nat} {bad1 : Bool} {k2 : Nat} (h1 : NumSt l k bad v k1 bad1) (h2 : BytSt l k1 bad1 v k2 false) : bad = false ∧ vbs l k = some ((l.drop k1).take v.toNat, k2) := by
  obtain ⟨b1, b2, b3⟩ := h2
  rcases b3 with ⟨_, hb, hs, hk⟩ | ⟨h, _⟩
  · subst hb
    obtain ⟨a1, a2, a3, a4, a5⟩ := h1
    rcases a5 with ⟨_, hb, hv⟩ | ⟨h, _⟩
    · refine ⟨hb, ?_⟩
      have hl : ¬ (((l.drop k).length - (k1 - k) : Nat) : Int) < v := by rw [List.length_drop]; omega
      rw [vbs_some (rvb_some hv hl), List.drop_drop, show k + (k1 - k) = k1 by omega, show k + (k1 - k + v.toNat) = k2 by omega]
    · cases h
  · cases h
theorem nb_t {l : List Int} {k : Nat} {bad : Bool} {v : Int} {k1 : Nat} {bad1 : Bool} {k2 : Nat} (h1 : NumSt l k bad v k1 bad1) (h2 : BytSt l k1 bad1 v k2 true) : bad = true ∨ vbs l k = none := by
  obtain ⟨b1, b2, b3⟩ := h2
  rcases b3 with ⟨h, _⟩ | ⟨_, hb⟩
  · cases h
  · obtain ⟨a1, a2, a3, a4, a5⟩ := h1
    rcases a5 with ⟨hb1, hb2, hv⟩ | ⟨_, _, h⟩
    · subst hb1
      rcases hb with hb | hb
      · cases hb
      · exact .inr (vbs_none (rvb_short hv (by rw [List.length_drop]; omega)))
    · exact h.imp id fun h => vbs_none (rvb_none h)

end Go.Proofs.Ytggcnepdeaijoaa

/- The walk of FnPacketType. Conditions: none. -/
import Derived.Test.YtiehheijkabeeaaPacketType
namespace Go.Proofs.Ytiehheijkabeeaa
open Go.RowKit
set_option linter.unusedVariables false

set_option maxHeartbeats 1000000 in
theorem ptype_big (A : Option Addr) (n k : Nat) (w : World) (hn : 2147483647 < n) (hn2 : n ≤ 9223372036854775807) :
    Calls Try.prog 14 #[.slice A n k] w fun e w' => e = .returned (.bool true) ∧ Below w.heap.size w w' := by
  go_enter Try.func14, Try.ntmps14
  go_wp2
  go_ret
  exact ⟨rfl, Below.refl _ _⟩

set_option maxHeartbeats 1000000 in
theorem fnPacketType_walk (A : Option Addr) (l : List Int) (c : Nat) (w : World) (h : ByteArg w A l c) :
    Calls Try.prog 14 #[.slice A l.length c] w fun e w' => e = .returned (.bool true) ∧ Below w.heap.size w w' := by
  have hr := h.rd
  have hle := h.le
  have hmax := h.max
  clear h
  unfold maxLen at hmax
  obtain ⟨n, hn⟩ : ∃ n, l.length = n := ⟨_, rfl⟩
  rw [hn] at hle ⊢
  have hm := Lib.hid hn
  clear hn
  by_cases hbig : 2147483647 < n
  · exact ptype_big A n c w hbig (by omega)
  have hlaw := spt_law hr.1
  obtain ⟨p, hp⟩ : ∃ p, ptype l = p := ⟨_, rfl⟩
  obtain ⟨t, ht⟩ : ∃ t, (spt l).1 = t := ⟨_, rfl⟩
  obtain ⟨wh, hwh⟩ : ∃ t, (spt l).2 = t := ⟨_, rfl⟩
  rw [hp, ht, hwh] at hlaw
  obtain ⟨hlaw, hp0, hp6⟩ := hlaw
  have HP := Lib.hid hp
  have HT := Lib.hid ht
  have HW := Lib.hid hwh
  clear hp ht hwh
  rcases hlaw with rfl | ⟨rfl, rfl⟩
  · go_enter Try.func14, Try.ntmps14
    go_wp2_with (first | (go_at_call 36; refine (sptc _ _ _ l _ (by exact hr) hm (by omega)).mono ?_; rw [HT.out, HW.out]; rintro e w' ⟨rfl, q, rfl⟩) | go_in)
    go_ret
    exact ⟨rfl, below_drewN (Below.refl _ _) _⟩
  · go_enter Try.func14, Try.ntmps14
    go_wp2_with (first | (go_at_call 36; refine (sptc _ _ _ l _ (by exact hr) hm (by omega)).mono ?_; rw [HT.out, HW.out]; rintro e w' ⟨rfl, q, rfl⟩) | (go_at_call 65; refine (gpt _ _ _ l _ (by exact hr) hm (by omega)).mono ?_; rw [HP.out]; rintro e w' ⟨rfl, q, rfl⟩) | go_in)
    go_ret
    exact ⟨rfl, below_drewN (Below.refl _ _) _⟩

end Go.Proofs.Ytiehheijkabeeaa

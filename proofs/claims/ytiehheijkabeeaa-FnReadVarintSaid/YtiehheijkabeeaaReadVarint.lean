/- The walk of FnReadVarint: the variable-length integer at the beginning of any bytes is read. Conditions: none. -/
import Derived.Test.YtiehheijkabeeaaSrv
namespace Go.Proofs.Ytiehheijkabeeaa
open Go.RowKit
set_option linter.unusedVariables false

set_option maxHeartbeats 1000000 in
theorem fnReadVarint_walk (A : Option Addr) (l : List Int) (c : Nat) (w : World) (h : ByteArg w A l c) :
    Calls Try.prog 5 #[.slice A l.length c] w fun e w' => e = .returned (.bool true) ∧ Below w.heap.size w w' := by
  have hr := h.rd
  have hle := h.le
  have hmax := h.max
  clear h
  unfold maxLen at hmax
  obtain ⟨n, hn⟩ : ∃ n, l.length = n := ⟨_, rfl⟩
  rw [hn] at hle ⊢
  have hm := Lib.hid hn
  clear hn
  by_cases hbig : 2147483647 < n
  · go_enter Try.func5, Try.ntmps5
    go_wp2
    go_ret
    exact ⟨rfl, Below.refl _ _⟩
  cases hv : rv l with
  | none =>
    have HV := Lib.hid hv
    clear hv
    go_enter Try.func5, Try.ntmps5
    go_wp2_with (first
      | (go_at_call 41; refine (cv_none _ _ _ l _ (by exact hr) hm (by omega) HV).mono ?_; rintro e w' ⟨rfl, q, rfl⟩)
      | (go_at_call 21; refine (srv_none _ _ _ l _ (by exact hr) hm hle (by omega) HV).mono ?_; rintro e w' ⟨rfl, rfl⟩)
      | go_in)
    go_ret
    exact ⟨rfl, below_drewN (Below.refl _ _) _⟩
  | some p =>
    obtain ⟨v, k⟩ := p
    have hb := rv_bd hr.1 hv
    have HV := Lib.hid hv
    clear hv
    go_enter Try.func5, Try.ntmps5
    go_wp2_with (first
      | (go_at_call 41; refine (cv_some _ _ _ l _ v k (by exact hr) hm (by omega) HV).mono ?_; rintro e w' ⟨rfl, q, rfl⟩)
      | (go_at_call 21; refine (srv_some _ _ _ l _ v k (by exact hr) hm hle (by omega) HV).mono ?_; rintro e w' ⟨rfl, rfl⟩)
      | go_in)
    go_ret
    exact ⟨rfl, below_drewN (Below.refl _ _) _⟩

end Go.Proofs.Ytiehheijkabeeaa

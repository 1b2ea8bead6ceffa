/- bytes.Equal of two slices that read alike: true. Conditions: none. -/
import Derived.Test.YtdjdcpcomhjnjaaDoorBase
import Derived.Laws.BytesArg
namespace Go.Proofs.YtdjdcpcomhjnjaaDoor
open Go.RowKit
set_option linter.unusedVariables false

theorem run_convert_zero (w : World) (p : Option Addr) (c : Nat) : (convert 22 9 (.slice p 0 c)).run Tryd.prog w = .ok (.string (strOfNums [])) w := by
  rw [run_convert_bytes_string w 22 9 5 p 0 c Tryd.underlying22 Tryd.underlying5 Tryd.underlying9]
  cases p <;> simp [Conv.bytesToString, loadCells]
  all_goals rfl

/-- 'string(b)'. -/
theorem Rd.convert {w : World} {A : Option Addr} {l : List Int} (h : Rd w A l) (n c : Nat) (hn : l.length = n) : (Go.convert 22 9 (.slice A n c)).run Tryd.prog w = .ok (.string (strOfNums l)) w := by
  subst hn
  rcases Nat.eq_zero_or_pos l.length with h0 | h0
  · obtain rfl : l = [] := List.eq_nil_of_length_eq_zero h0
    exact run_convert_zero w A c
  · obtain ⟨b, o, rfl, hc⟩ := h.2 h0
    exact run_convert_bytes_arg (P := Tryd.prog) w _ _ Tryd.underlying22 Tryd.underlying5 b o _ c l rfl hc _ Tryd.underlying9

set_option maxHeartbeats 1000000 in
theorem beq (A A' : Option Addr) (n c n' c' : Nat) (l : List Int) (w : World) (h : Rd w A l) (h' : Rd w A' l) (hn : Hid (l.length = n)) (hn' : Hid (l.length = n')) :
    Calls Tryd.prog 22 #[.slice A n c, .slice A' n' c'] w fun e w' => e = .returned (.bool true) ∧ w = w' := by
  have h1 := h.convert n c hn.out
  have h2 := h'.convert n' c' hn'.out
  clear h h' hn hn'
  go_enter Tryd.func22, Tryd.ntmps22
  go_wp2
  go_ret
  exact ⟨by simp, rfl⟩

end Go.Proofs.YtdjdcpcomhjnjaaDoor

/- Contract of bytes.Clone. Conditions: the slice reads as bytes. -/
import Derived.Test.YtdjdcpcomhjnjaaDoorOwn
namespace Go.Proofs.YtdjdcpcomhjnjaaDoor
open Go.RowKit
set_option linter.unusedVariables false

set_option maxHeartbeats 1000000 in
/-- Of a slice that is not nil: new memory. -/
theorem clone_some (ad : Addr) (n c : Nat) (l : List Int) (w : World) (hr : Rd w (some ad) l) (hn : Hid (l.length = n)) (hb : n ≤ 140737488355328) :
    Calls Tryd.prog 30 #[.slice (some ad) n c] w fun e w' => (∃ g cap, e = .returned (.slice (some ⟨g, 0, none⟩) n cap) ∧ Own w.heap.size w' (.slice (some ⟨g, 0, none⟩) n cap) l ∧ n ≤ cap ∧ cap ≤ 9223372036854775807) ∧ Below w.heap.size w w' := by
  have q22 : ∀ (w : World) (a : Option Addr) (n c n' c' : Nat), (binOp .eql 22 (.slice a n c) (.slice none n' c')).run Tryd.prog w = .ok (.bool a.isNone) w := fun w a n c n' c' => Lib.run_eql_slice_nil w _ _ a n c n' c' Tryd.underlying22
  have HO := Lib.hid (Own.new w [] Bs.nil (by simp))
  have hrw := hr.alloc (.cells #[] 5)
  go_enter Tryd.func30, Tryd.ntmps30
  go_wp2_with (at_builtin; refine wpList_app w.heap.size _ rfl _ _ rfl _ [] rfl (by exact HO.out) (some ad) n c l rfl hn.out (by exact hrw) (by simp) (by simp; omega) (by simp) ?_; intro s1 w1 ho1 hg1 ha1 hb1 hn1)
  go_ret
  have hbel : Below w.heap.size w w1 := ((Below.refl _ _).alloc (Nat.le_refl _) _).trans hb1
  rw [List.nil_append] at ho1
  rcases ho1.form with ⟨h, _⟩ | ⟨g, cap, rfl, _, _, h1, h2⟩
  · exact absurd (hn1.1 h).1 (by intro e; cases e)
  · rw [hn.out] at h1 ho1 ⊢
    unfold maxLen at h2
    exact ⟨⟨g, cap, rfl, ho1, h1, by omega⟩, hbel⟩

set_option maxHeartbeats 1000000 in
theorem clone_nil (n c : Nat) (w : World) : Calls Tryd.prog 30 #[.slice none n c] w fun e w' => e = .returned (.slice none 0 0) ∧ w = w' := by
  have q22 : ∀ (w : World) (a : Option Addr) (n c n' c' : Nat), (binOp .eql 22 (.slice a n c) (.slice none n' c')).run Tryd.prog w = .ok (.bool a.isNone) w := fun w a n c n' c' => Lib.run_eql_slice_nil w _ _ a n c n' c' Tryd.underlying22
  go_enter Tryd.func30, Tryd.ntmps30
  go_wp2
  go_ret
  exact ⟨rfl, rfl⟩

end Go.Proofs.YtdjdcpcomhjnjaaDoor

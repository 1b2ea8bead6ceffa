/- Contract of laws.copied: a copy of bytes with more behind them. Conditions: the slices read as bytes. -/
import Derived.Test.YtdogepkfgobcfaaOwn
namespace Go.Proofs.Ytdogepkfgobcfaa
open Go.RowKit
set_option linter.unusedVariables false

set_option maxHeartbeats 1000000 in
/-- laws.copied: a copy of bytes, with more behind them. -/
theorem cop (A : Option Addr) (n c : Nat) (l : List Int) (A' : Option Addr) (n' c' : Nat) (l' : List Int) (w : World) (hr : Rd w A l) (hn : Hid (l.length = n)) (hz : A = none → c = 0) (hr' : Rd w A' l') (hn' : Hid (l'.length = n')) (hz' : A' = none → c' = 0)
    (hb : n ≤ 1099511627776) (hb' : n' ≤ 1099511627776) :
    Calls Try.prog 45 #[.slice A n c, .slice A' n' c'] w fun e w' => MadeEnd w (l ++ l') e w' := by
  have HZ := Lib.hid hz
  have HZ' := Lib.hid hz'
  clear hz hz'
  go_enter Try.func45, Try.ntmps45
  go_wp2_with (first
    | (at_builtin; refine wpList_app w.heap.size _ rfl (.const (.slice none 0 0)) (.tmp 5) rfl _ [] rfl (Own.nil_ _ _) A n c l rfl hn.out (by exact hr) HZ.out (by simp; omega) (Nat.le_refl _) ?_; intro s1 w1 ho1 hg1 ha1 hb1 hn1)
    | (at_builtin; refine wpList_app w.heap.size _ rfl (.tmp 6) (.tmp 7) rfl s1 _ rfl ho1 A' n' c' l' rfl hn'.out (by exact hr'.below hb1) HZ'.out (by have := hn.out; simp; omega) hb1.size ?_; intro s2 w2 ho2 hg2 ha2 hb2 hn2))
  go_ret
  exact ⟨s2, rfl, ho2, hb1.trans hb2⟩

end Go.Proofs.Ytdogepkfgobcfaa

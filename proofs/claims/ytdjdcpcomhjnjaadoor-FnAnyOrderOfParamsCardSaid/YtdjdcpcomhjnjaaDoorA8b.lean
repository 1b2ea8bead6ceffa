/- Contract of quicwire.AppendUint8Bytes onto bytes of the call's own. Conditions: the slices read as bytes. -/
import Derived.Test.YtdjdcpcomhjnjaaDoorAv
namespace Go.Proofs.YtdjdcpcomhjnjaaDoor
open Go.RowKit
set_option linter.unusedVariables false

set_option maxHeartbeats 1000000 in
/-- AppendUint8Bytes onto bytes of the call's own. -/
theorem a8b (B : Nat) (s : Value) (l : List Int) (A : Option Addr) (n c : Nat) (d : List Int) (w : World) (hown : Own B w s l) (hB : B ≤ w.heap.size) (hlen : l.length ≤ 1000000000000) (hr : Rd w A d) (hn : Hid (d.length = n)) (hz : Hid (A = none → c = 0)) (hsep : Hid (0 < d.length → Sep A s.ownBlock)) (hb : n ≤ 255) :
    Calls Tryd.prog 51 #[s, .slice A n c] w fun e w' => AppEnd B w s (l ++ [(n : Int)] ++ d) e w' := by
  have hrd := Rd.new w [(n : Int)] (Bs.cons (by omega) Bs.nil) 5
  have HR := Lib.hid hrd
  have HO0 := Lib.hid hown
  have hra := hr.alloc (.cells #[.int .u8 (n : Int)] 5)
  clear hrd hown hr
  have hg0 : ∀ {w1 : World} {row}, (w.alloc (.cells #[.int .u8 (n : Int)] 5)).grownBy w1 row → w.grownBy w1 row := fun h => grownBy_alloc_left h
  clear hg0
  go_enter Tryd.func51, Tryd.ntmps51
  go_wp2_with (first
    | (at_builtin; refine wpList_app B _ rfl (.tmp 9) (.tmp 13) rfl s l rfl (HO0.out.alloc _) (some ⟨w.heap.size, 0, none⟩) 1 1 [(n : Int)] rfl rfl (by exact HR.out) (by simp) (by omega) (by simp; omega) ?_; intro s1 w1 ho1 hg1 ha1 hb1 hn1; have HA := Lib.hid ha1; have HN := Lib.hid hn1; have HO := Lib.hid ho1; clear ha1 hn1 ho1)
    | (at_builtin; refine wpList_app B _ rfl (.tmp 15) (.tmp 16) rfl s1 _ rfl HO.out A n c d rfl hn.out (by exact hra.grown hg1 hsep.out) hz.out (by have := hn.out; simp; omega) (by have := hb1.size; simp at this; omega) ?_; intro s2 w2 ho2 hg2 ha2 hb2 hn2))
  go_ret
  have hbel : Below B w w1 := ((Below.refl _ _).alloc hB _).trans hb1
  exact AppEnd.mk' (grownBy_alloc_left hg1) (HA.out.imp id fun h => ⟨_, h, by simp⟩) hbel (fun h => (HN.out.1 h).1) ho2 hg2 (ha2.imp id fun h => ⟨_, h, Nat.le_refl _⟩) hb2 (fun h => (hn2.1 h).1)

end Go.Proofs.YtdjdcpcomhjnjaaDoor

/- Contract of quicwire.AppendVarintBytes onto bytes of the call's own. Conditions: the slices read as bytes. -/
import Derived.Test.YtdjdcpcomhjnjaaDoorAv
namespace Go.Proofs.YtdjdcpcomhjnjaaDoor
open Go.RowKit
set_option linter.unusedVariables false

set_option maxHeartbeats 1000000 in
/-- AppendVarintBytes onto bytes of the call's own. -/
theorem avb (B : Nat) (s : Value) (l : List Int) (A : Option Addr) (n c : Nat) (d : List Int) (w : World) (hown : Own B w s l) (hB : B ≤ w.heap.size) (hlen : l.length ≤ 1000000000000) (hr : Rd w A d) (hn : Hid (d.length = n)) (hz : Hid (A = none → c = 0)) (hsep : Hid (0 < d.length → Sep A s.ownBlock)) (hb : n ≤ 1000000000000) :
    Calls Tryd.prog 48 #[s, .slice A n c] w fun e w' => AppEnd B w s (l ++ enc n ++ d) e w' := by
  have he := enc_length n
  have h8 := esz_bd n
  go_enter Tryd.func48, Tryd.ntmps48
  go_wp2_with fail
  refine (av B s l n _ hown hB (by omega) (by omega) (by omega)).mono ?_
  rintro e w1 ⟨s1, rfl, ho1, hg1, ha1, hb1, hn1⟩
  have hr1 := hr.grown hg1 hsep.out
  have HO := Lib.hid ho1
  have HA := Lib.hid ha1
  have HN := Lib.hid hn1
  clear hr hown ho1 ha1 hn1 hsep
  go_wp2_with (at_builtin; refine wpList_app B _ rfl _ _ rfl s1 _ rfl HO.out A n c d rfl hn.out (by exact hr1) hz.out (by have := hn.out; simp; omega) (Nat.le_trans hB hb1.size) ?_; intro s2 w2 ho2 hg2 ha2 hb2 hn2)
  go_ret
  exact AppEnd.mk' hg1 HA.out hb1 HN.out ho2 hg2 (ha2.imp id fun h => ⟨_, h, Nat.le_refl _⟩) hb2 (fun h => (hn2.1 h).1)

end Go.Proofs.YtdjdcpcomhjnjaaDoor

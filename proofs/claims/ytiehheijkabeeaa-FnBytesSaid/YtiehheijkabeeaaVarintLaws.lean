/- The walks of FnVarint, FnCutVarintIsTold, FnVarintComesBack: a number is written as the shortest variable-length integer, read back, and cut it is none. Conditions: none. -/
import Derived.Test.YtiehheijkabeeaaSrv
import Derived.Test.YtiehheijkabeeaaSva
import Derived.Test.YtiehheijkabeeaaEqual
namespace Go.Proofs.Ytiehheijkabeeaa
open Go.RowKit
set_option linter.unusedVariables false

set_option maxHeartbeats 1000000 in
theorem fnVarint_big (v : Int) (w : World) (h : 4611686018427387903 < v) :
    Calls Try.prog 7 #[.int .u64 v] w fun e w' => e = .returned (.bool true) ∧ Below w.heap.size w w' := by
  go_enter Try.func7, Try.ntmps7
  go_wp2
  go_ret
  exact ⟨rfl, Below.refl _ _⟩

set_option maxHeartbeats 1000000 in
theorem fnVarint_small (v : Int) (w : World) (h0 : 0 ≤ v) (h1 : v ≤ 4611686018427387903) :
    Calls Try.prog 7 #[.int .u64 v] w fun e w' => e = .returned (.bool true) ∧ Below w.heap.size w w' := by
  have hl : Hid ((enc v).length = esz v) := enc_length v
  go_enter Try.func7, Try.ntmps7
  go_wp2_with (go_at_call 26; go_in)
  refine (av w.heap.size _ [] v _ (Own.nil_ _ _) (Nat.le_refl _) (by simp) h0 h1).mono ?_
  rintro e w1 ⟨s1, rfl, ho1, -, -, hb1, -⟩
  obtain ⟨A1, c1, rfl, hr1, hc1, hm1, -⟩ := ho1.rd
  simp only [List.nil_append] at hr1 hc1 hm1
  clear ho1
  go_wp2_with fail
  refine (sva v _ h0 h1).mono ?_
  rintro e w2 ⟨s2, rfl, ho2, hb2⟩
  obtain ⟨A2, c2, rfl, hr2, hc2, hm2, -⟩ := ho2.rd
  clear ho2
  have hr1' := hr1.below hb2
  have hbel2 := hb1.trans (hb2.mono hb1.size)
  go_wp2_with fail
  refine (beq A1 A2 _ _ _ _ (enc v) _ hr1' hr2 rfl rfl).mono ?_
  rintro e w3 ⟨rfl, rfl⟩
  go_wp2_with (go_at_call 28; go_in)
  refine (sv v _ h0 h1).mono ?_
  rintro e w4 ⟨rfl, rfl⟩
  go_wp2_with fail
  refine (sva v _ h0 h1).mono ?_
  rintro e w5 ⟨s5, rfl, ho5, hb5⟩
  obtain ⟨A5, c5, rfl, hr5, hc5, hm5, -⟩ := ho5.rd
  clear ho5
  rw [hl.out]
  go_wp2
  go_ret
  exact ⟨rfl, hbel2.trans (hb5.mono hbel2.size)⟩

theorem fnVarint_walk (v : Int) (hv : 0 ≤ v ∧ v ≤ 18446744073709551615) (w : World) :
    Calls Try.prog 7 #[.int .u64 v] w fun e w' => e = .returned (.bool true) ∧ Below w.heap.size w w' := by
  by_cases h : 4611686018427387903 < v
  · exact fnVarint_big v w h
  · exact fnVarint_small v w hv.1 (by omega)

set_option maxHeartbeats 1000000 in
theorem cut_out (v at_ : Int) (w : World) (h : 4611686018427387903 < v ∨ at_ < 0) :
    Calls Try.prog 8 #[.int .u64 v, .int .i64 at_] w fun e w' => e = .returned (.bool true) ∧ Below w.heap.size w w' := by
  by_cases h1 : 4611686018427387903 < v
  · clear h
    go_enter Try.func8, Try.ntmps8
    go_wp2
    go_ret
    exact ⟨rfl, Below.refl _ _⟩
  · have h2 : at_ < 0 := by omega
    clear h
    go_enter Try.func8, Try.ntmps8
    go_wp2
    go_ret
    exact ⟨rfl, Below.refl _ _⟩

set_option maxHeartbeats 1000000 in
theorem cut_in (v : Int) (k : Nat) (w : World) (h0 : 0 ≤ v) (h1 : v ≤ 4611686018427387903) (hk : k ≤ 9223372036854775807) :
    Calls Try.prog 8 #[.int .u64 v, .int .i64 (k : Nat)] w fun e w' => e = .returned (.bool true) ∧ Below w.heap.size w w' := by
  have hl : Hid ((enc v).length = esz v) := enc_length v
  have hz := esz_bd v
  go_enter Try.func8, Try.ntmps8
  go_wp2_with (go_at_call 26; go_in)
  refine (av w.heap.size _ [] v _ (Own.nil_ _ _) (Nat.le_refl _) (by simp) h0 h1).mono ?_
  rintro e w1 ⟨s1, rfl, ho1, -, -, hb1, -⟩
  obtain ⟨A1, c1, rfl, hr1, hc1, hm1, -⟩ := ho1.rd
  simp only [List.nil_append] at hr1 hc1 hm1 ⊢
  clear ho1
  rw [hl.out] at hc1 ⊢
  unfold maxLen at hm1
  by_cases hlt : k < esz v
  · obtain ⟨b, o, rfl, -⟩ := hr1.2 (by rw [hl.out]; omega)
    have hrk := hr1.take k
    have hlen : Hid (((enc v).take k).length = k) := by show _ = _; rw [List.length_take, hl.out]; omega
    have hcut : Hid (rv ((enc v).take k) = none) := rv_cut h0 h1 k hlt
    go_wp2_with (go_at_call 19; go_in)
    refine (cv_none _ _ _ _ _ hrk hlen (by omega) hcut).mono ?_
    rintro e w2 ⟨rfl, q, rfl⟩
    go_wp2
    go_ret
    exact ⟨rfl, below_drewN hb1 _⟩
  · have hz0 : decide (0 < esz v) = true := by simp; omega
    go_wp2
    go_ret
    exact ⟨rfl, hb1⟩

theorem fnCutVarintIsTold_walk (v : Int) (hv : 0 ≤ v ∧ v ≤ 18446744073709551615) (at_ : Int) (ha : -9223372036854775808 ≤ at_ ∧ at_ ≤ 9223372036854775807) (w : World) :
    Calls Try.prog 8 #[.int .u64 v, .int .i64 at_] w fun e w' => e = .returned (.bool true) ∧ Below w.heap.size w w' := by
  by_cases h : 4611686018427387903 < v ∨ at_ < 0
  · exact cut_out v at_ w h
  · obtain ⟨k, rfl⟩ := Int.eq_ofNat_of_zero_le (show 0 ≤ at_ by omega)
    exact cut_in v k w hv.1 (by omega) (by omega)

set_option maxHeartbeats 1000000 in
/-- laws.copied: a copy of bytes, with more behind them. -/
theorem cop (A : Option Addr) (n c : Nat) (l : List Int) (A' : Option Addr) (n' c' : Nat) (l' : List Int) (w : World) (hr : Rd w A l) (hn : Hid (l.length = n)) (hz : A = none → c = 0) (hr' : Rd w A' l') (hn' : Hid (l'.length = n')) (hz' : A' = none → c' = 0)
    (hb : n ≤ 1099511627776) (hb' : n' ≤ 1099511627776) :
    Calls Try.prog 31 #[.slice A n c, .slice A' n' c'] w fun e w' => MadeEnd w (l ++ l') e w' := by
  have HZ := Lib.hid hz
  have HZ' := Lib.hid hz'
  clear hz hz'
  go_enter Try.func31, Try.ntmps31
  go_wp2_with (first
    | (at_builtin; refine wpList_app w.heap.size _ rfl (.const (.slice none 0 0)) (.tmp 5) rfl _ [] rfl (Own.nil_ _ _) A n c l rfl hn.out (by exact hr) HZ.out (by simp; omega) (Nat.le_refl _) ?_; intro s1 w1 ho1 hg1 ha1 hb1 hn1)
    | (at_builtin; refine wpList_app w.heap.size _ rfl (.tmp 6) (.tmp 7) rfl s1 _ rfl ho1 A' n' c' l' rfl hn'.out (by exact hr'.below hb1) HZ'.out (by have := hn.out; simp; omega) hb1.size ?_; intro s2 w2 ho2 hg2 ha2 hb2 hn2))
  go_ret
  exact ⟨s2, rfl, ho2, hb1.trans hb2⟩

set_option maxHeartbeats 1000000 in
theorem back_big (v : Int) (A : Option Addr) (n c : Nat) (w : World) (hn2 : n ≤ 9223372036854775807) (h : 2147483647 < n ∨ 4611686018427387903 < v) :
    Calls Try.prog 11 #[.int .u64 v, .slice A n c] w fun e w' => e = .returned (.bool true) ∧ Below w.heap.size w w' := by
  by_cases h1 : 2147483647 < n
  · clear h
    go_enter Try.func11, Try.ntmps11
    go_wp2
    go_ret
    exact ⟨rfl, Below.refl _ _⟩
  · have h2 : 4611686018427387903 < v := by omega
    clear h
    go_enter Try.func11, Try.ntmps11
    go_wp2
    go_ret
    exact ⟨rfl, Below.refl _ _⟩

set_option maxHeartbeats 1000000 in
theorem back_small (v : Int) (A : Option Addr) (n c : Nat) (l : List Int) (w : World) (h0 : 0 ≤ v) (h1 : v ≤ 4611686018427387903) (hr : Rd w A l) (hn : Hid (l.length = n)) (HZ : Hid (A = none → c = 0)) (hbig : n ≤ 2147483647) :
    Calls Try.prog 11 #[.int .u64 v, .slice A n c] w fun e w' => e = .returned (.bool true) ∧ Below w.heap.size w w' := by
  have hl : Hid ((enc v).length = esz v) := enc_length v
  have hz := esz_bd v
  have hv : Hid (rv (enc v ++ l) = some (v, esz v)) := rv_enc h0 h1 l
  have hlen : Hid ((enc v ++ l).length = esz v + n) := by show _ = _; rw [List.length_append, hl.out, hn.out]
  go_enter Try.func11, Try.ntmps11
  go_wp2_with (go_at_call 26; go_in)
  refine (av w.heap.size _ [] v _ (Own.nil_ _ _) (Nat.le_refl _) (by simp) h0 h1).mono ?_
  rintro e w1 ⟨s1, rfl, ho1, -, -, hb1, -⟩
  obtain ⟨A1, c1, rfl, hr1, hc1, hm1, hz1⟩ := ho1.rd
  simp only [List.nil_append] at hr1 hc1 hm1 ⊢
  clear ho1
  rw [hl.out] at hc1 ⊢
  have hr' := hr.below hb1
  have HZ1 : Hid (A1 = none → c1 = 0) := fun h => (hz1 h).2
  clear hz1
  go_wp2_with fail
  refine (cop A1 _ c1 (enc v) A n c l _ hr1 hl HZ1.out hr' hn HZ.out (by omega) (by omega)).mono ?_
  rintro e w2 ⟨s2, rfl, ho2, hb2⟩
  obtain ⟨A2, c2, rfl, hr2, hc2, hm2, -⟩ := ho2.rd
  rw [hlen.out] at hc2 ⊢
  go_wp2_with (go_at_call 19; go_in)
  refine (cv_some _ _ _ _ _ v (esz v) hr2 hlen (by omega) hv).mono ?_
  rintro e w3 ⟨rfl, q, rfl⟩
  go_wp2_with (go_at_call 28; go_in)
  refine (sv v _ h0 h1).mono ?_
  rintro e w4 ⟨rfl, rfl⟩
  go_wp2
  go_ret
  exact ⟨rfl, below_drewN (hb1.trans (hb2.mono hb1.size)) _⟩

theorem fnVarintComesBack_walk (v : Int) (hv : 0 ≤ v ∧ v ≤ 18446744073709551615) (A : Option Addr) (l : List Int) (c : Nat) (w : World) (h : ByteArg w A l c) :
    Calls Try.prog 11 #[.int .u64 v, .slice A l.length c] w fun e w' => e = .returned (.bool true) ∧ Below w.heap.size w w' := by
  have hle := h.le
  have hmax := h.max
  unfold maxLen at hmax
  by_cases hb : 2147483647 < l.length ∨ 4611686018427387903 < v
  · exact back_big v A _ c w (by omega) hb
  · exact back_small v A _ c l w hv.1 (by omega) h.rd rfl (fun e => (h.nil e).2) (by omega)

end Go.Proofs.Ytiehheijkabeeaa

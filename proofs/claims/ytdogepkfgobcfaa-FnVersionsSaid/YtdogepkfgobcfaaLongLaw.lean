/- Contract of impl.Long, and the walk of FnLong. Conditions: none. -/
import Derived.Test.YtdogepkfgobcfaaParse
import Derived.Test.YtdogepkfgobcfaaClone
import Derived.Test.YtdogepkfgobcfaaEqual
namespace Go.Proofs.Ytdogepkfgobcfaa
open Go.RowKit
set_option linter.unusedVariables false

set_option maxHeartbeats 2000000 in
theorem zz_no (b o n c : Nat) (l : List Int) (w : World) (hr : Rd w (some ⟨b, o, none⟩) l) (hn : Hid (l.length = n)) (hbig : n ≤ 2147483647) (h128 : 128 ≤ l.getD 0 0) (h1 : 1 ≤ n) (hno : Hid (n < lend l)) :
    Calls Try.prog 49 #[.slice (some ⟨b, o, none⟩) n c] w fun e w' => NoLong e ∧ Below w.heap.size w w' := by
  go_enter Try.func49, Try.ntmps49
  go_wp2_with fail
  refine (clone_some ⟨b, o, none⟩ n c l _ hr hn (by omega)).mono ?_
  rintro e w1 ⟨⟨g, cap, rfl, ho1, h11, h12⟩, hb1⟩
  have hr1 := Rd.of_own ho1
  clear ho1
  go_wp2_with fail
  refine (pg_no g 0 n cap l _ hr1 hn h11 h12 h128 h1 hno.out).mono ?_
  rintro e w2 ⟨rfl, hb2⟩
  have hbel := hb1.trans (hb2.mono hb1.size)
  go_wp2_with fail
  go_quiet (fail)
  go_wp2
  refine bodyPost_ret (results5 rfl _ _ _) rfl ?_
  exact ⟨rfl, below_drewN (hbel.alloc hbel.size _) _⟩

set_option maxHeartbeats 2000000 in
theorem zz_yes (b o n c : Nat) (l : List Int) (w : World) (hr : Rd w (some ⟨b, o, none⟩) l) (hn : Hid (l.length = n)) (hbig : n ≤ 2147483647) (h128 : 128 ≤ l.getD 0 0) (hyes : Hid (lend l ≤ n)) :
    Calls Try.prog 49 #[.slice (some ⟨b, o, none⟩) n c] w fun e w' => (∃ A1 c1 A2 c2 A3 c3, e = .returned (.tuple #[.int .u32 (ver l), .slice A1 (lx l) c1, .slice A2 (ly l) c2, .slice A3 (n - lend l) c3, .bool true]) ∧ Rd w' A1 ((l.drop 6).take (lx l)) ∧ Rd w' A2 ((l.drop (7 + lx l)).take (ly l)) ∧ Rd w' A3 (l.drop (lend l))) ∧ Below w.heap.size w w' := by
  go_enter Try.func49, Try.ntmps49
  go_wp2_with fail
  refine (clone_some ⟨b, o, none⟩ n c l _ hr hn (by omega)).mono ?_
  rintro e w1 ⟨⟨g, cap, rfl, ho1, h11, h12⟩, hb1⟩
  have hr1 := Rd.of_own ho1
  clear ho1
  go_wp2_with fail
  refine (pg_yes g 0 n cap l _ hr1 hn h11 h12 h128 hyes.out).mono ?_
  rintro e w2 ⟨⟨A1, c1, A2, c2, A3, c3, rfl, k1, k2, k3, -, -⟩, hb2⟩
  have hbel := hb1.trans (hb2.mono hb1.size)
  have HK := Lib.hid (⟨k1, k2, k3⟩ : Rd w2 A1 _ ∧ Rd w2 A2 _ ∧ Rd w2 A3 _)
  clear k1 k2 k3
  go_wp2_with fail
  go_quiet (fail)
  go_wp2
  refine bodyPost_ret (results5 rfl _ _ _) rfl ?_
  exact ⟨⟨A1, c1, A2, c2, A3, c3, rfl, HK.out.1.alloc _, HK.out.2.1.alloc _, HK.out.2.2.alloc _⟩, below_drewN (hbel.alloc hbel.size _) _⟩

set_option maxHeartbeats 1000000 in
theorem impl_no (b o n c : Nat) (l : List Int) (w : World) (hr : Rd w (some ⟨b, o, none⟩) l) (hn : Hid (l.length = n)) (hbig : n ≤ 2147483647) (h128 : 128 ≤ l.getD 0 0) (h1 : 1 ≤ n) (hno : Hid (n < lend l)) :
    Calls Try.prog 18 #[.slice (some ⟨b, o, none⟩) n c] w fun e w' => NoLong e ∧ Below w.heap.size w w' := by
  go_enter Try.func18, Try.ntmps18
  go_wp2_with fail
  refine (zz_no b o n c l _ hr hn hbig h128 h1 hno).mono ?_
  rintro e w1 ⟨rfl, hb1⟩
  go_wp2
  refine bodyPost_ret (results5 rfl _ _ _) rfl ?_
  exact ⟨rfl, hb1⟩

set_option maxHeartbeats 1000000 in
theorem impl_yes (b o n c : Nat) (l : List Int) (w : World) (hr : Rd w (some ⟨b, o, none⟩) l) (hn : Hid (l.length = n)) (hbig : n ≤ 2147483647) (h128 : 128 ≤ l.getD 0 0) (hyes : Hid (lend l ≤ n)) :
    Calls Try.prog 18 #[.slice (some ⟨b, o, none⟩) n c] w fun e w' => (∃ A1 c1 A2 c2 A3 c3, e = .returned (.tuple #[.int .u32 (ver l), .slice A1 (lx l) c1, .slice A2 (ly l) c2, .slice A3 (n - lend l) c3, .bool true]) ∧ Rd w' A1 ((l.drop 6).take (lx l)) ∧ Rd w' A2 ((l.drop (7 + lx l)).take (ly l)) ∧ Rd w' A3 (l.drop (lend l))) ∧ Below w.heap.size w w' := by
  go_enter Try.func18, Try.ntmps18
  go_wp2_with fail
  refine (zz_yes b o n c l _ hr hn hbig h128 hyes).mono ?_
  rintro e w1 ⟨⟨A1, c1, A2, c2, A3, c3, rfl, hk⟩, hb1⟩
  have HK := Lib.hid hk
  clear hk
  go_wp2
  refine bodyPost_ret (results5 rfl _ _ _) rfl ?_
  exact ⟨⟨A1, c1, A2, c2, A3, c3, rfl, HK.out⟩, hb1⟩

set_option maxHeartbeats 1000000 in
theorem long_out (A : Option Addr) (n c : Nat) (w : World) (hn2 : n ≤ 9223372036854775807) (h : n = 0 ∨ 2147483647 < n) :
    Calls Try.prog 4 #[.slice A n c] w fun e w' => e = .returned (.bool true) ∧ Below w.heap.size w w' := by
  rcases h with rfl | h
  · go_enter Try.func4, Try.ntmps4
    go_wp2
    go_ret
    exact ⟨rfl, Below.refl _ _⟩
  · go_enter Try.func4, Try.ntmps4
    go_wp2
    go_ret
    exact ⟨rfl, Below.refl _ _⟩

set_option maxHeartbeats 1000000 in
theorem long_shortheader (b o n c : Nat) (x : Int) (w : World) (hn2 : n ≤ 2147483647) (h1 : 1 ≤ n) (hx : 0 ≤ x) (h128 : x < 128) (c0 : w.cell? ⟨b, o, none⟩ = some (.int .u8 x)) :
    Calls Try.prog 4 #[.slice (some ⟨b, o, none⟩) n c] w fun e w' => e = .returned (.bool true) ∧ Below w.heap.size w w' := by
  have hd : decide ((128 : Int) ≤ x) = false := by simp; omega
  have hz : decide ((0 : Int) < n) = true := by simp; omega
  go_enter Try.func4, Try.ntmps4
  go_wp2
  go_ret
  exact ⟨rfl, Below.refl _ _⟩

set_option maxHeartbeats 2000000 in
theorem long_no (b o n c : Nat) (l : List Int) (x : Int) (w : World) (hr : Rd w (some ⟨b, o, none⟩) l) (hn : Hid (l.length = n)) (hnc : n ≤ c) (hc2 : c ≤ 9223372036854775807) (hbig : n ≤ 2147483647) (h128 : Hid (128 ≤ l.getD 0 0)) (hx1 : x ≤ 255) (h1 : 1 ≤ n) (hno : Hid (n < lend l)) (hx : 128 ≤ x) (c0 : w.cell? ⟨b, o, none⟩ = some (.int .u8 x)) :
    Calls Try.prog 4 #[.slice (some ⟨b, o, none⟩) n c] w fun e w' => e = .returned (.bool true) ∧ Below w.heap.size w w' := by
  have hd : decide ((128 : Int) ≤ x) = true := by simp; omega
  have hz : decide ((0 : Int) < n) = true := by simp; omega
  have hbg : Hid (b ≠ w.heap.size) := by have := World.block_lt_of_cell? _ _ c0; simp at this; show _ ≠ _; omega
  go_enter Try.func4, Try.ntmps4
  go_wp2_with (go_at_call 15; go_in)
  refine (slong_no b o n c l _ hr hn hbg hnc hc2 h128.out hno.out).mono ?_
  rintro e w1 ⟨rfl, hb1⟩
  have hr1 := hr.below hb1
  go_wp2_with fail
  refine (impl_no b o n c l _ hr1 hn hbig h128.out h1 hno).mono ?_
  rintro e w2 ⟨rfl, hb2⟩
  go_wp2
  go_ret
  exact ⟨rfl, hb1.trans (hb2.mono hb1.size)⟩

set_option maxHeartbeats 2000000 in
theorem long_yes (b o n c : Nat) (l : List Int) (x : Int) (w : World) (hr : Rd w (some ⟨b, o, none⟩) l) (hn : Hid (l.length = n)) (hnc : n ≤ c) (hc2 : c ≤ 9223372036854775807) (hbig : n ≤ 2147483647) (h128 : Hid (128 ≤ l.getD 0 0)) (hx1 : x ≤ 255) (h1 : 1 ≤ n) (hyes : Hid (lend l ≤ n)) (hx : 128 ≤ x) (c0 : w.cell? ⟨b, o, none⟩ = some (.int .u8 x)) :
    Calls Try.prog 4 #[.slice (some ⟨b, o, none⟩) n c] w fun e w' => e = .returned (.bool true) ∧ Below w.heap.size w w' := by
  have hd : decide ((128 : Int) ≤ x) = true := by simp; omega
  have hz : decide ((0 : Int) < n) = true := by simp; omega
  have hbg : Hid (b ≠ w.heap.size) := by have := World.block_lt_of_cell? _ _ c0; simp at this; show _ ≠ _; omega
  have hl1 : Hid (((l.drop 6).take (lx l)).length = lx l) := by show _ = _; have := hn.out; have := hyes.out; unfold lend at this; rw [List.length_take, List.length_drop]; omega
  have hl2 : Hid (((l.drop (7 + lx l)).take (ly l)).length = ly l) := by show _ = _; have := hn.out; have := hyes.out; unfold lend at this; rw [List.length_take, List.length_drop]; omega
  have hl3 : Hid ((l.drop (lend l)).length = n - lend l) := by show _ = _; rw [List.length_drop, hn.out]
  go_enter Try.func4, Try.ntmps4
  go_wp2_with (go_at_call 15; go_in)
  refine (slong_yes b o n c l _ hr hn hbg hnc hc2 h128.out hyes.out).mono ?_
  rintro e w1 ⟨⟨A1, c1, A2, c2, A3, c3, rfl, k1, k2, k3, -, -, -⟩, hb1⟩
  have hr1 := hr.below hb1
  by_cases h20 : 20 < lx l
  · go_wp2
    go_ret
    exact ⟨rfl, hb1⟩
  by_cases h20' : 20 < ly l
  · go_wp2
    go_ret
    exact ⟨rfl, hb1⟩
  go_wp2_with fail
  refine (impl_yes b o n c l _ hr1 hn hbig h128.out hyes).mono ?_
  rintro e w2 ⟨⟨B1, d1, B2, d2, B3, d3, rfl, m1, m2, m3⟩, hb2⟩
  have k1' := k1.below hb2
  have k2' := k2.below hb2
  have k3' := k3.below hb2
  clear k1 k2 k3 hr hr1
  go_wp2_with fail
  refine (beq B1 A1 _ _ _ _ _ _ m1 k1' hl1 hl1).mono ?_
  rintro e w3 ⟨rfl, rfl⟩
  go_wp2_with fail
  refine (beq B2 A2 _ _ _ _ _ _ m2 k2' hl2 hl2).mono ?_
  rintro e w3 ⟨rfl, rfl⟩
  go_wp2_with fail
  refine (beq B3 A3 _ _ _ _ _ _ m3 k3' hl3 hl3).mono ?_
  rintro e w3 ⟨rfl, rfl⟩
  go_wp2
  go_ret
  exact ⟨rfl, hb1.trans (hb2.mono hb1.size)⟩

theorem fnLong_walk (A : Option Addr) (l : List Int) (c : Nat) (w : World) (h : ByteArg w A l c) :
    Calls Try.prog 4 #[.slice A l.length c] w fun e w' => e = .returned (.bool true) ∧ Below w.heap.size w w' := by
  have hr := h.rd
  have hle := h.le
  have hmax := h.max
  unfold maxLen at hmax
  by_cases ho : l.length = 0 ∨ 2147483647 < l.length
  · exact long_out A _ c w (by omega) ho
  obtain ⟨b, o, rfl, hc⟩ := hr.2 (by omega)
  have c0 : w.cell? ⟨b, o, none⟩ = some (.int .u8 (l.getD 0 0)) := by simpa using hc 0 (by omega)
  have hx := hr.1.getD 0
  by_cases h128 : l.getD 0 0 < 128
  · exact long_shortheader b o _ c _ w (by omega) (by omega) hx.1 h128 c0
  by_cases hyes : lend l ≤ l.length
  · exact long_yes b o _ c l _ w hr rfl hle (by omega) (by omega) (show _ ≤ _ by omega) hx.2 (by omega) hyes (by omega) c0
  · exact long_no b o _ c l _ w hr rfl hle (by omega) (by omega) (show _ ≤ _ by omega) hx.2 (by omega) (show _ < _ by omega) (by omega) c0

end Go.Proofs.Ytdogepkfgobcfaa

/- Contracts of dstConnIDForDatagram, and the walk of FnDestination. Conditions: none. -/
import Derived.Test.YtdogepkfgobcfaaLongLaw
namespace Go.Proofs.Ytdogepkfgobcfaa
open Go.RowKit
set_option linter.unusedVariables false

def NoDst (e : Ending) : Prop := e = .returned (.tuple #[.slice none 0 0, .bool false])

set_option maxHeartbeats 1000000 in
theorem dst_nil (A : Option Addr) (c : Nat) (w : World) :
    Calls Try.prog 70 #[.slice A 0 c] w fun e w' => NoDst e ∧ Below w.heap.size w w' := by
  go_enter Try.func70, Try.ntmps70
  go_wp2
  go_ret2
  exact ⟨rfl, Below.refl _ _⟩

set_option maxHeartbeats 1000000 in
theorem dst_long5 (b o n c : Nat) (x0 : Int) (w : World) (h1 : 1 ≤ n) (h6 : n < 6) (x0h : 128 ≤ x0 ∧ x0 ≤ 255) (c0 : w.cell? ⟨b, o, none⟩ = some (.int .u8 x0)) :
    Calls Try.prog 70 #[.slice (some ⟨b, o, none⟩) n c] w fun e w' => NoDst e ∧ Below w.heap.size w w' := by
  have f1 : bits .and .u8 x0 128 = 128 := by rw [and128 x0 (by omega) (by omega)]; omega
  have hx0 := x0h.1
  have hx1 := x0h.2
  have hz5 : decide ((n : Int) < 1) = false := by simp; omega
  go_enter Try.func70, Try.ntmps70
  go_wp2_with (go_at_call 93; go_in)
  go_ret2
  exact ⟨rfl, Below.refl _ _⟩

set_option maxHeartbeats 1000000 in
theorem dst_longcut (b o n c : Nat) (x : Nat) (x0 : Int) (w : World) (h6 : 6 ≤ n) (hnc : n ≤ c) (hc2 : c ≤ 9223372036854775807) (x0h : 128 ≤ x0 ∧ x0 ≤ 255) (c0 : w.cell? ⟨b, o, none⟩ = some (.int .u8 x0)) (hx : x ≤ 255) (c5 : w.cell? ⟨b, o + 5, none⟩ = some (.int .u8 (x : Nat))) (hs : n - 6 < x) :
    Calls Try.prog 70 #[.slice (some ⟨b, o, none⟩) n c] w fun e w' => NoDst e ∧ Below w.heap.size w w' := by
  have f1 : bits .and .u8 x0 128 = 128 := by rw [and128 x0 (by omega) (by omega)]; omega
  have hx0 := x0h.1
  have hx1 := x0h.2
  have hz1 : decide ((n : Int) < 1) = false := by simp; omega
  have hz6 : decide ((n : Int) < 6) = false := by simp; omega
  have hd : decide (n - 6 < x) = true := by simpa using hs
  obtain ⟨Ak, hAk⟩ : ∃ Ak, (if c = 6 then (some ⟨b, o, none⟩ : Option Addr) else some ⟨b, o + 6, none⟩) = Ak := ⟨_, rfl⟩
  go_enter Try.func70, Try.ntmps70
  go_wp2_with (go_at_call 93; go_in)
  go_ret2
  exact ⟨rfl, Below.refl _ _⟩

set_option maxHeartbeats 1000000 in
theorem dst_longyes (b o n c : Nat) (l : List Int) (x : Nat) (x0 : Int) (w : World) (hr : Rd w (some ⟨b, o, none⟩) l) (hn : Hid (l.length = n)) (h6 : 6 ≤ n) (hnc : n ≤ c) (hc2 : c ≤ 9223372036854775807) (x0h : 128 ≤ x0 ∧ x0 ≤ 255) (c0 : w.cell? ⟨b, o, none⟩ = some (.int .u8 x0)) (hx : x ≤ 255) (c5 : w.cell? ⟨b, o + 5, none⟩ = some (.int .u8 (x : Nat))) (hs : x ≤ n - 6) :
    Calls Try.prog 70 #[.slice (some ⟨b, o, none⟩) n c] w fun e w' => (∃ A' c', e = .returned (.tuple #[.slice A' x c', .bool true]) ∧ Rd w' A' ((l.drop 6).take x)) ∧ Below w.heap.size w w' := by
  have f1 : bits .and .u8 x0 128 = 128 := by rw [and128 x0 (by omega) (by omega)]; omega
  have hx0 := x0h.1
  have hx1 := x0h.2
  have hz1 : decide ((n : Int) < 1) = false := by simp; omega
  have hz6 : decide ((n : Int) < 6) = false := by simp; omega
  have hd : decide (n - 6 < x) = false := by simpa using hs
  have hcut := Lib.hid ((hr.cut_at (k := 6) (cap := c) (by have := hn.out; omega)).take x)
  clear hr
  by_cases hck : c = 6
  · subst hck
    rw [if_pos rfl] at hcut
    go_enter Try.func70, Try.ntmps70
    go_wp2_with (go_at_call 93; go_in)
    go_ret2
    exact ⟨⟨_, _, rfl, hcut.out⟩, Below.refl _ _⟩
  · rw [if_neg hck] at hcut
    go_enter Try.func70, Try.ntmps70
    go_wp2_with (go_at_call 93; go_in)
    go_ret2
    exact ⟨⟨_, _, rfl, hcut.out⟩, Below.refl _ _⟩

set_option maxHeartbeats 1000000 in
theorem dst_shortcut (b o n c : Nat) (x0 : Int) (w : World) (h1 : 1 ≤ n) (h9 : n < 9) (hnc : n ≤ c) (hc2 : c ≤ 9223372036854775807) (x0h : 0 ≤ x0 ∧ x0 < 128) (c0 : w.cell? ⟨b, o, none⟩ = some (.int .u8 x0)) :
    Calls Try.prog 70 #[.slice (some ⟨b, o, none⟩) n c] w fun e w' => NoDst e ∧ Below w.heap.size w w' := by
  have f1 : bits .and .u8 x0 128 = 0 := by rw [and128 x0 (by omega) (by omega)]; omega
  have hx0 := x0h.1
  have hx1 := x0h.2
  have hz1 : decide ((n : Int) < 1) = false := by simp; omega
  have hd : decide (((n - 1 : Nat) : Int) < 8) = true := by simp; omega
  obtain ⟨Ak, hAk⟩ : ∃ Ak, (if c = 1 then (some ⟨b, o, none⟩ : Option Addr) else some ⟨b, o + 1, none⟩) = Ak := ⟨_, rfl⟩
  go_enter Try.func70, Try.ntmps70
  go_wp2_with (go_at_call 93; go_in)
  go_ret2
  exact ⟨rfl, Below.refl _ _⟩

set_option maxHeartbeats 1000000 in
theorem dst_shortyes (b o n c : Nat) (l : List Int) (x0 : Int) (w : World) (hr : Rd w (some ⟨b, o, none⟩) l) (hn : Hid (l.length = n)) (h9 : 9 ≤ n) (hnc : n ≤ c) (hc2 : c ≤ 9223372036854775807) (x0h : 0 ≤ x0 ∧ x0 < 128) (c0 : w.cell? ⟨b, o, none⟩ = some (.int .u8 x0)) :
    Calls Try.prog 70 #[.slice (some ⟨b, o, none⟩) n c] w fun e w' => (∃ A' c', e = .returned (.tuple #[.slice A' 8 c', .bool true]) ∧ Rd w' A' ((l.drop 1).take 8)) ∧ Below w.heap.size w w' := by
  have f1 : bits .and .u8 x0 128 = 0 := by rw [and128 x0 (by omega) (by omega)]; omega
  have hx0 := x0h.1
  have hx1 := x0h.2
  have hz1 : decide ((n : Int) < 1) = false := by simp; omega
  have hd : decide (((n - 1 : Nat) : Int) < 8) = false := by simp; omega
  have hck : ¬ c = 1 := by omega
  have hcut := ((hr.cut_at (k := 1) (cap := c) (by have := hn.out; omega)).take 8)
  rw [if_neg hck] at hcut
  have hcut := Lib.hid hcut
  clear hr
  go_enter Try.func70, Try.ntmps70
  go_wp2_with (go_at_call 93; go_in)
  go_ret2
  exact ⟨⟨_, _, rfl, hcut.out⟩, Below.refl _ _⟩

/-- A destination: none; the eight bytes of a short header; a long header's first ID. -/
def DstEnd (w' : World) (l : List Int) (e : Ending) : Prop :=
  (l.length < 9 ∧ l.getD 0 0 < 128 ∧ NoDst e) ∨ (9 ≤ l.length ∧ l.getD 0 0 < 128 ∧ ∃ A' c', e = .returned (.tuple #[.slice A' 8 c', .bool true]) ∧ Rd w' A' ((l.drop 1).take 8)) ∨
  (128 ≤ l.getD 0 0 ∧ l.length < lend l ∧ ∃ A' n' c' k, e = .returned (.tuple #[.slice A' n' c', .bool k])) ∨ (128 ≤ l.getD 0 0 ∧ 6 + lx l ≤ l.length ∧ ∃ A' c', e = .returned (.tuple #[.slice A' (lx l) c', .bool true]) ∧ Rd w' A' ((l.drop 6).take (lx l)))

theorem dst (A : Option Addr) (n c : Nat) (l : List Int) (w : World) (hr : Rd w A l) (hn : Hid (l.length = n)) (hnc : n ≤ c) (hc2 : c ≤ 9223372036854775807) :
    Calls Try.prog 70 #[.slice A n c] w fun e w' => DstEnd w' l e ∧ Below w.heap.size w w' := by
  have hn' := hn.out
  by_cases h0 : n = 0
  · subst h0
    have hl : l = [] := List.eq_nil_of_length_eq_zero hn'
    subst hl
    exact (dst_nil A c w).mono fun e w' ⟨he, hb⟩ => ⟨.inl ⟨by simp, by simp, he⟩, hb⟩
  obtain ⟨b, o, rfl, hc⟩ := hr.2 (by omega)
  have c0 : w.cell? ⟨b, o, none⟩ = some (.int .u8 (l.getD 0 0)) := by simpa using hc 0 (by omega)
  have hx := hr.1.getD 0
  have hX := lx_eq hr.1
  by_cases h128 : l.getD 0 0 < 128
  · by_cases h9 : n < 9
    · exact (dst_shortcut b o n c _ w (by omega) h9 hnc hc2 ⟨hx.1, h128⟩ c0).mono fun e w' ⟨he, hb⟩ => ⟨.inl ⟨by omega, h128, he⟩, hb⟩
    · exact (dst_shortyes b o n c l _ w hr hn (by omega) hnc hc2 ⟨hx.1, h128⟩ c0).mono fun e w' ⟨he, hb⟩ => ⟨.inr (.inl ⟨by omega, h128, he⟩), hb⟩
  by_cases h6 : n < 6
  · exact (dst_long5 b o n c _ w (by omega) h6 ⟨by omega, hx.2⟩ c0).mono fun e w' ⟨he, hb⟩ => ⟨.inr (.inr (.inl ⟨by omega, by unfold lend; omega, _, _, _, _, he⟩)), hb⟩
  have c5 : w.cell? ⟨b, o + 5, none⟩ = some (.int .u8 (lx l : Nat)) := by rw [← hX.1]; exact hc 5 (by omega)
  by_cases hs : n - 6 < lx l
  · exact (dst_longcut b o n c _ _ w (by omega) hnc hc2 ⟨by omega, hx.2⟩ c0 hX.2 c5 hs).mono fun e w' ⟨he, hb⟩ => ⟨.inr (.inr (.inl ⟨by omega, by unfold lend; omega, _, _, _, _, he⟩)), hb⟩
  · exact (dst_longyes b o n c l _ _ w hr hn (by omega) hnc hc2 ⟨by omega, hx.2⟩ c0 hX.2 c5 (by omega)).mono fun e w' ⟨he, hb⟩ => ⟨.inr (.inr (.inr ⟨by omega, by omega, he⟩)), hb⟩

theorem DstEnd.ret {w' : World} {l : List Int} {e : Ending} (h : DstEnd w' l e) : ∃ A' n' c' k, e = .returned (.tuple #[.slice A' n' c', .bool k]) := by
  rcases h with ⟨_, _, h⟩ | ⟨_, _, _, _, h, _⟩ | ⟨_, _, h⟩ | ⟨_, _, _, _, h, _⟩
  · exact ⟨_, _, _, _, h⟩
  · exact ⟨_, _, _, _, h⟩
  · exact h
  · exact ⟨_, _, _, _, h⟩

set_option maxHeartbeats 1000000 in
theorem impldst_some (ad : Addr) (n c : Nat) (l : List Int) (w : World) (hr : Rd w (some ad) l) (hn : Hid (l.length = n)) (hb : n ≤ 140737488355328) :
    Calls Try.prog 14 #[.slice (some ad) n c] w fun e w' => DstEnd w' l e ∧ Below w.heap.size w w' := by
  go_enter Try.func14, Try.ntmps14
  go_wp2_with (go_at_call 46; go_in)
  refine (clone_some ad n c l _ hr hn (by omega)).mono ?_
  rintro e w1 ⟨⟨g, cap, rfl, ho1, h11, h12⟩, hb1⟩
  have hr1 := Rd.of_own ho1
  clear ho1
  go_wp2_with fail
  refine (dst _ n cap l _ hr1 hn h11 h12).mono ?_
  rintro e w2 ⟨he, hb2⟩
  obtain ⟨A', n', c', k, rfl⟩ := he.ret
  have he := Lib.hid he
  go_wp2
  go_ret2
  exact ⟨he.out, hb1.trans (hb2.mono hb1.size)⟩

set_option maxHeartbeats 1000000 in
theorem impldst_nil (n c : Nat) (w : World) :
    Calls Try.prog 14 #[.slice none n c] w fun e w' => NoDst e ∧ Below w.heap.size w w' := by
  go_enter Try.func14, Try.ntmps14
  go_wp2_with (go_at_call 46; go_in)
  refine (clone_nil n c _).mono ?_
  rintro e w1 ⟨rfl, rfl⟩
  go_wp2_with fail
  refine (dst_nil _ _ _).mono ?_
  rintro e w2 ⟨rfl, hb2⟩
  go_wp2
  go_ret2
  exact ⟨rfl, hb2⟩

theorem impldst (A : Option Addr) (n c : Nat) (l : List Int) (w : World) (hr : Rd w A l) (hn : Hid (l.length = n)) (hA : A = none → n = 0) (hb : n ≤ 140737488355328) :
    Calls Try.prog 14 #[.slice A n c] w fun e w' => DstEnd w' l e ∧ Below w.heap.size w w' := by
  cases A with
  | some a => exact impldst_some a n c l w hr hn hb
  | none => 
    obtain rfl := hA rfl
    have hl : l = [] := List.eq_nil_of_length_eq_zero hn.out
    subst hl
    exact (impldst_nil 0 c w).mono fun e w' ⟨he, h⟩ => ⟨.inl ⟨by simp, by simp, he⟩, h⟩

set_option maxHeartbeats 1000000 in
theorem ldst_big (A : Option Addr) (n c : Nat) (w : World) (hn2 : n ≤ 9223372036854775807) (h : 2147483647 < n) :
    Calls Try.prog 3 #[.slice A n c] w fun e w' => e = .returned (.bool true) ∧ Below w.heap.size w w' := by
  go_enter Try.func3, Try.ntmps3
  go_wp2
  go_ret
  exact ⟨rfl, Below.refl _ _⟩

set_option maxHeartbeats 1000000 in
theorem ldst_short0 (A : Option Addr) (c : Nat) (w : World) :
    Calls Try.prog 3 #[.slice A 0 c] w fun e w' => e = .returned (.bool true) ∧ Below w.heap.size w w' := by
  go_enter Try.func3, Try.ntmps3
  go_wp2_with fail
  refine (impldst A 0 c [] _ (Rd.nil _ _) (show _ = _ from rfl) (fun _ => rfl) (by omega)).mono ?_
  rintro e w1 ⟨he, hb1⟩
  obtain rfl : NoDst e := by
    rcases he with ⟨_, _, h⟩ | ⟨h, _⟩ | ⟨h, _⟩ | ⟨h, _⟩
    · exact h
    · simp at h
    · simp at h
    · simp at h
  go_wp2_with (go_at_call 15; go_in)
  go_ret
  exact ⟨rfl, hb1⟩

set_option maxHeartbeats 1000000 in
theorem ldst_short (b o n c : Nat) (l : List Int) (x : Int) (w : World) (hr : Rd w (some ⟨b, o, none⟩) l) (hn : Hid (l.length = n)) (hn2 : n ≤ 2147483647) (h1 : 1 ≤ n) (h9 : n < 9) (hx : x < 128) (hX : Hid (l.getD 0 0 = x)) (c0 : w.cell? ⟨b, o, none⟩ = some (.int .u8 x)) :
    Calls Try.prog 3 #[.slice (some ⟨b, o, none⟩) n c] w fun e w' => e = .returned (.bool true) ∧ Below w.heap.size w w' := by
  have hr' := Lib.hid hr
  have hl := World.block_lt_of_cell? _ _ c0
  have hd : decide ((128 : Int) ≤ x) = false := by simp; omega
  have hz : decide ((0 : Int) < n) = true := by simp; omega
  clear hr
  go_enter Try.func3, Try.ntmps3
  go_wp2_with fail
  refine (impldst_some _ n c l _ hr'.out hn (by omega)).mono ?_
  rintro e w1 ⟨he, hb1⟩
  obtain rfl : NoDst e := by
    have := hn.out
    have := hX.out
    rcases he with ⟨_, _, h⟩ | ⟨h, _⟩ | ⟨h, _⟩ | ⟨h, _⟩
    · exact h
    · omega
    · omega
    · omega
  have c1 : w1.cell? ⟨b, o, none⟩ = some (.int .u8 x) := (hb1.cell hl).trans c0
  go_wp2_with (go_at_call 15; go_in)
  go_ret
  exact ⟨rfl, hb1⟩

set_option maxHeartbeats 1000000 in
theorem ldst_shortyes (b o n c : Nat) (l : List Int) (x : Int) (w : World) (hr : Rd w (some ⟨b, o, none⟩) l) (hn : Hid (l.length = n)) (hn2 : n ≤ 2147483647) (hnc : n ≤ c) (hc2 : c ≤ 9223372036854775807) (h9 : 9 ≤ n) (hx : x < 128) (hX : Hid (l.getD 0 0 = x)) (c0 : w.cell? ⟨b, o, none⟩ = some (.int .u8 x)) :
    Calls Try.prog 3 #[.slice (some ⟨b, o, none⟩) n c] w fun e w' => e = .returned (.bool true) ∧ Below w.heap.size w w' := by
  have hl := World.block_lt_of_cell? _ _ c0
  have hd : decide ((128 : Int) ≤ x) = false := by simp; omega
  have hz : decide ((0 : Int) < n) = true := by simp; omega
  have hz9 : decide ((n : Int) < 9) = false := by simp; omega
  have hck : ¬ c = 1 := by omega
  have hcut := ((hr.cut_at (k := 1) (cap := c) (by have := hn.out; omega)).take 8)
  rw [if_neg hck] at hcut
  have hln : Hid (((l.drop 1).take 8).length = 8) := by show _ = _; have := hn.out; rw [List.length_take, List.length_drop]; omega
  have hcut := Lib.hid hcut
  have hr' := Lib.hid hr
  clear hr
  go_enter Try.func3, Try.ntmps3
  go_wp2_with fail
  refine (impldst_some _ n c l _ hr'.out hn (by omega)).mono ?_
  rintro e w1 ⟨he, hb1⟩
  obtain ⟨A1, c1, rfl, hr1⟩ : ∃ A' c', e = .returned (.tuple #[.slice A' 8 c', .bool true]) ∧ Rd w1 A' ((l.drop 1).take 8) := by
    have := hn.out
    have := hX.out
    rcases he with ⟨h, _⟩ | ⟨_, _, h⟩ | ⟨h, _⟩ | ⟨h, _⟩
    · omega
    · exact h
    · omega
    · omega
  have k1 : w1.cell? ⟨b, o, none⟩ = some (.int .u8 x) := (hb1.cell hl).trans c0
  have hr1 := Lib.hid hr1
  have hcut1 := Lib.hid (hcut.out.below hb1)
  go_wp2_with (go_at_call 15; go_in)
  refine (beq _ _ _ _ _ _ _ _ hr1.out hcut1.out hln hln).mono ?_
  rintro e w3 ⟨rfl, rfl⟩
  go_wp2
  go_ret
  exact ⟨rfl, hb1⟩

set_option maxHeartbeats 2000000 in
theorem ldst_long (b o n c : Nat) (l : List Int) (x : Int) (w : World) (hr : Rd w (some ⟨b, o, none⟩) l) (hn : Hid (l.length = n)) (hnc : n ≤ c) (hc2 : c ≤ 9223372036854775807) (hn2 : n ≤ 2147483647) (h1 : 1 ≤ n) (hx : 128 ≤ x) (hX : Hid (l.getD 0 0 = x)) (c0 : w.cell? ⟨b, o, none⟩ = some (.int .u8 x)) :
    Calls Try.prog 3 #[.slice (some ⟨b, o, none⟩) n c] w fun e w' => e = .returned (.bool true) ∧ Below w.heap.size w w' := by
  have hl := World.block_lt_of_cell? _ _ c0
  have hd : decide ((128 : Int) ≤ x) = true := by simp; omega
  have hz : decide ((0 : Int) < n) = true := by simp; omega
  have h128 : Hid (128 ≤ l.getD 0 0) := by show _ ≤ _; rw [hX.out]; exact hx
  have hr' := Lib.hid hr
  clear hr
  go_enter Try.func3, Try.ntmps3
  go_wp2_with fail
  refine (impldst_some _ n c l _ hr'.out hn (by omega)).mono ?_
  rintro e w1 ⟨he, hb1⟩
  have k1 : w1.cell? ⟨b, o, none⟩ = some (.int .u8 x) := (hb1.cell hl).trans c0
  have hbg : Hid (b ≠ w1.heap.size) := Nat.ne_of_lt (Nat.lt_of_lt_of_le hl hb1.size)
  have hr1 := Lib.hid (hr'.out.below hb1)
  by_cases hyes : lend l ≤ n
  · have hyes := Lib.hid hyes
    obtain ⟨A1, c1, rfl, hr2⟩ : ∃ A' c', e = .returned (.tuple #[.slice A' (lx l) c', .bool true]) ∧ Rd w1 A' ((l.drop 6).take (lx l)) := by
      have := hn.out
      have := h128.out
      have := hyes.out
      rcases he with ⟨_, h, _⟩ | ⟨_, h, _⟩ | ⟨_, h, _⟩ | ⟨_, _, h⟩
      · omega
      · omega
      · omega
      · exact h
    have hr2 := Lib.hid hr2
    have hl1 : Hid (((l.drop 6).take (lx l)).length = lx l) := by show _ = _; have := hn.out; have := hyes.out; unfold lend at this; rw [List.length_take, List.length_drop]; omega
    go_wp2_with (go_at_call 15; go_in)
    refine (slong_yes b o n c l _ hr1.out hn hbg hnc hc2 h128.out hyes.out).mono ?_
    rintro e w2 ⟨⟨B1, d1, B2, d2, B3, d3, rfl, k1', -, -, -, -, -⟩, hb2⟩
    have k1' := Lib.hid k1'
    have hr3 := Lib.hid (hr2.out.below hb2)
    have hbb := hb1.trans (hb2.mono hb1.size)
    by_cases h20 : 20 < lx l
    · go_wp2
      go_ret
      exact ⟨rfl, hbb⟩
    by_cases h20' : 20 < ly l
    · go_wp2
      go_ret
      exact ⟨rfl, hbb⟩
    go_wp2_with fail
    refine (beq _ _ _ _ _ _ _ _ hr3.out k1'.out hl1 hl1).mono ?_
    rintro e w3 ⟨rfl, rfl⟩
    go_wp2
    go_ret
    exact ⟨rfl, hbb⟩
  · have hno : Hid (n < lend l) := by show _ < _; omega
    obtain ⟨A', n', c', k, rfl⟩ := he.ret
    have he := Lib.hid he
    go_wp2_with (go_at_call 15; go_in)
    refine (slong_no b o n c l _ hr1.out hn hbg hnc hc2 h128.out hno.out).mono ?_
    rintro e w2 ⟨rfl, hb2⟩
    go_wp2
    go_ret
    exact ⟨rfl, hb1.trans (hb2.mono hb1.size)⟩

theorem fnDestination_walk (A : Option Addr) (l : List Int) (c : Nat) (w : World) (h : ByteArg w A l c) :
    Calls Try.prog 3 #[.slice A l.length c] w fun e w' => e = .returned (.bool true) ∧ Below w.heap.size w w' := by
  have hr := h.rd
  have hle := h.le
  have hmax := h.max
  unfold maxLen at hmax
  by_cases ho : 2147483647 < l.length
  · exact ldst_big A _ c w (by omega) ho
  rcases Nat.eq_zero_or_pos l.length with h1 | h1
  · rw [h1]
    exact ldst_short0 A c w
  obtain ⟨b, o, rfl, hc⟩ := hr.2 h1
  have c0 : w.cell? ⟨b, o, none⟩ = some (.int .u8 (l.getD 0 0)) := by simpa using hc 0 (by omega)
  by_cases h128 : l.getD 0 0 < 128
  · by_cases h9 : l.length < 9
    · exact ldst_short b o _ c l _ w hr rfl (by omega) (by omega) h9 h128 rfl c0
    exact ldst_shortyes b o _ c l _ w hr rfl (by omega) hle (by omega) (by omega) h128 rfl c0
  · exact ldst_long b o _ c l _ w hr rfl hle (by omega) (by omega) (by omega) (by omega) rfl c0

end Go.Proofs.Ytdogepkfgobcfaa

/- The walk of FnStreamID: a stream's number is four times its place with two bits, and is told so. Conditions: none. -/
import Derived.Test.YtiehheijkabeeaaBase
import Derived.Test.YtiehheijkabeeaaBits
namespace Go.Proofs.Ytiehheijkabeeaa
open Go.RowKit
set_option linter.unusedVariables false

theorem and1_u64 (x : Int) (h0 : 0 ≤ x) (h1 : x < 18446744073709551616) : bits .and .u64 x 1 = x % 2 := by
  obtain ⟨X, rfl⟩ := Int.eq_ofNat_of_zero_le h0
  have := u64_and_nat X 1 (by omega) (by decide)
  rw [nat_mask1] at this
  simpa using this
theorem and2_u64 (x : Int) (h0 : 0 ≤ x) (h1 : x < 18446744073709551616) : bits .and .u64 x 2 = x / 2 % 2 * 2 := by
  obtain ⟨X, rfl⟩ := Int.eq_ofNat_of_zero_le h0
  have := u64_and_nat X 2 (by omega) (by decide)
  rw [show (2 : Nat) = 2 ^ 1 by decide, nat_bit] at this
  simpa using this

set_option maxHeartbeats 1000000 in
theorem parts_false_false (num : Int) (w : World) (h0 : 0 ≤ num) (h1 : num < 1152921504606846976) :
    Calls Try.prog 34 #[.int .u64 (4 * num)] w fun e w' => e = .returned (.tuple #[.bool false, .bool false, .int .i64 num]) ∧ w = w' := by
  have a1 : bits .and .u64 (4 * num) 1 = 0 := by rw [and1_u64 _ (by omega) (by omega)]; omega
  have a2 : bits .and .u64 (4 * num) 2 = 0 := by rw [and2_u64 _ (by omega) (by omega)]; omega
  have hd : (4 * num) / 4 = num := by omega
  have HD := Lib.hid hd
  clear hd
  go_enter Try.func34, Try.ntmps34
  go_wp2
  go_ret3
  simp only []
  go_wp2
  go_ret3
  refine ⟨?_, rfl⟩
  rw [show (num : Int) = (4 * num) / 4 from HD.out.symm]
  simp [HD.out]

set_option maxHeartbeats 1000000 in
theorem stream_false_false (num : Int) (w : World) (h0 : 0 ≤ num) (h1 : num < 1152921504606846976) :
    Calls Try.prog 13 #[.bool false, .bool false, .int .i64 num] w fun e w' => e = .returned (.bool true) ∧ Below w.heap.size w w' := by
  have o2 : bits .or .u64 (num * 4) 2 = num * 4 + 2 := or_u64 2 _ _ (by omega) (by decide) (by decide) (by omega) (by omega) (by decide)
  have o1 : bits .or .u64 (num * 4) 1 = num * 4 + 1 := or_u64 2 _ _ (by omega) (by decide) (by decide) (by omega) (by omega) (by decide)
  have o3 : bits .or .u64 (num * 4 + 2) 1 = num * 4 + 2 + 1 := or_u64 1 _ _ (by omega) (by decide) (by decide) (by omega) (by omega) (by decide)
  have o4 : bits .or .u64 4 2 = 6 := or_u64 2 4 2 (by decide) (by decide) (by decide) (by decide) (by decide) (by decide)
  have o6 : bits .or .u64 6 1 = 7 := or_u64 1 6 1 (by decide) (by decide) (by decide) (by decide) (by decide) (by decide)
  go_enter Try.func13, Try.ntmps13
  go_wp2_with (first
    | (go_at_call 34; refine (parts_false_false num _ h0 h1).mono ?_; rintro e w' ⟨rfl, rfl⟩)
    | go_in)
  go_ret
  exact ⟨rfl, Below.refl _ _⟩

set_option maxHeartbeats 1000000 in
theorem parts_true_false (num : Int) (w : World) (h0 : 0 ≤ num) (h1 : num < 1152921504606846976) :
    Calls Try.prog 34 #[.int .u64 (4 * num + 1)] w fun e w' => e = .returned (.tuple #[.bool true, .bool false, .int .i64 num]) ∧ w = w' := by
  have a1 : bits .and .u64 (4 * num + 1) 1 = 1 := by rw [and1_u64 _ (by omega) (by omega)]; omega
  have a2 : bits .and .u64 (4 * num + 1) 2 = 0 := by rw [and2_u64 _ (by omega) (by omega)]; omega
  have hd : (4 * num + 1) / 4 = num := by omega
  have HD := Lib.hid hd
  clear hd
  go_enter Try.func34, Try.ntmps34
  go_wp2
  go_ret3
  simp only []
  go_wp2
  go_ret3
  refine ⟨?_, rfl⟩
  rw [show (num : Int) = (4 * num + 1) / 4 from HD.out.symm]
  simp [HD.out]

set_option maxHeartbeats 1000000 in
theorem stream_true_false (num : Int) (w : World) (h0 : 0 ≤ num) (h1 : num < 1152921504606846976) :
    Calls Try.prog 13 #[.bool true, .bool false, .int .i64 num] w fun e w' => e = .returned (.bool true) ∧ Below w.heap.size w w' := by
  have o2 : bits .or .u64 (num * 4) 2 = num * 4 + 2 := or_u64 2 _ _ (by omega) (by decide) (by decide) (by omega) (by omega) (by decide)
  have o1 : bits .or .u64 (num * 4) 1 = num * 4 + 1 := or_u64 2 _ _ (by omega) (by decide) (by decide) (by omega) (by omega) (by decide)
  have o3 : bits .or .u64 (num * 4 + 2) 1 = num * 4 + 2 + 1 := or_u64 1 _ _ (by omega) (by decide) (by decide) (by omega) (by omega) (by decide)
  have o4 : bits .or .u64 4 2 = 6 := or_u64 2 4 2 (by decide) (by decide) (by decide) (by decide) (by decide) (by decide)
  have o6 : bits .or .u64 6 1 = 7 := or_u64 1 6 1 (by decide) (by decide) (by decide) (by decide) (by decide) (by decide)
  go_enter Try.func13, Try.ntmps13
  go_wp2_with (first
    | (go_at_call 34; refine (parts_true_false num _ h0 h1).mono ?_; rintro e w' ⟨rfl, rfl⟩)
    | go_in)
  go_ret
  exact ⟨rfl, Below.refl _ _⟩

set_option maxHeartbeats 1000000 in
theorem parts_false_true (num : Int) (w : World) (h0 : 0 ≤ num) (h1 : num < 1152921504606846976) :
    Calls Try.prog 34 #[.int .u64 (4 * num + 2)] w fun e w' => e = .returned (.tuple #[.bool false, .bool true, .int .i64 num]) ∧ w = w' := by
  have a1 : bits .and .u64 (4 * num + 2) 1 = 0 := by rw [and1_u64 _ (by omega) (by omega)]; omega
  have a2 : bits .and .u64 (4 * num + 2) 2 = 2 := by rw [and2_u64 _ (by omega) (by omega)]; omega
  have hd : (4 * num + 2) / 4 = num := by omega
  have HD := Lib.hid hd
  clear hd
  go_enter Try.func34, Try.ntmps34
  go_wp2
  go_ret3
  simp only []
  go_wp2
  go_ret3
  refine ⟨?_, rfl⟩
  rw [show (num : Int) = (4 * num + 2) / 4 from HD.out.symm]
  simp [HD.out]

set_option maxHeartbeats 1000000 in
theorem stream_false_true (num : Int) (w : World) (h0 : 0 ≤ num) (h1 : num < 1152921504606846976) :
    Calls Try.prog 13 #[.bool false, .bool true, .int .i64 num] w fun e w' => e = .returned (.bool true) ∧ Below w.heap.size w w' := by
  have o2 : bits .or .u64 (num * 4) 2 = num * 4 + 2 := or_u64 2 _ _ (by omega) (by decide) (by decide) (by omega) (by omega) (by decide)
  have o1 : bits .or .u64 (num * 4) 1 = num * 4 + 1 := or_u64 2 _ _ (by omega) (by decide) (by decide) (by omega) (by omega) (by decide)
  have o3 : bits .or .u64 (num * 4 + 2) 1 = num * 4 + 2 + 1 := or_u64 1 _ _ (by omega) (by decide) (by decide) (by omega) (by omega) (by decide)
  have o4 : bits .or .u64 4 2 = 6 := or_u64 2 4 2 (by decide) (by decide) (by decide) (by decide) (by decide) (by decide)
  have o6 : bits .or .u64 6 1 = 7 := or_u64 1 6 1 (by decide) (by decide) (by decide) (by decide) (by decide) (by decide)
  go_enter Try.func13, Try.ntmps13
  go_wp2_with (first
    | (go_at_call 34; refine (parts_false_true num _ h0 h1).mono ?_; rintro e w' ⟨rfl, rfl⟩)
    | go_in)
  go_ret
  exact ⟨rfl, Below.refl _ _⟩

set_option maxHeartbeats 1000000 in
theorem parts_true_true (num : Int) (w : World) (h0 : 0 ≤ num) (h1 : num < 1152921504606846976) :
    Calls Try.prog 34 #[.int .u64 (4 * num + 1 + 2)] w fun e w' => e = .returned (.tuple #[.bool true, .bool true, .int .i64 num]) ∧ w = w' := by
  have a1 : bits .and .u64 (4 * num + 1 + 2) 1 = 1 := by rw [and1_u64 _ (by omega) (by omega)]; omega
  have a2 : bits .and .u64 (4 * num + 1 + 2) 2 = 2 := by rw [and2_u64 _ (by omega) (by omega)]; omega
  have hd : (4 * num + 1 + 2) / 4 = num := by omega
  have HD := Lib.hid hd
  clear hd
  go_enter Try.func34, Try.ntmps34
  go_wp2
  go_ret3
  simp only []
  go_wp2
  go_ret3
  refine ⟨?_, rfl⟩
  rw [show (num : Int) = (4 * num + 1 + 2) / 4 from HD.out.symm]
  simp [HD.out]

set_option maxHeartbeats 1000000 in
theorem stream_true_true (num : Int) (w : World) (h0 : 0 ≤ num) (h1 : num < 1152921504606846976) :
    Calls Try.prog 13 #[.bool true, .bool true, .int .i64 num] w fun e w' => e = .returned (.bool true) ∧ Below w.heap.size w w' := by
  have o2 : bits .or .u64 (num * 4) 2 = num * 4 + 2 := or_u64 2 _ _ (by omega) (by decide) (by decide) (by omega) (by omega) (by decide)
  have o1 : bits .or .u64 (num * 4) 1 = num * 4 + 1 := or_u64 2 _ _ (by omega) (by decide) (by decide) (by omega) (by omega) (by decide)
  have o3 : bits .or .u64 (num * 4 + 2) 1 = num * 4 + 2 + 1 := or_u64 1 _ _ (by omega) (by decide) (by decide) (by omega) (by omega) (by decide)
  have o4 : bits .or .u64 4 2 = 6 := or_u64 2 4 2 (by decide) (by decide) (by decide) (by decide) (by decide) (by decide)
  have o6 : bits .or .u64 6 1 = 7 := or_u64 1 6 1 (by decide) (by decide) (by decide) (by decide) (by decide) (by decide)
  go_enter Try.func13, Try.ntmps13
  go_wp2_with (first
    | (go_at_call 34; refine (parts_true_true num _ h0 h1).mono ?_; rintro e w' ⟨rfl, rfl⟩)
    | go_in)
  go_ret
  exact ⟨rfl, Below.refl _ _⟩

set_option maxHeartbeats 1000000 in
theorem stream_out (s u : Bool) (num : Int) (w : World) (h : num < 0 ∨ 1152921504606846976 ≤ num) :
    Calls Try.prog 13 #[.bool s, .bool u, .int .i64 num] w fun e w' => e = .returned (.bool true) ∧ Below w.heap.size w w' := by
  by_cases h1 : num < 0
  · clear h
    go_enter Try.func13, Try.ntmps13
    go_wp2
    go_ret
    exact ⟨rfl, Below.refl _ _⟩
  · have h2 : 1152921504606846976 ≤ num := by omega
    clear h
    go_enter Try.func13, Try.ntmps13
    go_wp2
    go_ret
    exact ⟨rfl, Below.refl _ _⟩

theorem fnStreamID_walk (s u : Bool) (num : Int) (hn : -9223372036854775808 ≤ num ∧ num ≤ 9223372036854775807) (w : World) :
    Calls Try.prog 13 #[.bool s, .bool u, .int .i64 num] w fun e w' => e = .returned (.bool true) ∧ Below w.heap.size w w' := by
  by_cases h : num < 0 ∨ 1152921504606846976 ≤ num
  · exact stream_out s u num w h
  · cases s <;> cases u
    · exact stream_false_false num w (by omega) (by omega)
    · exact stream_false_true num w (by omega) (by omega)
    · exact stream_true_false num w (by omega) (by omega)
    · exact stream_true_true num w (by omega) (by omega)

end Go.Proofs.Ytiehheijkabeeaa


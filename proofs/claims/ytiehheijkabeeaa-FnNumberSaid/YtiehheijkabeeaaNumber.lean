/- The walk of FnNumber: a truncated packet number is read as RFC 9000, A.3 says. Conditions: none. -/
import Derived.Test.YtiehheijkabeeaaBase
import Derived.Test.YtiehheijkabeeaaBits
namespace Go.Proofs.Ytiehheijkabeeaa
open Go.RowKit

set_option maxHeartbeats 1000000 in
theorem number_1 (L T : Int) (w : World) (h1 : -1 ≤ L) (h2 : L < 4611686018427387903) (h3 : 0 ≤ T) (h4 : T < 256) :
    Calls Try.prog 3 #[.int .i64 L, .int .i64 T, .int .i64 1] w fun e w' => e = .returned (.bool true) ∧ Below w.heap.size w w' := by
  have hA : bits .andNot .i64 (L + 1) 255 = (L + 1) - (L + 1) % 256 := andNot_i64 8 (by decide) _ _ (by omega) (by omega) (by decide)
  have hO : bits .or .i64 ((L + 1) - (L + 1) % 256) T = (L + 1) - (L + 1) % 256 + T := or_i64 8 _ _ (by omega) h3 h4 (by omega) (by omega)
  go_enter Try.func3, Try.ntmps3
  go_wp2
  all_goals (go_ret; exact ⟨rfl, Below.refl _ _⟩)

set_option maxHeartbeats 1000000 in
theorem number_2 (L T : Int) (w : World) (h1 : -1 ≤ L) (h2 : L < 4611686018427387903) (h3 : 0 ≤ T) (h4 : T < 65536) :
    Calls Try.prog 3 #[.int .i64 L, .int .i64 T, .int .i64 2] w fun e w' => e = .returned (.bool true) ∧ Below w.heap.size w w' := by
  have hA : bits .andNot .i64 (L + 1) 65535 = (L + 1) - (L + 1) % 65536 := andNot_i64 16 (by decide) _ _ (by omega) (by omega) (by decide)
  have hO : bits .or .i64 ((L + 1) - (L + 1) % 65536) T = (L + 1) - (L + 1) % 65536 + T := or_i64 16 _ _ (by omega) h3 h4 (by omega) (by omega)
  go_enter Try.func3, Try.ntmps3
  go_wp2
  all_goals (go_ret; exact ⟨rfl, Below.refl _ _⟩)

set_option maxHeartbeats 1000000 in
theorem number_3 (L T : Int) (w : World) (h1 : -1 ≤ L) (h2 : L < 4611686018427387903) (h3 : 0 ≤ T) (h4 : T < 16777216) :
    Calls Try.prog 3 #[.int .i64 L, .int .i64 T, .int .i64 3] w fun e w' => e = .returned (.bool true) ∧ Below w.heap.size w w' := by
  have hA : bits .andNot .i64 (L + 1) 16777215 = (L + 1) - (L + 1) % 16777216 := andNot_i64 24 (by decide) _ _ (by omega) (by omega) (by decide)
  have hO : bits .or .i64 ((L + 1) - (L + 1) % 16777216) T = (L + 1) - (L + 1) % 16777216 + T := or_i64 24 _ _ (by omega) h3 h4 (by omega) (by omega)
  go_enter Try.func3, Try.ntmps3
  go_wp2
  all_goals (go_ret; exact ⟨rfl, Below.refl _ _⟩)

set_option maxHeartbeats 1000000 in
theorem number_4 (L T : Int) (w : World) (h1 : -1 ≤ L) (h2 : L < 4611686018427387903) (h3 : 0 ≤ T) (h4 : T < 4294967296) :
    Calls Try.prog 3 #[.int .i64 L, .int .i64 T, .int .i64 4] w fun e w' => e = .returned (.bool true) ∧ Below w.heap.size w w' := by
  have hA : bits .andNot .i64 (L + 1) 4294967295 = (L + 1) - (L + 1) % 4294967296 := andNot_i64 32 (by decide) _ _ (by omega) (by omega) (by decide)
  have hO : bits .or .i64 ((L + 1) - (L + 1) % 4294967296) T = (L + 1) - (L + 1) % 4294967296 + T := or_i64 32 _ _ (by omega) h3 h4 (by omega) (by omega)
  go_enter Try.func3, Try.ntmps3
  go_wp2
  all_goals (go_ret; exact ⟨rfl, Below.refl _ _⟩)

set_option maxHeartbeats 1000000 in
theorem number_out (L T k : Int) (w : World) (h : L < -1 ∨ 4611686018427387903 ≤ L ∨ k < 1 ∨ 4 < k ∨ T < 0) :
    Calls Try.prog 3 #[.int .i64 L, .int .i64 T, .int .i64 k] w fun e w' => e = .returned (.bool true) ∧ Below w.heap.size w w' := by
  by_cases h1 : L < -1
  · clear h; go_enter Try.func3, Try.ntmps3
    go_wp2
    go_ret; exact ⟨rfl, Below.refl _ _⟩
  by_cases h2 : 4611686018427387903 ≤ L
  · clear h; go_enter Try.func3, Try.ntmps3
    go_wp2
    go_ret; exact ⟨rfl, Below.refl _ _⟩
  by_cases h3 : k < 1
  · clear h; go_enter Try.func3, Try.ntmps3
    go_wp2
    go_ret; exact ⟨rfl, Below.refl _ _⟩
  by_cases h4 : 4 < k
  · clear h; go_enter Try.func3, Try.ntmps3
    go_wp2
    go_ret; exact ⟨rfl, Below.refl _ _⟩
  have h5 : T < 0 := by omega
  clear h; go_enter Try.func3, Try.ntmps3
  go_wp2
  go_ret; exact ⟨rfl, Below.refl _ _⟩

set_option maxHeartbeats 1000000 in
theorem number_big (L T k : Int) (w : World) (h1 : -1 ≤ L) (h2 : L < 4611686018427387903) (h3 : 0 ≤ T) (h : k = 1 ∧ 256 ≤ T ∨ k = 2 ∧ 65536 ≤ T ∨ k = 3 ∧ 16777216 ≤ T ∨ k = 4 ∧ 4294967296 ≤ T) :
    Calls Try.prog 3 #[.int .i64 L, .int .i64 T, .int .i64 k] w fun e w' => e = .returned (.bool true) ∧ Below w.heap.size w w' := by
  rcases h with ⟨rfl, hT⟩ | ⟨rfl, hT⟩ | ⟨rfl, hT⟩ | ⟨rfl, hT⟩
  all_goals
    go_enter Try.func3, Try.ntmps3
    go_wp2
    go_ret; exact ⟨rfl, Below.refl _ _⟩

theorem fnNumber_walk (L : Int) (_ : -9223372036854775808 ≤ L ∧ L ≤ 9223372036854775807) (T : Int) (_ : -9223372036854775808 ≤ T ∧ T ≤ 9223372036854775807) (k : Int) (_ : -9223372036854775808 ≤ k ∧ k ≤ 9223372036854775807) (w : World) :
    Calls Try.prog 3 #[.int .i64 L, .int .i64 T, .int .i64 k] w fun e w' => e = .returned (.bool true) ∧ Below w.heap.size w w' := by
  by_cases h : L < -1 ∨ 4611686018427387903 ≤ L ∨ k < 1 ∨ 4 < k ∨ T < 0
  · exact number_out L T k w h
  by_cases hb : k = 1 ∧ 256 ≤ T ∨ k = 2 ∧ 65536 ≤ T ∨ k = 3 ∧ 16777216 ≤ T ∨ k = 4 ∧ 4294967296 ≤ T
  · exact number_big L T k w (by omega) (by omega) (by omega) hb
  have hk : k = 1 ∨ k = 2 ∨ k = 3 ∨ k = 4 := by omega
  rcases hk with rfl | rfl | rfl | rfl
  · exact number_1 L T w (by omega) (by omega) (by omega) (by omega)
  · exact number_2 L T w (by omega) (by omega) (by omega) (by omega)
  · exact number_3 L T w (by omega) (by omega) (by omega) (by omega)
  · exact number_4 L T w (by omega) (by omega) (by omega) (by omega)

end Go.Proofs.Ytiehheijkabeeaa

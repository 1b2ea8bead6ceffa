/- Contract of spec.Frame, whatever the bytes. Conditions: the slice reads as bytes. -/
import Derived.Test.YtggcnepdeaijoaaSfN
import Derived.Test.YtggcnepdeaijoaaSfM
import Derived.Test.YtggcnepdeaijoaaSfD
import Derived.Test.YtggcnepdeaijoaaSfS
import Derived.Test.YtggcnepdeaijoaaSfC
namespace Go.Proofs.Ytggcnepdeaijoaa
open Go.RowKit
set_option linter.unusedVariables false
set_option linter.unusedSimpArgs false

set_option maxRecDepth 100000 in
set_option maxHeartbeats 1000000 in
theorem sf_nil (A : Option Addr) (c : Nat) (l : List Int) (w : World) :
    Calls Try.prog 6 #[.slice A 0 c] w fun e w' => e = .returned (.tuple #[.slice none 0 0, .slice none 0 0, .int .i64 0, .int .i64 2]) ∧ Below w.heap.size w w' := by
  go_enter Try.func6, Try.ntmps6
  go_wp2_with fail
  refine bodyPost_ret (v := .tuple #[.slice none 0 0, .slice none 0 0, .int .i64 0, .int .i64 2]) (by simp [results, Try.results6, go_sem]) rfl ?_
  exact ⟨rfl, Below.refl _ _⟩

set_option maxRecDepth 100000 in
set_option maxHeartbeats 4000000 in
theorem sf_lo (t : Int) (ht0 : 0 ≤ t) (ht : t < 4) (b o n c : Nat) (l : List Int) (w : World) (hn : Hid (l.length = n)) (hnc : n ≤ c) (hc2 : c ≤ 9223372036854775807) (h1 : 1 ≤ n) (hn2 : n ≤ 4294967295) (h0 : w.cell? ⟨b, o, none⟩ = some (.int .u8 t)) :
    Calls Try.prog 6 #[.slice (some ⟨b, o, none⟩) n c] w fun e w' => e = .returned (.tuple #[.slice none 0 0, .slice none 0 0, .int .i64 0, .int .i64 2]) ∧ Below w.heap.size w w' := by
  have hbl := World.block_lt_of_cell? _ _ h0
  simp only at hbl
  have hn0 : ((n : Int) == 0) = false := by simp; omega
  have hn1 : (0 : Int) < (n : Int) := by omega
  have e4 : (t == 4) = false := by simp; omega
  have e5 : (t == 5) = false := by simp; omega
  have e17 : (t == 17) = false := by simp; omega
  have e21 : (t == 21) = false := by simp; omega
  have e6 : (t == 6) = false := by simp; omega
  have e7 : (t == 7) = false := by simp; omega
  have e16 : (t == 16) = false := by simp; omega
  have e20 : (t == 20) = false := by simp; omega
  have e25 : (t == 25) = false := by simp; omega
  have e18 : (t == 18) = false := by simp; omega
  have e19 : (t == 19) = false := by simp; omega
  have e22 : (t == 22) = false := by simp; omega
  have e23 : (t == 23) = false := by simp; omega
  have e24 : (t == 24) = false := by simp; omega
  have e26 : (t == 26) = false := by simp; omega
  have e27 : (t == 27) = false := by simp; omega
  have e28 : (t == 28) = false := by simp; omega
  have e29 : (t == 29) = false := by simp; omega
  have d8 : decide (8 ≤ t) = false := by simp; omega
  go_enter Try.func6, Try.ntmps6
  go_wp2_with fail
  refine bodyPost_ret (v := .tuple #[.slice none 0 0, .slice none 0 0, .int .i64 0, .int .i64 2]) (by simp [results, Try.results6, go_sem]) rfl ?_
  exact ⟨rfl, (Below.refl _ _).alloc (Nat.le_refl _) _⟩

set_option maxRecDepth 100000 in
set_option maxHeartbeats 4000000 in
theorem sf_hi (t : Int) (ht0 : 30 ≤ t) (ht : t ≤ 255) (b o n c : Nat) (l : List Int) (w : World) (hn : Hid (l.length = n)) (hnc : n ≤ c) (hc2 : c ≤ 9223372036854775807) (h1 : 1 ≤ n) (hn2 : n ≤ 4294967295) (h0 : w.cell? ⟨b, o, none⟩ = some (.int .u8 t)) :
    Calls Try.prog 6 #[.slice (some ⟨b, o, none⟩) n c] w fun e w' => e = .returned (.tuple #[.slice none 0 0, .slice none 0 0, .int .i64 0, .int .i64 2]) ∧ Below w.heap.size w w' := by
  have hbl := World.block_lt_of_cell? _ _ h0
  simp only at hbl
  have hn0 : ((n : Int) == 0) = false := by simp; omega
  have hn1 : (0 : Int) < (n : Int) := by omega
  have e4 : (t == 4) = false := by simp; omega
  have e5 : (t == 5) = false := by simp; omega
  have e17 : (t == 17) = false := by simp; omega
  have e21 : (t == 21) = false := by simp; omega
  have e6 : (t == 6) = false := by simp; omega
  have e7 : (t == 7) = false := by simp; omega
  have e16 : (t == 16) = false := by simp; omega
  have e20 : (t == 20) = false := by simp; omega
  have e25 : (t == 25) = false := by simp; omega
  have e18 : (t == 18) = false := by simp; omega
  have e19 : (t == 19) = false := by simp; omega
  have e22 : (t == 22) = false := by simp; omega
  have e23 : (t == 23) = false := by simp; omega
  have e24 : (t == 24) = false := by simp; omega
  have e26 : (t == 26) = false := by simp; omega
  have e27 : (t == 27) = false := by simp; omega
  have e28 : (t == 28) = false := by simp; omega
  have e29 : (t == 29) = false := by simp; omega
  have d8 : decide (8 ≤ t) = true := by simp; omega
  have d16 : decide (t < 16) = false := by simp; omega
  go_enter Try.func6, Try.ntmps6
  go_wp2_with fail
  refine bodyPost_ret (v := .tuple #[.slice none 0 0, .slice none 0 0, .int .i64 0, .int .i64 2]) (by simp [results, Try.results6, go_sem]) rfl ?_
  exact ⟨rfl, (Below.refl _ _).alloc (Nat.le_refl _) _⟩

theorem sfa (t : Int) (ht0 : 4 ≤ t) (ht1 : t ≤ 29) (b o n c : Nat) (l : List Int) (w : World) (hr : Rd w (some ⟨b, o, none⟩) l) (hn : Hid (l.length = n)) (hnc : n ≤ c) (hc2 : c ≤ 9223372036854775807) (h1 : 1 ≤ n) (hn2 : n ≤ 4294967295) (h0 : w.cell? ⟨b, o, none⟩ = some (.int .u8 t)) :
    Calls Try.prog 6 #[.slice (some ⟨b, o, none⟩) n c] w fun e w' => SfEnd w t l e w' := by
  have h : t = 4 ∨ t = 5 ∨ t = 6 ∨ t = 7 ∨ t = 8 ∨ t = 9 ∨ t = 10 ∨ t = 11 ∨ t = 12 ∨ t = 13 ∨ t = 14 ∨ t = 15 ∨ t = 16 ∨ t = 17 ∨ t = 18 ∨ t = 19 ∨ t = 20 ∨ t = 21 ∨ t = 22 ∨ t = 23 ∨ t = 24 ∨ t = 25 ∨ t = 26 ∨ t = 27 ∨ t = 28 ∨ t = 29 := by omega
  rcases h with rfl | rfl | rfl | rfl | rfl | rfl | rfl | rfl | rfl | rfl | rfl | rfl | rfl | rfl | rfl | rfl | rfl | rfl | rfl | rfl | rfl | rfl | rfl | rfl | rfl | rfl
  · exact sf4 b o n c l w hr hn hnc hc2 h1 hn2 h0
  · exact sf5 b o n c l w hr hn hnc hc2 h1 hn2 h0
  · exact sf6 b o n c l w hr hn hnc hc2 h1 hn2 h0
  · exact sf7 b o n c l w hr hn hnc hc2 h1 hn2 h0
  · exact sf8 b o n c l w hr hn hnc hc2 h1 hn2 h0
  · exact sf9 b o n c l w hr hn hnc hc2 h1 hn2 h0
  · exact sf10 b o n c l w hr hn hnc hc2 h1 hn2 h0
  · exact sf11 b o n c l w hr hn hnc hc2 h1 hn2 h0
  · exact sf12 b o n c l w hr hn hnc hc2 h1 hn2 h0
  · exact sf13 b o n c l w hr hn hnc hc2 h1 hn2 h0
  · exact sf14 b o n c l w hr hn hnc hc2 h1 hn2 h0
  · exact sf15 b o n c l w hr hn hnc hc2 h1 hn2 h0
  · exact sf16 b o n c l w hr hn hnc hc2 h1 hn2 h0
  · exact sf17 b o n c l w hr hn hnc hc2 h1 hn2 h0
  · exact sf18 b o n c l w hr hn hnc hc2 h1 hn2 h0
  · exact sf19 b o n c l w hr hn hnc hc2 h1 hn2 h0
  · exact sf20 b o n c l w hr hn hnc hc2 h1 hn2 h0
  · exact sf21 b o n c l w hr hn hnc hc2 h1 hn2 h0
  · exact sf22 b o n c l w hr hn hnc hc2 h1 hn2 h0
  · exact sf23 b o n c l w hr hn hnc hc2 h1 hn2 h0
  · exact sf24 b o n c l w hr hn hnc hc2 h1 hn2 h0
  · exact sf25 b o n c l w hr hn hnc hc2 h1 hn2 h0
  · exact sf26 b o n c l w hr hn hnc hc2 h1 hn2 h0
  · exact sf27 b o n c l w hr hn hnc hc2 h1 hn2 h0
  · exact sf28 b o n c l w hr hn hnc hc2 h1 hn2 h0
  · exact sf29 b o n c l w hr hn hnc hc2 h1 hn2 h0

theorem sf_out (t : Int) (ht0 : 0 ≤ t) (ht1 : t ≤ 255) (ht : ¬ (4 ≤ t ∧ t ≤ 29)) (b o n c : Nat) (l : List Int) (w : World) (hn : Hid (l.length = n)) (hnc : n ≤ c) (hc2 : c ≤ 9223372036854775807) (h1 : 1 ≤ n) (hn2 : n ≤ 4294967295) (h0 : w.cell? ⟨b, o, none⟩ = some (.int .u8 t)) :
    Calls Try.prog 6 #[.slice (some ⟨b, o, none⟩) n c] w fun e w' => e = .returned (.tuple #[.slice none 0 0, .slice none 0 0, .int .i64 0, .int .i64 2]) ∧ Below w.heap.size w w' := by
  by_cases hlo : t < 4
  · exact sf_lo t ht0 hlo b o n c l w hn hnc hc2 h1 hn2 h0
  · exact sf_hi t (by omega) ht1 b o n c l w hn hnc hc2 h1 hn2 h0

end Go.Proofs.Ytggcnepdeaijoaa

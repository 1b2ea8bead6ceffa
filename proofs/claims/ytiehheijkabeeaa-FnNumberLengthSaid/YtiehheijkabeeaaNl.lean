/- Contracts of packet numbers' lengths, and the walks of FnNumberLength and FnNumberComesBack. Conditions: none. -/
import Derived.Test.YtiehheijkabeeaaOwn
import Derived.Test.YtiehheijkabeeaaAv
namespace Go.Proofs.Ytiehheijkabeeaa
open Go.RowKit
set_option linter.unusedVariables false

set_option maxHeartbeats 1000000 in
theorem apn_1 (p a : Int) (w : World) (h1 : -1 ≤ a) (h2 : p ≤ 4611686018427387903) (hlo : 1 ≤ p - a) (hhi : p - a < 128) :
    Calls Try.prog 59 #[.slice none 0 0, .int .i64 p, .int .i64 a] w fun e w' => MadeEnd w [p % 256] e w' := by
  have HR := Lib.hid (Rd.new w [p % 256] (Bs.cons (by omega) (Bs.nil)) 5)
  have hw0 : IntKind.u8.wrap p = p % 256 := wrap_u8 _
  have hw1 : IntKind.u8.wrap (p / 256) = p / 256 % 256 := wrap_u8 _
  have hw2 : IntKind.u8.wrap (p / 65536) = p / 65536 % 256 := wrap_u8 _
  have hw3 : IntKind.u8.wrap (p / 16777216) = p / 16777216 % 256 := wrap_u8 _
  go_enter Try.func59, Try.ntmps59
  go_wp2_with (first | (at_builtin; refine wpList_app w.heap.size _ rfl _ _ rfl (.slice none 0 0) [] rfl ((Own.nil_ _ _)) (some ⟨w.heap.size, 0, none⟩) 1 1 [p % 256] rfl rfl (by exact HR.out) (by simp) (by simp) (by simp) ?_; intro s' w1 ho1 hg1 ha1 hb1 hn1) | go_in)
  go_ret
  exact ⟨s', rfl, ho1, ((Below.refl _ _).alloc (Nat.le_refl _) _).trans hb1⟩

set_option maxHeartbeats 1000000 in
theorem snl_1 (p a : Int) (w : World) (h1 : -1 ≤ a) (h2 : p ≤ 4611686018427387903) (hlo : 1 ≤ p - a) (hhi : p - a < 128) :
    Calls Try.prog 22 #[.int .i64 p, .int .i64 a] w fun e w' => e = .returned (.int .i64 1) ∧ w = w' := by
  go_enter Try.func22, Try.ntmps22
  go_wp2
  refine wp_loop_rounds 4 ?_
  iterate 1
    rw [rounds_succ]
    go_wp2
  go_ret
  exact ⟨rfl, rfl⟩

set_option maxHeartbeats 2000000 in
theorem nl_1 (p a : Int) (w : World) (h1 : -1 ≤ a) (h2 : p ≤ 4611686018427387903) (hlo : 1 ≤ p - a) (hhi : p - a < 128) :
    Calls Try.prog 6 #[.int .i64 p, .int .i64 a] w fun e w' => e = .returned (.bool true) ∧ Below w.heap.size w w' := by
  have hw0 : IntKind.u8.wrap p = p % 256 := wrap_u8 _
  have hw1 : IntKind.u8.wrap (p / 256) = p / 256 % 256 := wrap_u8 _
  have hw2 : IntKind.u8.wrap (p / 65536) = p / 65536 % 256 := wrap_u8 _
  have hw3 : IntKind.u8.wrap (p / 16777216) = p / 16777216 % 256 := wrap_u8 _
  go_enter Try.func6, Try.ntmps6
  go_wp2_with fail
  refine (snl_1 p a _ h1 h2 hlo hhi).mono ?_
  rintro e w1 ⟨rfl, rfl⟩
  go_wp2_with (first | (go_at_call 23; go_in) | (go_at_call 43; go_in))
  refine (apn_1 p a _ h1 h2 hlo hhi).mono ?_
  rintro e w1 ⟨s1, rfl, ho1, hb1⟩
  obtain ⟨A1, c1, rfl, hr1, hc1, hm1, -⟩ := ho1.rd
  obtain ⟨b, o, rfl, hc⟩ := hr1.2 (by simp)
  have k0 : w1.cell? ⟨b, o, none⟩ = some (.int .u8 (p % 256)) := by simpa using hc 0 (by simp)
  simp only [List.length_cons, List.length_nil, Nat.zero_add] at hc1 ⊢
  clear hc hr1 ho1
  go_wp2_with (first | go_in)
  refine wp_loop_rounds 2 ?_
  iterate 2
    rw [rounds_succ]
    go_wp2
  go_ret
  exact ⟨rfl, hb1⟩

set_option maxHeartbeats 1000000 in
theorem apn_2 (p a : Int) (w : World) (h1 : -1 ≤ a) (h2 : p ≤ 4611686018427387903) (hlo : 128 ≤ p - a) (hhi : p - a < 32768) :
    Calls Try.prog 59 #[.slice none 0 0, .int .i64 p, .int .i64 a] w fun e w' => MadeEnd w [p / 256 % 256, p % 256] e w' := by
  have HR := Lib.hid (Rd.new w [p / 256 % 256, p % 256] (Bs.cons (by omega) (Bs.cons (by omega) (Bs.nil))) 5)
  have hw0 : IntKind.u8.wrap p = p % 256 := wrap_u8 _
  have hw1 : IntKind.u8.wrap (p / 256) = p / 256 % 256 := wrap_u8 _
  have hw2 : IntKind.u8.wrap (p / 65536) = p / 65536 % 256 := wrap_u8 _
  have hw3 : IntKind.u8.wrap (p / 16777216) = p / 16777216 % 256 := wrap_u8 _
  go_enter Try.func59, Try.ntmps59
  go_wp2_with (first | (at_builtin; refine wpList_app w.heap.size _ rfl _ _ rfl (.slice none 0 0) [] rfl ((Own.nil_ _ _)) (some ⟨w.heap.size, 0, none⟩) 2 2 [p / 256 % 256, p % 256] rfl rfl (by exact HR.out) (by simp) (by simp) (by simp) ?_; intro s' w1 ho1 hg1 ha1 hb1 hn1) | go_in)
  go_ret
  exact ⟨s', rfl, ho1, ((Below.refl _ _).alloc (Nat.le_refl _) _).trans hb1⟩

set_option maxHeartbeats 1000000 in
theorem snl_2 (p a : Int) (w : World) (h1 : -1 ≤ a) (h2 : p ≤ 4611686018427387903) (hlo : 128 ≤ p - a) (hhi : p - a < 32768) :
    Calls Try.prog 22 #[.int .i64 p, .int .i64 a] w fun e w' => e = .returned (.int .i64 2) ∧ w = w' := by
  go_enter Try.func22, Try.ntmps22
  go_wp2
  refine wp_loop_rounds 4 ?_
  iterate 2
    rw [rounds_succ]
    go_wp2
  go_ret
  exact ⟨rfl, rfl⟩

set_option maxHeartbeats 2000000 in
theorem nl_2 (p a : Int) (w : World) (h1 : -1 ≤ a) (h2 : p ≤ 4611686018427387903) (hlo : 128 ≤ p - a) (hhi : p - a < 32768) :
    Calls Try.prog 6 #[.int .i64 p, .int .i64 a] w fun e w' => e = .returned (.bool true) ∧ Below w.heap.size w w' := by
  have hw0 : IntKind.u8.wrap p = p % 256 := wrap_u8 _
  have hw1 : IntKind.u8.wrap (p / 256) = p / 256 % 256 := wrap_u8 _
  have hw2 : IntKind.u8.wrap (p / 65536) = p / 65536 % 256 := wrap_u8 _
  have hw3 : IntKind.u8.wrap (p / 16777216) = p / 16777216 % 256 := wrap_u8 _
  go_enter Try.func6, Try.ntmps6
  go_wp2_with fail
  refine (snl_2 p a _ h1 h2 hlo hhi).mono ?_
  rintro e w1 ⟨rfl, rfl⟩
  go_wp2_with (first | (go_at_call 23; go_in) | (go_at_call 43; go_in))
  refine (apn_2 p a _ h1 h2 hlo hhi).mono ?_
  rintro e w1 ⟨s1, rfl, ho1, hb1⟩
  obtain ⟨A1, c1, rfl, hr1, hc1, hm1, -⟩ := ho1.rd
  obtain ⟨b, o, rfl, hc⟩ := hr1.2 (by simp)
  have k0 : w1.cell? ⟨b, o, none⟩ = some (.int .u8 (p / 256 % 256)) := by simpa using hc 0 (by simp)
  have k1 : w1.cell? ⟨b, o + 1, none⟩ = some (.int .u8 (p % 256)) := by simpa using hc 1 (by simp)
  simp only [List.length_cons, List.length_nil, Nat.zero_add] at hc1 ⊢
  clear hc hr1 ho1
  go_wp2_with (first | go_in)
  refine wp_loop_rounds 3 ?_
  iterate 3
    rw [rounds_succ]
    go_wp2
  go_ret
  exact ⟨rfl, hb1⟩

set_option maxHeartbeats 1000000 in
theorem apn_3 (p a : Int) (w : World) (h1 : -1 ≤ a) (h2 : p ≤ 4611686018427387903) (hlo : 32768 ≤ p - a) (hhi : p - a < 8388608) :
    Calls Try.prog 59 #[.slice none 0 0, .int .i64 p, .int .i64 a] w fun e w' => MadeEnd w [p / 65536 % 256, p / 256 % 256, p % 256] e w' := by
  have HR := Lib.hid (Rd.new w [p / 65536 % 256, p / 256 % 256, p % 256] (Bs.cons (by omega) (Bs.cons (by omega) (Bs.cons (by omega) (Bs.nil)))) 5)
  have hw0 : IntKind.u8.wrap p = p % 256 := wrap_u8 _
  have hw1 : IntKind.u8.wrap (p / 256) = p / 256 % 256 := wrap_u8 _
  have hw2 : IntKind.u8.wrap (p / 65536) = p / 65536 % 256 := wrap_u8 _
  have hw3 : IntKind.u8.wrap (p / 16777216) = p / 16777216 % 256 := wrap_u8 _
  go_enter Try.func59, Try.ntmps59
  go_wp2_with (first | (at_builtin; refine wpList_app w.heap.size _ rfl _ _ rfl (.slice none 0 0) [] rfl ((Own.nil_ _ _)) (some ⟨w.heap.size, 0, none⟩) 3 3 [p / 65536 % 256, p / 256 % 256, p % 256] rfl rfl (by exact HR.out) (by simp) (by simp) (by simp) ?_; intro s' w1 ho1 hg1 ha1 hb1 hn1) | go_in)
  go_ret
  exact ⟨s', rfl, ho1, ((Below.refl _ _).alloc (Nat.le_refl _) _).trans hb1⟩

set_option maxHeartbeats 1000000 in
theorem snl_3 (p a : Int) (w : World) (h1 : -1 ≤ a) (h2 : p ≤ 4611686018427387903) (hlo : 32768 ≤ p - a) (hhi : p - a < 8388608) :
    Calls Try.prog 22 #[.int .i64 p, .int .i64 a] w fun e w' => e = .returned (.int .i64 3) ∧ w = w' := by
  go_enter Try.func22, Try.ntmps22
  go_wp2
  refine wp_loop_rounds 4 ?_
  iterate 3
    rw [rounds_succ]
    go_wp2
  go_ret
  exact ⟨rfl, rfl⟩

set_option maxHeartbeats 2000000 in
theorem nl_3 (p a : Int) (w : World) (h1 : -1 ≤ a) (h2 : p ≤ 4611686018427387903) (hlo : 32768 ≤ p - a) (hhi : p - a < 8388608) :
    Calls Try.prog 6 #[.int .i64 p, .int .i64 a] w fun e w' => e = .returned (.bool true) ∧ Below w.heap.size w w' := by
  have hw0 : IntKind.u8.wrap p = p % 256 := wrap_u8 _
  have hw1 : IntKind.u8.wrap (p / 256) = p / 256 % 256 := wrap_u8 _
  have hw2 : IntKind.u8.wrap (p / 65536) = p / 65536 % 256 := wrap_u8 _
  have hw3 : IntKind.u8.wrap (p / 16777216) = p / 16777216 % 256 := wrap_u8 _
  go_enter Try.func6, Try.ntmps6
  go_wp2_with fail
  refine (snl_3 p a _ h1 h2 hlo hhi).mono ?_
  rintro e w1 ⟨rfl, rfl⟩
  go_wp2_with (first | (go_at_call 23; go_in) | (go_at_call 43; go_in))
  refine (apn_3 p a _ h1 h2 hlo hhi).mono ?_
  rintro e w1 ⟨s1, rfl, ho1, hb1⟩
  obtain ⟨A1, c1, rfl, hr1, hc1, hm1, -⟩ := ho1.rd
  obtain ⟨b, o, rfl, hc⟩ := hr1.2 (by simp)
  have k0 : w1.cell? ⟨b, o, none⟩ = some (.int .u8 (p / 65536 % 256)) := by simpa using hc 0 (by simp)
  have k1 : w1.cell? ⟨b, o + 1, none⟩ = some (.int .u8 (p / 256 % 256)) := by simpa using hc 1 (by simp)
  have k2 : w1.cell? ⟨b, o + 2, none⟩ = some (.int .u8 (p % 256)) := by simpa using hc 2 (by simp)
  simp only [List.length_cons, List.length_nil, Nat.zero_add] at hc1 ⊢
  clear hc hr1 ho1
  go_wp2_with (first | go_in)
  refine wp_loop_rounds 4 ?_
  iterate 4
    rw [rounds_succ]
    go_wp2
  go_ret
  exact ⟨rfl, hb1⟩

set_option maxHeartbeats 1000000 in
theorem apn_4 (p a : Int) (w : World) (h1 : -1 ≤ a) (h2 : p ≤ 4611686018427387903) (hlo : 8388608 ≤ p - a) (hhi : p - a < 2147483648) :
    Calls Try.prog 59 #[.slice none 0 0, .int .i64 p, .int .i64 a] w fun e w' => MadeEnd w [p / 16777216 % 256, p / 65536 % 256, p / 256 % 256, p % 256] e w' := by
  have HR := Lib.hid (Rd.new w [p / 16777216 % 256, p / 65536 % 256, p / 256 % 256, p % 256] (Bs.cons (by omega) (Bs.cons (by omega) (Bs.cons (by omega) (Bs.cons (by omega) (Bs.nil))))) 5)
  have hw0 : IntKind.u8.wrap p = p % 256 := wrap_u8 _
  have hw1 : IntKind.u8.wrap (p / 256) = p / 256 % 256 := wrap_u8 _
  have hw2 : IntKind.u8.wrap (p / 65536) = p / 65536 % 256 := wrap_u8 _
  have hw3 : IntKind.u8.wrap (p / 16777216) = p / 16777216 % 256 := wrap_u8 _
  go_enter Try.func59, Try.ntmps59
  go_wp2_with (first | (at_builtin; refine wpList_app w.heap.size _ rfl _ _ rfl (.slice none 0 0) [] rfl ((Own.nil_ _ _)) (some ⟨w.heap.size, 0, none⟩) 4 4 [p / 16777216 % 256, p / 65536 % 256, p / 256 % 256, p % 256] rfl rfl (by exact HR.out) (by simp) (by simp) (by simp) ?_; intro s' w1 ho1 hg1 ha1 hb1 hn1) | go_in)
  go_ret
  exact ⟨s', rfl, ho1, ((Below.refl _ _).alloc (Nat.le_refl _) _).trans hb1⟩

set_option maxHeartbeats 1000000 in
theorem snl_4 (p a : Int) (w : World) (h1 : -1 ≤ a) (h2 : p ≤ 4611686018427387903) (hlo : 8388608 ≤ p - a) (hhi : p - a < 2147483648) :
    Calls Try.prog 22 #[.int .i64 p, .int .i64 a] w fun e w' => e = .returned (.int .i64 4) ∧ w = w' := by
  go_enter Try.func22, Try.ntmps22
  go_wp2
  refine wp_loop_rounds 4 ?_
  iterate 4
    rw [rounds_succ]
    go_wp2
  go_ret
  exact ⟨rfl, rfl⟩

set_option maxHeartbeats 2000000 in
theorem nl_4 (p a : Int) (w : World) (h1 : -1 ≤ a) (h2 : p ≤ 4611686018427387903) (hlo : 8388608 ≤ p - a) (hhi : p - a < 2147483648) :
    Calls Try.prog 6 #[.int .i64 p, .int .i64 a] w fun e w' => e = .returned (.bool true) ∧ Below w.heap.size w w' := by
  have hw0 : IntKind.u8.wrap p = p % 256 := wrap_u8 _
  have hw1 : IntKind.u8.wrap (p / 256) = p / 256 % 256 := wrap_u8 _
  have hw2 : IntKind.u8.wrap (p / 65536) = p / 65536 % 256 := wrap_u8 _
  have hw3 : IntKind.u8.wrap (p / 16777216) = p / 16777216 % 256 := wrap_u8 _
  go_enter Try.func6, Try.ntmps6
  go_wp2_with fail
  refine (snl_4 p a _ h1 h2 hlo hhi).mono ?_
  rintro e w1 ⟨rfl, rfl⟩
  go_wp2_with (first | (go_at_call 23; go_in) | (go_at_call 43; go_in))
  refine (apn_4 p a _ h1 h2 hlo hhi).mono ?_
  rintro e w1 ⟨s1, rfl, ho1, hb1⟩
  obtain ⟨A1, c1, rfl, hr1, hc1, hm1, -⟩ := ho1.rd
  obtain ⟨b, o, rfl, hc⟩ := hr1.2 (by simp)
  have k0 : w1.cell? ⟨b, o, none⟩ = some (.int .u8 (p / 16777216 % 256)) := by simpa using hc 0 (by simp)
  have k1 : w1.cell? ⟨b, o + 1, none⟩ = some (.int .u8 (p / 65536 % 256)) := by simpa using hc 1 (by simp)
  have k2 : w1.cell? ⟨b, o + 2, none⟩ = some (.int .u8 (p / 256 % 256)) := by simpa using hc 2 (by simp)
  have k3 : w1.cell? ⟨b, o + 3, none⟩ = some (.int .u8 (p % 256)) := by simpa using hc 3 (by simp)
  simp only [List.length_cons, List.length_nil, Nat.zero_add] at hc1 ⊢
  clear hc hr1 ho1
  go_wp2_with (first | go_in)
  refine wp_loop_rounds 5 ?_
  iterate 5
    rw [rounds_succ]
    go_wp2
  go_ret
  exact ⟨rfl, hb1⟩

set_option maxHeartbeats 1000000 in
theorem nl_out (p a : Int) (w : World) (hp : -9223372036854775808 ≤ p ∧ p ≤ 9223372036854775807) (ha : -9223372036854775808 ≤ a ∧ a ≤ 9223372036854775807) (h : a < -1 ∨ p ≤ a ∨ 4611686018427387903 < p ∨ 2147483648 ≤ p - a) :
    Calls Try.prog 6 #[.int .i64 p, .int .i64 a] w fun e w' => e = .returned (.bool true) ∧ Below w.heap.size w w' := by
  by_cases h1 : a < -1
  · clear h
    go_enter Try.func6, Try.ntmps6
    go_wp2
    go_ret
    exact ⟨rfl, Below.refl _ _⟩
  by_cases h2 : p ≤ a
  · clear h
    go_enter Try.func6, Try.ntmps6
    go_wp2
    go_ret
    exact ⟨rfl, Below.refl _ _⟩
  by_cases h3 : 4611686018427387903 < p
  · clear h
    go_enter Try.func6, Try.ntmps6
    go_wp2
    go_ret
    exact ⟨rfl, Below.refl _ _⟩
  · have h4 : 2147483648 ≤ p - a := by omega
    clear h
    go_enter Try.func6, Try.ntmps6
    go_wp2
    go_ret
    exact ⟨rfl, Below.refl _ _⟩

theorem fnNumberLength_walk (p : Int) (hp : -9223372036854775808 ≤ p ∧ p ≤ 9223372036854775807) (a : Int) (ha : -9223372036854775808 ≤ a ∧ a ≤ 9223372036854775807) (w : World) :
    Calls Try.prog 6 #[.int .i64 p, .int .i64 a] w fun e w' => e = .returned (.bool true) ∧ Below w.heap.size w w' := by
  by_cases h : a < -1 ∨ p ≤ a ∨ 4611686018427387903 < p ∨ 2147483648 ≤ p - a
  · exact nl_out p a w hp ha h
  by_cases h1 : p - a < 128
  · exact nl_1 p a w (by omega) (by omega) (by omega) h1
  by_cases h2 : p - a < 32768
  · exact nl_2 p a w (by omega) (by omega) (by omega) h2
  by_cases h3 : p - a < 8388608
  · exact nl_3 p a w (by omega) (by omega) (by omega) h3
  · exact nl_4 p a w (by omega) (by omega) (by omega) (by omega)

set_option maxHeartbeats 2000000 in
theorem dec_1 (L T p a : Int) (w : World) (h1 : -1 ≤ a) (h2 : p ≤ 4611686018427387903) (hlo : a < p) (hhi : p - a < 128) (hL : a ≤ L) (hL2 : L < p) (hT0 : 0 ≤ T) (hT1 : T < 256) (HT : Hid (T = p % 256)) :
    Calls Try.prog 56 #[.int .i64 L, .int .i64 T, .int .i64 1] w fun e w' => e = .returned (.int .i64 p) ∧ w = w' := by
  have hA : bits .andNot .i64 (L + 1) 255 = (L + 1) - (L + 1) % 256 := andNot_i64 8 (by decide) _ _ (by omega) (by omega) (by decide)
  have hO : bits .or .i64 ((L + 1) - (L + 1) % 256) T = (L + 1) - (L + 1) % 256 + T := or_i64 8 _ _ (by omega) hT0 hT1 (by omega) (by omega)
  go_enter Try.func56, Try.ntmps56
  go_wp2
  all_goals
    go_ret
    exact ⟨ret1_eq (by have := HT.out; omega), rfl⟩

set_option maxHeartbeats 2000000 in
theorem nb_1 (p a L : Int) (w : World) (h1 : -1 ≤ a) (h2 : p ≤ 4611686018427387903) (hlo : 1 ≤ p - a) (hhi : p - a < 128) (hL : a ≤ L) (hL2 : L < p) :
    Calls Try.prog 9 #[.int .i64 p, .int .i64 a, .int .i64 L] w fun e w' => e = .returned (.bool true) ∧ Below w.heap.size w w' := by
  have o0 : bits .or .i64 (0) (p % 256) = p % 256 := by have := or_i64 8 0 (p % 256) (by decide) (by omega) (by omega) (by decide) (by omega); rwa [Int.zero_add] at this
  go_enter Try.func9, Try.ntmps9
  go_wp2_with (first | (go_at_call 23; go_in) | (go_at_call 43; go_in))
  refine (apn_1 p a _ h1 h2 hlo hhi).mono ?_
  rintro e w1 ⟨s1, rfl, ho1, hb1⟩
  obtain ⟨A1, c1, rfl, hr1, hc1, hm1, -⟩ := ho1.rd
  obtain ⟨b, o, rfl, hc⟩ := hr1.2 (by simp)
  have k0 : w1.cell? ⟨b, o, none⟩ = some (.int .u8 (p % 256)) := by simpa using hc 0 (by simp)
  simp only [List.length_cons, List.length_nil, Nat.zero_add] at hc1 ⊢
  clear hc hr1 ho1
  go_wp2_with fail
  refine wp_loop_rounds 2 ?_
  iterate 2
    rw [rounds_succ]
    go_wp2_with (first | (go_at_call 15; go_in) | (go_at_call 38; go_in))
  refine (dec_1 L _ p a _ h1 h2 (by omega) (by omega) hL hL2 (by omega) (by omega) (show _ = _ by omega)).mono ?_
  rintro e w2 ⟨rfl, rfl⟩
  go_wp2
  go_ret
  exact ⟨rfl, hb1⟩

set_option maxHeartbeats 2000000 in
theorem dec_2 (L T p a : Int) (w : World) (h1 : -1 ≤ a) (h2 : p ≤ 4611686018427387903) (hlo : a < p) (hhi : p - a < 32768) (hL : a ≤ L) (hL2 : L < p) (hT0 : 0 ≤ T) (hT1 : T < 65536) (HT : Hid (T = p % 65536)) :
    Calls Try.prog 56 #[.int .i64 L, .int .i64 T, .int .i64 2] w fun e w' => e = .returned (.int .i64 p) ∧ w = w' := by
  have hA : bits .andNot .i64 (L + 1) 65535 = (L + 1) - (L + 1) % 65536 := andNot_i64 16 (by decide) _ _ (by omega) (by omega) (by decide)
  have hO : bits .or .i64 ((L + 1) - (L + 1) % 65536) T = (L + 1) - (L + 1) % 65536 + T := or_i64 16 _ _ (by omega) hT0 hT1 (by omega) (by omega)
  go_enter Try.func56, Try.ntmps56
  go_wp2
  all_goals
    go_ret
    exact ⟨ret1_eq (by have := HT.out; omega), rfl⟩

set_option maxHeartbeats 2000000 in
theorem nb_2 (p a L : Int) (w : World) (h1 : -1 ≤ a) (h2 : p ≤ 4611686018427387903) (hlo : 128 ≤ p - a) (hhi : p - a < 32768) (hL : a ≤ L) (hL2 : L < p) :
    Calls Try.prog 9 #[.int .i64 p, .int .i64 a, .int .i64 L] w fun e w' => e = .returned (.bool true) ∧ Below w.heap.size w w' := by
  have o0 : bits .or .i64 (0) (p / 256 % 256) = p / 256 % 256 := by have := or_i64 8 0 (p / 256 % 256) (by decide) (by omega) (by omega) (by decide) (by omega); rwa [Int.zero_add] at this
  have o1 : bits .or .i64 (p / 256 % 256 * 256) (p % 256) = p / 256 % 256 * 256 + p % 256 := or_i64 8 _ _ (by omega) (by omega) (by omega) (by omega) (by omega)
  go_enter Try.func9, Try.ntmps9
  go_wp2_with (first | (go_at_call 23; go_in) | (go_at_call 43; go_in))
  refine (apn_2 p a _ h1 h2 hlo hhi).mono ?_
  rintro e w1 ⟨s1, rfl, ho1, hb1⟩
  obtain ⟨A1, c1, rfl, hr1, hc1, hm1, -⟩ := ho1.rd
  obtain ⟨b, o, rfl, hc⟩ := hr1.2 (by simp)
  have k0 : w1.cell? ⟨b, o, none⟩ = some (.int .u8 (p / 256 % 256)) := by simpa using hc 0 (by simp)
  have k1 : w1.cell? ⟨b, o + 1, none⟩ = some (.int .u8 (p % 256)) := by simpa using hc 1 (by simp)
  simp only [List.length_cons, List.length_nil, Nat.zero_add] at hc1 ⊢
  clear hc hr1 ho1
  go_wp2_with fail
  refine wp_loop_rounds 3 ?_
  iterate 3
    rw [rounds_succ]
    go_wp2_with (first | (go_at_call 15; go_in) | (go_at_call 38; go_in))
  refine (dec_2 L _ p a _ h1 h2 (by omega) (by omega) hL hL2 (by omega) (by omega) (show _ = _ by omega)).mono ?_
  rintro e w2 ⟨rfl, rfl⟩
  go_wp2
  go_ret
  exact ⟨rfl, hb1⟩

set_option maxHeartbeats 2000000 in
theorem dec_3 (L T p a : Int) (w : World) (h1 : -1 ≤ a) (h2 : p ≤ 4611686018427387903) (hlo : a < p) (hhi : p - a < 8388608) (hL : a ≤ L) (hL2 : L < p) (hT0 : 0 ≤ T) (hT1 : T < 16777216) (HT : Hid (T = p % 16777216)) :
    Calls Try.prog 56 #[.int .i64 L, .int .i64 T, .int .i64 3] w fun e w' => e = .returned (.int .i64 p) ∧ w = w' := by
  have hA : bits .andNot .i64 (L + 1) 16777215 = (L + 1) - (L + 1) % 16777216 := andNot_i64 24 (by decide) _ _ (by omega) (by omega) (by decide)
  have hO : bits .or .i64 ((L + 1) - (L + 1) % 16777216) T = (L + 1) - (L + 1) % 16777216 + T := or_i64 24 _ _ (by omega) hT0 hT1 (by omega) (by omega)
  go_enter Try.func56, Try.ntmps56
  go_wp2
  all_goals
    go_ret
    exact ⟨ret1_eq (by have := HT.out; omega), rfl⟩

set_option maxHeartbeats 2000000 in
theorem nb_3 (p a L : Int) (w : World) (h1 : -1 ≤ a) (h2 : p ≤ 4611686018427387903) (hlo : 32768 ≤ p - a) (hhi : p - a < 8388608) (hL : a ≤ L) (hL2 : L < p) :
    Calls Try.prog 9 #[.int .i64 p, .int .i64 a, .int .i64 L] w fun e w' => e = .returned (.bool true) ∧ Below w.heap.size w w' := by
  have o0 : bits .or .i64 (0) (p / 65536 % 256) = p / 65536 % 256 := by have := or_i64 8 0 (p / 65536 % 256) (by decide) (by omega) (by omega) (by decide) (by omega); rwa [Int.zero_add] at this
  have o1 : bits .or .i64 (p / 65536 % 256 * 256) (p / 256 % 256) = p / 65536 % 256 * 256 + p / 256 % 256 := or_i64 8 _ _ (by omega) (by omega) (by omega) (by omega) (by omega)
  have o2 : bits .or .i64 ((p / 65536 % 256 * 256 + p / 256 % 256) * 256) (p % 256) = (p / 65536 % 256 * 256 + p / 256 % 256) * 256 + p % 256 := or_i64 8 _ _ (by omega) (by omega) (by omega) (by omega) (by omega)
  go_enter Try.func9, Try.ntmps9
  go_wp2_with (first | (go_at_call 23; go_in) | (go_at_call 43; go_in))
  refine (apn_3 p a _ h1 h2 hlo hhi).mono ?_
  rintro e w1 ⟨s1, rfl, ho1, hb1⟩
  obtain ⟨A1, c1, rfl, hr1, hc1, hm1, -⟩ := ho1.rd
  obtain ⟨b, o, rfl, hc⟩ := hr1.2 (by simp)
  have k0 : w1.cell? ⟨b, o, none⟩ = some (.int .u8 (p / 65536 % 256)) := by simpa using hc 0 (by simp)
  have k1 : w1.cell? ⟨b, o + 1, none⟩ = some (.int .u8 (p / 256 % 256)) := by simpa using hc 1 (by simp)
  have k2 : w1.cell? ⟨b, o + 2, none⟩ = some (.int .u8 (p % 256)) := by simpa using hc 2 (by simp)
  simp only [List.length_cons, List.length_nil, Nat.zero_add] at hc1 ⊢
  clear hc hr1 ho1
  go_wp2_with fail
  refine wp_loop_rounds 4 ?_
  iterate 4
    rw [rounds_succ]
    go_wp2_with (first | (go_at_call 15; go_in) | (go_at_call 38; go_in))
  refine (dec_3 L _ p a _ h1 h2 (by omega) (by omega) hL hL2 (by omega) (by omega) (show _ = _ by omega)).mono ?_
  rintro e w2 ⟨rfl, rfl⟩
  go_wp2
  go_ret
  exact ⟨rfl, hb1⟩

set_option maxHeartbeats 2000000 in
theorem dec_4 (L T p a : Int) (w : World) (h1 : -1 ≤ a) (h2 : p ≤ 4611686018427387903) (hlo : a < p) (hhi : p - a < 2147483648) (hL : a ≤ L) (hL2 : L < p) (hT0 : 0 ≤ T) (hT1 : T < 4294967296) (HT : Hid (T = p % 4294967296)) :
    Calls Try.prog 56 #[.int .i64 L, .int .i64 T, .int .i64 4] w fun e w' => e = .returned (.int .i64 p) ∧ w = w' := by
  have hA : bits .andNot .i64 (L + 1) 4294967295 = (L + 1) - (L + 1) % 4294967296 := andNot_i64 32 (by decide) _ _ (by omega) (by omega) (by decide)
  have hO : bits .or .i64 ((L + 1) - (L + 1) % 4294967296) T = (L + 1) - (L + 1) % 4294967296 + T := or_i64 32 _ _ (by omega) hT0 hT1 (by omega) (by omega)
  go_enter Try.func56, Try.ntmps56
  go_wp2
  all_goals
    go_ret
    exact ⟨ret1_eq (by have := HT.out; omega), rfl⟩

set_option maxHeartbeats 2000000 in
theorem nb_4 (p a L : Int) (w : World) (h1 : -1 ≤ a) (h2 : p ≤ 4611686018427387903) (hlo : 8388608 ≤ p - a) (hhi : p - a < 2147483648) (hL : a ≤ L) (hL2 : L < p) :
    Calls Try.prog 9 #[.int .i64 p, .int .i64 a, .int .i64 L] w fun e w' => e = .returned (.bool true) ∧ Below w.heap.size w w' := by
  have o0 : bits .or .i64 (0) (p / 16777216 % 256) = p / 16777216 % 256 := by have := or_i64 8 0 (p / 16777216 % 256) (by decide) (by omega) (by omega) (by decide) (by omega); rwa [Int.zero_add] at this
  have o1 : bits .or .i64 (p / 16777216 % 256 * 256) (p / 65536 % 256) = p / 16777216 % 256 * 256 + p / 65536 % 256 := or_i64 8 _ _ (by omega) (by omega) (by omega) (by omega) (by omega)
  have o2 : bits .or .i64 ((p / 16777216 % 256 * 256 + p / 65536 % 256) * 256) (p / 256 % 256) = (p / 16777216 % 256 * 256 + p / 65536 % 256) * 256 + p / 256 % 256 := or_i64 8 _ _ (by omega) (by omega) (by omega) (by omega) (by omega)
  have o3 : bits .or .i64 (((p / 16777216 % 256 * 256 + p / 65536 % 256) * 256 + p / 256 % 256) * 256) (p % 256) = ((p / 16777216 % 256 * 256 + p / 65536 % 256) * 256 + p / 256 % 256) * 256 + p % 256 := or_i64 8 _ _ (by omega) (by omega) (by omega) (by omega) (by omega)
  go_enter Try.func9, Try.ntmps9
  go_wp2_with (first | (go_at_call 23; go_in) | (go_at_call 43; go_in))
  refine (apn_4 p a _ h1 h2 hlo hhi).mono ?_
  rintro e w1 ⟨s1, rfl, ho1, hb1⟩
  obtain ⟨A1, c1, rfl, hr1, hc1, hm1, -⟩ := ho1.rd
  obtain ⟨b, o, rfl, hc⟩ := hr1.2 (by simp)
  have k0 : w1.cell? ⟨b, o, none⟩ = some (.int .u8 (p / 16777216 % 256)) := by simpa using hc 0 (by simp)
  have k1 : w1.cell? ⟨b, o + 1, none⟩ = some (.int .u8 (p / 65536 % 256)) := by simpa using hc 1 (by simp)
  have k2 : w1.cell? ⟨b, o + 2, none⟩ = some (.int .u8 (p / 256 % 256)) := by simpa using hc 2 (by simp)
  have k3 : w1.cell? ⟨b, o + 3, none⟩ = some (.int .u8 (p % 256)) := by simpa using hc 3 (by simp)
  simp only [List.length_cons, List.length_nil, Nat.zero_add] at hc1 ⊢
  clear hc hr1 ho1
  go_wp2_with fail
  refine wp_loop_rounds 5 ?_
  iterate 5
    rw [rounds_succ]
    go_wp2_with (first | (go_at_call 15; go_in) | (go_at_call 38; go_in))
  refine (dec_4 L _ p a _ h1 h2 (by omega) (by omega) hL hL2 (by omega) (by omega) (show _ = _ by omega)).mono ?_
  rintro e w2 ⟨rfl, rfl⟩
  go_wp2
  go_ret
  exact ⟨rfl, hb1⟩

set_option maxHeartbeats 1000000 in
theorem nb_out (p a L : Int) (w : World) (hp : -9223372036854775808 ≤ p ∧ p ≤ 9223372036854775807) (ha : -9223372036854775808 ≤ a ∧ a ≤ 9223372036854775807) (h : a < -1 ∨ p ≤ a ∨ 4611686018427387903 < p ∨ 2147483648 ≤ p - a ∨ L < a ∨ p ≤ L) :
    Calls Try.prog 9 #[.int .i64 p, .int .i64 a, .int .i64 L] w fun e w' => e = .returned (.bool true) ∧ Below w.heap.size w w' := by
  by_cases h1 : a < -1
  · clear h
    go_enter Try.func9, Try.ntmps9
    go_wp2
    go_ret
    exact ⟨rfl, Below.refl _ _⟩
  by_cases h2 : p ≤ a
  · clear h
    go_enter Try.func9, Try.ntmps9
    go_wp2
    go_ret
    exact ⟨rfl, Below.refl _ _⟩
  by_cases h3 : 4611686018427387903 < p
  · clear h
    go_enter Try.func9, Try.ntmps9
    go_wp2
    go_ret
    exact ⟨rfl, Below.refl _ _⟩
  by_cases h4 : 2147483648 ≤ p - a
  · clear h
    go_enter Try.func9, Try.ntmps9
    go_wp2
    go_ret
    exact ⟨rfl, Below.refl _ _⟩
  by_cases h5 : L < a
  · clear h
    go_enter Try.func9, Try.ntmps9
    go_wp2
    go_ret
    exact ⟨rfl, Below.refl _ _⟩
  · have h6 : p ≤ L := by omega
    clear h
    go_enter Try.func9, Try.ntmps9
    go_wp2
    go_ret
    exact ⟨rfl, Below.refl _ _⟩

theorem fnNumberComesBack_walk (p : Int) (hp : -9223372036854775808 ≤ p ∧ p ≤ 9223372036854775807) (a : Int) (ha : -9223372036854775808 ≤ a ∧ a ≤ 9223372036854775807) (L : Int) (hL : -9223372036854775808 ≤ L ∧ L ≤ 9223372036854775807) (w : World) :
    Calls Try.prog 9 #[.int .i64 p, .int .i64 a, .int .i64 L] w fun e w' => e = .returned (.bool true) ∧ Below w.heap.size w w' := by
  by_cases h : a < -1 ∨ p ≤ a ∨ 4611686018427387903 < p ∨ 2147483648 ≤ p - a ∨ L < a ∨ p ≤ L
  · exact nb_out p a L w hp ha h
  by_cases h1 : p - a < 128
  · exact nb_1 p a L w (by omega) (by omega) (by omega) h1 (by omega) (by omega)
  by_cases h2 : p - a < 32768
  · exact nb_2 p a L w (by omega) (by omega) (by omega) h2 (by omega) (by omega)
  by_cases h3 : p - a < 8388608
  · exact nb_3 p a L w (by omega) (by omega) (by omega) h3 (by omega) (by omega)
  · exact nb_4 p a L w (by omega) (by omega) (by omega) (by omega) (by omega) (by omega)

end Go.Proofs.Ytiehheijkabeeaa


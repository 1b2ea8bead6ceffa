/- Contracts of quicwire's numbers: ConsumeVarint, ConsumeVarintInt64; spec.ReadVarint. Conditions: the slice reads as bytes. -/
import Derived.Test.YtdjdcpcomhjnjaaDoorBase
import Derived.Test.YtdjdcpcomhjnjaaDoorBits
namespace Go.Proofs.YtdjdcpcomhjnjaaDoor
open Go.RowKit
set_option linter.unusedVariables false

/-- What a reader of a variable-length integer returns of bytes. -/
def RvEnd (k : IntKind) (l : List Int) (e : Ending) : Prop :=
  (rv l = none ∧ e = .returned (.tuple #[.int k 0, .int .i64 (-1)])) ∨ ∃ v n, rv l = some (v, n) ∧ e = .returned (.tuple #[.int k v, .int .i64 (n : Nat)])

theorem rv_1 {x : Int} {r : List Int} (h : x < 64) (h0 : 0 ≤ x) : rv (x :: r) = some (x, 1) := by
  have e : szOf x = 1 := by unfold szOf; rw [if_pos h]
  simp [rv_cons, e, be]; omega
theorem rv_2 {x a : Int} {r : List Int} (h0 : 64 ≤ x) (h : x < 128) : rv (x :: a :: r) = some (x % 64 * 256 + a, 2) := by
  have e : szOf x = 2 := by unfold szOf; rw [if_neg (by omega), if_pos h]
  simp [rv_cons, e, be]
theorem rv_4 {x a b c : Int} {r : List Int} (h0 : 128 ≤ x) (h : x < 192) : rv (x :: a :: b :: c :: r) = some (((x % 64 * 256 + a) * 256 + b) * 256 + c, 4) := by
  have e : szOf x = 4 := by unfold szOf; rw [if_neg (by omega), if_neg (by omega), if_pos h]
  simp [rv_cons, e, be]
theorem rv_8 {x a b c d e f g : Int} {r : List Int} (h0 : 192 ≤ x) : rv (x :: a :: b :: c :: d :: e :: f :: g :: r) = some (((((((x % 64 * 256 + a) * 256 + b) * 256 + c) * 256 + d) * 256 + e) * 256 + f) * 256 + g, 8) := by
  have e : szOf x = 8 := by unfold szOf; rw [if_neg (by omega), if_neg (by omega), if_neg (by omega)]
  simp [rv_cons, e, be]
theorem rv_short {x : Int} {r : List Int} (h : r.length + 1 < szOf x) : rv (x :: r) = none := by rw [rv_cons, if_pos h]

set_option maxHeartbeats 1000000 in
theorem cv_nil (A : Option Addr) (c : Nat) (w : World) :
    Calls Tryd.prog 38 #[.slice A 0 c] w fun e w' => e = .returned (.tuple #[.int .u64 0, .int .i64 (-1)]) ∧ w = w' := by
  go_enter Tryd.func38, Tryd.ntmps38
  go_wp2
  go_ret2
  exact ⟨rfl, rfl⟩

set_option maxHeartbeats 1000000 in
theorem cv_1 (b o n c : Nat) (x : Int) (w : World) (hn : 1 ≤ n) (hn2 : n ≤ 9223372036854775807) (h0 : 0 ≤ x) (h1 : x < 64) (c0 : w.cell? ⟨b, o, none⟩ = some (.int .u8 x)) :
    Calls Tryd.prog 38 #[.slice (some ⟨b, o, none⟩) n c] w fun e w' => e = .returned (.tuple #[.int .u64 x, .int .i64 1]) ∧ w = w' := by
  have hm : bits .and .u8 x 63 = x := by rw [show (63 : Int) = 2 ^ 6 - 1 by decide, mask_u8 6 (by decide) x h0 (by omega)]; omega
  go_enter Tryd.func38, Tryd.ntmps38
  go_wp2
  go_ret2
  exact ⟨rfl, rfl⟩

set_option maxHeartbeats 1000000 in
/-- The bytes are fewer than the first one says. -/
theorem cv_short (b o n c : Nat) (x : Int) (w : World) (hn : 1 ≤ n) (hn2 : n ≤ 9223372036854775807) (h0 : 64 ≤ x) (h1 : x ≤ 255) (hs : x < 128 ∧ n < 2 ∨ 128 ≤ x ∧ x < 192 ∧ n < 4 ∨ 192 ≤ x ∧ n < 8) (c0 : w.cell? ⟨b, o, none⟩ = some (.int .u8 x)) :
    Calls Tryd.prog 38 #[.slice (some ⟨b, o, none⟩) n c] w fun e w' => e = .returned (.tuple #[.int .u64 0, .int .i64 (-1)]) ∧ w = w' := by
  have hm : bits .and .u8 x 63 = x % 64 := mask_u8 6 (by decide) x (by omega) (by omega)
  rcases hs with ⟨h2, h3⟩ | ⟨h2, h3, h4⟩ | ⟨h2, h3⟩
  · go_enter Tryd.func38, Tryd.ntmps38
    go_wp2
    go_ret2
    exact ⟨rfl, rfl⟩
  · go_enter Tryd.func38, Tryd.ntmps38
    go_wp2
    go_ret2
    exact ⟨rfl, rfl⟩
  · go_enter Tryd.func38, Tryd.ntmps38
    go_wp2
    go_ret2
    exact ⟨rfl, rfl⟩


set_option maxHeartbeats 1000000 in
theorem cv_2 (b o n c : Nat) (x y : Int) (w : World) (hn : 2 ≤ n) (hn2 : n ≤ 9223372036854775807) (h0 : 64 ≤ x) (h1 : x < 128) (hy : 0 ≤ y ∧ y ≤ 255) (c0 : w.cell? ⟨b, o, none⟩ = some (.int .u8 x)) (c1 : w.cell? ⟨b, o + 1, none⟩ = some (.int .u8 y)) :
    Calls Tryd.prog 38 #[.slice (some ⟨b, o, none⟩) n c] w fun e w' => e = .returned (.tuple #[.int .u64 (x % 64 * 256 + y), .int .i64 2]) ∧ w = w' := by
  have hm : bits .and .u8 x 63 = x % 64 := mask_u8 6 (by decide) x (by omega) (by omega)
  have ho : bits .or .u64 (x % 64 * 256) y = x % 64 * 256 + y := or_u64 8 _ _ (by omega) hy.1 (by omega) (by omega) (by omega) (by omega)
  go_enter Tryd.func38, Tryd.ntmps38
  go_wp2
  go_ret2
  exact ⟨rfl, rfl⟩

set_option maxHeartbeats 1000000 in
theorem cv_4 (b o n c : Nat) (x y z u : Int) (w : World) (hn : 4 ≤ n) (hn2 : n ≤ 9223372036854775807) (h0 : 128 ≤ x) (h1 : x < 192) (hy : 0 ≤ y ∧ y ≤ 255) (hz : 0 ≤ z ∧ z ≤ 255) (hu : 0 ≤ u ∧ u ≤ 255)
    (c0 : w.cell? ⟨b, o, none⟩ = some (.int .u8 x)) (c1 : w.cell? ⟨b, o + 1, none⟩ = some (.int .u8 y)) (c2 : w.cell? ⟨b, o + 2, none⟩ = some (.int .u8 z)) (c3 : w.cell? ⟨b, o + 3, none⟩ = some (.int .u8 u)) :
    Calls Tryd.prog 38 #[.slice (some ⟨b, o, none⟩) n c] w fun e w' => e = .returned (.tuple #[.int .u64 (((x % 64 * 256 + y) * 256 + z) * 256 + u), .int .i64 4]) ∧ ∃ q, w' = w.drewN q := by
  have hm : bits .and .u8 x 63 = x % 64 := mask_u8 6 (by decide) x (by omega) (by omega)
  have p1 : (1 : Int) < (n : Int) := by omega
  have p2 : (2 : Int) < (n : Int) := by omega
  have p3 : (3 : Int) < (n : Int) := by omega
  go_enter Tryd.func38, Tryd.ntmps38
  go_wp2_with fail
  go_quiet (fail)
  go_wp2
  go_ret2
  exact ⟨ret2_eq (or4 x y z u hy hz hu), nq, rfl⟩

set_option maxHeartbeats 2000000 in
theorem cv_8 (b o n c : Nat) (x0 x1 x2 x3 x4 x5 x6 x7 : Int) (w : World) (hn : 8 ≤ n) (hn2 : n ≤ 9223372036854775807) (h0 : 192 ≤ x0) (hb0 : x0 ≤ 255) (h1 : 0 ≤ x1 ∧ x1 ≤ 255) (h2 : 0 ≤ x2 ∧ x2 ≤ 255) (h3 : 0 ≤ x3 ∧ x3 ≤ 255) (h4 : 0 ≤ x4 ∧ x4 ≤ 255) (h5 : 0 ≤ x5 ∧ x5 ≤ 255) (h6 : 0 ≤ x6 ∧ x6 ≤ 255) (h7 : 0 ≤ x7 ∧ x7 ≤ 255)
    (c0 : w.cell? ⟨b, o, none⟩ = some (.int .u8 x0)) (c1 : w.cell? ⟨b, o + 1, none⟩ = some (.int .u8 x1)) (c2 : w.cell? ⟨b, o + 2, none⟩ = some (.int .u8 x2)) (c3 : w.cell? ⟨b, o + 3, none⟩ = some (.int .u8 x3))
    (c4 : w.cell? ⟨b, o + 4, none⟩ = some (.int .u8 x4)) (c5 : w.cell? ⟨b, o + 5, none⟩ = some (.int .u8 x5)) (c6 : w.cell? ⟨b, o + 6, none⟩ = some (.int .u8 x6)) (c7 : w.cell? ⟨b, o + 7, none⟩ = some (.int .u8 x7)) :
    Calls Tryd.prog 38 #[.slice (some ⟨b, o, none⟩) n c] w fun e w' => e = .returned (.tuple #[.int .u64 (((((((x0 % 64 * 256 + x1) * 256 + x2) * 256 + x3) * 256 + x4) * 256 + x5) * 256 + x6) * 256 + x7), .int .i64 8]) ∧ ∃ q, w' = w.drewN q := by
  have hm : bits .and .u8 x0 63 = x0 % 64 := mask_u8 6 (by decide) x0 (by omega) (by omega)
  have p1 : (1 : Int) < (n : Int) := by omega
  have p2 : (2 : Int) < (n : Int) := by omega
  have p3 : (3 : Int) < (n : Int) := by omega
  have p4 : (4 : Int) < (n : Int) := by omega
  have p5 : (5 : Int) < (n : Int) := by omega
  have p6 : (6 : Int) < (n : Int) := by omega
  have p7 : (7 : Int) < (n : Int) := by omega
  go_enter Tryd.func38, Tryd.ntmps38
  go_wp2_with fail
  go_quiet (fail)
  go_wp2
  go_ret2
  exact ⟨ret2_eq (or8 x0 x1 x2 x3 x4 x5 x6 x7 h1 h2 h3 h4 h5 h6 h7), nq, rfl⟩

/-- ConsumeVarint, whatever the bytes. -/
theorem cv (A : Option Addr) (n c : Nat) (l : List Int) (w : World) (hr : Rd w A l) (hn : l.length = n) (hn2 : n ≤ 9223372036854775807) :
    Calls Tryd.prog 38 #[.slice A n c] w fun e w' => RvEnd .u64 l e ∧ ∃ q, w' = w.drewN q := by
  cases l with
  | nil =>
    subst hn
    exact (cv_nil A c w).mono fun e w' ⟨he, hw⟩ => ⟨.inl ⟨rfl, he⟩, 0, hw.symm⟩
  | cons x r =>
    obtain ⟨b, o, rfl, hc⟩ := hr.2 (by simp)
    have hx := hr.1.head
    have c0 : w.cell? ⟨b, o, none⟩ = some (.int .u8 x) := by simpa using hc 0 (by simp)
    have hlen : r.length + 1 = n := by simpa using hn
    by_cases h1 : x < 64
    · exact (cv_1 b o n c x w (by omega) hn2 hx.1 h1 c0).mono fun e w' ⟨he, hw⟩ => ⟨.inr ⟨x, 1, rv_1 h1 hx.1, he⟩, 0, hw.symm⟩
    by_cases hs : x < 128 ∧ n < 2 ∨ 128 ≤ x ∧ x < 192 ∧ n < 4 ∨ 192 ≤ x ∧ n < 8
    · refine (cv_short b o n c x w (by omega) hn2 (by omega) hx.2 hs c0).mono fun e w' ⟨he, hw⟩ => ⟨.inl ⟨rv_short ?_, he⟩, 0, hw.symm⟩
      unfold szOf
      rcases hs with ⟨h2, h3⟩ | ⟨h2, h3, h4⟩ | ⟨h2, h3⟩
      · rw [if_neg h1, if_pos h2]; omega
      · rw [if_neg h1, if_neg (by omega), if_pos h3]; omega
      · rw [if_neg h1, if_neg (by omega), if_neg (by omega)]; omega
    by_cases h2 : x < 128
    · match r, hlen with
      | y :: r, hlen =>
        have hy := hr.1.tail.head
        have c1 : w.cell? ⟨b, o + 1, none⟩ = some (.int .u8 y) := by simpa using hc 1 (by simp)
        exact (cv_2 b o n c x y w (by omega) hn2 (by omega) h2 hy c0 c1).mono fun e w' ⟨he, hw⟩ => ⟨.inr ⟨_, 2, rv_2 (by omega) h2, he⟩, 0, hw.symm⟩
      | [], hlen => simp at hlen; omega
    by_cases h3 : x < 192
    · match r, hlen with
      | y :: z :: u :: r, hlen =>
        have hy := hr.1.tail.head
        have hz := hr.1.tail.tail.head
        have hu := hr.1.tail.tail.tail.head
        have c1 : w.cell? ⟨b, o + 1, none⟩ = some (.int .u8 y) := by simpa using hc 1 (by simp)
        have c2 : w.cell? ⟨b, o + 2, none⟩ = some (.int .u8 z) := by simpa using hc 2 (by simp)
        have c3 : w.cell? ⟨b, o + 3, none⟩ = some (.int .u8 u) := by simpa using hc 3 (by simp)
        exact (cv_4 b o n c x y z u w (by simp at hlen; omega) hn2 (by omega) h3 hy hz hu c0 c1 c2 c3).mono fun e w' ⟨he, hw⟩ => ⟨.inr ⟨_, 4, rv_4 (by omega) h3, he⟩, hw⟩
      | [], hlen => simp at hlen; omega
      | [_], hlen => simp at hlen; omega
      | [_, _], hlen => simp at hlen; omega
    · match r, hlen with
      | x1 :: x2 :: x3 :: x4 :: x5 :: x6 :: x7 :: r, hlen =>
        have h1 := hr.1.tail.head
        have h2 := hr.1.tail.tail.head
        have h3 := hr.1.tail.tail.tail.head
        have h4 := hr.1.tail.tail.tail.tail.head
        have h5 := hr.1.tail.tail.tail.tail.tail.head
        have h6 := hr.1.tail.tail.tail.tail.tail.tail.head
        have h7 := hr.1.tail.tail.tail.tail.tail.tail.tail.head
        have c1 : w.cell? ⟨b, o + 1, none⟩ = some (.int .u8 x1) := by simpa using hc 1 (by simp)
        have c2 : w.cell? ⟨b, o + 2, none⟩ = some (.int .u8 x2) := by simpa using hc 2 (by simp)
        have c3 : w.cell? ⟨b, o + 3, none⟩ = some (.int .u8 x3) := by simpa using hc 3 (by simp)
        have c4 : w.cell? ⟨b, o + 4, none⟩ = some (.int .u8 x4) := by simpa using hc 4 (by simp)
        have c5 : w.cell? ⟨b, o + 5, none⟩ = some (.int .u8 x5) := by simpa using hc 5 (by simp)
        have c6 : w.cell? ⟨b, o + 6, none⟩ = some (.int .u8 x6) := by simpa using hc 6 (by simp)
        have c7 : w.cell? ⟨b, o + 7, none⟩ = some (.int .u8 x7) := by simpa using hc 7 (by simp)
        exact (cv_8 b o n c x x1 x2 x3 x4 x5 x6 x7 w (by simp at hlen; omega) hn2 (by omega) hx.2 h1 h2 h3 h4 h5 h6 h7 c0 c1 c2 c3 c4 c5 c6 c7).mono fun e w' ⟨he, hw⟩ => ⟨.inr ⟨_, 8, rv_8 (by omega), he⟩, hw⟩
      | [], hlen => simp at hlen; omega
      | [_], hlen => simp at hlen; omega
      | [_, _], hlen => simp at hlen; omega
      | [_, _, _], hlen => simp at hlen; omega
      | [_, _, _, _], hlen => simp at hlen; omega
      | [_, _, _, _, _], hlen => simp at hlen; omega
      | [_, _, _, _, _, _], hlen => simp at hlen; omega

theorem RvEnd.none_ {k : IntKind} {l : List Int} {e : Ending} (h : RvEnd k l e) (hv : rv l = none) : e = .returned (.tuple #[.int k 0, .int .i64 (-1)]) := by
  rcases h with ⟨_, h⟩ | ⟨v, n, h, _⟩
  · exact h
  · rw [hv] at h; cases h
theorem RvEnd.some_ {k : IntKind} {l : List Int} {e : Ending} {v : Int} {n : Nat} (h : RvEnd k l e) (hv : rv l = some (v, n)) : e = .returned (.tuple #[.int k v, .int .i64 (n : Nat)]) := by
  rcases h with ⟨h, _⟩ | ⟨v', n', h, e⟩
  · rw [hv] at h; cases h
  · rw [hv] at h
    obtain ⟨rfl, rfl⟩ : v = v' ∧ n = n' := by simpa using h
    exact e

theorem cv_none (A : Option Addr) (n c : Nat) (l : List Int) (w : World) (hr : Rd w A l) (hn : Hid (l.length = n)) (hn2 : n ≤ 9223372036854775807) (hv : Hid (rv l = none)) :
    Calls Tryd.prog 38 #[.slice A n c] w fun e w' => e = .returned (.tuple #[.int .u64 0, .int .i64 (-1)]) ∧ ∃ q, w' = w.drewN q :=
  (cv A n c l w hr hn.out hn2).mono fun _ _ ⟨h, hq⟩ => ⟨h.none_ hv.out, hq⟩
theorem cv_some (A : Option Addr) (n c : Nat) (l : List Int) (w : World) (v : Int) (k : Nat) (hr : Rd w A l) (hn : Hid (l.length = n)) (hn2 : n ≤ 9223372036854775807) (hv : Hid (rv l = some (v, k))) :
    Calls Tryd.prog 38 #[.slice A n c] w fun e w' => e = .returned (.tuple #[.int .u64 v, .int .i64 (k : Nat)]) ∧ ∃ q, w' = w.drewN q :=
  (cv A n c l w hr hn.out hn2).mono fun _ _ ⟨h, hq⟩ => ⟨h.some_ hv.out, hq⟩

end Go.Proofs.YtdjdcpcomhjnjaaDoor

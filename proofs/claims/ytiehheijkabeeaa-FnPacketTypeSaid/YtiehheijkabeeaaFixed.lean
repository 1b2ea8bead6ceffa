/- Contracts of quicwire's numbers of four and eight bytes, and the walk of FnFixed. Conditions: none. -/
import Derived.Test.YtiehheijkabeeaaBase
import Derived.Test.YtiehheijkabeeaaBits
import Derived.Deep.RegionWith
namespace Go.Proofs.Ytiehheijkabeeaa
open Go.RowKit
set_option linter.unusedVariables false

theorem or4_32 (x y z u : Int) (hx : 0 ≤ x ∧ x ≤ 255) (hy : 0 ≤ y ∧ y ≤ 255) (hz : 0 ≤ z ∧ z ≤ 255) (hu : 0 ≤ u ∧ u ≤ 255) :
    bits .or .u32 (bits .or .u32 (bits .or .u32 (x * 16777216) (y * 65536)) (z * 256)) u = ((x * 256 + y) * 256 + z) * 256 + u := by
  rw [or_u32 24 (x * 16777216) (y * 65536) (by omega) (by omega) (by omega) (by omega) (by omega) (by omega),
    or_u32 16 _ (z * 256) (by omega) (by omega) (by omega) (by omega) (by omega) (by omega),
    or_u32 8 _ u (by omega) (by omega) (by omega) (by omega) (by omega) (by omega)]
  omega

set_option maxHeartbeats 1000000 in
theorem be32_at (b o n c : Nat) (x y z u : Int) (w : World) (hn : 4 ≤ n) (hn2 : n ≤ 9223372036854775807) (hx : 0 ≤ x ∧ x ≤ 255) (hy : 0 ≤ y ∧ y ≤ 255) (hz : 0 ≤ z ∧ z ≤ 255) (hu : 0 ≤ u ∧ u ≤ 255)
    (c0 : w.cell? ⟨b, o, none⟩ = some (.int .u8 x)) (c1 : w.cell? ⟨b, o + 1, none⟩ = some (.int .u8 y)) (c2 : w.cell? ⟨b, o + 2, none⟩ = some (.int .u8 z)) (c3 : w.cell? ⟨b, o + 3, none⟩ = some (.int .u8 u)) :
    Calls Try.prog 57 #[.slice (some ⟨b, o, none⟩) n c] w fun e w' => e = .returned (.int .u32 (((x * 256 + y) * 256 + z) * 256 + u)) ∧ ∃ q, w' = w.drewN q := by
  have p0 : (0 : Int) < (n : Int) := by omega
  have p1 : (1 : Int) < (n : Int) := by omega
  have p2 : (2 : Int) < (n : Int) := by omega
  have p3 : (3 : Int) < (n : Int) := by omega
  go_enter Try.func57, Try.ntmps57
  go_wp2_with fail
  go_quiet (fail)
  go_wp2
  go_ret
  exact ⟨ret1_eq (or4_32 x y z u hx hy hz hu), nq, rfl⟩

/-- beUint32 of bytes of which there are four. -/
theorem be32 (A : Option Addr) (n c : Nat) (l : List Int) (w : World) (hr : Rd w A l) (hn : l.length = n) (h4 : 4 ≤ n) (hn2 : n ≤ 9223372036854775807) :
    Calls Try.prog 57 #[.slice A n c] w fun e w' => e = .returned (.int .u32 (be 0 (l.take 4))) ∧ ∃ q, w' = w.drewN q := by
  obtain ⟨b, o, rfl, hc⟩ := hr.2 (by omega)
  have hb := hr.1
  have e : be 0 (l.take 4) = ((l.getD 0 0 * 256 + l.getD 1 0) * 256 + l.getD 2 0) * 256 + l.getD 3 0 := by
    match l, hn with
    | x :: y :: z :: u :: r, _ => simp [be]
    | [], hn => simp at hn; omega
    | [_], hn => simp at hn; omega
    | [_, _], hn => simp at hn; omega
    | [_, _, _], hn => simp at hn; omega
  rw [e]
  exact be32_at b o n c _ _ _ _ w h4 hn2 (hb.getD 0) (hb.getD 1) (hb.getD 2) (hb.getD 3) (by simpa using hc 0 (by omega)) (hc 1 (by omega)) (hc 2 (by omega)) (hc 3 (by omega))

theorem be_lt4 {l : List Int} (hb : Bs l) (n : Nat) (hn : l.length = n) (h : n ≤ 4) : 0 ≤ be 0 l ∧ be 0 l < 4294967296 := by
  have := be_bd l 0 1 hb (by omega) (by omega)
  refine ⟨this.1, Int.lt_of_lt_of_le this.2 ?_⟩
  rw [hn]
  match n, h with
  | 0, _ => decide
  | 1, _ => decide
  | 2, _ => decide
  | 3, _ => decide
  | 4, _ => decide

theorem be_scale : ∀ (l : List Int) (a : Int), be a l = a * 256 ^ l.length + be 0 l
  | [], a => by simp [be]
  | x :: l, a => by
    rw [be_cons, be_cons, be_scale l (a * 256 + x), be_scale l (0 * 256 + x), List.length_cons, Int.pow_succ, Int.zero_mul, Int.zero_add, Int.add_mul, Int.mul_assoc, Int.mul_comm 256 (256 ^ l.length), Int.add_assoc]

set_option maxHeartbeats 1000000 in
theorem be64 (b o n c : Nat) (l : List Int) (w : World) (hr : Rd w (some ⟨b, o, none⟩) l) (hn : Hid (l.length = n)) (h8 : 8 ≤ n) (hnc : n ≤ c) (hn2 : c ≤ 9223372036854775807) :
    Calls Try.prog 58 #[.slice (some ⟨b, o, none⟩) n c] w fun e w' => e = .returned (.int .u64 (be 0 (l.take 8))) ∧ ∃ q, w' = w.drewN q := by
  have hn' := hn.out
  obtain ⟨b', o', e, hc⟩ := hr.2 (by omega)
  have hb := hr.1
  obtain ⟨rfl, rfl⟩ : b = b' ∧ o = o' := by simpa using e
  have c7 : w.cell? ⟨b, o + 7, none⟩ = some (.int .u8 (l.getD 7 0)) := hc 7 (by omega)
  have hr2 : Rd w (some ⟨b, o + 4, none⟩) (l.drop 4) := by
    have := hr.cut_at (k := 4) (cap := c) (by omega)
    rwa [if_neg (by omega)] at this
  obtain ⟨X, hX⟩ : ∃ X, X = be 0 (l.take 4) := ⟨_, rfl⟩
  obtain ⟨Y, hY⟩ : ∃ Y, Y = be 0 ((l.drop 4).take 4) := ⟨_, rfl⟩
  have bX := be_lt4 (hb.take 4) 4 (by rw [List.length_take]; omega) (by omega)
  have bY := be_lt4 ((hb.drop 4).take 4) 4 (by rw [List.length_take, List.length_drop]; omega) (by omega)
  have hlen : ((l.drop 4).take 4).length = 4 := by rw [List.length_take, List.length_drop]; omega
  have hlen2 : (l.drop 4).length = n - 4 := by rw [List.length_drop]; omega
  have hfin : be 0 (l.take 8) = X * 4294967296 + Y := by
    have e1 : l.take 8 = l.take 4 ++ (l.drop 4).take 4 := (List.take_add (i := 4) (j := 4))
    rw [e1, be_append, be_scale ((l.drop 4).take 4), hlen, hX, hY]
    rfl
  rw [← hX] at bX
  rw [← hY] at bY
  have ho : bits .or .u64 (X * 4294967296) Y = X * 4294967296 + Y := or_u64 32 _ _ (by omega) (by omega) (by omega) (by omega) (by omega) (by omega)
  have K1 : ∀ q, Calls Try.prog 57 #[.slice (some ⟨b, o, none⟩) n c] (w.drewN q) fun e w' => e = .returned (.int .u32 X) ∧ ∃ m, w' = (w.drewN q).drewN m := fun q => by
    rw [hX]; exact be32 _ n c l _ (hr.drewN q) hn' (by omega) (by omega)
  have K2 : ∀ q, Calls Try.prog 57 #[.slice (some ⟨b, o + 4, none⟩) (n - 4) (c - 4)] (w.drewN q) fun e w' => e = .returned (.int .u32 Y) ∧ ∃ m, w' = (w.drewN q).drewN m := fun q => by
    rw [hY]; exact be32 _ (n - 4) (c - 4) (l.drop 4) _ (hr2.drewN q) hlen2 (by omega) (by omega)
  have H1 := Lib.hid K1
  have H2 := Lib.hid K2
  have HF := Lib.hid hfin
  have p7 : (7 : Int) < (n : Int) := by omega
  have p4 : (4 : Int) ≤ (n : Int) := by omega
  have pc : ¬ c = 4 := by omega
  clear K1 K2 hX hY hlen hlen2 hfin e hc hb hr hr2 hn' hn
  go_enter Try.func58, Try.ntmps58
  go_wp2_with fail
  go_quiet ((first | (go_at_call_of 57 (Value.slice (some ⟨b, o, none⟩) n c); exact Calls.quiet_of (H1.out _)) | (go_at_call 57; exact Calls.quiet_of (H2.out _))))
  go_wp2
  go_ret
  exact ⟨ret1_eq HF.out.symm, nq, rfl⟩

theorem be_pos {l : List Int} (hb : Bs l) (k : Nat) (hk : k ≤ l.length) : 0 ≤ be 0 (l.take k) ∧ be 0 (l.take k) < 256 ^ k := by
  have := be_bd (l.take k) 0 1 (hb.take k) (by omega) (by omega)
  rwa [List.length_take, Nat.min_eq_left hk, Int.one_mul] at this
theorem be_pos7 {l : List Int} (hb : Bs l) (k : Nat) (hk : k ≤ l.length) (h7 : k < 8) : 0 ≤ be 0 (l.take k) ∧ be 0 (l.take k) < 72057594037927936 := by
  have := be_pos hb k hk
  refine ⟨this.1, Int.lt_of_lt_of_le this.2 ?_⟩
  match k, h7 with
  | 0, _ => decide
  | 1, _ => decide
  | 2, _ => decide
  | 3, _ => decide
  | 4, _ => decide
  | 5, _ => decide
  | 6, _ => decide
  | 7, _ => decide
theorem be_next (l : List Int) (k : Nat) (hk : k < l.length) : be 0 (l.take (k + 1)) = be 0 (l.take k) * 256 + l.getD k 0 := by
  rw [List.take_succ_eq_append_getElem hk, be_append]
  simp [be, List.getD, List.getElem?_eq_getElem hk]

/-- The loop of FnFixed: the number that the first bytes are, at most eight. -/
def fx (l : List Int) (k : Nat) : Int := be 0 (l.take (min k 8))

theorem fx_0 (l : List Int) : fx l 0 = 0 := by simp [fx, be]
theorem fx_next {l : List Int} {k : Nat} (hk : k < l.length) (h8 : k < 8) : fx l (k + 1) = fx l k * 256 + l.getD k 0 := by
  unfold fx
  rw [Nat.min_eq_left (by omega : k + 1 ≤ 8), Nat.min_eq_left (by omega : k ≤ 8), be_next l k hk]
theorem fx_stay {l : List Int} {k : Nat} (h8 : 8 ≤ k) : fx l (k + 1) = fx l k := by
  unfold fx
  rw [Nat.min_eq_right (by omega : 8 ≤ k + 1), Nat.min_eq_right (by omega : 8 ≤ k)]
theorem fx_bd {l : List Int} (hb : Bs l) {k : Nat} (hk : k < l.length) (h8 : k < 8) : 0 ≤ fx l k ∧ fx l k < 72057594037927936 := by
  unfold fx
  rw [Nat.min_eq_left (by omega : k ≤ 8)]
  exact be_pos7 hb k (by omega) h8

set_option maxHeartbeats 1000000 in
theorem fixed_nil (A : Option Addr) (c : Nat) (w : World) :
    Calls Try.prog 4 #[.slice A 0 c] w fun e w' => e = .returned (.bool true) ∧ Below w.heap.size w w' := by
  go_enter Try.func4, Try.ntmps4
  go_wp2
  refine wp_loop_rounds 1 ?_
  rw [rounds_succ]
  go_wp2
  go_ret
  exact ⟨rfl, Below.refl _ _⟩

theorem fixed_big (A : Option Addr) (n c : Nat) (w : World) (hn : 2147483647 < n) (hn2 : n ≤ 9223372036854775807) :
    Calls Try.prog 4 #[.slice A n c] w fun e w' => e = .returned (.bool true) ∧ Below w.heap.size w w' := by
  go_enter Try.func4, Try.ntmps4
  go_wp2
  go_ret
  exact ⟨rfl, Below.refl _ _⟩

set_option maxHeartbeats 4000000 in
theorem fixed_1 (b o n c : Nat) (l : List Int) (w : World) (hr : Rd w (some ⟨b, o, none⟩) l) (hn : Hid (l.length = n)) (h1 : 1 ≤ n) (h4 : n < 4) (hnc : n ≤ c) (hbig : n ≤ 2147483647) (hc2 : c ≤ 9223372036854775807)
    (hc : Hid (∀ i, i < l.length → w.cell? ⟨b, o + i, none⟩ = some (.int .u8 (l.getD i 0)))) :
    Calls Try.prog 4 #[.slice (some ⟨b, o, none⟩) n c] w fun e w' => e = .returned (.bool true) ∧ Below w.heap.size w w' := by
  have hb := hr.1
  have hn' := hn.out

  go_enter Try.func4, Try.ntmps4
  go_wp2
  go_loop [7, 25] (fun v i => ∃ (k : Nat) (V : Int), k ≤ n ∧ i = .int .i64 k ∧ v = .int .u64 V ∧ V = fx l k) (fun _ i => n - (intOf i).toNat)
  case atStart => exact ⟨0, 0, by omega, rfl, rfl, (fx_0 l).symm⟩
  case round =>
    obtain ⟨k, V, hk, rfl, rfl, hv⟩ := hrel
    by_cases hlt : k < n
    · have hck := hc.out k (by omega)
      have hy := hb.getD k
      obtain ⟨y, hye⟩ : ∃ y, y = l.getD k 0 := ⟨_, rfl⟩
      rw [← hye] at hck hy
      by_cases h8 : k < 8
      · have hbd := fx_bd hb (k := k) (by omega) h8
        have hs := fx_next (l := l) (k := k) (by omega) h8
        rw [← hv] at hbd hs
        rw [← hye] at hs
        have ho : bits .or .u64 (V * 256) y = V * 256 + y := or_u64 8 _ _ (by omega) hy.1 (by omega) (by omega) (by omega) (by omega)
        have h4 : ((k : Int) == 4) = false := by simp; omega
        have HS := Lib.hid hs
        clear hs hv hye
        go_wp2
        all_goals
          go_round
          case rel => exact ⟨k + 1, V * 256 + y, by omega, by go_num, rfl, HS.out.symm⟩
          case measure => simp [intOf]; omega
      · omega
    · obtain rfl : k = n := by omega
      have h4' : ((k : Int) == 4) = false := by simp; omega
      clear hv
      go_wp2
      go_ret
      exact ⟨rfl, Below.refl _ _⟩

set_option maxHeartbeats 4000000 in
theorem fixed_4 (b o n c : Nat) (l : List Int) (w : World) (hr : Rd w (some ⟨b, o, none⟩) l) (hn : Hid (l.length = n)) (h1 : 4 ≤ n) (h4 : n < 8) (hnc : n ≤ c) (hbig : n ≤ 2147483647) (hc2 : c ≤ 9223372036854775807)
    (hc : Hid (∀ i, i < l.length → w.cell? ⟨b, o + i, none⟩ = some (.int .u8 (l.getD i 0)))) :
    Calls Try.prog 4 #[.slice (some ⟨b, o, none⟩) n c] w fun e w' => e = .returned (.bool true) ∧ Below w.heap.size w w' := by
  have hb := hr.1
  have hn' := hn.out
  obtain ⟨X, hX⟩ : ∃ X, X = be 0 (l.take 4) := ⟨_, rfl⟩
  have bX := be_lt4 (hb.take 4) 4 (by rw [List.length_take]; omega) (by omega)
  rw [← hX] at bX
  have HX := Lib.hid hX
  clear hX
  go_enter Try.func4, Try.ntmps4
  go_wp2_with (first
    | (go_at_call 57; refine (be32 _ _ _ l _ (by exact hr) hn.out (by omega) (by omega)).mono ?_; rw [← HX.out]; rintro e w' ⟨rfl, q, rfl⟩)
    | go_in)
  go_loop [7, 25] (fun v i => ∃ (k : Nat) (V : Int), k ≤ n ∧ i = .int .i64 k ∧ v = .int .u64 V ∧ V = fx l k) (fun _ i => n - (intOf i).toNat)
  case atStart => exact ⟨0, 0, by omega, rfl, rfl, (fx_0 l).symm⟩
  case round =>
    obtain ⟨k, V, hk, rfl, rfl, hv⟩ := hrel
    by_cases hlt : k < n
    · have hck := hc.out k (by omega)
      have hy := hb.getD k
      obtain ⟨y, hye⟩ : ∃ y, y = l.getD k 0 := ⟨_, rfl⟩
      rw [← hye] at hck hy
      by_cases h8 : k < 8
      · have hbd := fx_bd hb (k := k) (by omega) h8
        have hs := fx_next (l := l) (k := k) (by omega) h8
        rw [← hv] at hbd hs
        rw [← hye] at hs
        have ho : bits .or .u64 (V * 256) y = V * 256 + y := or_u64 8 _ _ (by omega) hy.1 (by omega) (by omega) (by omega) (by omega)
        have hX4 : k = 4 → (X != V) = false := fun h => by subst h; rw [HX.out, hv]; simp [fx]
        by_cases e4 : k = 4
        · have hXV := hX4 e4
          have e4' : ((k : Int) == 4) = true := by simp; omega
          clear hX4
          have HS := Lib.hid hs
          clear hs hv hye e4
          go_wp2
          go_round
          case rel => exact ⟨k + 1, V * 256 + y, by omega, by go_num, rfl, HS.out.symm⟩
          case measure => simp [intOf]; omega
        have e4' : ((k : Int) == 4) = false := by simp; omega
        clear hX4
        have HS := Lib.hid hs
        clear hs hv hye
        go_wp2
        all_goals
          go_round
          case rel => exact ⟨k + 1, V * 256 + y, by omega, by go_num, rfl, HS.out.symm⟩
          case measure => simp [intOf]; omega
      · omega
    · obtain rfl : k = n := by omega
      have hXV : k = 4 → (X != V) = false := fun h => by subst h; rw [HX.out, hv]; simp [fx]
      clear hv
      by_cases e4 : k = 4
      · have hXV' := hXV e4
        have e4' : ((k : Int) == 4) = true := by simp; omega
        clear hXV e4
        go_wp2
        go_ret
        exact ⟨rfl, below_drewN (Below.refl _ _) _⟩
      · have e4' : ((k : Int) == 4) = false := by simp; omega
        clear hXV e4
        go_wp2
        go_ret
        exact ⟨rfl, below_drewN (Below.refl _ _) _⟩

set_option maxHeartbeats 4000000 in
theorem fixed_8 (b o n c : Nat) (l : List Int) (w : World) (hr : Rd w (some ⟨b, o, none⟩) l) (hn : Hid (l.length = n)) (h8 : 8 ≤ n) (hnc : n ≤ c) (hbig : n ≤ 2147483647) (hc2 : c ≤ 9223372036854775807)
    (hc : Hid (∀ i, i < l.length → w.cell? ⟨b, o + i, none⟩ = some (.int .u8 (l.getD i 0)))) :
    Calls Try.prog 4 #[.slice (some ⟨b, o, none⟩) n c] w fun e w' => e = .returned (.bool true) ∧ Below w.heap.size w w' := by
  have hb := hr.1
  have hn' := hn.out
  obtain ⟨X, hX⟩ : ∃ X, X = be 0 (l.take 4) := ⟨_, rfl⟩
  have bX := be_lt4 (hb.take 4) 4 (by rw [List.length_take]; omega) (by omega)
  rw [← hX] at bX
  have HX := Lib.hid hX
  clear hX
  obtain ⟨Y, hY⟩ : ∃ Y, Y = be 0 (l.take 8) := ⟨_, rfl⟩
  have HY := Lib.hid hY
  clear hY
  go_enter Try.func4, Try.ntmps4
  go_wp2_with (first
    | (go_at_call 57; refine (be32 _ _ _ l _ (by exact hr) hn.out (by omega) (by omega)).mono ?_; rw [← HX.out]; rintro e w' ⟨rfl, q, rfl⟩)
    | (go_at_call 58; refine (be64 _ _ _ _ l _ (by exact hr) hn (by omega) hnc hc2).mono ?_; rw [← HY.out]; rintro e w' ⟨rfl, q, rfl⟩)
    | go_in)
  go_loop [7, 25] (fun v i => ∃ (k : Nat) (V : Int), k ≤ n ∧ i = .int .i64 k ∧ v = .int .u64 V ∧ V = fx l k) (fun _ i => n - (intOf i).toNat)
  case atStart => exact ⟨0, 0, by omega, rfl, rfl, (fx_0 l).symm⟩
  case round =>
    obtain ⟨k, V, hk, rfl, rfl, hv⟩ := hrel
    by_cases hlt : k < n
    · have hck := hc.out k (by omega)
      have hy := hb.getD k
      obtain ⟨y, hye⟩ : ∃ y, y = l.getD k 0 := ⟨_, rfl⟩
      rw [← hye] at hck hy
      by_cases h8 : k < 8
      · have hbd := fx_bd hb (k := k) (by omega) h8
        have hs := fx_next (l := l) (k := k) (by omega) h8
        rw [← hv] at hbd hs
        rw [← hye] at hs
        have ho : bits .or .u64 (V * 256) y = V * 256 + y := or_u64 8 _ _ (by omega) hy.1 (by omega) (by omega) (by omega) (by omega)
        have hX4 : k = 4 → (X != V) = false := fun h => by subst h; rw [HX.out, hv]; simp [fx]
        by_cases e4 : k = 4
        · have hXV := hX4 e4
          have e4' : ((k : Int) == 4) = true := by simp; omega
          clear hX4
          have HS := Lib.hid hs
          clear hs hv hye e4
          go_wp2
          go_round
          case rel => exact ⟨k + 1, V * 256 + y, by omega, by go_num, rfl, HS.out.symm⟩
          case measure => simp [intOf]; omega
        have e4' : ((k : Int) == 4) = false := by simp; omega
        clear hX4
        have HS := Lib.hid hs
        clear hs hv hye
        go_wp2
        all_goals
          go_round
          case rel => exact ⟨k + 1, V * 256 + y, by omega, by go_num, rfl, HS.out.symm⟩
          case measure => simp [intOf]; omega
      · have hs := fx_stay (l := l) (k := k) (by omega)
        rw [← hv] at hs
        have HS := Lib.hid hs
        clear hs hv hye
        have h4 : ((k : Int) == 4) = false := by simp; omega
        go_wp2
        go_round
        case rel => exact ⟨k + 1, V, by omega, by go_num, rfl, HS.out.symm⟩
        case measure => simp [intOf]; omega
    · obtain rfl : k = n := by omega
      have hYV : (Y == V) = true := by rw [HY.out, hv]; simp [fx, Nat.min_eq_right h8]
      have e4' : ((k : Int) == 4) = false := by simp; omega
      clear hv
      go_wp2
      go_ret
      exact ⟨rfl, below_drewN (Below.refl _ _) _⟩

theorem fnFixed_walk (A : Option Addr) (l : List Int) (c : Nat) (w : World) (h : ByteArg w A l c) :
    Calls Try.prog 4 #[.slice A l.length c] w fun e w' => e = .returned (.bool true) ∧ Below w.heap.size w w' := by
  have hr := h.rd
  have hle := h.le
  have hmax := h.max
  unfold maxLen at hmax
  by_cases hbig : 2147483647 < l.length
  · exact fixed_big A _ c w hbig (by omega)
  by_cases h0 : l.length = 0
  · rw [h0]; exact fixed_nil A c w
  obtain ⟨b, o, rfl, hc⟩ := hr.2 (by omega)
  by_cases h4 : l.length < 4
  · exact fixed_1 b o _ c l w hr rfl (by omega) h4 hle (by omega) (by omega) hc
  by_cases h8 : l.length < 8
  · exact fixed_4 b o _ c l w hr rfl (by omega) h8 hle (by omega) (by omega) hc
  · exact fixed_8 b o _ c l w hr rfl (by omega) hle (by omega) (by omega) hc

end Go.Proofs.Ytiehheijkabeeaa

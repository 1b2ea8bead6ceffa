/- Contract of spec.ReadVarint: the variable-length integer at the beginning of bytes. Conditions: the slice reads as bytes. -/
import Derived.Test.YtdjdcpcomhjnjaaDoorVarint
namespace Go.Proofs.YtdjdcpcomhjnjaaDoor
open Go.RowKit
set_option linter.unusedVariables false

theorem be_take_bd {x : Int} {r : List Int} (hr : Bs r) (k : Nat) (hk : k ≤ r.length) : 0 ≤ be (x % 64) (r.take k) ∧ be (x % 64) (r.take k) < 64 * 256 ^ k := by
  have := be_bd (r.take k) (x % 64) 64 (hr.take k) (by omega) (by omega)
  rwa [List.length_take, Nat.min_eq_left hk] at this
theorem be_take_succ (a : Int) (r : List Int) (k : Nat) (hk : k < r.length) : be a (r.take (k + 1)) = be a (r.take k) * 256 + r.getD k 0 := by
  rw [List.take_succ_eq_append_getElem hk, be_append]
  simp [be, List.getD, List.getElem?_eq_getElem hk]
theorem be_small {x : Int} {r : List Int} (hr : Bs r) (k : Nat) (hk : k ≤ r.length) (h6 : k ≤ 6) : 0 ≤ be (x % 64) (r.take k) ∧ be (x % 64) (r.take k) < 18014398509481984 := by
  have := be_take_bd (x := x) hr k hk
  refine ⟨this.1, Int.lt_of_lt_of_le this.2 ?_⟩
  match k, h6 with
  | 0, _ => decide
  | 1, _ => decide
  | 2, _ => decide
  | 3, _ => decide
  | 4, _ => decide
  | 5, _ => decide
  | 6, _ => decide

set_option maxHeartbeats 1000000 in
theorem srv_nil (A : Option Addr) (c : Nat) (w : World) :
    Calls Tryd.prog 28 #[.slice A 0 c] w fun e w' => e = .returned (.tuple #[.int .u64 0, .int .i64 (-1)]) ∧ w = w' := by
  go_enter Tryd.func28, Tryd.ntmps28
  go_wp2
  go_ret2
  exact ⟨rfl, rfl⟩

set_option maxHeartbeats 1000000 in
theorem srv_0 (b o n c : Nat) (x : Int) (r : List Int) (w : World) (hn : 1 ≤ n) (hnc : n ≤ c) (hn2 : n ≤ 9223372036854775807) (hc2 : c ≤ 9223372036854775807) (h0 : 0 ≤ x) (e : x / 64 = 0) (hr : Bs r) (hl : 0 ≤ r.length) (c0 : w.cell? ⟨b, o, none⟩ = some (.int .u8 x))
    (hc : ∀ k, k < r.length → w.cell? ⟨b, o + 1 + k, none⟩ = some (.int .u8 (r.getD k 0))) :
    Calls Tryd.prog 28 #[.slice (some ⟨b, o, none⟩) n c] w fun e w' => e = .returned (.tuple #[.int .u64 (be (x % 64) (r.take 0)), .int .i64 1]) ∧ w = w' := by
  have hx : x ≤ 255 := by omega
  have hm : bits .and .u8 x 63 = x % 64 := mask_u8 6 (by decide) x h0 hx
  have hz : ((n : Int) == 0) = false := by simp; omega
  have hlt : decide ((n : Int) < 1) = false := by simp; omega
  go_enter Tryd.func28, Tryd.ntmps28
  go_wp2
  all_goals
    refine wp_loop_rounds 1 ?_
    rw [rounds_succ]
    go_wp2
    go_ret2
    exact ⟨rfl, rfl⟩

set_option maxHeartbeats 1000000 in
theorem srv_short_1 (b o n c : Nat) (x : Int) (w : World) (hn : 1 ≤ n) (hn2 : n ≤ 9223372036854775807) (h0 : 0 ≤ x) (e : x / 64 = 1) (hs : n < 2) (c0 : w.cell? ⟨b, o, none⟩ = some (.int .u8 x)) :
    Calls Tryd.prog 28 #[.slice (some ⟨b, o, none⟩) n c] w fun e w' => e = .returned (.tuple #[.int .u64 0, .int .i64 (-1)]) ∧ w = w' := by
  go_enter Tryd.func28, Tryd.ntmps28
  go_wp2
  go_ret2
  exact ⟨rfl, rfl⟩

set_option maxHeartbeats 1000000 in
theorem srv_1 (b o n c : Nat) (x : Int) (r : List Int) (w : World) (hn : 2 ≤ n) (hnc : n ≤ c) (hn2 : n ≤ 9223372036854775807) (hc2 : c ≤ 9223372036854775807) (h0 : 0 ≤ x) (e : x / 64 = 1) (hr : Bs r) (hl : 1 ≤ r.length) (c0 : w.cell? ⟨b, o, none⟩ = some (.int .u8 x))
    (hc : ∀ k, k < r.length → w.cell? ⟨b, o + 1 + k, none⟩ = some (.int .u8 (r.getD k 0))) :
    Calls Tryd.prog 28 #[.slice (some ⟨b, o, none⟩) n c] w fun e w' => e = .returned (.tuple #[.int .u64 (be (x % 64) (r.take 1)), .int .i64 2]) ∧ w = w' := by
  have hx : x ≤ 255 := by omega
  have hm : bits .and .u8 x 63 = x % 64 := mask_u8 6 (by decide) x h0 hx
  have hz : ((n : Int) == 0) = false := by simp; omega
  have hlt : decide ((n : Int) < 2) = false := by simp; omega
  go_enter Tryd.func28, Tryd.ntmps28
  go_wp2
  go_loop [5, 35] (fun v i => ∃ (k : Nat) (V : Int), k ≤ 1 ∧ i = .int .i64 k ∧ v = .int .u64 V ∧ V = be (x % 64) (r.take k)) (fun _ i => 1 - (intOf i).toNat)
  case atStart => exact ⟨0, x % 64, by omega, rfl, rfl, rfl⟩
  case round =>
    obtain ⟨k, V, hk, rfl, rfl, hv⟩ := hrel
    by_cases hlt : k < 1
    · have hb := be_small (x := x) hr k (by omega) (by omega)
      rw [← hv] at hb
      have hs := be_take_succ (x % 64) r k (by omega)
      rw [← hv] at hs
      have hck := hc k (by omega)
      have hy := hr.getD k
      obtain ⟨y, hye⟩ : ∃ y, y = r.getD k 0 := ⟨_, rfl⟩
      rw [← hye] at hck hy hs
      have ho : bits .or .u64 (V * 256) y = V * 256 + y := or_u64 8 _ _ (by omega) hy.1 (by omega) (by omega) (by omega) (by omega)
      have HS := Lib.hid hs
      clear hs hv hye hc
      go_wp2
      go_round
      case rel => exact ⟨k + 1, V * 256 + y, by omega, by go_num, rfl, HS.out.symm⟩
      case measure => simp [intOf]; omega
    · obtain rfl : k = 1 := by omega
      have HV := Lib.hid hv
      clear hv
      go_wp2
      go_ret2
      exact ⟨ret2_eq HV.out, rfl⟩

set_option maxHeartbeats 1000000 in
theorem srv_short_2 (b o n c : Nat) (x : Int) (w : World) (hn : 1 ≤ n) (hn2 : n ≤ 9223372036854775807) (h0 : 0 ≤ x) (e : x / 64 = 2) (hs : n < 4) (c0 : w.cell? ⟨b, o, none⟩ = some (.int .u8 x)) :
    Calls Tryd.prog 28 #[.slice (some ⟨b, o, none⟩) n c] w fun e w' => e = .returned (.tuple #[.int .u64 0, .int .i64 (-1)]) ∧ w = w' := by
  go_enter Tryd.func28, Tryd.ntmps28
  go_wp2
  go_ret2
  exact ⟨rfl, rfl⟩

set_option maxHeartbeats 1000000 in
theorem srv_2 (b o n c : Nat) (x : Int) (r : List Int) (w : World) (hn : 4 ≤ n) (hnc : n ≤ c) (hn2 : n ≤ 9223372036854775807) (hc2 : c ≤ 9223372036854775807) (h0 : 0 ≤ x) (e : x / 64 = 2) (hr : Bs r) (hl : 3 ≤ r.length) (c0 : w.cell? ⟨b, o, none⟩ = some (.int .u8 x))
    (hc : ∀ k, k < r.length → w.cell? ⟨b, o + 1 + k, none⟩ = some (.int .u8 (r.getD k 0))) :
    Calls Tryd.prog 28 #[.slice (some ⟨b, o, none⟩) n c] w fun e w' => e = .returned (.tuple #[.int .u64 (be (x % 64) (r.take 3)), .int .i64 4]) ∧ w = w' := by
  have hx : x ≤ 255 := by omega
  have hm : bits .and .u8 x 63 = x % 64 := mask_u8 6 (by decide) x h0 hx
  have hz : ((n : Int) == 0) = false := by simp; omega
  have hlt : decide ((n : Int) < 4) = false := by simp; omega
  go_enter Tryd.func28, Tryd.ntmps28
  go_wp2
  go_loop [5, 35] (fun v i => ∃ (k : Nat) (V : Int), k ≤ 3 ∧ i = .int .i64 k ∧ v = .int .u64 V ∧ V = be (x % 64) (r.take k)) (fun _ i => 3 - (intOf i).toNat)
  case atStart => exact ⟨0, x % 64, by omega, rfl, rfl, rfl⟩
  case round =>
    obtain ⟨k, V, hk, rfl, rfl, hv⟩ := hrel
    by_cases hlt : k < 3
    · have hb := be_small (x := x) hr k (by omega) (by omega)
      rw [← hv] at hb
      have hs := be_take_succ (x % 64) r k (by omega)
      rw [← hv] at hs
      have hck := hc k (by omega)
      have hy := hr.getD k
      obtain ⟨y, hye⟩ : ∃ y, y = r.getD k 0 := ⟨_, rfl⟩
      rw [← hye] at hck hy hs
      have ho : bits .or .u64 (V * 256) y = V * 256 + y := or_u64 8 _ _ (by omega) hy.1 (by omega) (by omega) (by omega) (by omega)
      have HS := Lib.hid hs
      clear hs hv hye hc
      go_wp2
      go_round
      case rel => exact ⟨k + 1, V * 256 + y, by omega, by go_num, rfl, HS.out.symm⟩
      case measure => simp [intOf]; omega
    · obtain rfl : k = 3 := by omega
      have HV := Lib.hid hv
      clear hv
      go_wp2
      go_ret2
      exact ⟨ret2_eq HV.out, rfl⟩

set_option maxHeartbeats 1000000 in
theorem srv_short_3 (b o n c : Nat) (x : Int) (w : World) (hn : 1 ≤ n) (hn2 : n ≤ 9223372036854775807) (h0 : 0 ≤ x) (e : x / 64 = 3) (hs : n < 8) (c0 : w.cell? ⟨b, o, none⟩ = some (.int .u8 x)) :
    Calls Tryd.prog 28 #[.slice (some ⟨b, o, none⟩) n c] w fun e w' => e = .returned (.tuple #[.int .u64 0, .int .i64 (-1)]) ∧ w = w' := by
  go_enter Tryd.func28, Tryd.ntmps28
  go_wp2
  go_ret2
  exact ⟨rfl, rfl⟩

set_option maxHeartbeats 1000000 in
theorem srv_3 (b o n c : Nat) (x : Int) (r : List Int) (w : World) (hn : 8 ≤ n) (hnc : n ≤ c) (hn2 : n ≤ 9223372036854775807) (hc2 : c ≤ 9223372036854775807) (h0 : 0 ≤ x) (e : x / 64 = 3) (hr : Bs r) (hl : 7 ≤ r.length) (c0 : w.cell? ⟨b, o, none⟩ = some (.int .u8 x))
    (hc : ∀ k, k < r.length → w.cell? ⟨b, o + 1 + k, none⟩ = some (.int .u8 (r.getD k 0))) :
    Calls Tryd.prog 28 #[.slice (some ⟨b, o, none⟩) n c] w fun e w' => e = .returned (.tuple #[.int .u64 (be (x % 64) (r.take 7)), .int .i64 8]) ∧ w = w' := by
  have hx : x ≤ 255 := by omega
  have hm : bits .and .u8 x 63 = x % 64 := mask_u8 6 (by decide) x h0 hx
  have hz : ((n : Int) == 0) = false := by simp; omega
  have hlt : decide ((n : Int) < 8) = false := by simp; omega
  go_enter Tryd.func28, Tryd.ntmps28
  go_wp2
  go_loop [5, 35] (fun v i => ∃ (k : Nat) (V : Int), k ≤ 7 ∧ i = .int .i64 k ∧ v = .int .u64 V ∧ V = be (x % 64) (r.take k)) (fun _ i => 7 - (intOf i).toNat)
  case atStart => exact ⟨0, x % 64, by omega, rfl, rfl, rfl⟩
  case round =>
    obtain ⟨k, V, hk, rfl, rfl, hv⟩ := hrel
    by_cases hlt : k < 7
    · have hb := be_small (x := x) hr k (by omega) (by omega)
      rw [← hv] at hb
      have hs := be_take_succ (x % 64) r k (by omega)
      rw [← hv] at hs
      have hck := hc k (by omega)
      have hy := hr.getD k
      obtain ⟨y, hye⟩ : ∃ y, y = r.getD k 0 := ⟨_, rfl⟩
      rw [← hye] at hck hy hs
      have ho : bits .or .u64 (V * 256) y = V * 256 + y := or_u64 8 _ _ (by omega) hy.1 (by omega) (by omega) (by omega) (by omega)
      have HS := Lib.hid hs
      clear hs hv hye hc
      go_wp2
      go_round
      case rel => exact ⟨k + 1, V * 256 + y, by omega, by go_num, rfl, HS.out.symm⟩
      case measure => simp [intOf]; omega
    · obtain rfl : k = 7 := by omega
      have HV := Lib.hid hv
      clear hv
      go_wp2
      go_ret2
      exact ⟨ret2_eq HV.out, rfl⟩

theorem szOf_div {x : Int} (h0 : 0 ≤ x) (h1 : x ≤ 255) : x / 64 = 0 ∧ szOf x = 1 ∨ x / 64 = 1 ∧ szOf x = 2 ∨ x / 64 = 2 ∧ szOf x = 4 ∨ x / 64 = 3 ∧ szOf x = 8 := by
  unfold szOf
  by_cases a : x < 64
  · rw [if_pos a]; omega
  by_cases b : x < 128
  · rw [if_neg a, if_pos b]; omega
  by_cases c : x < 192
  · rw [if_neg a, if_neg b, if_pos c]; omega
  · rw [if_neg a, if_neg b, if_neg c]; omega

/-- spec.ReadVarint, whatever the bytes. -/
theorem srv (A : Option Addr) (n c : Nat) (l : List Int) (w : World) (hr : Rd w A l) (hn : l.length = n) (hnc : n ≤ c) (hc2 : c ≤ 9223372036854775807) :
    Calls Tryd.prog 28 #[.slice A n c] w fun e w' => RvEnd .u64 l e ∧ w = w' := by
  cases l with
  | nil =>
    subst hn
    exact (srv_nil A c w).mono fun e w' ⟨he, hw⟩ => ⟨.inl ⟨rfl, he⟩, hw⟩
  | cons x r =>
    obtain ⟨b, o, rfl, hc⟩ := hr.2 (by simp)
    have hx := hr.1.head
    have c0 : w.cell? ⟨b, o, none⟩ = some (.int .u8 x) := by simpa using hc 0 (by simp)
    have hlen : r.length + 1 = n := by simpa using hn
    have hcr : ∀ k, k < r.length → w.cell? ⟨b, o + 1 + k, none⟩ = some (.int .u8 (r.getD k 0)) := fun k hk => by
      have := hc (k + 1) (by simpa using hk)
      rw [show o + 1 + k = o + (k + 1) by omega]
      simpa using this
    have hbr := hr.1.tail
    rcases szOf_div hx.1 hx.2 with ⟨e, hs⟩ | ⟨e, hs⟩ | ⟨e, hs⟩ | ⟨e, hs⟩
    · exact (srv_0 b o n c x r w (by omega) hnc (by omega) hc2 hx.1 e hbr (by omega) c0 hcr).mono fun _ _ ⟨he, hw⟩ => ⟨.inr ⟨_, 1, by rw [rv_cons, hs, if_neg (by omega)], he⟩, hw⟩
    · by_cases h : n < 2
      · exact (srv_short_1 b o n c x w (by omega) (by omega) hx.1 e h c0).mono fun _ _ ⟨he, hw⟩ => ⟨.inl ⟨rv_short (by omega), he⟩, hw⟩
      · exact (srv_1 b o n c x r w (by omega) hnc (by omega) hc2 hx.1 e hbr (by omega) c0 hcr).mono fun _ _ ⟨he, hw⟩ => ⟨.inr ⟨_, 2, by rw [rv_cons, hs, if_neg (by omega)], he⟩, hw⟩
    · by_cases h : n < 4
      · exact (srv_short_2 b o n c x w (by omega) (by omega) hx.1 e h c0).mono fun _ _ ⟨he, hw⟩ => ⟨.inl ⟨rv_short (by omega), he⟩, hw⟩
      · exact (srv_2 b o n c x r w (by omega) hnc (by omega) hc2 hx.1 e hbr (by omega) c0 hcr).mono fun _ _ ⟨he, hw⟩ => ⟨.inr ⟨_, 4, by rw [rv_cons, hs, if_neg (by omega)], he⟩, hw⟩
    · by_cases h : n < 8
      · exact (srv_short_3 b o n c x w (by omega) (by omega) hx.1 e h c0).mono fun _ _ ⟨he, hw⟩ => ⟨.inl ⟨rv_short (by omega), he⟩, hw⟩
      · exact (srv_3 b o n c x r w (by omega) hnc (by omega) hc2 hx.1 e hbr (by omega) c0 hcr).mono fun _ _ ⟨he, hw⟩ => ⟨.inr ⟨_, 8, by rw [rv_cons, hs, if_neg (by omega)], he⟩, hw⟩

theorem srv_none (A : Option Addr) (n c : Nat) (l : List Int) (w : World) (hr : Rd w A l) (hn : Hid (l.length = n)) (hnc : n ≤ c) (hc2 : c ≤ 9223372036854775807) (hv : Hid (rv l = none)) :
    Calls Tryd.prog 28 #[.slice A n c] w fun e w' => e = .returned (.tuple #[.int .u64 0, .int .i64 (-1)]) ∧ w = w' :=
  (srv A n c l w hr hn.out hnc hc2).mono fun _ _ ⟨h, hq⟩ => ⟨h.none_ hv.out, hq⟩
theorem srv_some (A : Option Addr) (n c : Nat) (l : List Int) (w : World) (v : Int) (k : Nat) (hr : Rd w A l) (hn : Hid (l.length = n)) (hnc : n ≤ c) (hc2 : c ≤ 9223372036854775807) (hv : Hid (rv l = some (v, k))) :
    Calls Tryd.prog 28 #[.slice A n c] w fun e w' => e = .returned (.tuple #[.int .u64 v, .int .i64 (k : Nat)]) ∧ w = w' :=
  (srv A n c l w hr hn.out hnc hc2).mono fun _ _ ⟨h, hq⟩ => ⟨h.some_ hv.out, hq⟩

end Go.Proofs.YtdjdcpcomhjnjaaDoor


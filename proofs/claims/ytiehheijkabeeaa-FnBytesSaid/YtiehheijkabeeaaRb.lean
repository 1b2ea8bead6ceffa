/- Contracts of impl.ReadBytesV and ReadBytes8, and the walk of FnReadBytes. Conditions: none. -/
import Derived.Test.YtiehheijkabeeaaBytes
import Derived.Test.YtiehheijkabeeaaSrv
import Derived.Test.YtiehheijkabeeaaEqual
namespace Go.Proofs.Ytiehheijkabeeaa
open Go.RowKit
set_option linter.unusedVariables false

/-- What a reader of bytes returns of a copy. -/
def CopyEnd (w : World) (bs : List Int) (t : Nat) (e : Ending) (w' : World) : Prop :=
  ∃ A c, e = .returned (.tuple #[.slice A (List.length bs) c, .int .i64 (t : Nat)]) ∧ Rd w' A bs ∧ bs.length ≤ c ∧ c ≤ 9223372036854775807 ∧ (A = none → c = 0) ∧ Below w.heap.size w w'

set_option maxHeartbeats 1000000 in
theorem rbV_none (A : Option Addr) (n c : Nat) (l : List Int) (w : World) (hr : Rd w A l) (hn : Hid (l.length = n)) (hnc : n ≤ c) (hc2 : c ≤ 9223372036854775807) (hv : Hid (rvb l = none)) :
    Calls Try.prog 29 #[.slice A n c] w fun e w' => e = .returned (.tuple #[.slice none 0 0, .int .i64 (-1)]) ∧ Below w.heap.size w w' := by
  go_enter Try.func29, Try.ntmps29
  go_wp2_with fail
  refine (cvb A n c l _ hr hn hnc hc2).mono ?_
  rintro e w' ⟨he, hq⟩
  obtain rfl := he.none_ hv.out
  obtain ⟨q, rfl⟩ := hq
  clear he
  go_wp2_with (at_builtin; refine wpList_app w.heap.size _ rfl (.const (.slice none 0 0)) (.tmp 11) rfl _ [] rfl (Own.nil_ _ _) none 0 0 [] rfl rfl (Rd.nil _ _) (fun _ => rfl) (by simp) (by first | exact Nat.le_refl _ | simp) ?_; intro s1 w1 ho1 hg1 ha1 hb1 hn1; have hs1 : s1 = .slice none 0 0 := hn1.2 ⟨rfl, rfl⟩; subst hs1)
  go_ret2
  exact ⟨rfl, (below_drewN (Below.refl _ _) _).trans hb1⟩

set_option maxHeartbeats 1000000 in
theorem rbV_some (A : Option Addr) (n c : Nat) (l : List Int) (w : World) (bs : List Int) (t m : Nat) (hr : Rd w A l) (hn : Hid (l.length = n)) (hnc : n ≤ c) (hc2 : c ≤ 9223372036854775807) (hv : Hid (rvb l = some (bs, t))) (hm : Hid (bs.length = m)) (hbig : m ≤ 140737488355328) :
    Calls Try.prog 29 #[.slice A n c] w fun e w' => ∃ A' c', e = .returned (.tuple #[.slice A' m c', .int .i64 (t : Nat)]) ∧ Rd w' A' bs ∧ m ≤ c' ∧ c' ≤ 9223372036854775807 ∧ (A' = none → c' = 0) ∧ Below w.heap.size w w' := by
  go_enter Try.func29, Try.ntmps29
  go_wp2_with fail
  refine (cvb A n c l _ hr hn hnc hc2).mono ?_
  rintro e w' ⟨he, hq⟩
  obtain ⟨A1, c1, rfl, hr1, hc1, hm1, hz1⟩ := he.some_ hv.out
  obtain ⟨q, rfl⟩ := hq
  clear he
  rw [hm.out] at hc1 ⊢
  have HZ := Lib.hid hz1
  clear hz1
  go_wp2_with (at_builtin; refine wpList_app w.heap.size _ rfl (.const (.slice none 0 0)) (.tmp 11) rfl _ [] rfl (Own.nil_ _ _) A1 m c1 bs rfl hm.out (by exact hr1) HZ.out (by simp; omega) (by first | exact Nat.le_refl _ | simp) ?_; intro s1 w1 ho1 hg1 ha1 hb1 hn1)
  go_ret2
  obtain ⟨A2, c2, e2, hr2, hc2', hm2, hz2⟩ := ho1.rd
  simp only [List.nil_append] at e2 hr2 hc2' hz2
  unfold maxLen at hm2
  rw [hm.out] at e2 hc2'
  exact ⟨A2, c2, by rw [← e2]; rfl, hr2, hc2', hm2, fun h => (hz2 h).2, (below_drewN (Below.refl _ _) _).trans hb1⟩

set_option maxHeartbeats 1000000 in
theorem rb8_none (A : Option Addr) (n c : Nat) (l : List Int) (w : World) (hr : Rd w A l) (hn : Hid (l.length = n)) (hnc : n ≤ c) (hc2 : c ≤ 9223372036854775807) (hv : Hid (r8b l = none)) :
    Calls Try.prog 30 #[.slice A n c] w fun e w' => e = .returned (.tuple #[.slice none 0 0, .int .i64 (-1)]) ∧ Below w.heap.size w w' := by
  go_enter Try.func30, Try.ntmps30
  go_wp2_with fail
  refine (c8b A n c l _ hr hn hnc hc2).mono ?_
  rintro e w' ⟨he, hq⟩
  obtain rfl := he.none_ hv.out
  subst hq
  clear he
  go_wp2_with (at_builtin; refine wpList_app w.heap.size _ rfl (.const (.slice none 0 0)) (.tmp 11) rfl _ [] rfl (Own.nil_ _ _) none 0 0 [] rfl rfl (Rd.nil _ _) (fun _ => rfl) (by simp) (by first | exact Nat.le_refl _ | simp) ?_; intro s1 w1 ho1 hg1 ha1 hb1 hn1; have hs1 : s1 = .slice none 0 0 := hn1.2 ⟨rfl, rfl⟩; subst hs1)
  go_ret2
  exact ⟨rfl, hb1⟩

set_option maxHeartbeats 1000000 in
theorem rb8_some (A : Option Addr) (n c : Nat) (l : List Int) (w : World) (bs : List Int) (t m : Nat) (hr : Rd w A l) (hn : Hid (l.length = n)) (hnc : n ≤ c) (hc2 : c ≤ 9223372036854775807) (hv : Hid (r8b l = some (bs, t))) (hm : Hid (bs.length = m)) (hbig : m ≤ 140737488355328) :
    Calls Try.prog 30 #[.slice A n c] w fun e w' => ∃ A' c', e = .returned (.tuple #[.slice A' m c', .int .i64 (t : Nat)]) ∧ Rd w' A' bs ∧ m ≤ c' ∧ c' ≤ 9223372036854775807 ∧ (A' = none → c' = 0) ∧ Below w.heap.size w w' := by
  go_enter Try.func30, Try.ntmps30
  go_wp2_with fail
  refine (c8b A n c l _ hr hn hnc hc2).mono ?_
  rintro e w' ⟨he, hq⟩
  obtain ⟨A1, c1, rfl, hr1, hc1, hm1, hz1⟩ := he.some_ hv.out
  subst hq
  clear he
  rw [hm.out] at hc1 ⊢
  have HZ := Lib.hid hz1
  clear hz1
  go_wp2_with (at_builtin; refine wpList_app w.heap.size _ rfl (.const (.slice none 0 0)) (.tmp 11) rfl _ [] rfl (Own.nil_ _ _) A1 m c1 bs rfl hm.out (by exact hr1) HZ.out (by simp; omega) (by first | exact Nat.le_refl _ | simp) ?_; intro s1 w1 ho1 hg1 ha1 hb1 hn1)
  go_ret2
  obtain ⟨A2, c2, e2, hr2, hc2', hm2, hz2⟩ := ho1.rd
  simp only [List.nil_append] at e2 hr2 hc2' hz2
  unfold maxLen at hm2
  rw [hm.out] at e2 hc2'
  exact ⟨A2, c2, by rw [← e2]; rfl, hr2, hc2', hm2, fun h => (hz2 h).2, hb1⟩

set_option maxHeartbeats 1000000 in
theorem rb_big (A : Option Addr) (n c : Nat) (w : World) (hn : 2147483647 < n) (hn2 : n ≤ 9223372036854775807) :
    Calls Try.prog 10 #[.slice A n c] w fun e w' => e = .returned (.bool true) ∧ Below w.heap.size w w' := by
  go_enter Try.func10, Try.ntmps10
  go_wp2
  go_ret
  exact ⟨rfl, Below.refl _ _⟩

set_option maxHeartbeats 1000000 in
theorem rb_nil (A : Option Addr) (c : Nat) (w : World) (hc2 : c ≤ 9223372036854775807) :
    Calls Try.prog 10 #[.slice A 0 c] w fun e w' => e = .returned (.bool true) ∧ Below w.heap.size w w' := by
  go_enter Try.func10, Try.ntmps10
  go_wp2_with fail
  refine (rbV_none A 0 c [] _ (Rd.nil _ _) rfl (by omega) hc2 rfl).mono ?_
  rintro e w1 ⟨rfl, hb1⟩
  go_wp2_with fail
  refine (srv_none A 0 c [] _ (Rd.nil _ _) rfl (by omega) hc2 rfl).mono ?_
  rintro e w2 ⟨rfl, rfl⟩
  go_wp2_with fail
  refine (rb8_none A 0 c [] _ (Rd.nil _ _) rfl (by omega) hc2 rfl).mono ?_
  rintro e w3 ⟨rfl, hb3⟩
  go_wp2
  go_ret
  exact ⟨rfl, hb1.trans (hb3.mono hb1.size)⟩

set_option maxHeartbeats 2000000 in
theorem rb_none_short (b o n c : Nat) (l : List Int) (w : World) (hr : Rd w (some ⟨b, o, none⟩) l) (hn : Hid (l.length = n)) (h1 : 1 ≤ n) (hnc : n ≤ c) (hbig : n ≤ 2147483647) (hc2 : c ≤ 9223372036854775807) (hv : Hid (rv l = none)) (x : Int) (hx : 0 ≤ x ∧ x ≤ 255) (c0 : w.cell? ⟨b, o, none⟩ = some (.int .u8 x)) (hs8 : ((n - 1 : Nat) : Int) < x) (h8 : Hid (r8b l = none)) :
    Calls Try.prog 10 #[.slice (some ⟨b, o, none⟩) n c] w fun e w' => e = .returned (.bool true) ∧ Below w.heap.size w w' := by
  have hbk : b < w.heap.size := World.block_lt_of_cell? _ _ c0
  have hz8 : ((n : Int) == 0) = false := by simp; omega
  have hz8' : (n == 0) = false := by simp; omega
  have hd8 : decide ((n : Int) < 1 + x) = true := by simp; omega
  go_enter Try.func10, Try.ntmps10
  go_wp2_with fail
  refine (rbV_none _ n c l _ hr hn hnc hc2 (rvb_none hv.out)).mono ?_
  rintro e w1 ⟨rfl, hb1⟩
  have hr1 := hr.below hb1
  go_wp2_with fail
  refine (srv_none _ n c l _ hr1 hn hnc hc2 hv).mono ?_
  rintro e w2 ⟨rfl, rfl⟩
  go_wp2_with fail
  refine (rb8_none _ n c l _ hr1 hn hnc hc2 h8).mono ?_
  rintro e w8 ⟨rfl, hb8⟩
  have c08 : w8.cell? ⟨b, o, none⟩ = some (.int .u8 x) := (hb8.cell (Nat.lt_of_lt_of_le hbk hb1.size)).trans ((hb1.cell hbk).trans c0)
  go_wp2
  go_ret
  exact ⟨rfl, hb1.trans (hb8.mono hb1.size)⟩

set_option maxHeartbeats 2000000 in
theorem rb_none_some (b o n c : Nat) (l : List Int) (w : World) (hr : Rd w (some ⟨b, o, none⟩) l) (hn : Hid (l.length = n)) (h1 : 1 ≤ n) (hnc : n ≤ c) (hbig : n ≤ 2147483647) (hc2 : c ≤ 9223372036854775807) (hv : Hid (rv l = none)) (x : Nat) (hx : x ≤ 255) (c0 : w.cell? ⟨b, o, none⟩ = some (.int .u8 (x : Nat))) (hs8 : x ≤ n - 1) (h8 : Hid (r8b l = some ((l.drop 1).take x, 1 + x))) :
    Calls Try.prog 10 #[.slice (some ⟨b, o, none⟩) n c] w fun e w' => e = .returned (.bool true) ∧ Below w.heap.size w w' := by
  have hbk : b < w.heap.size := World.block_lt_of_cell? _ _ c0
  have hz8 : ((n : Int) == 0) = false := by simp; omega
  have hz8' : (n == 0) = false := by simp; omega
  have hd8 : decide ((n : Int) < 1 + (x : Nat)) = false := by simp; omega
  have hd8' : decide (n < 1 + x) = false := by simp; omega
  have hl8 : Hid (((l.drop 1).take x).length = x) := by show _ = _; have := hn.out; rw [List.length_take, List.length_drop]; omega
  have hc8 := (hr.cut_at (k := 1) (cap := c) (by have := hn.out; omega)).take x
  obtain ⟨A1c, hA1c⟩ : ∃ A1c, (if c = 1 then some (⟨b, o, none⟩ : Addr) else some ⟨b, o + 1, none⟩) = A1c := ⟨_, rfl⟩
  rw [hA1c] at hc8
  go_enter Try.func10, Try.ntmps10
  go_wp2_with fail
  refine (rbV_none _ n c l _ hr hn hnc hc2 (rvb_none hv.out)).mono ?_
  rintro e w1 ⟨rfl, hb1⟩
  have hr1 := hr.below hb1
  go_wp2_with fail
  refine (srv_none _ n c l _ hr1 hn hnc hc2 hv).mono ?_
  rintro e w2 ⟨rfl, rfl⟩
  go_wp2_with fail
  refine (rb8_some _ n c l _ _ _ x hr1 hn hnc hc2 h8 hl8 (by omega)).mono ?_
  rintro e w8 ⟨A8, c8, rfl, hrx8, hcc8, hm8, -, hb8⟩
  have c08 : w8.cell? ⟨b, o, none⟩ = some (.int .u8 (x : Nat)) := (hb8.cell (Nat.lt_of_lt_of_le hbk hb1.size)).trans ((hb1.cell hbk).trans c0)
  have hc81 := (hc8.below hb1).below hb8
  go_wp2_with fail
  refine (beq A8 A1c _ _ _ _ ((l.drop 1).take x) _ hrx8 hc81 hl8 hl8).mono ?_
  rintro e w9 ⟨rfl, rfl⟩
  go_wp2
  go_ret
  exact ⟨rfl, hb1.trans (hb8.mono hb1.size)⟩

set_option maxHeartbeats 2000000 in
theorem rb_short_short (b o n c : Nat) (l : List Int) (w : World) (hr : Rd w (some ⟨b, o, none⟩) l) (hn : Hid (l.length = n)) (h1 : 1 ≤ n) (hnc : n ≤ c) (hbig : n ≤ 2147483647) (hc2 : c ≤ 9223372036854775807) (v : Int) (k : Nat) (hv : Hid (rv l = some (v, k))) (hs : ((n - k : Nat) : Int) < v) (x : Int) (hx : 0 ≤ x ∧ x ≤ 255) (c0 : w.cell? ⟨b, o, none⟩ = some (.int .u8 x)) (hs8 : ((n - 1 : Nat) : Int) < x) (h8 : Hid (r8b l = none)) :
    Calls Try.prog 10 #[.slice (some ⟨b, o, none⟩) n c] w fun e w' => e = .returned (.bool true) ∧ Below w.heap.size w w' := by
  have hbk : b < w.heap.size := World.block_lt_of_cell? _ _ c0
  have hb := rv_bd hr.1 hv.out
  have hkn : k ≤ n := by have := hn.out; omega
  have hrb : Hid (rvb l = none) := rvb_short hv.out (by rw [hn.out]; exact hs)
  have hz8 : ((n : Int) == 0) = false := by simp; omega
  have hz8' : (n == 0) = false := by simp; omega
  have hd8 : decide ((n : Int) < 1 + x) = true := by simp; omega
  go_enter Try.func10, Try.ntmps10
  go_wp2_with fail
  refine (rbV_none _ n c l _ hr hn hnc hc2 hrb).mono ?_
  rintro e w1 ⟨rfl, hb1⟩
  have hr1 := hr.below hb1
  go_wp2_with fail
  refine (srv_some _ n c l _ v k hr1 hn hnc hc2 hv).mono ?_
  rintro e w2 ⟨rfl, rfl⟩
  go_wp2_with fail
  refine (rb8_none _ n c l _ hr1 hn hnc hc2 h8).mono ?_
  rintro e w8 ⟨rfl, hb8⟩
  have c08 : w8.cell? ⟨b, o, none⟩ = some (.int .u8 x) := (hb8.cell (Nat.lt_of_lt_of_le hbk hb1.size)).trans ((hb1.cell hbk).trans c0)
  go_wp2
  go_ret
  exact ⟨rfl, hb1.trans (hb8.mono hb1.size)⟩

set_option maxHeartbeats 2000000 in
theorem rb_short_some (b o n c : Nat) (l : List Int) (w : World) (hr : Rd w (some ⟨b, o, none⟩) l) (hn : Hid (l.length = n)) (h1 : 1 ≤ n) (hnc : n ≤ c) (hbig : n ≤ 2147483647) (hc2 : c ≤ 9223372036854775807) (v : Int) (k : Nat) (hv : Hid (rv l = some (v, k))) (hs : ((n - k : Nat) : Int) < v) (x : Nat) (hx : x ≤ 255) (c0 : w.cell? ⟨b, o, none⟩ = some (.int .u8 (x : Nat))) (hs8 : x ≤ n - 1) (h8 : Hid (r8b l = some ((l.drop 1).take x, 1 + x))) :
    Calls Try.prog 10 #[.slice (some ⟨b, o, none⟩) n c] w fun e w' => e = .returned (.bool true) ∧ Below w.heap.size w w' := by
  have hbk : b < w.heap.size := World.block_lt_of_cell? _ _ c0
  have hb := rv_bd hr.1 hv.out
  have hkn : k ≤ n := by have := hn.out; omega
  have hrb : Hid (rvb l = none) := rvb_short hv.out (by rw [hn.out]; exact hs)
  have hz8 : ((n : Int) == 0) = false := by simp; omega
  have hz8' : (n == 0) = false := by simp; omega
  have hd8 : decide ((n : Int) < 1 + (x : Nat)) = false := by simp; omega
  have hd8' : decide (n < 1 + x) = false := by simp; omega
  have hl8 : Hid (((l.drop 1).take x).length = x) := by show _ = _; have := hn.out; rw [List.length_take, List.length_drop]; omega
  have hc8 := (hr.cut_at (k := 1) (cap := c) (by have := hn.out; omega)).take x
  obtain ⟨A1c, hA1c⟩ : ∃ A1c, (if c = 1 then some (⟨b, o, none⟩ : Addr) else some ⟨b, o + 1, none⟩) = A1c := ⟨_, rfl⟩
  rw [hA1c] at hc8
  go_enter Try.func10, Try.ntmps10
  go_wp2_with fail
  refine (rbV_none _ n c l _ hr hn hnc hc2 hrb).mono ?_
  rintro e w1 ⟨rfl, hb1⟩
  have hr1 := hr.below hb1
  go_wp2_with fail
  refine (srv_some _ n c l _ v k hr1 hn hnc hc2 hv).mono ?_
  rintro e w2 ⟨rfl, rfl⟩
  go_wp2_with fail
  refine (rb8_some _ n c l _ _ _ x hr1 hn hnc hc2 h8 hl8 (by omega)).mono ?_
  rintro e w8 ⟨A8, c8, rfl, hrx8, hcc8, hm8, -, hb8⟩
  have c08 : w8.cell? ⟨b, o, none⟩ = some (.int .u8 (x : Nat)) := (hb8.cell (Nat.lt_of_lt_of_le hbk hb1.size)).trans ((hb1.cell hbk).trans c0)
  have hc81 := (hc8.below hb1).below hb8
  go_wp2_with fail
  refine (beq A8 A1c _ _ _ _ ((l.drop 1).take x) _ hrx8 hc81 hl8 hl8).mono ?_
  rintro e w9 ⟨rfl, rfl⟩
  go_wp2
  go_ret
  exact ⟨rfl, hb1.trans (hb8.mono hb1.size)⟩

set_option maxHeartbeats 2000000 in
theorem rb_some_short (b o n c : Nat) (l : List Int) (w : World) (hr : Rd w (some ⟨b, o, none⟩) l) (hn : Hid (l.length = n)) (h1 : 1 ≤ n) (hnc : n ≤ c) (hbig : n ≤ 2147483647) (hc2 : c ≤ 9223372036854775807) (s k : Nat) (hv : Hid (rv l = some ((s : Int), k))) (hs : s ≤ n - k) (x : Int) (hx : 0 ≤ x ∧ x ≤ 255) (c0 : w.cell? ⟨b, o, none⟩ = some (.int .u8 x)) (hs8 : ((n - 1 : Nat) : Int) < x) (h8 : Hid (r8b l = none)) :
    Calls Try.prog 10 #[.slice (some ⟨b, o, none⟩) n c] w fun e w' => e = .returned (.bool true) ∧ Below w.heap.size w w' := by
  have hbk : b < w.heap.size := World.block_lt_of_cell? _ _ c0
  have hb := rv_bd hr.1 hv.out
  have hkn : k ≤ n := by have := hn.out; omega
  have hrb : Hid (rvb l = some ((l.drop k).take s, k + s)) := by show _ = _; rw [rvb_some hv.out (by have := hn.out; omega)]; simp
  have hlen : Hid (((l.drop k).take s).length = s) := by show _ = _; have := hn.out; rw [List.length_take, List.length_drop]; omega
  have hcut := (hr.cut_at (k := k) (cap := c) (by have := hn.out; omega)).take s
  obtain ⟨Akc, hAkc⟩ : ∃ Akc, (if c = k then some (⟨b, o, none⟩ : Addr) else some ⟨b, o + k, none⟩) = Akc := ⟨_, rfl⟩
  rw [hAkc] at hcut
  have hz8 : ((n : Int) == 0) = false := by simp; omega
  have hz8' : (n == 0) = false := by simp; omega
  have hd8 : decide ((n : Int) < 1 + x) = true := by simp; omega
  go_enter Try.func10, Try.ntmps10
  go_wp2_with fail
  refine (rbV_some _ n c l _ _ _ s hr hn hnc hc2 hrb hlen (by omega)).mono ?_
  rintro e w1 ⟨A1, c1, rfl, hrx, hc1, hm1, -, hb1⟩
  have hr1 := hr.below hb1
  have hcut1 := hcut.below hb1
  go_wp2_with fail
  refine (srv_some _ n c l _ (s : Nat) k hr1 hn hnc hc2 hv).mono ?_
  rintro e w2 ⟨rfl, rfl⟩
  go_wp2_with fail
  refine (beq A1 Akc _ _ _ _ ((l.drop k).take s) _ hrx hcut1 hlen hlen).mono ?_
  rintro e w3 ⟨rfl, rfl⟩
  go_wp2_with fail
  refine (rb8_none _ n c l _ hr1 hn hnc hc2 h8).mono ?_
  rintro e w8 ⟨rfl, hb8⟩
  have c08 : w8.cell? ⟨b, o, none⟩ = some (.int .u8 x) := (hb8.cell (Nat.lt_of_lt_of_le hbk hb1.size)).trans ((hb1.cell hbk).trans c0)
  go_wp2
  go_ret
  exact ⟨rfl, hb1.trans (hb8.mono hb1.size)⟩

set_option maxHeartbeats 2000000 in
theorem rb_some_some (b o n c : Nat) (l : List Int) (w : World) (hr : Rd w (some ⟨b, o, none⟩) l) (hn : Hid (l.length = n)) (h1 : 1 ≤ n) (hnc : n ≤ c) (hbig : n ≤ 2147483647) (hc2 : c ≤ 9223372036854775807) (s k : Nat) (hv : Hid (rv l = some ((s : Int), k))) (hs : s ≤ n - k) (x : Nat) (hx : x ≤ 255) (c0 : w.cell? ⟨b, o, none⟩ = some (.int .u8 (x : Nat))) (hs8 : x ≤ n - 1) (h8 : Hid (r8b l = some ((l.drop 1).take x, 1 + x))) :
    Calls Try.prog 10 #[.slice (some ⟨b, o, none⟩) n c] w fun e w' => e = .returned (.bool true) ∧ Below w.heap.size w w' := by
  have hbk : b < w.heap.size := World.block_lt_of_cell? _ _ c0
  have hb := rv_bd hr.1 hv.out
  have hkn : k ≤ n := by have := hn.out; omega
  have hrb : Hid (rvb l = some ((l.drop k).take s, k + s)) := by show _ = _; rw [rvb_some hv.out (by have := hn.out; omega)]; simp
  have hlen : Hid (((l.drop k).take s).length = s) := by show _ = _; have := hn.out; rw [List.length_take, List.length_drop]; omega
  have hcut := (hr.cut_at (k := k) (cap := c) (by have := hn.out; omega)).take s
  obtain ⟨Akc, hAkc⟩ : ∃ Akc, (if c = k then some (⟨b, o, none⟩ : Addr) else some ⟨b, o + k, none⟩) = Akc := ⟨_, rfl⟩
  rw [hAkc] at hcut
  have hz8 : ((n : Int) == 0) = false := by simp; omega
  have hz8' : (n == 0) = false := by simp; omega
  have hd8 : decide ((n : Int) < 1 + (x : Nat)) = false := by simp; omega
  have hd8' : decide (n < 1 + x) = false := by simp; omega
  have hl8 : Hid (((l.drop 1).take x).length = x) := by show _ = _; have := hn.out; rw [List.length_take, List.length_drop]; omega
  have hc8 := (hr.cut_at (k := 1) (cap := c) (by have := hn.out; omega)).take x
  obtain ⟨A1c, hA1c⟩ : ∃ A1c, (if c = 1 then some (⟨b, o, none⟩ : Addr) else some ⟨b, o + 1, none⟩) = A1c := ⟨_, rfl⟩
  rw [hA1c] at hc8
  go_enter Try.func10, Try.ntmps10
  go_wp2_with fail
  refine (rbV_some _ n c l _ _ _ s hr hn hnc hc2 hrb hlen (by omega)).mono ?_
  rintro e w1 ⟨A1, c1, rfl, hrx, hc1, hm1, -, hb1⟩
  have hr1 := hr.below hb1
  have hcut1 := hcut.below hb1
  go_wp2_with fail
  refine (srv_some _ n c l _ (s : Nat) k hr1 hn hnc hc2 hv).mono ?_
  rintro e w2 ⟨rfl, rfl⟩
  go_wp2_with fail
  refine (beq A1 Akc _ _ _ _ ((l.drop k).take s) _ hrx hcut1 hlen hlen).mono ?_
  rintro e w3 ⟨rfl, rfl⟩
  go_wp2_with fail
  refine (rb8_some _ n c l _ _ _ x hr1 hn hnc hc2 h8 hl8 (by omega)).mono ?_
  rintro e w8 ⟨A8, c8, rfl, hrx8, hcc8, hm8, -, hb8⟩
  have c08 : w8.cell? ⟨b, o, none⟩ = some (.int .u8 (x : Nat)) := (hb8.cell (Nat.lt_of_lt_of_le hbk hb1.size)).trans ((hb1.cell hbk).trans c0)
  have hc81 := (hc8.below hb1).below hb8
  go_wp2_with fail
  refine (beq A8 A1c _ _ _ _ ((l.drop 1).take x) _ hrx8 hc81 hl8 hl8).mono ?_
  rintro e w9 ⟨rfl, rfl⟩
  go_wp2
  go_ret
  exact ⟨rfl, hb1.trans (hb8.mono hb1.size)⟩

theorem fnReadBytes_walk (A : Option Addr) (l : List Int) (c : Nat) (w : World) (h : ByteArg w A l c) :
    Calls Try.prog 10 #[.slice A l.length c] w fun e w' => e = .returned (.bool true) ∧ Below w.heap.size w w' := by
  have hr := h.rd
  have hle := h.le
  have hmax := h.max
  unfold maxLen at hmax
  clear h
  by_cases hbig : 2147483647 < l.length
  · exact rb_big A _ c w hbig (by omega)
  cases l with
  | nil => exact rb_nil A c w (by omega)
  | cons x r =>
    obtain ⟨b, o, rfl, hc⟩ := hr.2 (by simp)
    have hx := hr.1.head
    have c0 : w.cell? ⟨b, o, none⟩ = some (.int .u8 x) := by simpa using hc 0 (by simp)
    have hlen : (x :: r).length = r.length + 1 := by simp
    have hl0 : (x :: r).length - 1 = r.length := by simp
    by_cases h8 : (r.length : Int) < x
    · have hr8 : r8b (x :: r) = none := by simp [r8b, h8]
      have hs8 : (((x :: r).length - 1 : Nat) : Int) < x := by rw [hl0]; exact h8
      cases hv : rv (x :: r) with
      | none => exact rb_none_short b o _ c _ w hr rfl (by simp) hle (by omega) (by omega) hv x hx c0 hs8 hr8
      | some p =>
        obtain ⟨v, k⟩ := p
        have hb := rv_bd hr.1 hv
        by_cases hs : (((x :: r).length - k : Nat) : Int) < v
        · exact rb_short_short b o _ c _ w hr rfl (by simp) hle (by omega) (by omega) v k hv hs x hx c0 hs8 hr8
        · obtain ⟨s, rfl⟩ := Int.eq_ofNat_of_zero_le hb.1
          exact rb_some_short b o _ c _ w hr rfl (by simp) hle (by omega) (by omega) s k hv (by omega) x hx c0 hs8 hr8
    · obtain ⟨y, rfl⟩ := Int.eq_ofNat_of_zero_le hx.1
      have hr8 : r8b ((y : Int) :: r) = some ((((y : Int) :: r).drop 1).take y, 1 + y) := by simp only [r8b, if_neg h8]; simp
      have hs8 : y ≤ ((y : Int) :: r).length - 1 := by simp at h8 ⊢; omega
      cases hv : rv ((y : Int) :: r) with
      | none => exact rb_none_some b o _ c _ w hr rfl (by simp) hle (by omega) (by omega) hv y (by omega) c0 hs8 hr8
      | some p =>
        obtain ⟨v, k⟩ := p
        have hb := rv_bd hr.1 hv
        by_cases hs : ((((y : Int) :: r).length - k : Nat) : Int) < v
        · exact rb_short_some b o _ c _ w hr rfl (by simp) hle (by omega) (by omega) v k hv hs y (by omega) c0 hs8 hr8
        · obtain ⟨s, rfl⟩ := Int.eq_ofNat_of_zero_le hb.1
          exact rb_some_some b o _ c _ w hr rfl (by simp) hle (by omega) (by omega) s k hv (by omega) y (by omega) c0 hs8 hr8

end Go.Proofs.Ytiehheijkabeeaa


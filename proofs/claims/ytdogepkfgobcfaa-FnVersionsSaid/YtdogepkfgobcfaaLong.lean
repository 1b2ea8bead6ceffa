/- Contract of spec.Long: a long header's version, both IDs, and what follows. Conditions: the slice reads as bytes, and has one. -/
import Derived.Test.YtdogepkfgobcfaaReader
import Derived.Test.YtdogepkfgobcfaaPacketType
import Derived.Test.YtdogepkfgobcfaaC8b
namespace Go.Proofs.Ytdogepkfgobcfaa
open Go.RowKit
set_option linter.unusedVariables false

/-- The lengths of a long header's two IDs, and where what follows begins. -/
def lx (l : List Int) : Nat := (l.getD 5 0).toNat
def ly (l : List Int) : Nat := (l.getD (6 + lx l) 0).toNat
def lend (l : List Int) : Nat := 7 + lx l + ly l
/-- A long header's version. -/
def ver (l : List Int) : Int := ((l.getD 1 0 * 256 + l.getD 2 0) * 256 + l.getD 3 0) * 256 + l.getD 4 0

theorem results5 {fn : Func} {t u v x y : Tmp} (h : fn.results = #[.tmp t, .tmp u, .tmp v, .tmp x, .tmp y]) (tmps : Array Value) (P : Program) (w : World) :
    (results fn tmps).run P w = .ok (.tuple #[tmps.getD t undef, tmps.getD u undef, tmps.getD v undef, tmps.getD x undef, tmps.getD y undef]) w := by simp [results, h]

/-- spec.version in the words of a list. -/
theorem sver_l (b o n c : Nat) (l : List Int) (w : World) (hr : Rd w (some ⟨b, o, none⟩) l) (hn : Hid (l.length = n)) (h5 : 5 ≤ n) (hn2 : n ≤ 9223372036854775807) (h128 : 128 ≤ l.getD 0 0) :
    Calls Try.prog 47 #[.slice (some ⟨b, o, none⟩) n c] w fun e w' => e = .returned (.tuple #[.int .u32 (ver l), .bool true]) ∧ ∃ q, w' = w.drewN q := by
  obtain ⟨b', o', e, hc⟩ := hr.2 (by have := hn.out; omega)
  obtain ⟨rfl, rfl⟩ : b = b' ∧ o = o' := by simpa using e
  have hn' := hn.out
  have c0 : w.cell? ⟨b, o, none⟩ = some (.int .u8 (l.getD 0 0)) := by simpa using hc 0 (by omega)
  exact sver b o n c _ _ _ _ _ w h5 hn2 h128 (hr.1.getD 0).2 (hr.1.getD 1) (hr.1.getD 2) (hr.1.getD 3) (hr.1.getD 4) c0 (hc 1 (by omega)) (hc 2 (by omega)) (hc 3 (by omega)) (hc 4 (by omega))

def NoLong (e : Ending) : Prop := e = .returned (.tuple #[.int .u32 0, .slice none 0 0, .slice none 0 0, .slice none 0 0, .bool false])

set_option maxHeartbeats 1000000 in
theorem slong_short (A : Option Addr) (n c : Nat) (w : World) (h5 : n < 5) :
    Calls Try.prog 16 #[.slice A n c] w fun e w' => NoLong e ∧ Below w.heap.size w w' := by
  go_enter Try.func16, Try.ntmps16
  go_wp2_with fail
  refine (sver_short A n c _ h5).mono ?_
  rintro e w1 ⟨rfl, rfl⟩
  go_wp2_with fail
  refine bodyPost_ret (results5 rfl _ _ _) rfl ?_
  exact ⟨rfl, Below.refl _ _⟩

set_option maxHeartbeats 4000000 in
theorem slong_1 (b o n c : Nat) (l : List Int) (w : World) (hr : Rd w (some ⟨b, o, none⟩) l) (hn : Hid (l.length = n)) (hbg : Hid (b ≠ w.heap.size)) (hnc : n ≤ c) (hc2 : c ≤ 9223372036854775807) (h128 : 128 ≤ l.getD 0 0) (h5 : 5 ≤ n) (h5' : n ≤ 5) :
    Calls Try.prog 16 #[.slice (some ⟨b, o, none⟩) n c] w fun e w' => NoLong e ∧ Below w.heap.size w w' := by
  have hn' := hn.out
  go_enter Try.func16, Try.ntmps16
  go_wp2_with fail
  refine (sver_l b o n c l _ hr hn (by omega) (by omega) h128).mono ?_
  rintro e w0 ⟨rfl, q, rfl⟩
  go_wp2_with fail
  refine wp_loop_rounds 3 ?_
  rw [rounds_succ]
  go_wp2_with fail
  have hR0 := Rdr.new (w.drewN q) (some ⟨b, o, none⟩) n c 5
  have hl0 := (hr.drewN q).alloc (.cells #[.slice (some ⟨b, o, none⟩) n c, .int .i64 5, .bool false] 74)
  have hB0 : Below w.heap.size w ((w.drewN q).alloc (.cells #[.slice (some ⟨b, o, none⟩) n c, .int .i64 5, .bool false] 74)) := (below_drewN (Below.refl _ _) q).alloc (Nat.le_refl _) _
  refine (byt_bad b o n c (5) w.heap.size false (1) _ (by omega) (by omega) (.inr (by omega)) hR0).mono ?_
  rintro e w1 ⟨rfl, hR1, hg1⟩
  have hB1 : Below w.heap.size w w1 := below_g hB0 hg1
  have k1 : w1.cell? ⟨w.heap.size, 2, none⟩ = some (.bool true) := hR1.cell2
  go_wp2_with fail
  refine bodyPost_ret (results5 rfl _ _ _) rfl ?_
  exact ⟨rfl, hB1⟩

set_option maxHeartbeats 4000000 in
theorem slong_2 (b o n c : Nat) (l : List Int) (w : World) (hr : Rd w (some ⟨b, o, none⟩) l) (hn : Hid (l.length = n)) (hbg : Hid (b ≠ w.heap.size)) (hnc : n ≤ c) (hc2 : c ≤ 9223372036854775807) (h128 : 128 ≤ l.getD 0 0) (x : Nat) (hx : x ≤ 255) (Hx : Hid (((l.drop 5).take 1).getD 0 0 = (x : Int))) (h6 : 6 ≤ n) (hs : n - 6 < x) :
    Calls Try.prog 16 #[.slice (some ⟨b, o, none⟩) n c] w fun e w' => NoLong e ∧ Below w.heap.size w w' := by
  have hn' := hn.out
  go_enter Try.func16, Try.ntmps16
  go_wp2_with fail
  refine (sver_l b o n c l _ hr hn (by omega) (by omega) h128).mono ?_
  rintro e w0 ⟨rfl, q, rfl⟩
  go_wp2_with fail
  refine wp_loop_rounds 3 ?_
  rw [rounds_succ]
  go_wp2_with fail
  have hR0 := Rdr.new (w.drewN q) (some ⟨b, o, none⟩) n c 5
  have hl0 := (hr.drewN q).alloc (.cells #[.slice (some ⟨b, o, none⟩) n c, .int .i64 5, .bool false] 74)
  have hB0 : Below w.heap.size w ((w.drewN q).alloc (.cells #[.slice (some ⟨b, o, none⟩) n c, .int .i64 5, .bool false] 74)) := (below_drewN (Below.refl _ _) q).alloc (Nat.le_refl _) _
  refine (byt_ok b o n c (5) w.heap.size 1 l _ hl0 hn hnc hc2 (by omega) hR0 hbg).mono ?_
  rintro e w1 ⟨⟨A1, c1, rfl, hr1, hcc1, hcm1, hA1⟩, hR1, hg1⟩
  have hl1 := hl0.grown hg1 fun _ => sep_ne hbg.out
  have hB1 : Below w.heap.size w w1 := below_g hB0 hg1
  have k1 : w1.cell? ⟨w.heap.size, 2, none⟩ = some (.bool false) := hR1.cell2
  obtain ⟨b1, o1, rfl, hx1⟩ := hr1.2 (by rw [List.length_take, List.length_drop]; omega)
  have x1 : w1.cell? ⟨b1, o1, none⟩ = some (.int .u8 (x : Nat)) := by
    have := hx1 0 (by rw [List.length_take, List.length_drop]; omega)
    rw [Hx.out] at this
    simpa using this
  have hl1' := hl1
  clear hx1
  go_wp2_with fail
  refine (byt_bad b o n c (5 + 1) w.heap.size false (x) _ (by omega) (by omega) (.inr (by omega)) hR1).mono ?_
  rintro e w2 ⟨rfl, hR2, hg2⟩
  have hB2 : Below w.heap.size w w2 := below_g hB1 hg2
  have k2 : w2.cell? ⟨w.heap.size, 2, none⟩ = some (.bool true) := hR2.cell2
  go_wp2_with fail
  rw [rounds_succ]
  go_wp2_with fail
  refine (byt_bad b o n c (5 + 1) w.heap.size true (1) _ (by omega) (by omega) (.inl rfl) hR2).mono ?_
  rintro e w3 ⟨rfl, hR3, hg3⟩
  have hB3 : Below w.heap.size w w3 := below_g hB2 hg3
  have k3 : w3.cell? ⟨w.heap.size, 2, none⟩ = some (.bool true) := hR3.cell2
  go_wp2_with fail
  refine bodyPost_ret (results5 rfl _ _ _) rfl ?_
  exact ⟨rfl, hB3⟩

set_option maxHeartbeats 4000000 in
theorem slong_3 (b o n c : Nat) (l : List Int) (w : World) (hr : Rd w (some ⟨b, o, none⟩) l) (hn : Hid (l.length = n)) (hbg : Hid (b ≠ w.heap.size)) (hnc : n ≤ c) (hc2 : c ≤ 9223372036854775807) (h128 : 128 ≤ l.getD 0 0) (x : Nat) (hx : x ≤ 255) (Hx : Hid (((l.drop 5).take 1).getD 0 0 = (x : Int))) (h6 : 6 ≤ n) (hs : n ≤ 6 + x) (hs' : 6 + x ≤ n) :
    Calls Try.prog 16 #[.slice (some ⟨b, o, none⟩) n c] w fun e w' => NoLong e ∧ Below w.heap.size w w' := by
  have hn' := hn.out
  go_enter Try.func16, Try.ntmps16
  go_wp2_with fail
  refine (sver_l b o n c l _ hr hn (by omega) (by omega) h128).mono ?_
  rintro e w0 ⟨rfl, q, rfl⟩
  go_wp2_with fail
  refine wp_loop_rounds 3 ?_
  rw [rounds_succ]
  go_wp2_with fail
  have hR0 := Rdr.new (w.drewN q) (some ⟨b, o, none⟩) n c 5
  have hl0 := (hr.drewN q).alloc (.cells #[.slice (some ⟨b, o, none⟩) n c, .int .i64 5, .bool false] 74)
  have hB0 : Below w.heap.size w ((w.drewN q).alloc (.cells #[.slice (some ⟨b, o, none⟩) n c, .int .i64 5, .bool false] 74)) := (below_drewN (Below.refl _ _) q).alloc (Nat.le_refl _) _
  refine (byt_ok b o n c (5) w.heap.size 1 l _ hl0 hn hnc hc2 (by omega) hR0 hbg).mono ?_
  rintro e w1 ⟨⟨A1, c1, rfl, hr1, hcc1, hcm1, hA1⟩, hR1, hg1⟩
  have hl1 := hl0.grown hg1 fun _ => sep_ne hbg.out
  have hB1 : Below w.heap.size w w1 := below_g hB0 hg1
  have k1 : w1.cell? ⟨w.heap.size, 2, none⟩ = some (.bool false) := hR1.cell2
  obtain ⟨b1, o1, rfl, hx1⟩ := hr1.2 (by rw [List.length_take, List.length_drop]; omega)
  have x1 : w1.cell? ⟨b1, o1, none⟩ = some (.int .u8 (x : Nat)) := by
    have := hx1 0 (by rw [List.length_take, List.length_drop]; omega)
    rw [Hx.out] at this
    simpa using this
  have hl1' := hl1
  clear hx1
  go_wp2_with fail
  refine (byt_ok b o n c (5 + 1) w.heap.size x l _ hl1 hn hnc hc2 (by omega) hR1 hbg).mono ?_
  rintro e w2 ⟨⟨A2, c2, rfl, hr2, hcc2, hcm2, hA2⟩, hR2, hg2⟩
  have hl2 := hl1.grown hg2 fun _ => sep_ne hbg.out
  have hB2 : Below w.heap.size w w2 := below_g hB1 hg2
  have k2 : w2.cell? ⟨w.heap.size, 2, none⟩ = some (.bool false) := hR2.cell2
  go_wp2_with fail
  rw [rounds_succ]
  go_wp2_with fail
  refine (byt_bad b o n c (5 + 1 + x) w.heap.size false (1) _ (by omega) (by omega) (.inr (by omega)) hR2).mono ?_
  rintro e w3 ⟨rfl, hR3, hg3⟩
  have hB3 : Below w.heap.size w w3 := below_g hB2 hg3
  have k3 : w3.cell? ⟨w.heap.size, 2, none⟩ = some (.bool true) := hR3.cell2
  go_wp2_with fail
  refine bodyPost_ret (results5 rfl _ _ _) rfl ?_
  exact ⟨rfl, hB3⟩

set_option maxHeartbeats 4000000 in
theorem slong_4 (b o n c : Nat) (l : List Int) (w : World) (hr : Rd w (some ⟨b, o, none⟩) l) (hn : Hid (l.length = n)) (hbg : Hid (b ≠ w.heap.size)) (hnc : n ≤ c) (hc2 : c ≤ 9223372036854775807) (h128 : 128 ≤ l.getD 0 0) (x y : Nat) (hx : x ≤ 255) (hy : y ≤ 255) (Hx : Hid (((l.drop 5).take 1).getD 0 0 = (x : Int))) (Hy : Hid (((l.drop (5 + 1 + x)).take 1).getD 0 0 = (y : Int))) (h6 : 7 + x ≤ n) (hs : n - (7 + x) < y) :
    Calls Try.prog 16 #[.slice (some ⟨b, o, none⟩) n c] w fun e w' => NoLong e ∧ Below w.heap.size w w' := by
  have hn' := hn.out
  go_enter Try.func16, Try.ntmps16
  go_wp2_with fail
  refine (sver_l b o n c l _ hr hn (by omega) (by omega) h128).mono ?_
  rintro e w0 ⟨rfl, q, rfl⟩
  go_wp2_with fail
  refine wp_loop_rounds 3 ?_
  rw [rounds_succ]
  go_wp2_with fail
  have hR0 := Rdr.new (w.drewN q) (some ⟨b, o, none⟩) n c 5
  have hl0 := (hr.drewN q).alloc (.cells #[.slice (some ⟨b, o, none⟩) n c, .int .i64 5, .bool false] 74)
  have hB0 : Below w.heap.size w ((w.drewN q).alloc (.cells #[.slice (some ⟨b, o, none⟩) n c, .int .i64 5, .bool false] 74)) := (below_drewN (Below.refl _ _) q).alloc (Nat.le_refl _) _
  refine (byt_ok b o n c (5) w.heap.size 1 l _ hl0 hn hnc hc2 (by omega) hR0 hbg).mono ?_
  rintro e w1 ⟨⟨A1, c1, rfl, hr1, hcc1, hcm1, hA1⟩, hR1, hg1⟩
  have hl1 := hl0.grown hg1 fun _ => sep_ne hbg.out
  have hB1 : Below w.heap.size w w1 := below_g hB0 hg1
  have k1 : w1.cell? ⟨w.heap.size, 2, none⟩ = some (.bool false) := hR1.cell2
  obtain ⟨b1, o1, rfl, hx1⟩ := hr1.2 (by rw [List.length_take, List.length_drop]; omega)
  have x1 : w1.cell? ⟨b1, o1, none⟩ = some (.int .u8 (x : Nat)) := by
    have := hx1 0 (by rw [List.length_take, List.length_drop]; omega)
    rw [Hx.out] at this
    simpa using this
  have hl1' := hl1
  clear hx1
  go_wp2_with fail
  refine (byt_ok b o n c (5 + 1) w.heap.size x l _ hl1 hn hnc hc2 (by omega) hR1 hbg).mono ?_
  rintro e w2 ⟨⟨A2, c2, rfl, hr2, hcc2, hcm2, hA2⟩, hR2, hg2⟩
  have hl2 := hl1.grown hg2 fun _ => sep_ne hbg.out
  have hB2 : Below w.heap.size w w2 := below_g hB1 hg2
  have k2 : w2.cell? ⟨w.heap.size, 2, none⟩ = some (.bool false) := hR2.cell2
  go_wp2_with fail
  rw [rounds_succ]
  go_wp2_with fail
  refine (byt_ok b o n c (5 + 1 + x) w.heap.size 1 l _ hl2 hn hnc hc2 (by omega) hR2 hbg).mono ?_
  rintro e w3 ⟨⟨A3, c3, rfl, hr3, hcc3, hcm3, hA3⟩, hR3, hg3⟩
  have hl3 := hl2.grown hg3 fun _ => sep_ne hbg.out
  have hB3 : Below w.heap.size w w3 := below_g hB2 hg3
  have k3 : w3.cell? ⟨w.heap.size, 2, none⟩ = some (.bool false) := hR3.cell2
  obtain ⟨b3, o3, rfl, hx3⟩ := hr3.2 (by rw [List.length_take, List.length_drop]; omega)
  have x3 : w3.cell? ⟨b3, o3, none⟩ = some (.int .u8 (y : Nat)) := by
    have := hx3 0 (by rw [List.length_take, List.length_drop]; omega)
    rw [Hy.out] at this
    simpa using this
  have hl3' := hl3
  clear hx3
  go_wp2_with fail
  refine (byt_bad b o n c (5 + 1 + x + 1) w.heap.size false (y) _ (by omega) (by omega) (.inr (by omega)) hR3).mono ?_
  rintro e w4 ⟨rfl, hR4, hg4⟩
  have hB4 : Below w.heap.size w w4 := below_g hB3 hg4
  have k4 : w4.cell? ⟨w.heap.size, 2, none⟩ = some (.bool true) := hR4.cell2
  go_wp2_with fail
  rw [rounds_succ]
  go_wp2_with fail
  go_wp2_with fail
  refine bodyPost_ret (results5 rfl _ _ _) rfl ?_
  exact ⟨rfl, hB4⟩

set_option maxHeartbeats 4000000 in
theorem slong_5 (b o n c : Nat) (l : List Int) (w : World) (hr : Rd w (some ⟨b, o, none⟩) l) (hn : Hid (l.length = n)) (hbg : Hid (b ≠ w.heap.size)) (hnc : n ≤ c) (hc2 : c ≤ 9223372036854775807) (h128 : 128 ≤ l.getD 0 0) (x y : Nat) (hx : x ≤ 255) (hy : y ≤ 255) (Hx : Hid (((l.drop 5).take 1).getD 0 0 = (x : Int))) (Hy : Hid (((l.drop (5 + 1 + x)).take 1).getD 0 0 = (y : Int))) (h6 : 7 + x + y ≤ n) :
    Calls Try.prog 16 #[.slice (some ⟨b, o, none⟩) n c] w fun e w' => (∃ A1 c1 A2 c2 A3 c3, e = .returned (.tuple #[.int .u32 (ver l), .slice A1 x c1, .slice A2 y c2, .slice A3 (n - (5 + 1 + x + 1 + y)) c3, .bool true]) ∧ Rd w' A1 ((l.drop (5 + 1)).take x) ∧ Rd w' A2 ((l.drop (5 + 1 + x + 1)).take y) ∧ Rd w' A3 (l.drop (5 + 1 + x + 1 + y)) ∧ n - (5 + 1 + x + 1 + y) ≤ c3 ∧ c3 ≤ 9223372036854775807 ∧ (∃ o3, A3 = some ⟨b, o3, none⟩)) ∧ Below w.heap.size w w' := by
  have hn' := hn.out
  go_enter Try.func16, Try.ntmps16
  go_wp2_with fail
  refine (sver_l b o n c l _ hr hn (by omega) (by omega) h128).mono ?_
  rintro e w0 ⟨rfl, q, rfl⟩
  go_wp2_with fail
  refine wp_loop_rounds 3 ?_
  rw [rounds_succ]
  go_wp2_with fail
  have hR0 := Rdr.new (w.drewN q) (some ⟨b, o, none⟩) n c 5
  have hl0 := (hr.drewN q).alloc (.cells #[.slice (some ⟨b, o, none⟩) n c, .int .i64 5, .bool false] 74)
  have hB0 : Below w.heap.size w ((w.drewN q).alloc (.cells #[.slice (some ⟨b, o, none⟩) n c, .int .i64 5, .bool false] 74)) := (below_drewN (Below.refl _ _) q).alloc (Nat.le_refl _) _
  refine (byt_ok b o n c (5) w.heap.size 1 l _ hl0 hn hnc hc2 (by omega) hR0 hbg).mono ?_
  rintro e w1 ⟨⟨A1, c1, rfl, hr1, hcc1, hcm1, hA1⟩, hR1, hg1⟩
  have hl1 := hl0.grown hg1 fun _ => sep_ne hbg.out
  have hB1 : Below w.heap.size w w1 := below_g hB0 hg1
  have k1 : w1.cell? ⟨w.heap.size, 2, none⟩ = some (.bool false) := hR1.cell2
  obtain ⟨b1, o1, rfl, hx1⟩ := hr1.2 (by rw [List.length_take, List.length_drop]; omega)
  have x1 : w1.cell? ⟨b1, o1, none⟩ = some (.int .u8 (x : Nat)) := by
    have := hx1 0 (by rw [List.length_take, List.length_drop]; omega)
    rw [Hx.out] at this
    simpa using this
  have hl1' := hl1
  clear hx1
  go_wp2_with fail
  refine (byt_ok b o n c (5 + 1) w.heap.size x l _ hl1 hn hnc hc2 (by omega) hR1 hbg).mono ?_
  rintro e w2 ⟨⟨A2, c2, rfl, hr2, hcc2, hcm2, hA2⟩, hR2, hg2⟩
  have hl2 := hl1.grown hg2 fun _ => sep_ne hbg.out
  have hB2 : Below w.heap.size w w2 := below_g hB1 hg2
  have k2 : w2.cell? ⟨w.heap.size, 2, none⟩ = some (.bool false) := hR2.cell2
  go_wp2_with fail
  rw [rounds_succ]
  go_wp2_with fail
  refine (byt_ok b o n c (5 + 1 + x) w.heap.size 1 l _ hl2 hn hnc hc2 (by omega) hR2 hbg).mono ?_
  rintro e w3 ⟨⟨A3, c3, rfl, hr3, hcc3, hcm3, hA3⟩, hR3, hg3⟩
  have hl3 := hl2.grown hg3 fun _ => sep_ne hbg.out
  have hB3 : Below w.heap.size w w3 := below_g hB2 hg3
  have k3 : w3.cell? ⟨w.heap.size, 2, none⟩ = some (.bool false) := hR3.cell2
  obtain ⟨b3, o3, rfl, hx3⟩ := hr3.2 (by rw [List.length_take, List.length_drop]; omega)
  have x3 : w3.cell? ⟨b3, o3, none⟩ = some (.int .u8 (y : Nat)) := by
    have := hx3 0 (by rw [List.length_take, List.length_drop]; omega)
    rw [Hy.out] at this
    simpa using this
  have hl3' := hl3
  clear hx3
  go_wp2_with fail
  refine (byt_ok b o n c (5 + 1 + x + 1) w.heap.size y l _ hl3 hn hnc hc2 (by omega) hR3 hbg).mono ?_
  rintro e w4 ⟨⟨A4, c4, rfl, hr4, hcc4, hcm4, hA4⟩, hR4, hg4⟩
  have hl4 := hl3.grown hg4 fun _ => sep_ne hbg.out
  have hB4 : Below w.heap.size w w4 := below_g hB3 hg4
  have k4 : w4.cell? ⟨w.heap.size, 2, none⟩ = some (.bool false) := hR4.cell2
  have m4 : w4.cell? ⟨w.heap.size, 1, none⟩ = some (.int .i64 ((5 + 1 + x + 1 + y : Nat) : Int)) := hR4.cell1
  obtain ⟨P, hP⟩ : ∃ P : Nat, P = 5 + 1 + x + 1 + y := ⟨_, rfl⟩
  rw [← hP] at m4
  have HP := Lib.hid hP
  have hPn : P ≤ n := by omega
  have hcut := hl4.cut_at (k := P) (cap := c) (by omega)
  obtain ⟨Ak, hAk⟩ : ∃ Ak, (if c = P then some (⟨b, o, none⟩ : Addr) else some ⟨b, o + P, none⟩) = Ak := ⟨_, rfl⟩
  have hAn : Hid (∃ o3, Ak = some ⟨b, o3, none⟩) := by rw [← hAk]; show _; split <;> exact ⟨_, rfl⟩
  rw [hAk] at hcut
  have HC := Lib.hid hcut
  have H2 := Lib.hid (((hr2.grown hg3 fun _ => sep_blk hA2 hbg.out).grown hg4 fun _ => sep_blk hA2 hbg.out))
  have H4 := Lib.hid hr4
  have HB := Lib.hid hB4
  have p0 : (0 : Int) ≤ (P : Int) := by omega
  have p1 : (P : Int) ≤ (n : Int) := by omega
  clear hP hcut hr1 hr2 hr3 hr4 hl0 hl1 hl2 hl3 hl4 hR0 hR1 hR2 hR3 hR4 hg1 hg2 hg3 hg4 hB0 hB1 hB2 hB3 hB4 hA1 hA2 hA3 hA4 hn' hn hr
  go_wp2_with fail
  rw [rounds_succ]
  go_wp2_with fail
  go_quiet (fail)
  go_wp2
  refine bodyPost_ret (results5 rfl _ _ _) rfl ?_
  rw [← HP.out]
  exact ⟨⟨A2, c2, A4, c4, Ak, c - P, rfl, H2.out, H4.out, HC.out, by omega, by omega, hAn.out⟩, below_drewN HB.out _⟩

theorem take1_getD (l : List Int) (k : Nat) : ((l.drop k).take 1).getD 0 0 = l.getD k 0 := by
  simp [List.getD, List.getElem?_drop]
theorem lx_eq {l : List Int} (hb : Bs l) : l.getD 5 0 = (lx l : Nat) ∧ lx l ≤ 255 := by
  have := hb.getD 5
  unfold lx
  omega
theorem ly_eq {l : List Int} (hb : Bs l) : l.getD (6 + lx l) 0 = (ly l : Nat) ∧ ly l ≤ 255 := by
  have := hb.getD (6 + lx l)
  unfold ly
  omega

/-- spec.Long of bytes that are no whole header. -/
theorem slong_no (b o n c : Nat) (l : List Int) (w : World) (hr : Rd w (some ⟨b, o, none⟩) l) (hn : Hid (l.length = n)) (hbg : Hid (b ≠ w.heap.size)) (hnc : n ≤ c) (hc2 : c ≤ 9223372036854775807) (h128 : 128 ≤ l.getD 0 0) (hno : n < lend l) :
    Calls Try.prog 16 #[.slice (some ⟨b, o, none⟩) n c] w fun e w' => NoLong e ∧ Below w.heap.size w w' := by
  have hx := lx_eq hr.1
  have hy := ly_eq hr.1
  unfold lend at hno
  by_cases h5 : n < 5
  · exact slong_short _ n c w h5
  by_cases h5' : n ≤ 5
  · exact slong_1 b o n c l w hr hn hbg hnc hc2 h128 (by omega) h5'
  have Hx : Hid (((l.drop 5).take 1).getD 0 0 = (lx l : Int)) := (take1_getD l 5).trans hx.1
  by_cases h6 : n - 6 < lx l
  · exact slong_2 b o n c l w hr hn hbg hnc hc2 h128 _ hx.2 Hx (by omega) h6
  by_cases h7 : n ≤ 6 + lx l
  · exact slong_3 b o n c l w hr hn hbg hnc hc2 h128 _ hx.2 Hx (by omega) h7 (by omega)
  have Hy : Hid (((l.drop (5 + 1 + lx l)).take 1).getD 0 0 = (ly l : Int)) := (take1_getD l _).trans hy.1
  exact slong_4 b o n c l w hr hn hbg hnc hc2 h128 _ _ hx.2 hy.2 Hx Hy (by omega) (by omega)

/-- spec.Long of a whole header. -/
theorem slong_yes (b o n c : Nat) (l : List Int) (w : World) (hr : Rd w (some ⟨b, o, none⟩) l) (hn : Hid (l.length = n)) (hbg : Hid (b ≠ w.heap.size)) (hnc : n ≤ c) (hc2 : c ≤ 9223372036854775807) (h128 : 128 ≤ l.getD 0 0) (hyes : lend l ≤ n) :
    Calls Try.prog 16 #[.slice (some ⟨b, o, none⟩) n c] w fun e w' => (∃ A1 c1 A2 c2 A3 c3, e = .returned (.tuple #[.int .u32 (ver l), .slice A1 (lx l) c1, .slice A2 (ly l) c2, .slice A3 (n - lend l) c3, .bool true]) ∧ Rd w' A1 ((l.drop 6).take (lx l)) ∧ Rd w' A2 ((l.drop (7 + lx l)).take (ly l)) ∧ Rd w' A3 (l.drop (lend l)) ∧ n - lend l ≤ c3 ∧ c3 ≤ 9223372036854775807 ∧ (∃ o3, A3 = some ⟨b, o3, none⟩)) ∧ Below w.heap.size w w' := by
  have hx := lx_eq hr.1
  have hy := ly_eq hr.1
  have e1 : 5 + 1 + lx l + 1 = 7 + lx l := by omega
  have e2 : 7 + lx l + ly l = lend l := rfl
  have := slong_5 b o n c l w hr hn hbg hnc hc2 h128 (lx l) (ly l) hx.2 hy.2 ((take1_getD l 5).trans hx.1) ((take1_getD l _).trans hy.1) hyes
  rw [e1, e2] at this
  exact this

end Go.Proofs.Ytdogepkfgobcfaa

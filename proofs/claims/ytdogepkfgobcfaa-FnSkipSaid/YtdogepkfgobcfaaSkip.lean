/- Contracts of spec.Skip and of skipLongHeaderPacket, and the walk of FnSkip. Conditions: none. -/
import Derived.Test.YtdogepkfgobcfaaLong
import Derived.Test.YtdogepkfgobcfaaReaderU
namespace Go.Proofs.Ytdogepkfgobcfaa
open Go.RowKit
set_option linter.unusedVariables false

/-- Where bytes behind their length end, from the place k on. -/
def nxt (l : List Int) (k : Nat) : Option Nat :=
  match rvb (l.drop k) with
  | none => none
  | some p => some (k + p.2)
/-- The end of what a long packet of type t has behind its header. -/
def tail (l : List Int) (t : Int) : Option Nat := if t = 1 then (match nxt l 0 with | none => none | some k => nxt l k) else nxt l 0
def upto (P : Nat) : Option Nat → Int
  | none => -1
  | some k => ((P + k : Nat) : Int)
/-- The length of a long packet. -/
def skp (l : List Int) (t : Int) : Int := if l.length < lend l then -1 else upto (lend l) (tail (l.drop (lend l)) t)

theorem nxt_st {l : List Int} {k : Nat} {v : Int} {k1 : Nat} {bad1 : Bool} {k2 : Nat} {bad bad2 : Bool} (h1 : NumSt l k bad v k1 bad1) (h2 : BytSt l k1 bad1 v k2 bad2) :
    k2 ≤ l.length ∧ ((bad2 = false ∧ bad = false ∧ nxt l k = some k2) ∨ (bad2 = true ∧ (bad = true ∨ nxt l k = none))) := by
  have h := nb_st h1 h2
  refine ⟨h.2.1, ?_⟩
  rcases h.2.2 with ⟨a, b, bs, c⟩ | ⟨a, c⟩
  · refine .inl ⟨a, b, ?_⟩
    unfold nxt
    rw [c]
    have := h.1
    simp only [Option.some.injEq]
    omega
  · refine .inr ⟨a, ?_⟩
    rcases c with c | c
    · exact .inl c
    · exact .inr (by unfold nxt; rw [c])

theorem below_g1 {g : Nat} {w a w' : World} (h : Below w.heap.size w a) (hg : a.grownBy w' (some g)) (hB : w.heap.size ≤ g) : Below w.heap.size w w' :=
  h.grown hg h.size fun j hj => by simp at hj; omega

set_option maxHeartbeats 1000000 in
theorem ssk_open (A : Option Addr) (n c : Nat) (l : List Int) (t what : Int) (w : World) (hr : Rd w A l) (hn : Hid (l.length = n)) (hn2 : n ≤ 9223372036854775807) (h1 : Hid ((spt l).1 = t)) (h2 : Hid ((spt l).2 = what)) (hh : what = 2 ∨ what = 0 ∧ (t = 0 ∨ t = 4 ∨ t = 5 ∨ t = 6)) :
    Calls Try.prog 19 #[.slice A n c] w fun e w' => e = .returned (.tuple #[.int .i64 0, .int .i64 2]) ∧ Below w.heap.size w w' := by
  have hr' := Lib.hid hr
  clear hr
  rcases hh with rfl | ⟨rfl, rfl | rfl | rfl | rfl⟩
  all_goals
    go_enter Try.func19, Try.ntmps19
    go_wp2_with fail
    refine (sptc A n c l _ hr'.out hn hn2).mono ?_
    rw [h1.out, h2.out]
    rintro e w0 ⟨rfl, q, rfl⟩
    go_wp2
    go_ret2
    exact ⟨rfl, below_drewN (Below.refl _ _) _⟩

set_option maxHeartbeats 1000000 in
theorem ssk_no (b o n c : Nat) (l : List Int) (t : Int) (w : World) (hr : Rd w (some ⟨b, o, none⟩) l) (hn : Hid (l.length = n)) (hnc : n ≤ c) (hc2 : c ≤ 9223372036854775807) (hbg : Hid (b ≠ w.heap.size)) (h128 : Hid (128 ≤ l.getD 0 0)) (hno : Hid (n < lend l)) (h1 : Hid ((spt l).1 = t)) (h2 : Hid ((spt l).2 = 0)) (hh : t = 1 ∨ t = 2 ∨ t = 3) :
    Calls Try.prog 19 #[.slice (some ⟨b, o, none⟩) n c] w fun e w' => e = .returned (.tuple #[.int .i64 (-1), .int .i64 0]) ∧ Below w.heap.size w w' := by
  have hr' := Lib.hid hr
  clear hr
  rcases hh with rfl | rfl | rfl
  all_goals
    go_enter Try.func19, Try.ntmps19
    go_wp2_with fail
    refine (sptc _ n c l _ hr'.out hn (by omega)).mono ?_
    rw [h1.out, h2.out]
    rintro e w0 ⟨rfl, q, rfl⟩
    go_wp2_with fail
    refine (slong_no b o n c l _ (hr'.out.drewN q) hn hbg hnc hc2 h128.out hno.out).mono ?_
    rintro e w1 ⟨rfl, hb1⟩
    go_wp2
    go_ret2
    exact ⟨rfl, (below_drewN (Below.refl _ _) q).trans hb1⟩

set_option maxHeartbeats 1000000 in
theorem ssk_far (b o n c : Nat) (l : List Int) (t : Int) (w : World) (hr : Rd w (some ⟨b, o, none⟩) l) (hn : Hid (l.length = n)) (hnc : n ≤ c) (hc2 : c ≤ 9223372036854775807) (hbg : Hid (b ≠ w.heap.size)) (h128 : Hid (128 ≤ l.getD 0 0)) (hyes : Hid (lend l ≤ n)) (h1 : Hid ((spt l).1 = t)) (h2 : Hid ((spt l).2 = 0)) (hh : t = 1 ∨ t = 2 ∨ t = 3) (hf : 20 < lx l ∨ lx l ≤ 20 ∧ 20 < ly l) :
    Calls Try.prog 19 #[.slice (some ⟨b, o, none⟩) n c] w fun e w' => e = .returned (.tuple #[.int .i64 0, .int .i64 2]) ∧ Below w.heap.size w w' := by
  have hr' := Lib.hid hr
  clear hr
  rcases hh with rfl | rfl | rfl
  all_goals
    go_enter Try.func19, Try.ntmps19
    go_wp2_with fail
    refine (sptc _ n c l _ hr'.out hn (by omega)).mono ?_
    rw [h1.out, h2.out]
    rintro e w0 ⟨rfl, q, rfl⟩
    go_wp2_with fail
    refine (slong_yes b o n c l _ (hr'.out.drewN q) hn hbg hnc hc2 h128.out hyes.out).mono ?_
    rintro e w1 ⟨⟨B1, d1, B2, d2, B3, d3, rfl, -, -, -, -, -, -⟩, hb1⟩
    have hb1 := (below_drewN (Below.refl _ _) q).trans hb1
    rcases hf with hf | ⟨hf1, hf⟩
    · go_wp2
      go_ret2
      exact ⟨rfl, hb1⟩
    · go_wp2
      go_ret2
      exact ⟨rfl, hb1⟩

set_option maxHeartbeats 2000000 in
theorem ssk_2 (b o n c : Nat) (l : List Int) (w : World) (hr : Rd w (some ⟨b, o, none⟩) l) (hn : Hid (l.length = n)) (hnc : n ≤ c) (hc2 : c ≤ 9223372036854775807) (hbg : Hid (b < w.heap.size)) (h128 : Hid (128 ≤ l.getD 0 0)) (hyes : Hid (lend l ≤ n)) (h1 : Hid ((spt l).1 = 2)) (h2 : Hid ((spt l).2 = 0)) (hx : lx l ≤ 20) (hy : ly l ≤ 20) :
    Calls Try.prog 19 #[.slice (some ⟨b, o, none⟩) n c] w fun e w' => e = .returned (.tuple #[.int .i64 (skp l 2), .int .i64 0]) ∧ Below w.heap.size w w' := by
  have hr' := Lib.hid hr
  have hln : Hid ((l.drop (lend l)).length = n - lend l) := by show _ = _; rw [List.length_drop, hn.out]
  clear hr
  go_enter Try.func19, Try.ntmps19
  go_wp2_with fail
  refine (sptc _ n c l _ hr'.out hn (by omega)).mono ?_
  rw [h1.out, h2.out]
  rintro e w0 ⟨rfl, q, rfl⟩
  go_wp2_with fail
  refine (slong_yes b o n c l _ (hr'.out.drewN q) hn (Nat.ne_of_lt hbg.out) hnc hc2 h128.out hyes.out).mono ?_
  rintro e w1 ⟨⟨B1, d1, B2, d2, B3, d3, rfl, -, -, k3, k4, k5, ⟨o3, rfl⟩⟩, hb1⟩
  have hb1 := (below_drewN (Below.refl _ _) q).trans hb1
  have hbg1 : Hid (b ≠ w1.heap.size) := Nat.ne_of_lt (Nat.lt_of_lt_of_le hbg.out hb1.size)
  have hR1 := Lib.hid (Rdr.new w1 (some ⟨b, o3, none⟩) (n - lend l) d3 0)
  have hr1 := Lib.hid (k3.alloc (.cells #[.slice (some ⟨b, o3, none⟩) (n - lend l) d3, .int .i64 0, .bool false] 74))
  have hB1 : Below w.heap.size w (w1.alloc (.cells #[.slice (some ⟨b, o3, none⟩) (n - lend l) d3, .int .i64 0, .bool false] 74)) := hb1.alloc hb1.size _
  clear k3
  go_wp2_with fail
  refine (num_u b o3 (n - lend l) d3 0 w1.heap.size (l.drop (lend l)) false _ hr1.out hln k4 k5 (by omega) hR1).mono ?_
  rintro e w2 ⟨v2, k2, bad2, rfl, hS2, hR2, hg2⟩
  have hr2 := Lib.hid (hr1.out.grown hg2 fun _ => sep_ne hbg1.out)
  have hB2 : Below w.heap.size w w2 := below_g1 hB1 hg2 hb1.size
  have hkk2 : k2 ≤ n - lend l := by have := hS2.2.1; rw [hln.out] at this; exact this
  have hv2 : 0 ≤ v2 := hS2.2.2.1
  have hS2 := Lib.hid hS2
  have hR2 := Lib.hid hR2
  clear hg2 hR1 hr1 hB1
  go_wp2_with fail
  refine (byt_u b o3 (n - lend l) d3 k2 w1.heap.size v2 (l.drop (lend l)) bad2 _ hr2.out hln k4 k5 hkk2 hv2 hR2 hbg1).mono ?_
  rintro e w3 ⟨A3, m3, c3, k3, bad3, rfl, hT3, -, hR3, hg3⟩
  have hr3 := Lib.hid (hr2.out.grown hg3 fun _ => sep_ne hbg1.out)
  have hB3 : Below w.heap.size w w3 := below_g1 hB2 hg3 hb1.size
  have hN3 := nxt_st hS2.out hT3
  have hkk3 : k3 ≤ n - lend l := by have := hN3.1; rw [hln.out] at this; exact this
  have hN3 := Lib.hid hN3.2
  have hR3 := Lib.hid hR3
  clear hT3 hS2 hg3 hR2 hr2 hB2
  have x2 := hR3.out.cell2
  cases bad3
  · have hq : skp l 2 = ((n : Int) - ((n - lend l : Nat) : Int)) + (k3 : Int) := by
      rcases hN3.out with ⟨-, -, h⟩ | ⟨h, -⟩
      · have := hn.out
        have := hyes.out
        simp only [skp, tail, if_neg (show ¬ l.length < lend l by omega), h, upto]
        simp
        omega
      · cases h
    have x1 := hR3.out.cell1
    have hq := Lib.hid hq
    clear hN3
    go_wp2
    go_ret2
    exact ⟨by rw [hq.out]; rfl, hB3⟩
  · have hq : skp l 2 = -1 := by
      rcases hN3.out with ⟨h, -⟩ | ⟨-, h⟩
      · cases h
      · rcases h with h | h
        · cases h
        · have := hn.out
          have := hyes.out
          simp only [skp, tail, if_neg (show ¬ l.length < lend l by omega), h, upto]
          simp
    have hq := Lib.hid hq
    clear hN3
    go_wp2
    go_ret2
    exact ⟨by rw [hq.out]; rfl, hB3⟩

set_option maxHeartbeats 2000000 in
theorem ssk_3 (b o n c : Nat) (l : List Int) (w : World) (hr : Rd w (some ⟨b, o, none⟩) l) (hn : Hid (l.length = n)) (hnc : n ≤ c) (hc2 : c ≤ 9223372036854775807) (hbg : Hid (b < w.heap.size)) (h128 : Hid (128 ≤ l.getD 0 0)) (hyes : Hid (lend l ≤ n)) (h1 : Hid ((spt l).1 = 3)) (h2 : Hid ((spt l).2 = 0)) (hx : lx l ≤ 20) (hy : ly l ≤ 20) :
    Calls Try.prog 19 #[.slice (some ⟨b, o, none⟩) n c] w fun e w' => e = .returned (.tuple #[.int .i64 (skp l 3), .int .i64 0]) ∧ Below w.heap.size w w' := by
  have hr' := Lib.hid hr
  have hln : Hid ((l.drop (lend l)).length = n - lend l) := by show _ = _; rw [List.length_drop, hn.out]
  clear hr
  go_enter Try.func19, Try.ntmps19
  go_wp2_with fail
  refine (sptc _ n c l _ hr'.out hn (by omega)).mono ?_
  rw [h1.out, h2.out]
  rintro e w0 ⟨rfl, q, rfl⟩
  go_wp2_with fail
  refine (slong_yes b o n c l _ (hr'.out.drewN q) hn (Nat.ne_of_lt hbg.out) hnc hc2 h128.out hyes.out).mono ?_
  rintro e w1 ⟨⟨B1, d1, B2, d2, B3, d3, rfl, -, -, k3, k4, k5, ⟨o3, rfl⟩⟩, hb1⟩
  have hb1 := (below_drewN (Below.refl _ _) q).trans hb1
  have hbg1 : Hid (b ≠ w1.heap.size) := Nat.ne_of_lt (Nat.lt_of_lt_of_le hbg.out hb1.size)
  have hR1 := Lib.hid (Rdr.new w1 (some ⟨b, o3, none⟩) (n - lend l) d3 0)
  have hr1 := Lib.hid (k3.alloc (.cells #[.slice (some ⟨b, o3, none⟩) (n - lend l) d3, .int .i64 0, .bool false] 74))
  have hB1 : Below w.heap.size w (w1.alloc (.cells #[.slice (some ⟨b, o3, none⟩) (n - lend l) d3, .int .i64 0, .bool false] 74)) := hb1.alloc hb1.size _
  clear k3
  go_wp2_with fail
  refine (num_u b o3 (n - lend l) d3 0 w1.heap.size (l.drop (lend l)) false _ hr1.out hln k4 k5 (by omega) hR1).mono ?_
  rintro e w2 ⟨v2, k2, bad2, rfl, hS2, hR2, hg2⟩
  have hr2 := Lib.hid (hr1.out.grown hg2 fun _ => sep_ne hbg1.out)
  have hB2 : Below w.heap.size w w2 := below_g1 hB1 hg2 hb1.size
  have hkk2 : k2 ≤ n - lend l := by have := hS2.2.1; rw [hln.out] at this; exact this
  have hv2 : 0 ≤ v2 := hS2.2.2.1
  have hS2 := Lib.hid hS2
  have hR2 := Lib.hid hR2
  clear hg2 hR1 hr1 hB1
  go_wp2_with fail
  refine (byt_u b o3 (n - lend l) d3 k2 w1.heap.size v2 (l.drop (lend l)) bad2 _ hr2.out hln k4 k5 hkk2 hv2 hR2 hbg1).mono ?_
  rintro e w3 ⟨A3, m3, c3, k3, bad3, rfl, hT3, -, hR3, hg3⟩
  have hr3 := Lib.hid (hr2.out.grown hg3 fun _ => sep_ne hbg1.out)
  have hB3 : Below w.heap.size w w3 := below_g1 hB2 hg3 hb1.size
  have hN3 := nxt_st hS2.out hT3
  have hkk3 : k3 ≤ n - lend l := by have := hN3.1; rw [hln.out] at this; exact this
  have hN3 := Lib.hid hN3.2
  have hR3 := Lib.hid hR3
  clear hT3 hS2 hg3 hR2 hr2 hB2
  have x2 := hR3.out.cell2
  cases bad3
  · have hq : skp l 3 = ((n : Int) - ((n - lend l : Nat) : Int)) + (k3 : Int) := by
      rcases hN3.out with ⟨-, -, h⟩ | ⟨h, -⟩
      · have := hn.out
        have := hyes.out
        simp only [skp, tail, if_neg (show ¬ l.length < lend l by omega), h, upto]
        simp
        omega
      · cases h
    have x1 := hR3.out.cell1
    have hq := Lib.hid hq
    clear hN3
    go_wp2
    go_ret2
    exact ⟨by rw [hq.out]; rfl, hB3⟩
  · have hq : skp l 3 = -1 := by
      rcases hN3.out with ⟨h, -⟩ | ⟨-, h⟩
      · cases h
      · rcases h with h | h
        · cases h
        · have := hn.out
          have := hyes.out
          simp only [skp, tail, if_neg (show ¬ l.length < lend l by omega), h, upto]
          simp
    have hq := Lib.hid hq
    clear hN3
    go_wp2
    go_ret2
    exact ⟨by rw [hq.out]; rfl, hB3⟩

set_option maxHeartbeats 2000000 in
theorem ssk_1 (b o n c : Nat) (l : List Int) (w : World) (hr : Rd w (some ⟨b, o, none⟩) l) (hn : Hid (l.length = n)) (hnc : n ≤ c) (hc2 : c ≤ 9223372036854775807) (hbg : Hid (b < w.heap.size)) (h128 : Hid (128 ≤ l.getD 0 0)) (hyes : Hid (lend l ≤ n)) (h1 : Hid ((spt l).1 = 1)) (h2 : Hid ((spt l).2 = 0)) (hx : lx l ≤ 20) (hy : ly l ≤ 20) :
    Calls Try.prog 19 #[.slice (some ⟨b, o, none⟩) n c] w fun e w' => e = .returned (.tuple #[.int .i64 (skp l 1), .int .i64 0]) ∧ Below w.heap.size w w' := by
  have hr' := Lib.hid hr
  have hln : Hid ((l.drop (lend l)).length = n - lend l) := by show _ = _; rw [List.length_drop, hn.out]
  clear hr
  go_enter Try.func19, Try.ntmps19
  go_wp2_with fail
  refine (sptc _ n c l _ hr'.out hn (by omega)).mono ?_
  rw [h1.out, h2.out]
  rintro e w0 ⟨rfl, q, rfl⟩
  go_wp2_with fail
  refine (slong_yes b o n c l _ (hr'.out.drewN q) hn (Nat.ne_of_lt hbg.out) hnc hc2 h128.out hyes.out).mono ?_
  rintro e w1 ⟨⟨B1, d1, B2, d2, B3, d3, rfl, -, -, k3, K4, K5, ⟨o3, rfl⟩⟩, hb1⟩
  have hb1 := (below_drewN (Below.refl _ _) q).trans hb1
  have hbg1 : Hid (b ≠ w1.heap.size) := Nat.ne_of_lt (Nat.lt_of_lt_of_le hbg.out hb1.size)
  have hR1 := Lib.hid (Rdr.new w1 (some ⟨b, o3, none⟩) (n - lend l) d3 0)
  have hr1 := Lib.hid (k3.alloc (.cells #[.slice (some ⟨b, o3, none⟩) (n - lend l) d3, .int .i64 0, .bool false] 74))
  have hB1 : Below w.heap.size w (w1.alloc (.cells #[.slice (some ⟨b, o3, none⟩) (n - lend l) d3, .int .i64 0, .bool false] 74)) := hb1.alloc hb1.size _
  clear k3
  go_wp2_with fail
  refine (num_u b o3 (n - lend l) d3 0 w1.heap.size (l.drop (lend l)) false _ hr1.out hln K4 K5 (by omega) hR1).mono ?_
  rintro e w2 ⟨v2, k2, bad2, rfl, hS2, hR2, hg2⟩
  have hr2 := Lib.hid (hr1.out.grown hg2 fun _ => sep_ne hbg1.out)
  have hB2 : Below w.heap.size w w2 := below_g1 hB1 hg2 hb1.size
  have hkk2 : k2 ≤ n - lend l := by have := hS2.2.1; rw [hln.out] at this; exact this
  have hv2 : 0 ≤ v2 := hS2.2.2.1
  have hS2 := Lib.hid hS2
  have hR2 := Lib.hid hR2
  clear hg2 hR1 hr1 hB1
  go_wp2_with fail
  refine (byt_u b o3 (n - lend l) d3 k2 w1.heap.size v2 (l.drop (lend l)) bad2 _ hr2.out hln K4 K5 hkk2 hv2 hR2 hbg1).mono ?_
  rintro e w3 ⟨A3, m3, c3, k3, bad3, rfl, hT3, -, hR3, hg3⟩
  have hr3 := Lib.hid (hr2.out.grown hg3 fun _ => sep_ne hbg1.out)
  have hB3 : Below w.heap.size w w3 := below_g1 hB2 hg3 hb1.size
  have hN3 := nxt_st hS2.out hT3
  have hkk3 : k3 ≤ n - lend l := by have := hN3.1; rw [hln.out] at this; exact this
  have hN3 := Lib.hid hN3.2
  have hR3 := Lib.hid hR3
  clear hT3 hS2 hg3 hR2 hr2 hB2
  go_wp2_with fail
  refine (num_u b o3 (n - lend l) d3 k3 w1.heap.size (l.drop (lend l)) bad3 _ hr3.out hln K4 K5 (by omega) hR3).mono ?_
  rintro e w4 ⟨v4, k4, bad4, rfl, hS4, hR4, hg4⟩
  have hr4 := Lib.hid (hr3.out.grown hg4 fun _ => sep_ne hbg1.out)
  have hB4 : Below w.heap.size w w4 := below_g1 hB3 hg4 hb1.size
  have hkk4 : k4 ≤ n - lend l := by have := hS4.2.1; rw [hln.out] at this; exact this
  have hv4 : 0 ≤ v4 := hS4.2.2.1
  have hS4 := Lib.hid hS4
  have hR4 := Lib.hid hR4
  clear hg4 hR3 hr3 hB3
  go_wp2_with fail
  refine (byt_u b o3 (n - lend l) d3 k4 w1.heap.size v4 (l.drop (lend l)) bad4 _ hr4.out hln K4 K5 hkk4 hv4 hR4 hbg1).mono ?_
  rintro e w5 ⟨A5, m5, c5, k5, bad5, rfl, hT5, -, hR5, hg5⟩
  have hr5 := Lib.hid (hr4.out.grown hg5 fun _ => sep_ne hbg1.out)
  have hB5 : Below w.heap.size w w5 := below_g1 hB4 hg5 hb1.size
  have hN5 := nxt_st hS4.out hT5
  have hkk5 : k5 ≤ n - lend l := by have := hN5.1; rw [hln.out] at this; exact this
  have hN5 := Lib.hid hN5.2
  have hR5 := Lib.hid hR5
  clear hT5 hS4 hg5 hR4 hr4 hB4
  have x2 := hR5.out.cell2
  cases bad5
  · have hq : skp l 1 = ((n : Int) - ((n - lend l : Nat) : Int)) + (k5 : Int) := by
      rcases hN5.out with ⟨-, h3, h⟩ | ⟨h, -⟩
      · rcases hN3.out with ⟨-, -, h'⟩ | ⟨h', -⟩
        · have := hn.out
          have := hyes.out
          simp only [skp, tail, if_neg (show ¬ l.length < lend l by omega), h', h, upto]
          simp
          omega
        · rw [h'] at h3; cases h3
      · cases h
    have x1 := hR5.out.cell1
    have hq := Lib.hid hq
    clear hN3 hN5
    go_wp2
    go_ret2
    exact ⟨by rw [hq.out]; rfl, hB5⟩
  · have hq : skp l 1 = -1 := by
      have := hn.out
      have := hyes.out
      rcases hN5.out with ⟨h, -⟩ | ⟨-, h⟩
      · cases h
      · rcases hN3.out with ⟨h1, -, h'⟩ | ⟨-, h'⟩
        · rcases h with h | h
          · rw [h] at h1; cases h1
          · simp only [skp, tail, if_neg (show ¬ l.length < lend l by omega), h', h, upto]
            simp
        · rcases h' with h' | h'
          · cases h'
          · simp only [skp, tail, if_neg (show ¬ l.length < lend l by omega), h', upto]
            simp
    have hq := Lib.hid hq
    clear hN3 hN5
    go_wp2
    go_ret2
    exact ⟨by rw [hq.out]; rfl, hB5⟩

end Go.Proofs.Ytdogepkfgobcfaa

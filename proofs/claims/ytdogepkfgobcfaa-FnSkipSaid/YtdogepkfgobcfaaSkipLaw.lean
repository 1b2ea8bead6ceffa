/- Contract of skipLongHeaderPacket, and the walk of FnSkip. Conditions: none. -/
import Derived.Test.YtdogepkfgobcfaaSkip
namespace Go.Proofs.Ytdogepkfgobcfaa
open Go.RowKit
set_option linter.unusedVariables false

def No1 (e : Ending) : Prop := e = .returned (.int .i64 (-1))

set_option maxHeartbeats 1000000 in
theorem isk_5 (A : Option Addr) (n c : Nat) (w : World) (h5 : n ≤ 5) :
    Calls Try.prog 74 #[.slice A n c] w fun e w' => No1 e ∧ Below w.heap.size w w' := by
  go_enter Try.func74, Try.ntmps74
  go_wp2
  go_ret
  exact ⟨rfl, Below.refl _ _⟩

set_option maxHeartbeats 1000000 in
theorem isk_x (b o n c x : Nat) (w : World) (h6 : 6 ≤ n) (hn2 : n ≤ 2147483647) (hx : x ≤ 255) (c5 : w.cell? ⟨b, o + 5, none⟩ = some (.int .u8 (x : Nat))) (hs : n ≤ 6 + x) :
    Calls Try.prog 74 #[.slice (some ⟨b, o, none⟩) n c] w fun e w' => No1 e ∧ Below w.heap.size w w' := by
  have h1 : decide ((n : Int) ≤ 5) = false := by simp; omega
  have h2 : decide ((n : Int) ≤ 5 + (1 + (x : Int))) = true := by simp; omega
  go_enter Try.func74, Try.ntmps74
  go_wp2
  go_ret
  exact ⟨rfl, Below.refl _ _⟩

set_option maxHeartbeats 1000000 in
theorem isk_y (b o n c x y : Nat) (w : World) (h6 : 7 + x ≤ n) (hn2 : n ≤ 2147483647) (hx : x ≤ 255) (hy : y ≤ 255) (c5 : w.cell? ⟨b, o + 5, none⟩ = some (.int .u8 (x : Nat))) (c6 : w.cell? ⟨b, o + (5 + (1 + x)), none⟩ = some (.int .u8 (y : Nat))) (hs : n ≤ 7 + x + y) :
    Calls Try.prog 74 #[.slice (some ⟨b, o, none⟩) n c] w fun e w' => No1 e ∧ Below w.heap.size w w' := by
  have h1 : decide ((n : Int) ≤ 5) = false := by simp; omega
  have h2 : decide ((n : Int) ≤ 5 + (1 + (x : Int))) = false := by simp; omega
  have h3 : decide ((n : Int) ≤ 5 + (1 + (x : Int)) + (1 + (y : Int))) = true := by simp; omega
  go_enter Try.func74, Try.ntmps74
  go_wp2
  go_ret
  exact ⟨rfl, Below.refl _ _⟩

/-- PART 2: with a length. -/
theorem skp_eq (l : List Int) (t : Int) (n P : Nat) (hn : l.length = n) (hP : lend l = P) (h : P < n) : skp l t = upto P (tail (l.drop P) t) := by
  subst hP
  unfold skp
  rw [if_neg (by omega)]
theorem nxt_none {l : List Int} {k : Nat} (h : rvb (l.drop k) = none) : nxt l k = none := by unfold nxt; rw [h]
theorem nxt_some {l : List Int} {k t : Nat} {bs : List Int} (h : rvb (l.drop k) = some (bs, t)) : nxt l k = some (k + t) := by unfold nxt; rw [h]

set_option maxHeartbeats 2000000 in
theorem isk_2 (b o n c x y : Nat) (l : List Int) (w : World) (hr : Rd w (some ⟨b, o, none⟩) l) (hn : Hid (l.length = n)) (hnc : n ≤ c) (hc2 : c ≤ 9223372036854775807) (hn2 : n ≤ 2147483647) (hx : x ≤ 255) (hy : y ≤ 255) (hX : Hid (lx l = x)) (hY : Hid (ly l = y)) (c5 : w.cell? ⟨b, o + 5, none⟩ = some (.int .u8 (x : Nat))) (c6 : w.cell? ⟨b, o + (5 + (1 + x)), none⟩ = some (.int .u8 (y : Nat))) (hs : 7 + x + y < n) (ht : Hid (ptype l = 2)) :
    Calls Try.prog 74 #[.slice (some ⟨b, o, none⟩) n c] w fun e w' => e = .returned (.int .i64 (skp l 2)) ∧ Below w.heap.size w w' := by
  have h1 : decide ((n : Int) ≤ 5) = false := by simp; omega
  have h2 : decide ((n : Int) ≤ 5 + (1 + (x : Int))) = false := by simp; omega
  have h3 : decide ((n : Int) ≤ 5 + (1 + (x : Int)) + (1 + (y : Int))) = false := by simp; omega
  have hcP : ¬ c = (5 + (1 + x) + (1 + y)) := by omega
  have hq := Lib.hid (skp_eq l 2 n (5 + (1 + x) + (1 + y)) hn.out (by unfold lend; rw [hX.out, hY.out]; omega) (by omega))
  have hrr := hr.cut_at (k := (5 + (1 + x) + (1 + y))) (cap := c) (by have := hn.out; omega)
  rw [if_neg hcP] at hrr
  have hrr := Lib.hid hrr
  have hln : Hid ((l.drop (5 + (1 + x) + (1 + y))).length = n - (5 + (1 + x) + (1 + y))) := by show _ = _; rw [List.length_drop, hn.out]
  have hr' := Lib.hid hr
  clear hr
  go_enter Try.func74, Try.ntmps74
  go_wp2_with fail
  refine (gpt _ n c l _ hr'.out hn (by omega)).mono ?_
  rw [ht.out]
  rintro e w1 ⟨rfl, q, rfl⟩
  go_wp2_with fail
  refine (cvb _ (n - (5 + (1 + x) + (1 + y))) (c - (5 + (1 + x) + (1 + y))) (l.drop (5 + (1 + x) + (1 + y))) _ (hrr.out.drewN q) hln (by omega) (by omega)).mono ?_
  rintro e w2 ⟨he, q2, rfl⟩
  rcases he with ⟨hv, rfl⟩ | ⟨bs, t, A, c2, hv, rfl, hrd, -, -, -⟩
  · have hq : Hid (skp l 2 = -1) := by
      show _ = _
      rw [hq.out]
      have : nxt (l.drop (5 + (1 + x) + (1 + y))) 0 = none := nxt_none hv
      simp [tail, this, upto]
    clear hv
    go_wp2
    go_ret
    exact ⟨by rw [hq.out]; rfl, below_drewN (Below.refl _ _) _⟩
  have hb := rvb_bd (hrr.out.1) hv
  have hb1 := hb.1
  have hb2 := hb.2.1
  have hb3 : t ≤ n - (5 + (1 + x) + (1 + y)) := by have := hb.2.2.1; rw [hln.out] at this; exact this
  have hq : Hid (skp l 2 = 5 + (1 + (x : Int)) + (1 + (y : Int)) + (t : Int)) := by
    show _ = _
    rw [hq.out]
    have : nxt (l.drop (5 + (1 + x) + (1 + y))) 0 = some (0 + t) := nxt_some hv
    simp [tail, this, upto]
    try omega
  have h4 : decide ((n : Int) < 5 + (1 + (x : Int)) + (1 + (y : Int)) + (t : Int)) = false := by simp; omega
  clear hb hv hrd
  go_wp2
  go_ret
  exact ⟨by rw [hq.out]; rfl, below_drewN (Below.refl _ _) _⟩

set_option maxHeartbeats 2000000 in
theorem isk_3 (b o n c x y : Nat) (l : List Int) (w : World) (hr : Rd w (some ⟨b, o, none⟩) l) (hn : Hid (l.length = n)) (hnc : n ≤ c) (hc2 : c ≤ 9223372036854775807) (hn2 : n ≤ 2147483647) (hx : x ≤ 255) (hy : y ≤ 255) (hX : Hid (lx l = x)) (hY : Hid (ly l = y)) (c5 : w.cell? ⟨b, o + 5, none⟩ = some (.int .u8 (x : Nat))) (c6 : w.cell? ⟨b, o + (5 + (1 + x)), none⟩ = some (.int .u8 (y : Nat))) (hs : 7 + x + y < n) (ht : Hid (ptype l = 3)) :
    Calls Try.prog 74 #[.slice (some ⟨b, o, none⟩) n c] w fun e w' => e = .returned (.int .i64 (skp l 3)) ∧ Below w.heap.size w w' := by
  have h1 : decide ((n : Int) ≤ 5) = false := by simp; omega
  have h2 : decide ((n : Int) ≤ 5 + (1 + (x : Int))) = false := by simp; omega
  have h3 : decide ((n : Int) ≤ 5 + (1 + (x : Int)) + (1 + (y : Int))) = false := by simp; omega
  have hcP : ¬ c = (5 + (1 + x) + (1 + y)) := by omega
  have hq := Lib.hid (skp_eq l 3 n (5 + (1 + x) + (1 + y)) hn.out (by unfold lend; rw [hX.out, hY.out]; omega) (by omega))
  have hrr := hr.cut_at (k := (5 + (1 + x) + (1 + y))) (cap := c) (by have := hn.out; omega)
  rw [if_neg hcP] at hrr
  have hrr := Lib.hid hrr
  have hln : Hid ((l.drop (5 + (1 + x) + (1 + y))).length = n - (5 + (1 + x) + (1 + y))) := by show _ = _; rw [List.length_drop, hn.out]
  have hr' := Lib.hid hr
  clear hr
  go_enter Try.func74, Try.ntmps74
  go_wp2_with fail
  refine (gpt _ n c l _ hr'.out hn (by omega)).mono ?_
  rw [ht.out]
  rintro e w1 ⟨rfl, q, rfl⟩
  go_wp2_with fail
  refine (cvb _ (n - (5 + (1 + x) + (1 + y))) (c - (5 + (1 + x) + (1 + y))) (l.drop (5 + (1 + x) + (1 + y))) _ (hrr.out.drewN q) hln (by omega) (by omega)).mono ?_
  rintro e w2 ⟨he, q2, rfl⟩
  rcases he with ⟨hv, rfl⟩ | ⟨bs, t, A, c2, hv, rfl, hrd, -, -, -⟩
  · have hq : Hid (skp l 3 = -1) := by
      show _ = _
      rw [hq.out]
      have : nxt (l.drop (5 + (1 + x) + (1 + y))) 0 = none := nxt_none hv
      simp [tail, this, upto]
    clear hv
    go_wp2
    go_ret
    exact ⟨by rw [hq.out]; rfl, below_drewN (Below.refl _ _) _⟩
  have hb := rvb_bd (hrr.out.1) hv
  have hb1 := hb.1
  have hb2 := hb.2.1
  have hb3 : t ≤ n - (5 + (1 + x) + (1 + y)) := by have := hb.2.2.1; rw [hln.out] at this; exact this
  have hq : Hid (skp l 3 = 5 + (1 + (x : Int)) + (1 + (y : Int)) + (t : Int)) := by
    show _ = _
    rw [hq.out]
    have : nxt (l.drop (5 + (1 + x) + (1 + y))) 0 = some (0 + t) := nxt_some hv
    simp [tail, this, upto]
    try omega
  have h4 : decide ((n : Int) < 5 + (1 + (x : Int)) + (1 + (y : Int)) + (t : Int)) = false := by simp; omega
  clear hb hv hrd
  go_wp2
  go_ret
  exact ⟨by rw [hq.out]; rfl, below_drewN (Below.refl _ _) _⟩

set_option maxHeartbeats 2000000 in
theorem isk_1 (b o n c x y : Nat) (l : List Int) (w : World) (hr : Rd w (some ⟨b, o, none⟩) l) (hn : Hid (l.length = n)) (hnc : n ≤ c) (hc2 : c ≤ 9223372036854775807) (hn2 : n ≤ 2147483647) (hx : x ≤ 255) (hy : y ≤ 255) (hX : Hid (lx l = x)) (hY : Hid (ly l = y)) (c5 : w.cell? ⟨b, o + 5, none⟩ = some (.int .u8 (x : Nat))) (c6 : w.cell? ⟨b, o + (5 + (1 + x)), none⟩ = some (.int .u8 (y : Nat))) (hs : 7 + x + y < n) (ht : Hid (ptype l = 1)) :
    Calls Try.prog 74 #[.slice (some ⟨b, o, none⟩) n c] w fun e w' => e = .returned (.int .i64 (skp l 1)) ∧ Below w.heap.size w w' := by
  have h1 : decide ((n : Int) ≤ 5) = false := by simp; omega
  have h2 : decide ((n : Int) ≤ 5 + (1 + (x : Int))) = false := by simp; omega
  have h3 : decide ((n : Int) ≤ 5 + (1 + (x : Int)) + (1 + (y : Int))) = false := by simp; omega
  have hcP : ¬ c = (5 + (1 + x) + (1 + y)) := by omega
  have hq := Lib.hid (skp_eq l 1 n (5 + (1 + x) + (1 + y)) hn.out (by unfold lend; rw [hX.out, hY.out]; omega) (by omega))
  have hrr := hr.cut_at (k := (5 + (1 + x) + (1 + y))) (cap := c) (by have := hn.out; omega)
  rw [if_neg hcP] at hrr
  have hrr := Lib.hid hrr
  have hln : Hid ((l.drop (5 + (1 + x) + (1 + y))).length = n - (5 + (1 + x) + (1 + y))) := by show _ = _; rw [List.length_drop, hn.out]
  have hr' := Lib.hid hr
  clear hr
  go_enter Try.func74, Try.ntmps74
  go_wp2_with fail
  refine (gpt _ n c l _ hr'.out hn (by omega)).mono ?_
  rw [ht.out]
  rintro e w1 ⟨rfl, q, rfl⟩
  go_wp2_with fail
  refine (cvb _ (n - (5 + (1 + x) + (1 + y))) (c - (5 + (1 + x) + (1 + y))) (l.drop (5 + (1 + x) + (1 + y))) _ (hrr.out.drewN q) hln (by omega) (by omega)).mono ?_
  rintro e w2 ⟨he, q2, rfl⟩
  rcases he with ⟨hv, rfl⟩ | ⟨bs, t, A, c2, hv, rfl, hrd, -, -, -⟩
  · have hq : Hid (skp l 1 = -1) := by
      show _ = _
      rw [hq.out]
      have : nxt (l.drop (5 + (1 + x) + (1 + y))) 0 = none := nxt_none hv
      simp [tail, this, upto]
    clear hv
    go_wp2
    go_ret
    exact ⟨by rw [hq.out]; rfl, below_drewN (Below.refl _ _) _⟩
  have hb := rvb_bd (hrr.out.1) hv
  have hb1 := hb.1
  have hb2 := hb.2.1
  have hb3 : t ≤ n - (5 + (1 + x) + (1 + y)) := by have := hb.2.2.1; rw [hln.out] at this; exact this
  have hcut := hr'.out.cut_at (k := (5 + (1 + x) + (1 + y) + t)) (cap := c) (by have := hn.out; omega)
  obtain ⟨Ak, hAk⟩ : ∃ Ak, (if c = (5 + (1 + x) + (1 + y) + t) then (some ⟨b, o, none⟩ : Option Addr) else some ⟨b, o + (5 + (1 + x) + (1 + y) + t), none⟩) = Ak := ⟨_, rfl⟩
  rw [hAk] at hcut
  have hcut := Lib.hid hcut
  have hlk : Hid ((l.drop (5 + (1 + x) + (1 + y) + t)).length = n - (5 + (1 + x) + (1 + y) + t)) := by show _ = _; rw [List.length_drop, hn.out]
  have hv := Lib.hid hv
  clear hb hrd
  go_wp2_with fail
  all_goals
    refine (cvb _ _ _ (l.drop (5 + (1 + x) + (1 + y) + t)) _ (hcut.out.drewN _) hlk (by omega) (by omega)).mono ?_
    rintro e w3 ⟨he, q3, rfl⟩
    have hnx : Hid (nxt (l.drop (5 + (1 + x) + (1 + y))) 0 = some t) := by
      have : nxt (l.drop (5 + (1 + x) + (1 + y))) 0 = some (0 + t) := nxt_some hv.out
      rw [Nat.zero_add] at this
      exact this
    have hdd : Hid ((l.drop (5 + (1 + x) + (1 + y))).drop t = l.drop (5 + (1 + x) + (1 + y) + t)) := by show _ = _; rw [List.drop_drop]
    rcases he with ⟨hv3, rfl⟩ | ⟨bs3, t3, A3, c3, hv3, rfl, hrd3, -, -, -⟩
    · have hq : Hid (skp l 1 = -1) := by
        show _ = _
        rw [hq.out]
        have h2 : nxt (l.drop (5 + (1 + x) + (1 + y))) t = none := nxt_none (by rw [hdd.out]; exact hv3)
        simp [tail, hnx.out, h2, upto]
      clear hv3
      go_wp2
      go_ret
      exact ⟨by rw [hq.out]; rfl, below_drewN (Below.refl _ _) _⟩
    have hb := rvb_bd (hcut.out.1) hv3
    have hb4 : t3 ≤ n - (5 + (1 + x) + (1 + y) + t) := by have := hb.2.2.1; rw [hlk.out] at this; exact this
    have hq : Hid (skp l 1 = 5 + (1 + (x : Int)) + (1 + (y : Int)) + (t : Int) + (t3 : Int)) := by
      show _ = _
      rw [hq.out]
      have h2 : nxt (l.drop (5 + (1 + x) + (1 + y))) t = some (t + t3) := nxt_some (by rw [hdd.out]; exact hv3)
      simp [tail, hnx.out, h2, upto]
      try omega
    have h4 : decide ((n : Int) < 5 + (1 + (x : Int)) + (1 + (y : Int)) + (t : Int) + (t3 : Int)) = false := by simp; omega
    clear hb hv3 hrd3
    go_wp2
    go_ret
    exact ⟨by rw [hq.out]; rfl, below_drewN (Below.refl _ _) _⟩


/-- PART 3: the law. -/
theorem spt_long {l : List Int} {t : Int} (h1 : (spt l).1 = t) (h2 : (spt l).2 = 0) (ht : t = 1 ∨ t = 2 ∨ t = 3) : 128 ≤ l.getD 0 0 ∧ 5 ≤ l.length := by
  match l, h1, h2 with
  | [], h1, _ => simp [spt] at h1; omega
  | x :: r, h1, h2 =>
    simp only [spt] at h1 h2
    split at h1
    · split at h1 <;> simp at h1 <;> omega
    · rename_i h128
      rw [if_neg h128] at h2
      refine ⟨by simp; omega, ?_⟩
      match r, h2 with
      | a :: b :: c :: d :: r', _ => simp
      | [], h2 => simp at h2
      | [_], h2 => simp at h2
      | [_, _], h2 => simp at h2
      | [_, _, _], h2 => simp at h2

theorem skp_short {l : List Int} {t : Int} (h : l.length ≤ lend l) : skp l t = -1 := by
  unfold skp
  split
  · rfl
  · have e : l.drop (lend l) = [] := List.drop_eq_nil_of_le h
    have e2 : nxt [] 0 = none := by simp [nxt, rvb, rv]
    rw [e]
    simp [tail, e2, upto]

theorem isk (b o n c : Nat) (l : List Int) (t : Int) (w : World) (hr : Rd w (some ⟨b, o, none⟩) l) (hn : Hid (l.length = n)) (hnc : n ≤ c) (hc2 : c ≤ 9223372036854775807) (hn2 : n ≤ 2147483647) (ht : Hid (ptype l = t)) (hh : t = 1 ∨ t = 2 ∨ t = 3) :
    Calls Try.prog 74 #[.slice (some ⟨b, o, none⟩) n c] w fun e w' => e = .returned (.int .i64 (skp l t)) ∧ Below w.heap.size w w' := by
  have hn' := hn.out
  have hX := lx_eq hr.1
  have hY := ly_eq hr.1
  by_cases h5 : n ≤ 5
  · rw [skp_short (by unfold lend; omega)]
    exact isk_5 _ n c w h5
  obtain ⟨b', o', e, hc⟩ := hr.2 (by omega)
  obtain ⟨rfl, rfl⟩ : b = b' ∧ o = o' := by simpa using e
  have c5 : w.cell? ⟨b, o + 5, none⟩ = some (.int .u8 (lx l : Nat)) := by rw [← hX.1]; exact hc 5 (by omega)
  by_cases h6 : n ≤ 6 + lx l
  · rw [skp_short (by unfold lend; omega)]
    exact isk_x b o n c _ w (by omega) hn2 hX.2 c5 h6
  have c6 : w.cell? ⟨b, o + (5 + (1 + lx l)), none⟩ = some (.int .u8 (ly l : Nat)) := by rw [← hY.1, ← show 5 + (1 + lx l) = 6 + lx l by omega]; exact hc _ (by omega)
  by_cases h7 : n ≤ 7 + lx l + ly l
  · rw [skp_short (by unfold lend; omega)]
    exact isk_y b o n c _ _ w (by omega) hn2 hX.2 hY.2 c5 c6 h7
  rcases hh with rfl | rfl | rfl
  · exact isk_1 b o n c _ _ l w hr hn hnc hc2 hn2 hX.2 hY.2 rfl rfl c5 c6 (by omega) ht
  · exact isk_2 b o n c _ _ l w hr hn hnc hc2 hn2 hX.2 hY.2 rfl rfl c5 c6 (by omega) ht
  · exact isk_3 b o n c _ _ l w hr hn hnc hc2 hn2 hX.2 hY.2 rfl rfl c5 c6 (by omega) ht

theorem ssk (b o n c : Nat) (l : List Int) (t : Int) (w : World) (hr : Rd w (some ⟨b, o, none⟩) l) (hn : Hid (l.length = n)) (hnc : n ≤ c) (hc2 : c ≤ 9223372036854775807) (hbg : Hid (b < w.heap.size)) (h128 : Hid (128 ≤ l.getD 0 0)) (h1 : Hid ((spt l).1 = t)) (h2 : Hid ((spt l).2 = 0)) (hh : t = 1 ∨ t = 2 ∨ t = 3) :
    Calls Try.prog 19 #[.slice (some ⟨b, o, none⟩) n c] w fun e w' => (e = .returned (.tuple #[.int .i64 0, .int .i64 2]) ∨ e = .returned (.tuple #[.int .i64 (skp l t), .int .i64 0])) ∧ Below w.heap.size w w' := by
  have hn' := hn.out
  by_cases hno : n < lend l
  · rw [skp_short (by omega)]
    exact (ssk_no b o n c l t w hr hn hnc hc2 (Nat.ne_of_lt hbg.out) h128 hno h1 h2 hh).mono fun e w' ⟨he, hb⟩ => ⟨.inr he, hb⟩
  by_cases hf : 20 < lx l ∨ lx l ≤ 20 ∧ 20 < ly l
  · exact (ssk_far b o n c l t w hr hn hnc hc2 (Nat.ne_of_lt hbg.out) h128 (show _ ≤ _ by omega) h1 h2 hh hf).mono fun e w' ⟨he, hb⟩ => ⟨.inl he, hb⟩
  rcases hh with rfl | rfl | rfl
  · exact (ssk_1 b o n c l w hr hn hnc hc2 hbg h128 (show _ ≤ _ by omega) h1 h2 (by omega) (by omega)).mono fun e w' ⟨he, hb⟩ => ⟨.inr he, hb⟩
  · exact (ssk_2 b o n c l w hr hn hnc hc2 hbg h128 (show _ ≤ _ by omega) h1 h2 (by omega) (by omega)).mono fun e w' ⟨he, hb⟩ => ⟨.inr he, hb⟩
  · exact (ssk_3 b o n c l w hr hn hnc hc2 hbg h128 (show _ ≤ _ by omega) h1 h2 (by omega) (by omega)).mono fun e w' ⟨he, hb⟩ => ⟨.inr he, hb⟩

set_option maxHeartbeats 1000000 in
theorem lsk_big (A : Option Addr) (n c : Nat) (w : World) (hn2 : n ≤ 9223372036854775807) (h : 2147483647 < n) :
    Calls Try.prog 5 #[.slice A n c] w fun e w' => e = .returned (.bool true) ∧ Below w.heap.size w w' := by
  go_enter Try.func5, Try.ntmps5
  go_wp2
  go_ret
  exact ⟨rfl, Below.refl _ _⟩

set_option maxHeartbeats 1000000 in
theorem lsk_open (A : Option Addr) (n c : Nat) (l : List Int) (t what : Int) (w : World) (hr : Rd w A l) (hn : Hid (l.length = n)) (hn2 : n ≤ 2147483647) (h1 : Hid ((spt l).1 = t)) (h2 : Hid ((spt l).2 = what)) (hh : Hid (what = 2 ∨ what = 0 ∧ (t = 0 ∨ t = 4 ∨ t = 5 ∨ t = 6))) :
    Calls Try.prog 5 #[.slice A n c] w fun e w' => e = .returned (.bool true) ∧ Below w.heap.size w w' := by
  have hr' := Lib.hid hr
  clear hr
  go_enter Try.func5, Try.ntmps5
  go_wp2_with fail
  refine (ssk_open A n c l t what _ hr'.out hn (by omega) h1 h2 hh.out).mono ?_
  rintro e w1 ⟨rfl, hb1⟩
  go_wp2
  go_ret
  exact ⟨rfl, hb1⟩

set_option maxHeartbeats 1000000 in
theorem lsk_known (b o n c : Nat) (l : List Int) (t S : Int) (w : World) (hr : Rd w (some ⟨b, o, none⟩) l) (hn : Hid (l.length = n)) (hnc : n ≤ c) (hc2 : c ≤ 9223372036854775807) (hn2 : n ≤ 2147483647) (hbg : Hid (b < w.heap.size)) (h128 : Hid (128 ≤ l.getD 0 0)) (h1 : Hid ((spt l).1 = t)) (h2 : Hid ((spt l).2 = 0)) (h3 : Hid (ptype l = t)) (hh : Hid (t = 1 ∨ t = 2 ∨ t = 3)) (hS : Hid (skp l t = S)) :
    Calls Try.prog 5 #[.slice (some ⟨b, o, none⟩) n c] w fun e w' => e = .returned (.bool true) ∧ Below w.heap.size w w' := by
  have hr' := Lib.hid hr
  clear hr
  go_enter Try.func5, Try.ntmps5
  go_wp2_with fail
  refine (ssk b o n c l t _ hr'.out hn hnc hc2 hbg h128 h1 h2 hh.out).mono ?_
  rw [hS.out]
  rintro e w1 ⟨rfl | rfl, hb1⟩
  · go_wp2
    go_ret
    exact ⟨rfl, hb1⟩
  · go_wp2_with (first | (go_at_call 20; go_in) | (go_at_call 52; go_in))
    refine (isk b o n c l t _ (hr'.out.below hb1) hn hnc hc2 hn2 h3 hh.out).mono ?_
    rw [hS.out]
    rintro e w2 ⟨rfl, hb2⟩
    go_wp2
    go_ret
    exact ⟨rfl, hb1.trans (hb2.mono hb1.size)⟩

theorem fnSkip_walk (A : Option Addr) (l : List Int) (c : Nat) (w : World) (h : ByteArg w A l c) :
    Calls Try.prog 5 #[.slice A l.length c] w fun e w' => e = .returned (.bool true) ∧ Below w.heap.size w w' := by
  have hr := h.rd
  have hle := h.le
  have hmax := h.max
  unfold maxLen at hmax
  by_cases ho : 2147483647 < l.length
  · exact lsk_big A _ c w (by omega) ho
  have hl := spt_law hr.1
  by_cases hh : (spt l).2 = 2 ∨ (spt l).2 = 0 ∧ ((spt l).1 = 0 ∨ (spt l).1 = 4 ∨ (spt l).1 = 5 ∨ (spt l).1 = 6)
  · exact lsk_open A _ c l _ _ w hr rfl (by omega) rfl rfl hh
  have h2 : (spt l).2 = 0 := by omega
  have h3 : (spt l).1 = ptype l := by omega
  have h4 : ptype l = 1 ∨ ptype l = 2 ∨ ptype l = 3 := by omega
  have h5 := spt_long h3 h2 h4
  obtain ⟨b, o, rfl, hc⟩ := hr.2 (by omega)
  have hbg := World.block_lt_of_cell? _ _ (hc 0 (by omega))
  exact lsk_known b o _ c l (ptype l) _ w hr rfl hle (by omega) (by omega) hbg h5.1 h3 h2 rfl h4 rfl

end Go.Proofs.Ytdogepkfgobcfaa

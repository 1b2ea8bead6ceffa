/- Contracts of a set's measures: how many ranges and numbers, the least and greatest number, the end, whether it is one range. Conditions: the slices read as ranges, as ops. -/
import Derived.Test.YtdogepkfgobcfaaRangeOps
import Derived.Test.YtdogepkfgobcfaaHasSet
namespace Go.Proofs.Ytdogepkfgobcfaa
open Go.RowKit
set_option linter.unusedVariables false

/-- How many numbers, as int64 reckons. -/
def szP (l : Rgs) : Int := l.foldl (fun a r => wrap64 (a + wrap64 (r.2 - r.1))) 0
theorem szP_take (l : Rgs) (k : Nat) (h : k < l.length) : szP (l.take (k + 1)) = wrap64 (szP (l.take k) + wrap64 (l[k].2 - l[k].1)) := by
  unfold szP
  rw [take_snoc h, List.foldl_append]
  rfl
theorem RdE.at0 {w : World} {b o : Nat} {l : Rgs} (h : RdE ER w (some ⟨b, o, none⟩) l) (i : Nat) (hi : i < l.length) : w.cell? ⟨b, o + i * 2, none⟩ = some (.int .i64 l[i].1) ∧ w.cell? ⟨b, o + i * 2 + 1, none⟩ = some (.int .i64 l[i].2) := by
  obtain ⟨b', o', e, hc⟩ := h (by omega)
  obtain ⟨rfl, rfl⟩ : b = b' ∧ o = o' := by simpa using e
  exact rg_cells rfl rfl hc i hi

set_option maxRecDepth 100000 in
set_option maxHeartbeats 1000000 in
theorem rsize (A : Option Addr) (n c : Nat) (l : Rgs) (w : World) (hr : RdE ER w A l) (hn : Hid (l.length = n)) (hn2 : n ≤ 1000) :
    Calls Try.prog 82 #[.slice A n c] w fun e w' => e = .returned (.int .i64 (szP l)) ∧ Below w.heap.size w w' := by
  have HR := Lib.hid hr
  clear hr
  go_enter Try.func82, Try.ntmps82
  go_wp2_with fail
  go_loopw [2, 7] (fun s i wr => ∃ (k : Nat) (x : Int), k ≤ n ∧ i = .int .i64 k ∧ s = .int .i64 x ∧ Hid (x = szP (l.take k)) ∧ Hid (Below w.heap.size w wr)) (fun _ i _ => n - (intOf i).toNat)
  case atStart => exact ⟨0, 0, by omega, rfl, rfl, rfl, Below.refl _ _⟩
  case round =>
    obtain ⟨k, x, hk, rfl, rfl, HX, HB⟩ := hrel
    by_cases hlt : k < n
    · have hlt' : k < l.length := by rw [hn.out]; exact hlt
      obtain ⟨b, o, rfl, hc⟩ := (HR.out.below HB.out) (by omega)
      obtain ⟨c0, c1⟩ := rg_cells rfl rfl hc k hlt'
      have hm := Lib.hid (szP_take l k hlt')
      obtain ⟨x0, hx0⟩ : ∃ x, x = l[k].1 := ⟨_, rfl⟩
      obtain ⟨x1, hx1⟩ : ∃ x, x = l[k].2 := ⟨_, rfl⟩
      rw [← hx0] at c0 hm
      rw [← hx1] at c1 hm
      rw [← HX.out] at hm
      have HB1 := Lib.hid ((HB.out.alloc HB.out.size (.cells #[.int .i64 x0, .int .i64 x1] 108)).alloc (by have := HB.out.size; simp; omega) (.cells #[.int .i64 x0, .int .i64 x1] 108))
      clear hc hx0 hx1 hlt'
      go_wp2
      go_roundw
      case rel => exact ⟨k + 1, wrap64 (x + wrap64 (x1 - x0)), by omega, by go_num, rfl, by show _ = _; rw [hm.out], HB1⟩
      case measure => simp [intOf]; omega
    · obtain rfl : k = n := by omega
      have he : Hid (x = szP l) := by show _ = _; rw [HX.out, List.take_of_length_le (by rw [hn.out]; exact Nat.le_refl _)]
      go_wp2
      go_ret
      exact ⟨by rw [← he.out]; rfl, HB.out⟩


set_option maxRecDepth 100000 in
set_option maxHeartbeats 1000000 in
theorem risr (A : Option Addr) (n c : Nat) (l : Rgs) (s e : Int) (w : World) (hr : RdE ER w A l) (hn : Hid (l.length = n)) (hn2 : n ≤ 1000) (hse : s < e) :
    Calls Try.prog 83 #[.slice A n c, .int .i64 s, .int .i64 e] w fun en w' => en = .returned (.bool (decide (l = [(s, e)]))) ∧ w = w' := by
  have HR := Lib.hid hr
  clear hr
  by_cases h0 : n = 0
  · subst h0
    have hl : l = [] := List.eq_nil_of_length_eq_zero hn.out
    have hd : Hid (decide (l = [(s, e)]) = false) := by show _ = _; rw [hl]; simp
    rw [hd.out]
    clear hl
    by_cases hs : s = 0
    · have hs2 : (s == 0) = true := by simpa using hs
      have he2 : (e == 0) = false := by simp; omega
      clear hs
      go_enter Try.func83, Try.ntmps83
      go_wp2
      go_ret
      exact ⟨rfl, rfl⟩
    · have hs2 : (s == 0) = false := by simpa using hs
      clear hs
      go_enter Try.func83, Try.ntmps83
      go_wp2
      go_ret
      exact ⟨rfl, rfl⟩
  by_cases h1 : n = 1
  · subst h1
    obtain ⟨b, o, rfl, hc⟩ := HR.out (by have := hn.out; omega)
    obtain ⟨c0, c1⟩ := rg_cells rfl rfl hc 0 (by have := hn.out; omega)
    rw [Nat.zero_mul, Nat.add_zero] at c0 c1
    have hd : Hid (∀ r, l[0]'(by have := hn.out; omega) = r → decide (l = [(s, e)]) = decide (r = (s, e))) := by
      rintro _ rfl
      have := hn.out
      match l, this with
      | [q], _ => simp
    obtain ⟨x0, hx0⟩ : ∃ x, x = (l[0]'(by have := hn.out; omega)).1 := ⟨_, rfl⟩
    obtain ⟨x1, hx1⟩ : ∃ x, x = (l[0]'(by have := hn.out; omega)).2 := ⟨_, rfl⟩
    have hd2 := hd.out (x0, x1) (Prod.ext hx0.symm hx1.symm)
    rw [← hx0] at c0
    rw [← hx1] at c1
    rw [hd2]
    clear hd hd2 hx0 hx1 hc
    by_cases a0 : x0 = s
    · have b0 : (x0 == s) = true := by simpa using a0
      by_cases a1 : x1 = e
      · have b1 : (x1 == e) = true := by simpa using a1
        have hd : Hid (decide ((x0, x1) = (s, e)) = true) := by show _ = _; simp [a0, a1]
        rw [hd.out]
        clear a0 a1
        go_enter Try.func83, Try.ntmps83
        go_wp2
        go_ret
        exact ⟨rfl, rfl⟩
      · have b1 : (x1 == e) = false := by simpa using a1
        have hd : Hid (decide ((x0, x1) = (s, e)) = false) := by show _ = _; simp [a1]
        rw [hd.out]
        clear a0 a1
        go_enter Try.func83, Try.ntmps83
        go_wp2
        go_ret
        exact ⟨rfl, rfl⟩
    · have b0 : (x0 == s) = false := by simpa using a0
      have hd : Hid (decide ((x0, x1) = (s, e)) = false) := by show _ = _; simp [a0]
      rw [hd.out]
      clear a0
      go_enter Try.func83, Try.ntmps83
      go_wp2
      go_ret
      exact ⟨rfl, rfl⟩
  · have hd : Hid (decide (l = [(s, e)]) = false) := by
      show _ = _
      have : ¬ l = [(s, e)] := fun h => by have := hn.out; rw [h] at this; simp at this; omega
      simpa using this
    rw [hd.out]
    have z0 : ((n : Int) == 0) = false := by simp; omega
    have z1 : ((n : Int) == 1) = false := by simp; omega
    have y0 : (n == 0) = false := by simp; omega
    have y1 : (n == 1) = false := by simp; omega
    go_enter Try.func83, Try.ntmps83
    go_wp2
    go_ret
    exact ⟨rfl, rfl⟩


set_option maxRecDepth 100000 in
set_option maxHeartbeats 1000000 in
theorem rmin (b o n c : Nat) (x : Int) (w : World) (hn : 1 ≤ n) (hn2 : n ≤ 1000) (hx : w.cell? ⟨b, o, none⟩ = some (.int .i64 x)) :
    Calls Try.prog 84 #[.slice (some ⟨b, o, none⟩) n c] w fun en w' => en = .returned (.int .i64 (x)) ∧ w = w' := by
  have z0 : ((n : Int) == 0) = false := by simp; omega
  have y0 : (n == 0) = false := by simp; omega
  go_enter Try.func84, Try.ntmps84
  go_wp2
  go_ret
  exact ⟨rfl, rfl⟩


set_option maxRecDepth 100000 in
set_option maxHeartbeats 1000000 in
theorem rmax (b o n c : Nat) (x : Int) (w : World) (hn : 1 ≤ n) (hn2 : n ≤ 1000) (hx : w.cell? ⟨b, o + (n - 1) * 2 + 1, none⟩ = some (.int .i64 x)) :
    Calls Try.prog 85 #[.slice (some ⟨b, o, none⟩) n c] w fun en w' => en = .returned (.int .i64 (wrap64 (x - 1))) ∧ w = w' := by
  have z0 : ((n : Int) == 0) = false := by simp; omega
  have y0 : (n == 0) = false := by simp; omega
  have e1 : (n : Int) - 1 = ((n - 1 : Nat) : Int) := by omega
  have e2 : n - 1 < n := by omega
  go_enter Try.func85, Try.ntmps85
  go_wp2
  go_ret
  exact ⟨rfl, rfl⟩


set_option maxRecDepth 100000 in
set_option maxHeartbeats 1000000 in
theorem rend (b o n c : Nat) (x : Int) (w : World) (hn : 1 ≤ n) (hn2 : n ≤ 1000) (hx : w.cell? ⟨b, o + (n - 1) * 2 + 1, none⟩ = some (.int .i64 x)) :
    Calls Try.prog 86 #[.slice (some ⟨b, o, none⟩) n c] w fun en w' => en = .returned (.int .i64 (x)) ∧ w = w' := by
  have z0 : ((n : Int) == 0) = false := by simp; omega
  have y0 : (n == 0) = false := by simp; omega
  have e1 : (n : Int) - 1 = ((n - 1 : Nat) : Int) := by omega
  have e2 : n - 1 < n := by omega
  go_enter Try.func86, Try.ntmps86
  go_wp2
  go_ret
  exact ⟨rfl, rfl⟩


set_option maxRecDepth 100000 in
set_option maxHeartbeats 1000000 in
theorem icount (A : Option Addr) (n c : Nat) (l : List Opr) (w : World) (hr : RdE EOp w A l) (hn : Hid (l.length = n)) (hn2 : n ≤ 200) (hok : Hid (OpsOk l)) :
    Calls Try.prog 32 #[.slice A n c] w fun e w' => e = .returned (.int .i64 ((setP l).length : Nat)) ∧ Below w.heap.size w w' := by
  have HR := Lib.hid hr
  clear hr
  go_enter Try.func32, Try.ntmps32
  go_wp2_with fail
  refine (iset A n c l w HR.out hn hn2 hok).mono ?_
  rintro e w1 ⟨A1, c1, rfl, ho1, hb1⟩
  obtain ⟨m, hLm⟩ : ∃ m, Hid ((setP l).length = m) := ⟨_, Lib.hid rfl⟩
  have hm : m ≤ 200 := by
    have := setP_len l l.length (Nat.le_refl _)
    rw [List.take_of_length_le (Nat.le_refl _), hLm.out, hn.out] at this
    omega
  rw [hLm.out] at ho1 ⊢
  have HR1 := Lib.hid (ho1.rdE.below' (Nat.le_refl _) ((Below.refl _ _).alloc (Nat.le_refl _) (.cells #[.slice A1 m c1] 82)))
  have HB1 := Lib.hid (hb1.alloc hb1.size (.cells #[.slice A1 m c1] 82))
  clear ho1 hb1
  go_wp2
  go_ret
  exact ⟨by rw [hLm.out]; rfl, HB1.out⟩


set_option maxRecDepth 100000 in
set_option maxHeartbeats 1000000 in
theorem itotal (A : Option Addr) (n c : Nat) (l : List Opr) (w : World) (hr : RdE EOp w A l) (hn : Hid (l.length = n)) (hn2 : n ≤ 200) (hok : Hid (OpsOk l)) :
    Calls Try.prog 33 #[.slice A n c] w fun e w' => e = .returned (.int .i64 (szP (setP l))) ∧ Below w.heap.size w w' := by
  have HR := Lib.hid hr
  clear hr
  go_enter Try.func33, Try.ntmps33
  go_wp2_with fail
  refine (iset A n c l w HR.out hn hn2 hok).mono ?_
  rintro e w1 ⟨A1, c1, rfl, ho1, hb1⟩
  obtain ⟨m, hLm⟩ : ∃ m, Hid ((setP l).length = m) := ⟨_, Lib.hid rfl⟩
  have hm : m ≤ 200 := by
    have := setP_len l l.length (Nat.le_refl _)
    rw [List.take_of_length_le (Nat.le_refl _), hLm.out, hn.out] at this
    omega
  rw [hLm.out] at ho1 ⊢
  have HR1 := Lib.hid (ho1.rdE.below' (Nat.le_refl _) ((Below.refl _ _).alloc (Nat.le_refl _) (.cells #[.slice A1 m c1] 82)))
  have HB1 := Lib.hid (hb1.alloc hb1.size (.cells #[.slice A1 m c1] 82))
  clear ho1 hb1
  go_wp2_with (go_at_call 61; go_in)
  refine (rsize A1 m c1 (setP l) _ HR1.out hLm (by omega)).mono ?_
  rintro e w2 ⟨rfl, hb2⟩
  have HB2 := Lib.hid (HB1.out.trans (hb2.mono HB1.out.size))
  clear hb2
  go_wp2
  go_ret
  exact ⟨rfl, HB2.out⟩


set_option maxRecDepth 100000 in
set_option maxHeartbeats 1000000 in
theorem iisr (A : Option Addr) (n c : Nat) (l : List Opr) (s en : Int) (w : World) (hr : RdE EOp w A l) (hn : Hid (l.length = n)) (hn2 : n ≤ 200) (hok : Hid (OpsOk l)) (hse : s < en) :
    Calls Try.prog 34 #[.slice A n c, .int .i64 s, .int .i64 en] w fun e w' => e = .returned (.bool (decide (setP l = [(s, en)]))) ∧ Below w.heap.size w w' := by
  have HR := Lib.hid hr
  clear hr
  go_enter Try.func34, Try.ntmps34
  go_wp2_with fail
  refine (iset A n c l w HR.out hn hn2 hok).mono ?_
  rintro e w1 ⟨A1, c1, rfl, ho1, hb1⟩
  obtain ⟨m, hLm⟩ : ∃ m, Hid ((setP l).length = m) := ⟨_, Lib.hid rfl⟩
  have hm : m ≤ 200 := by
    have := setP_len l l.length (Nat.le_refl _)
    rw [List.take_of_length_le (Nat.le_refl _), hLm.out, hn.out] at this
    omega
  rw [hLm.out] at ho1 ⊢
  have HR1 := Lib.hid (ho1.rdE.below' (Nat.le_refl _) ((Below.refl _ _).alloc (Nat.le_refl _) (.cells #[.slice A1 m c1] 82)))
  have HB1 := Lib.hid (hb1.alloc hb1.size (.cells #[.slice A1 m c1] 82))
  clear ho1 hb1
  go_wp2_with (go_at_call 62; go_in)
  refine (risr A1 m c1 (setP l) s en _ HR1.out hLm (by omega) hse).mono ?_
  rintro e w2 ⟨rfl, rfl⟩
  go_wp2
  go_ret
  exact ⟨rfl, HB1.out⟩


set_option maxRecDepth 100000 in
set_option maxHeartbeats 1000000 in
theorem imin (A : Option Addr) (n c : Nat) (l : List Opr) (x : Int) (w : World) (hr : RdE EOp w A l) (hn : Hid (l.length = n)) (hn2 : n ≤ 200) (hok : Hid (OpsOk l)) (hpos : 0 < (setP l).length) (hx : Hid (x = ((setP l)[0]'(by omega)).1)) :
    Calls Try.prog 35 #[.slice A n c] w fun e w' => e = .returned (.int .i64 (x)) ∧ Below w.heap.size w w' := by
  have HR := Lib.hid hr
  clear hr
  go_enter Try.func35, Try.ntmps35
  go_wp2_with fail
  refine (iset A n c l w HR.out hn hn2 hok).mono ?_
  rintro e w1 ⟨A1, c1, rfl, ho1, hb1⟩
  obtain ⟨m, hLm⟩ : ∃ m, Hid ((setP l).length = m) := ⟨_, Lib.hid rfl⟩
  have hm : m ≤ 200 := by
    have := setP_len l l.length (Nat.le_refl _)
    rw [List.take_of_length_le (Nat.le_refl _), hLm.out, hn.out] at this
    omega
  rw [hLm.out] at ho1 ⊢
  have HR1 := Lib.hid (ho1.rdE.below' (Nat.le_refl _) ((Below.refl _ _).alloc (Nat.le_refl _) (.cells #[.slice A1 m c1] 82)))
  have HB1 := Lib.hid (hb1.alloc hb1.size (.cells #[.slice A1 m c1] 82))
  clear ho1 hb1
  have hpos' : 0 < m := by rw [← hLm.out]; exact hpos
  obtain ⟨b, o, rfl, -⟩ := HR1.out hpos
  have hc := (show World.cell? _ ⟨b, o, none⟩ = some (.int .i64 x) from by have := (HR1.out.at0 0 hpos).1; rw [Nat.zero_mul, Nat.add_zero] at this; rw [hx.out]; exact this)
  have HC := Lib.hid hc
  clear hc
  go_wp2_with (go_at_call 63; go_in)
  refine (rmin b o m c1 x _ (by omega) (by omega) HC.out).mono ?_
  rintro e w2 ⟨rfl, rfl⟩
  go_wp2
  go_ret
  exact ⟨rfl, HB1.out⟩


set_option maxRecDepth 100000 in
set_option maxHeartbeats 1000000 in
theorem imax (A : Option Addr) (n c : Nat) (l : List Opr) (x : Int) (w : World) (hr : RdE EOp w A l) (hn : Hid (l.length = n)) (hn2 : n ≤ 200) (hok : Hid (OpsOk l)) (hpos : 0 < (setP l).length) (hx : Hid (x = ((setP l)[(setP l).length - 1]'(by omega)).2)) :
    Calls Try.prog 36 #[.slice A n c] w fun e w' => e = .returned (.int .i64 (wrap64 (x - 1))) ∧ Below w.heap.size w w' := by
  have HR := Lib.hid hr
  clear hr
  go_enter Try.func36, Try.ntmps36
  go_wp2_with fail
  refine (iset A n c l w HR.out hn hn2 hok).mono ?_
  rintro e w1 ⟨A1, c1, rfl, ho1, hb1⟩
  obtain ⟨m, hLm⟩ : ∃ m, Hid ((setP l).length = m) := ⟨_, Lib.hid rfl⟩
  have hm : m ≤ 200 := by
    have := setP_len l l.length (Nat.le_refl _)
    rw [List.take_of_length_le (Nat.le_refl _), hLm.out, hn.out] at this
    omega
  rw [hLm.out] at ho1 ⊢
  have HR1 := Lib.hid (ho1.rdE.below' (Nat.le_refl _) ((Below.refl _ _).alloc (Nat.le_refl _) (.cells #[.slice A1 m c1] 82)))
  have HB1 := Lib.hid (hb1.alloc hb1.size (.cells #[.slice A1 m c1] 82))
  clear ho1 hb1
  have hpos' : 0 < m := by rw [← hLm.out]; exact hpos
  obtain ⟨b, o, rfl, -⟩ := HR1.out hpos
  have hc := (show World.cell? _ ⟨b, o + (m - 1) * 2 + 1, none⟩ = some (.int .i64 x) from by have := (HR1.out.at0 (m - 1) (by rw [hLm.out]; omega)).2; rw [hx.out]; simp only [hLm.out]; exact this)
  have HC := Lib.hid hc
  clear hc
  go_wp2_with (go_at_call 64; go_in)
  refine (rmax b o m c1 x _ (by omega) (by omega) HC.out).mono ?_
  rintro e w2 ⟨rfl, rfl⟩
  go_wp2
  go_ret
  exact ⟨rfl, HB1.out⟩


set_option maxRecDepth 100000 in
set_option maxHeartbeats 1000000 in
theorem iend (A : Option Addr) (n c : Nat) (l : List Opr) (x : Int) (w : World) (hr : RdE EOp w A l) (hn : Hid (l.length = n)) (hn2 : n ≤ 200) (hok : Hid (OpsOk l)) (hpos : 0 < (setP l).length) (hx : Hid (x = ((setP l)[(setP l).length - 1]'(by omega)).2)) :
    Calls Try.prog 37 #[.slice A n c] w fun e w' => e = .returned (.int .i64 (x)) ∧ Below w.heap.size w w' := by
  have HR := Lib.hid hr
  clear hr
  go_enter Try.func37, Try.ntmps37
  go_wp2_with fail
  refine (iset A n c l w HR.out hn hn2 hok).mono ?_
  rintro e w1 ⟨A1, c1, rfl, ho1, hb1⟩
  obtain ⟨m, hLm⟩ : ∃ m, Hid ((setP l).length = m) := ⟨_, Lib.hid rfl⟩
  have hm : m ≤ 200 := by
    have := setP_len l l.length (Nat.le_refl _)
    rw [List.take_of_length_le (Nat.le_refl _), hLm.out, hn.out] at this
    omega
  rw [hLm.out] at ho1 ⊢
  have HR1 := Lib.hid (ho1.rdE.below' (Nat.le_refl _) ((Below.refl _ _).alloc (Nat.le_refl _) (.cells #[.slice A1 m c1] 82)))
  have HB1 := Lib.hid (hb1.alloc hb1.size (.cells #[.slice A1 m c1] 82))
  clear ho1 hb1
  have hpos' : 0 < m := by rw [← hLm.out]; exact hpos
  obtain ⟨b, o, rfl, -⟩ := HR1.out hpos
  have hc := (show World.cell? _ ⟨b, o + (m - 1) * 2 + 1, none⟩ = some (.int .i64 x) from by have := (HR1.out.at0 (m - 1) (by rw [hLm.out]; omega)).2; rw [hx.out]; simp only [hLm.out]; exact this)
  have HC := Lib.hid hc
  clear hc
  go_wp2_with (go_at_call 65; go_in)
  refine (rend b o m c1 x _ (by omega) (by omega) HC.out).mono ?_
  rintro e w2 ⟨rfl, rfl⟩
  go_wp2
  go_ret
  exact ⟨rfl, HB1.out⟩


end Go.Proofs.Ytdogepkfgobcfaa

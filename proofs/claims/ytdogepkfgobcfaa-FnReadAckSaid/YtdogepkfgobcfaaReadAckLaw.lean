/- The walk of FnReadAck. Conditions: none. -/
import Derived.Test.YtdogepkfgobcfaaAckImpl
import Derived.Test.YtdogepkfgobcfaaSpecAck
namespace Go.Proofs.Ytdogepkfgobcfaa
open Go.RowKit
set_option linter.unusedVariables false

theorem run_eql3_same (x0 x1 x2 : Int) (w : World) : (binOp .eql 56 (.agg #[.int .i64 x0, .int .i64 x1, .int .i64 x2]) (.agg #[.int .i64 x0, .int .i64 x1, .int .i64 x2])).run Try.prog w = .ok (.bool true) w := by
  rw [run_eql_struct]
  have := run_equalIn_i64s w 9998 56 3 Try.underlying56 [x0, x1, x2] [x0, x1, x2] rfl rfl
  simp only [i64s, List.map_cons, List.map_nil] at this
  rw [this]
  simp

set_option maxRecDepth 100000 in
set_option maxHeartbeats 2000000 in
theorem same_ (A4 A5 : Option Addr) (m c4 c5 : Nat) (L : Rgs) (w : World) (hr4 : RdE EPr w A4 L) (hr5 : RdE EPr w A5 L) (hm : Hid (L.length = m)) (hm2 : m ≤ 9223372036854775807) :
    Calls Try.prog 40 #[.slice A4 m c4, .slice A5 m c5] w fun e w' => e = .returned (.bool true) ∧ Hid (Below w.heap.size w w') := by
  have HR4 := Lib.hid hr4
  have HR5 := Lib.hid hr5
  have HB := Lib.hid (Below.refl w.heap.size w)
  clear hr4 hr5
  go_enter Try.func40, Try.ntmps40
  go_wp2_with fail
  go_loopw [13] (fun i wr => ∃ q : Nat, q ≤ m ∧ i = .int .i64 q ∧ Hid (RdE EPr wr A4 L) ∧ Hid (RdE EPr wr A5 L) ∧ Hid (Below w.heap.size w wr)) (fun i _ => m - (intOf i).toNat)
  case atStart => exact ⟨0, by omega, rfl, HR4, HR5, HB⟩
  case round =>
    clear HR4 HR5 HB
    obtain ⟨q, hq, rfl, HR4, HR5, HB⟩ := hrel
    by_cases hlt : q < m
    · have hlt' : q < L.length := by rw [hm.out]; exact hlt
      obtain ⟨b4, o4, rfl, hc4⟩ := HR4.out (by omega)
      obtain ⟨b5, o5, rfl, hc5⟩ := HR5.out (by omega)
      obtain ⟨d0, d1⟩ := rg_cells rfl rfl hc4 q hlt'
      obtain ⟨g0, g1⟩ := rg_cells rfl rfl hc5 q hlt'
      obtain ⟨x0, hx0⟩ : ∃ x, x = L[q].1 := ⟨_, rfl⟩
      obtain ⟨x1, hx1⟩ : ∃ x, x = L[q].2 := ⟨_, rfl⟩
      rw [← hx0] at d0 g0
      rw [← hx1] at d1 g1
      clear hc4 hc5 hx0 hx1 hlt'
      have hns := run_neq_same x0 x1
      go_wp2_with fail
      go_quiet (fail)
      clear hns
      go_wp2_with fail
      go_roundw
      case rel => exact ⟨q + 1, by omega, by go_num, HR4.out.drewN nq, HR5.out.drewN nq, below_drewN HB.out nq⟩
      case measure => simp [intOf]; omega
    · obtain rfl : q = m := by omega
      go_wp2
      go_ret
      exact ⟨rfl, HB⟩

set_option maxRecDepth 100000 in
set_option maxHeartbeats 1000000 in
theorem ra_big (A : Option Addr) (n c : Nat) (w : World) (hn : 2147483647 < n) (hn2 : n ≤ 9223372036854775807) :
    Calls Try.prog 11 #[.slice A n c] w fun e w' => e = .returned (.bool true) ∧ Below w.heap.size w w' := by
  go_enter Try.func11, Try.ntmps11
  go_wp2
  go_ret
  exact ⟨rfl, Below.refl _ _⟩

set_option maxRecDepth 100000 in
set_option maxHeartbeats 1000000 in
theorem sack0 (A : Option Addr) (c : Nat) (w : World) :
    Calls Try.prog 38 #[.slice A 0 c] w fun e w' => e = .returned (.tuple #[.agg #[.slice none 0 0, .int .i64 0, .int .i64 0, .int .i64 0, .int .i64 0, .int .i64 0], .int .i64 0, .int .i64 2]) ∧ Below w.heap.size w w' := by
  go_enter Try.func38, Try.ntmps38
  go_wp2_with fail
  refine bodyPost_ret (v := .tuple #[.agg #[.slice none 0 0, .int .i64 0, .int .i64 0, .int .i64 0, .int .i64 0, .int .i64 0], .int .i64 0, .int .i64 2]) (by simp [results, Try.results38, go_sem]) rfl ?_
  exact ⟨rfl, (Below.refl _ _).alloc (Nat.le_refl _) _⟩

set_option maxRecDepth 100000 in
set_option maxHeartbeats 1000000 in
theorem sack1 (b o n c : Nat) (x : Int) (w : World) (hb : b < w.heap.size) (h1 : 1 ≤ n) (hc : w.cell? ⟨b, o, none⟩ = some (.int .u8 x)) (h2 : x ≠ 2) (h3 : x ≠ 3) :
    Calls Try.prog 38 #[.slice (some ⟨b, o, none⟩) n c] w fun e w' => e = .returned (.tuple #[.agg #[.slice none 0 0, .int .i64 0, .int .i64 0, .int .i64 0, .int .i64 0, .int .i64 0], .int .i64 0, .int .i64 2]) ∧ Below w.heap.size w w' := by
  have hne : ((n : Int) == 0) = false := by simp; omega
  have hp0 : (0 : Int) < (n : Int) := by omega
  have hx2 : (x != 2) = true := by simp [h2]
  have hx3 : (x != 3) = true := by simp [h3]
  go_enter Try.func38, Try.ntmps38
  go_wp2_with fail
  refine bodyPost_ret (v := .tuple #[.agg #[.slice none 0 0, .int .i64 0, .int .i64 0, .int .i64 0, .int .i64 0, .int .i64 0], .int .i64 0, .int .i64 2]) (by simp [results, Try.results38, go_sem]) rfl ?_
  exact ⟨rfl, (Below.refl _ _).alloc (Nat.le_refl _) _⟩

set_option maxRecDepth 100000 in
set_option maxHeartbeats 1000000 in
theorem ra_none (A : Option Addr) (c : Nat) (w : World) :
    Calls Try.prog 11 #[.slice A 0 c] w fun e w' => e = .returned (.bool true) ∧ Below w.heap.size w w' := by
  go_enter Try.func11, Try.ntmps11
  go_wp2_with fail
  refine (sack0 A c w).mono ?_
  rintro e w1 ⟨rfl, hb⟩
  have HB := Lib.hid hb
  clear hb
  go_wp2_with fail
  go_ret
  exact ⟨rfl, HB.out.alloc HB.out.size _⟩

set_option maxRecDepth 100000 in
set_option maxHeartbeats 1000000 in
theorem ra_open (b o n c : Nat) (x : Int) (w : World) (hb : b < w.heap.size) (h1 : 1 ≤ n) (hn2 : n ≤ 2147483647) (hc : w.cell? ⟨b, o, none⟩ = some (.int .u8 x)) (h2 : x ≠ 2) (h3 : x ≠ 3) :
    Calls Try.prog 11 #[.slice (some ⟨b, o, none⟩) n c] w fun e w' => e = .returned (.bool true) ∧ Below w.heap.size w w' := by
  go_enter Try.func11, Try.ntmps11
  go_wp2_with fail
  refine (sack1 b o n c x w hb h1 hc h2 h3).mono ?_
  rintro e w1 ⟨rfl, hb'⟩
  have HB := Lib.hid hb'
  clear hb'
  go_wp2_with fail
  go_ret
  exact ⟨rfl, HB.out.alloc HB.out.size _⟩

set_option maxRecDepth 100000 in
set_option maxHeartbeats 2000000 in
theorem ra_in (b o n c : Nat) (l : List Int) (w : World) (hr : Rd w (some ⟨b, o, none⟩) l) (hn : Hid (l.length = n)) (hnc : n ≤ c) (hc2 : c ≤ 9223372036854775807) (h1 : 1 ≤ n) (hn2 : n ≤ 2147483647) (hb : b < w.heap.size) (x : Int) (hx : Hid (l.getD 0 0 = x)) (hx0 : 0 ≤ x) (hx1 : x ≤ 255) (h23 : Hid (x = 2 ∨ x = 3)) :
    Calls Try.prog 11 #[.slice (some ⟨b, o, none⟩) n c] w fun e w' => e = .returned (.bool true) ∧ Below w.heap.size w w' := by
  have HS : Hid (Calls Try.prog 38 #[.slice (some ⟨b, o, none⟩) n c] w fun e w' => SAckEnd w l e w') := by
    rcases h23.out with h | h
    · exact sack2 b o n c l w hr hn hnc hc2 h1 hn2 hb (by show _ = _; rw [hx.out, h])
    · exact sack3 b o n c l w hr hn hnc hc2 h1 hn2 hb (by show _ = _; rw [hx.out, h])
  have HR := Lib.hid hr
  clear hr
  go_enter Try.func11, Try.ntmps11
  go_wp2_with fail
  refine HS.out.mono ?_
  rintro e w1 ⟨hB, ⟨hp, As, ms, cs, a1, a2, a3, a4, a5, nn, rfl⟩ | ⟨r, A1, c1, hp, rfl, ho⟩⟩
  · have HB := Lib.hid hB
    have HP := Lib.hid hp
    have HR2 := Lib.hid ((HR.out.below hB).alloc (.cells #[.slice As ms cs, .int .i64 a1, .int .i64 a2, .int .i64 a3, .int .i64 a4, .int .i64 a5] 58 (0, 0)))
    clear hB hp
    by_cases h64 : n ≤ 65536
    · go_wp2_with fail
      refine (iack b o n c l _ HR2.out hn hnc hc2 h1 hn2 (by have := HB.out.size; simp; omega) x hx hx0 hx1).mono ?_
      rintro e w2 ⟨hB2, ⟨-, A, m, c1, e0, e1, e2, a, b', rfl⟩ | ⟨r, A, c1, hp, rfl, ho⟩⟩
      · have HB2 := Lib.hid (((HB.out.alloc HB.out.size _).trans (hB2.mono (by have := HB.out.size; simp; omega))))
        clear hB2
        go_wp2_with fail
        go_ret
        exact ⟨rfl, HB2.out.alloc HB2.out.size _⟩
      · rw [HP.out] at hp
        cases hp
    · go_wp2_with fail
      go_ret
      exact ⟨rfl, HB.out.alloc HB.out.size _⟩
  · obtain ⟨rs, v1, v2, x0, x1, x2, kk⟩ := r
    have HB := Lib.hid hB
    have HP := Lib.hid hp
    have HO := Lib.hid ho
    have HR2 := Lib.hid ((HR.out.below hB).alloc (.cells #[.slice A1 rs.length c1, .int .i64 v1, .int .i64 v2, .int .i64 x0, .int .i64 x1, .int .i64 x2] 58 (0, 0)))
    clear hB hp ho
    by_cases h64 : n ≤ 65536
    · go_wp2_with fail
      refine (iack b o n c l _ HR2.out hn hnc hc2 h1 hn2 (by have := HB.out.size; simp; omega) x hx hx0 hx1).mono ?_
      rintro e w2 ⟨hB2, ⟨hp, A, m, c1, e0, e1, e2, a, b', rfl⟩ | ⟨r, A, c2, hp, rfl, ho⟩⟩
      · rw [HP.out] at hp
        cases hp
      · rw [HP.out] at hp
        cases hp
        have hsz : (w1.alloc (.cells #[.slice A1 rs.length c1, .int .i64 v1, .int .i64 v2, .int .i64 x0, .int .i64 x1, .int .i64 x2] 58 (0, 0))).heap.size = w1.heap.size + 1 := by simp
        have q2 := (hB2.block w1.heap.size (by rw [hsz]; omega)).trans (heap_alloc_new w1 _)
        have hlt := (Array.getElem?_eq_some_iff.1 q2).1
        have q3 := (heap_alloc_old w2 (.cells #[.int .i64 x0, .int .i64 x1, .int .i64 x2] 56 (0, 0)) hlt).trans q2
        have hlen : rs.length ≤ 9223372036854775807 := by
          obtain ⟨_, _, _, _, k1, k2⟩ := ho.shape
          exact Nat.le_trans k1 (Nat.le_trans k2 (by decide))
        have HR4 := Lib.hid (ho.alloc (.cells #[.int .i64 x0, .int .i64 x1, .int .i64 x2] 56 (0, 0))).rdE
        have HR5 := Lib.hid ((HO.out.alloc (.cells #[.slice A1 rs.length c1, .int .i64 v1, .int .i64 v2, .int .i64 x0, .int .i64 x1, .int .i64 x2] 58 (0, 0))).rdE.below hB2 |>.below' (Nat.le_refl _) ((Below.refl _ _).alloc (Nat.le_refl _) (.cells #[.int .i64 x0, .int .i64 x1, .int .i64 x2] 56 (0, 0))))
        have HB2 := Lib.hid (((HB.out.alloc HB.out.size (.cells #[.slice A1 rs.length c1, .int .i64 v1, .int .i64 v2, .int .i64 x0, .int .i64 x1, .int .i64 x2] 58 (0, 0))).trans (hB2.mono (by have := HB.out.size; rw [hsz]; omega))))
        have d0 := cell_of_row _ _ 0 _ _ (0, 0) q3
        have d1 := cell_of_row _ _ 1 _ _ (0, 0) q3
        have d2 := cell_of_row _ _ 2 _ _ (0, 0) q3
        have d3 := cell_of_row _ _ 3 _ _ (0, 0) q3
        have d4 := cell_of_row _ _ 4 _ _ (0, 0) q3
        have d5 := cell_of_row _ _ 5 _ _ (0, 0) q3
        simp only [List.getElem?_toArray, List.getElem?_cons_succ, List.getElem?_cons_zero] at d0 d1 d2 d3 d4 d5
        have hes := run_eql3_same x0 x1 x2
        have hne : w1.heap.size < w2.heap.size := hlt
        clear hB2 ho q2 q3 hsz hlt
        go_wp2_with (go_at_call 40; refine (same_ _ _ rs.length _ _ rs _ HR4.out HR5.out rfl hlen).mono ?_; rintro e w4 ⟨rfl, HB4⟩)
        go_ret
        exact ⟨rfl, (HB2.out.alloc HB2.out.size _).trans (HB4.out.mono (by have := HB2.out.size; simp; omega))⟩
    · go_wp2_with fail
      go_ret
      exact ⟨rfl, HB.out.alloc HB.out.size _⟩

theorem fnReadAck_walk (A : Option Addr) (l : List Int) (c : Nat) (w : World) (h : ByteArg w A l c) :
    Calls Try.prog 11 #[.slice A l.length c] w fun e w' => e = .returned (.bool true) ∧ Below w.heap.size w w' := by
  have hr := h.rd
  have hle := h.le
  have hmax := h.max
  unfold maxLen at hmax
  by_cases ho : 2147483647 < l.length
  · exact ra_big A _ c w ho (by omega)
  by_cases h0 : l.length = 0
  · rw [h0]
    exact ra_none A c w
  obtain ⟨b, o, rfl, hc⟩ := hr.2 (by omega)
  have c0 : w.cell? ⟨b, o, none⟩ = some (.int .u8 (l.getD 0 0)) := by simpa using hc 0 (by omega)
  have hx := hr.1.getD 0
  have hb : b < w.heap.size := by
    refine Nat.lt_of_not_le fun hge => ?_
    rw [World.cell?, Array.getElem?_eq_none hge] at c0
    simp at c0
  by_cases h23 : l.getD 0 0 = 2 ∨ l.getD 0 0 = 3
  · exact ra_in b o _ c l w hr rfl hle hmax (by omega) (by omega) hb _ rfl hx.1 (by omega) h23
  · exact ra_open b o _ c _ w hb (by omega) (by omega) c0 (fun e => h23 (.inl e)) (fun e => h23 (.inr e))

end Go.Proofs.Ytdogepkfgobcfaa

/- The walk of FnAckIsWritten. Conditions: none. -/
import Derived.Test.YtdogepkfgobcfaaPutAck
import Derived.Test.YtdogepkfgobcfaaSpecPut
import Derived.Test.YtdogepkfgobcfaaEqual
import Derived.Test.YtdogepkfgobcfaaFramePairs
namespace Go.Proofs.Ytdogepkfgobcfaa
open Go.RowKit
set_option linter.unusedVariables false

set_option maxRecDepth 100000 in
set_option maxHeartbeats 1000000 in
theorem aiw_big (A : Option Addr) (n c : Nat) (d e0 e1 e2 : Int) (w : World) (hn : 2147483647 < n) (hn2 : n ≤ 9223372036854775807) :
    Calls Try.prog 12 #[.slice A n c, .int .i64 d, .agg #[.int .i64 e0, .int .i64 e1, .int .i64 e2]] w fun e w' => e = .returned (.bool true) ∧ Below w.heap.size w w' := by
  go_enter Try.func12, Try.ntmps12
  go_wp2
  go_ret
  exact ⟨rfl, (Below.refl _ _).alloc (Nat.le_refl _) _⟩

set_option maxRecDepth 100000 in
set_option maxHeartbeats 2000000 in
theorem aiw_in (A : Option Addr) (n c : Nat) (L : Rgs) (d e0 e1 e2 : Int) (w : World) (hr : RdE EPr w A L) (hn : Hid (L.length = n)) (hn2 : n ≤ 2147483647) :
    Calls Try.prog 12 #[.slice A n c, .int .i64 d, .agg #[.int .i64 e0, .int .i64 e1, .int .i64 e2]] w fun e w' => e = .returned (.bool true) ∧ Below w.heap.size w w' := by
  obtain ⟨W0, hW0⟩ : ∃ W0, Hid (w.alloc (.cells #[.int .i64 e0, .int .i64 e1, .int .i64 e2] 56 (0, 0)) = W0) := ⟨_, Lib.hid rfl⟩
  have HQ : Hid (W0.heap[w.heap.size]? = some (.cells #[.int .i64 e0, .int .i64 e1, .int .i64 e2] 56 (0, 0))) := by show _ = _; rw [← hW0.out]; exact heap_alloc_new w _
  have HR : Hid (RdE EPr W0 A L) := by show RdE _ _ _ _; rw [← hW0.out]; exact hr.below ((Below.refl _ _).alloc (Nat.le_refl _) _)
  have HB0 : Hid (Below w.heap.size w W0) := by show Below _ _ _; rw [← hW0.out]; exact (Below.refl _ _).alloc (Nat.le_refl _) _
  have HZ : Hid (w.heap.size < W0.heap.size) := by show _ < _; rw [← hW0.out]; simp
  clear hr
  go_enter Try.func12, Try.ntmps12
  go_wp2_with fail
  rw [hW0.out]
  refine (acked_ A n c L d e0 e1 e2 W0 HR.out hn hn2).mono ?_
  rintro e w1 ⟨ok, rfl, H1⟩
  obtain ⟨hok, hb1⟩ := H1.out
  have HK := Lib.hid hok
  have HB1 := Lib.hid (HB0.out.trans (hb1.mono HB0.out.size))
  have HR1 := Lib.hid (HR.out.below hb1)
  have Q1 := Lib.hid ((hb1.block w.heap.size HZ.out).trans HQ.out)
  have HS1 : Hid (W0.heap.size ≤ w1.heap.size) := hb1.size
  clear H1 hok hb1
  cases ok
  · go_wp2_with fail
    go_ret
    exact ⟨rfl, HB1.out⟩
  have HF := Lib.hid (HK.out rfl)
  have q0 : w1.cell? ⟨w.heap.size, 0, none⟩ = some (.int .i64 e0) := by rw [cell_of_row _ _ 0 _ _ (0, 0) Q1.out]; rfl
  have q1 : w1.cell? ⟨w.heap.size, 1, none⟩ = some (.int .i64 e1) := by rw [cell_of_row _ _ 1 _ _ (0, 0) Q1.out]; rfl
  have q2 : w1.cell? ⟨w.heap.size, 2, none⟩ = some (.int .i64 e2) := by rw [cell_of_row _ _ 2 _ _ (0, 0) Q1.out]; rfl
  go_wp2_with fail
  refine (iput A n c L d e0 e1 e2 10000 w1 HR1.out hn HF.out (by omega)).mono ?_
  rintro e w2 ⟨hb2, h⟩
  rcases h with ⟨h100, -⟩ | ⟨k, A2, N, c2, hk, rfl, ho, hN, hle, hfull⟩
  · omega
  have hk1 := hfull (by omega)
  have htk : (below_ L).take k = below_ L := List.take_of_length_le (by rw [below_len]; omega)
  rw [htk] at ho hN
  have HO := Lib.hid ho
  have HN := Lib.hid hN
  have HB2 := Lib.hid (HB1.out.trans (hb2.mono (HB1.out.size)))
  have HR2 := Lib.hid (HR1.out.below hb2)
  have Q2 := Lib.hid ((hb2.block w.heap.size (Nat.lt_of_lt_of_le HZ.out HS1.out)).trans Q1.out)
  have HS2 : Hid (w1.heap.size ≤ w2.heap.size) := hb2.size
  clear ho hN hb2 hfull hk1 htk q0 q1 q2 hk
  have q0 : w2.cell? ⟨w.heap.size, 0, none⟩ = some (.int .i64 e0) := by rw [cell_of_row _ _ 0 _ _ (0, 0) Q2.out]; rfl
  have q1 : w2.cell? ⟨w.heap.size, 1, none⟩ = some (.int .i64 e1) := by rw [cell_of_row _ _ 1 _ _ (0, 0) Q2.out]; rfl
  have q2 : w2.cell? ⟨w.heap.size, 2, none⟩ = some (.int .i64 e2) := by rw [cell_of_row _ _ 2 _ _ (0, 0) Q2.out]; rfl
  go_wp2_with fail
  refine (sput A n c L d e0 e1 e2 w2 HR2.out hn HF.out).mono ?_
  rintro e w3 ⟨s3, rfl, ho3, hb3⟩
  obtain ⟨A3, c3, rfl, hr3, hl3, hm3, hz3⟩ := ho3.rd
  have HR3 := Lib.hid hr3
  rw [HN.out]
  have HB3 := Lib.hid (HB2.out.trans (hb3.mono HB2.out.size))
  have HA2 := Lib.hid (Rd.of_own (HO.out.below hb3))
  clear ho3 hb3 hr3 hl3 hm3 hz3 q0 q1 q2
  go_wp2_with fail
  refine (beq A2 A3 N c2 N c3 _ w3 HA2.out HR3.out HN HN).mono ?_
  rintro e w4 ⟨rfl, rfl⟩
  go_wp2_with fail
  go_ret
  exact ⟨rfl, HB3.out⟩

theorem fnAckIsWritten_walk (A : Option Addr) (l : Rgs) (c : Nat) (d : Int) (hd : -9223372036854775808 ≤ d ∧ d ≤ 9223372036854775807) (x y z : Int) (w : World) (h : PairsArg w A l c) (hx : I64 x) (hy : I64 y) (hz : I64 z) :
    Calls Try.prog 12 #[.slice A l.length c, .int .i64 d, .agg #[.int .i64 x, .int .i64 y, .int .i64 z]] w fun e w' => e = .returned (.bool true) ∧ Below w.heap.size w w' := by
  have h1 := h.le
  have h2 := h.max
  unfold maxLen at h2
  by_cases hb : 2147483647 < l.length
  · exact aiw_big A _ c d x y z w hb (by omega)
  · exact aiw_in A _ c l d x y z w h.rd rfl (by omega)

end Go.Proofs.Ytdogepkfgobcfaa

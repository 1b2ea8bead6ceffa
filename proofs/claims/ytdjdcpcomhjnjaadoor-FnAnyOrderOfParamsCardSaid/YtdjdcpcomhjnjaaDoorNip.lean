/- Contracts of netip's functions. Conditions: the variables z0, z4, z6noz read as told. -/
import Derived.Test.YtdjdcpcomhjnjaaDoorNipA
import Derived.Deep.RegionHeld3
import Derived.Deep.RegionLaw
import Derived.Deep.CutRange
namespace Go.Proofs.YtdjdcpcomhjnjaaDoor
open Go.RowKit
set_option linter.unusedVariables false
set_option linter.unusedSimpArgs false

set_option maxRecDepth 100000 in
set_option maxHeartbeats 2000000 in
theorem af4 (a4 a6 : Addr) (x0 x1 x2 x3 : Int) (hx0 : 0 ≤ x0 ∧ x0 ≤ 255) (hx1 : 0 ≤ x1 ∧ x1 ≤ 255) (hx2 : 0 ≤ x2 ∧ x2 ≤ 255) (hx3 : 0 ≤ x3 ∧ x3 ≤ 255) (w : World) (hg : Gl w a4 a6) :
    Calls Tryd.prog 41 #[.agg #[.int .u8 x0, .int .u8 x1, .int .u8 x2, .int .u8 x3]] w fun e w' => e = .returned (.agg #[.int .u64 0, .int .u64 (281470681743360 + (((x0 * 256 + x1) * 256 + x2) * 256 + x3)), .pointer (some a4)]) ∧ Hid (Below w.heap.size w w') := by
  obtain ⟨hx0l, hx0u⟩ := hx0
  obtain ⟨hx1l, hx1u⟩ := hx1
  obtain ⟨hx2l, hx2u⟩ := hx2
  obtain ⟨hx3l, hx3u⟩ := hx3
  have q24 : bits .or .u64 (281470681743360) (x0 * 16777216) = 281470681743360 + x0 * 16777216 := or_u64 32 (281470681743360) _ (by omega) (by omega) (by omega) (by omega) (by omega) (by omega)
  have q16 : bits .or .u64 (281470681743360 + x0 * 16777216) (x1 * 65536) = 281470681743360 + x0 * 16777216 + x1 * 65536 := or_u64 24 (281470681743360 + x0 * 16777216) _ (by omega) (by omega) (by omega) (by omega) (by omega) (by omega)
  have q8 : bits .or .u64 (281470681743360 + x0 * 16777216 + x1 * 65536) (x2 * 256) = 281470681743360 + x0 * 16777216 + x1 * 65536 + x2 * 256 := or_u64 16 (281470681743360 + x0 * 16777216 + x1 * 65536) _ (by omega) (by omega) (by omega) (by omega) (by omega) (by omega)
  have q0 : bits .or .u64 (281470681743360 + x0 * 16777216 + x1 * 65536 + x2 * 256) (x3) = 281470681743360 + x0 * 16777216 + x1 * 65536 + x2 * 256 + x3 := or_u64 8 (281470681743360 + x0 * 16777216 + x1 * 65536 + x2 * 256) _ (by omega) (by omega) (by omega) (by omega) (by omega) (by omega)
  have e : 281470681743360 + (((x0 * 256 + x1) * 256 + x2) * 256 + x3) = 281470681743360 + x0 * 16777216 + x1 * 65536 + x2 * 256 + x3 := by omega
  rw [e]
  clear e
  have g1 := hg.z4
  have gz := hg.sz
  have g2 : (1 : Nat) < w.heap.size := by omega
  have g3 : (0 : Nat) < w.heap.size := by omega
  have g4 : ((w.alloc (.cells #[.int .u8 x0, .int .u8 x1, .int .u8 x2, .int .u8 x3] 98 (0, 0))).alloc (.cells #[.int .u64 0, .int .u64 0, .pointer none] 71 (0, 0))).cell? ⟨1, 0, none⟩ = some (.pointer (some a4)) := by
    rw [World.cell?_alloc_lt _ _ _ (by simp; omega), World.cell?_alloc_lt _ _ _ (by simp; omega)]
    exact g1
  clear hg
  go_enter Tryd.func41, Tryd.ntmps41
  go_wp2_with fail
  refine bodyPost_ret (v := .agg #[.int .u64 0, .int .u64 (281470681743360 + x0 * 16777216 + x1 * 65536 + x2 * 256 + x3), .pointer (some a4)]) (by simp [results, Tryd.results41, go_sem]) rfl ?_
  exact ⟨rfl, ((Below.refl _ _).alloc (Nat.le_refl _) _).alloc (by simp) _⟩

theorem cells16n {w : World} {g : Nat} {a0 a1 a2 a3 a4 a5 a6 a7 a8 a9 a10 a11 a12 a13 a14 a15 : Value} {t : TypeId} (h : w.heap[g]? = some (.cells #[a0, a1, a2, a3, a4, a5, a6, a7, a8, a9, a10, a11, a12, a13, a14, a15] t (0, 0))) : ∀ i v, [a0, a1, a2, a3, a4, a5, a6, a7, a8, a9, a10, a11, a12, a13, a14, a15][i]? = some v → w.cell? ⟨g, i, none⟩ = some v := by
  intro i v hv
  rw [cell_of_row _ _ i _ _ (0, 0) h]
  simpa using hv
set_option maxRecDepth 100000 in
set_option maxHeartbeats 4000000 in
theorem af16 (a4 a6 : Addr) (x0 x1 x2 x3 x4 x5 x6 x7 x8 x9 x10 x11 x12 x13 x14 x15 : Int) (hx0 : 0 ≤ x0 ∧ x0 ≤ 255) (hx1 : 0 ≤ x1 ∧ x1 ≤ 255) (hx2 : 0 ≤ x2 ∧ x2 ≤ 255) (hx3 : 0 ≤ x3 ∧ x3 ≤ 255) (hx4 : 0 ≤ x4 ∧ x4 ≤ 255) (hx5 : 0 ≤ x5 ∧ x5 ≤ 255) (hx6 : 0 ≤ x6 ∧ x6 ≤ 255) (hx7 : 0 ≤ x7 ∧ x7 ≤ 255) (hx8 : 0 ≤ x8 ∧ x8 ≤ 255) (hx9 : 0 ≤ x9 ∧ x9 ≤ 255) (hx10 : 0 ≤ x10 ∧ x10 ≤ 255) (hx11 : 0 ≤ x11 ∧ x11 ≤ 255) (hx12 : 0 ≤ x12 ∧ x12 ≤ 255) (hx13 : 0 ≤ x13 ∧ x13 ≤ 255) (hx14 : 0 ≤ x14 ∧ x14 ≤ 255) (hx15 : 0 ≤ x15 ∧ x15 ≤ 255) (w : World) (hg : Gl w a4 a6) :
    Calls Tryd.prog 43 #[.agg #[.int .u8 x0, .int .u8 x1, .int .u8 x2, .int .u8 x3, .int .u8 x4, .int .u8 x5, .int .u8 x6, .int .u8 x7, .int .u8 x8, .int .u8 x9, .int .u8 x10, .int .u8 x11, .int .u8 x12, .int .u8 x13, .int .u8 x14, .int .u8 x15]] w fun e w' => e = .returned (.agg #[.int .u64 (((((((x0 * 256 + x1) * 256 + x2) * 256 + x3) * 256 + x4) * 256 + x5) * 256 + x6) * 256 + x7), .int .u64 (((((((x8 * 256 + x9) * 256 + x10) * 256 + x11) * 256 + x12) * 256 + x13) * 256 + x14) * 256 + x15), .pointer (some a6)]) ∧ Hid (Below w.heap.size w w') := by
  obtain ⟨W0, hW0⟩ : ∃ W0, Hid ((w.alloc (.cells #[.int .u8 x0, .int .u8 x1, .int .u8 x2, .int .u8 x3, .int .u8 x4, .int .u8 x5, .int .u8 x6, .int .u8 x7, .int .u8 x8, .int .u8 x9, .int .u8 x10, .int .u8 x11, .int .u8 x12, .int .u8 x13, .int .u8 x14, .int .u8 x15] 102 (0, 0))).alloc (.cells #[.int .u64 0, .int .u64 0, .pointer none] 71 (0, 0)) = W0) := ⟨_, Lib.hid rfl⟩
  have HB0 : Hid (Below w.heap.size w W0) := by show Below _ _ _; rw [← hW0.out]; exact ((Below.refl _ _).alloc (Nat.le_refl _) _).alloc (by simp) _
  have e1 : (w.alloc (.cells #[.int .u8 x0, .int .u8 x1, .int .u8 x2, .int .u8 x3, .int .u8 x4, .int .u8 x5, .int .u8 x6, .int .u8 x7, .int .u8 x8, .int .u8 x9, .int .u8 x10, .int .u8 x11, .int .u8 x12, .int .u8 x13, .int .u8 x14, .int .u8 x15] 102 (0, 0))).heap.size = w.heap.size + 1 := by simp
  have HQ : Hid (W0.heap[w.heap.size]? = some (.cells #[.int .u8 x0, .int .u8 x1, .int .u8 x2, .int .u8 x3, .int .u8 x4, .int .u8 x5, .int .u8 x6, .int .u8 x7, .int .u8 x8, .int .u8 x9, .int .u8 x10, .int .u8 x11, .int .u8 x12, .int .u8 x13, .int .u8 x14, .int .u8 x15] 102 (0, 0)) ∧ W0.heap[w.heap.size + 1]? = some (.cells #[.int .u64 0, .int .u64 0, .pointer none] 71 (0, 0))) := by
    show _ ∧ _
    rw [← hW0.out]
    have k1 := heap_alloc_new (w.alloc (.cells #[.int .u8 x0, .int .u8 x1, .int .u8 x2, .int .u8 x3, .int .u8 x4, .int .u8 x5, .int .u8 x6, .int .u8 x7, .int .u8 x8, .int .u8 x9, .int .u8 x10, .int .u8 x11, .int .u8 x12, .int .u8 x13, .int .u8 x14, .int .u8 x15] 102 (0, 0))) (.cells #[.int .u64 0, .int .u64 0, .pointer none] 71 (0, 0))
    rw [e1] at k1
    exact ⟨(heap_alloc_old _ _ (by rw [e1]; omega)).trans (heap_alloc_new w _), k1⟩
  have HG0 : Hid (Gl W0 a4 a6) := hg.below HB0.out (Nat.le_refl _)
  have HS0 : Hid (W0.heap.size = w.heap.size + 2) := by show _ = _; rw [← hW0.out]; simp
  have hc := cells16n HQ.out.1
  have K1 : Hid (∀ W', W'.heap = W0.heap → Calls Tryd.prog 52 #[.slice (some ⟨w.heap.size, 0, none⟩) 8 16] W' fun e w' => e = .returned (.int .u64 (((((((x0 * 256 + x1) * 256 + x2) * 256 + x3) * 256 + x4) * 256 + x5) * 256 + x6) * 256 + x7)) ∧ ∃ z', w' = W'.drewN z') := fun W' hW => bu64 w.heap.size 0 8 16 x0 x1 x2 x3 x4 x5 x6 x7 hx0 hx1 hx2 hx3 hx4 hx5 hx6 hx7 W' (by omega) (by omega) ((World.cell?_of_block (a := ⟨w.heap.size, 0, none⟩) (by rw [hW])).trans (hc 0 _ rfl)) ((World.cell?_of_block (a := ⟨w.heap.size, 1, none⟩) (by rw [hW])).trans (hc 1 _ rfl)) ((World.cell?_of_block (a := ⟨w.heap.size, 2, none⟩) (by rw [hW])).trans (hc 2 _ rfl)) ((World.cell?_of_block (a := ⟨w.heap.size, 3, none⟩) (by rw [hW])).trans (hc 3 _ rfl)) ((World.cell?_of_block (a := ⟨w.heap.size, 4, none⟩) (by rw [hW])).trans (hc 4 _ rfl)) ((World.cell?_of_block (a := ⟨w.heap.size, 5, none⟩) (by rw [hW])).trans (hc 5 _ rfl)) ((World.cell?_of_block (a := ⟨w.heap.size, 6, none⟩) (by rw [hW])).trans (hc 6 _ rfl)) ((World.cell?_of_block (a := ⟨w.heap.size, 7, none⟩) (by rw [hW])).trans (hc 7 _ rfl))
  have K2 : Hid (∀ W', W'.heap = W0.heap → Calls Tryd.prog 52 #[.slice (some ⟨w.heap.size, 8, none⟩) 8 8] W' fun e w' => e = .returned (.int .u64 (((((((x8 * 256 + x9) * 256 + x10) * 256 + x11) * 256 + x12) * 256 + x13) * 256 + x14) * 256 + x15)) ∧ ∃ z', w' = W'.drewN z') := fun W' hW => bu64 w.heap.size 8 8 8 x8 x9 x10 x11 x12 x13 x14 x15 hx8 hx9 hx10 hx11 hx12 hx13 hx14 hx15 W' (by omega) (by omega) ((World.cell?_of_block (a := ⟨w.heap.size, 8, none⟩) (by rw [hW])).trans (hc 8 _ rfl)) ((World.cell?_of_block (a := ⟨w.heap.size, 9, none⟩) (by rw [hW])).trans (hc 9 _ rfl)) ((World.cell?_of_block (a := ⟨w.heap.size, 10, none⟩) (by rw [hW])).trans (hc 10 _ rfl)) ((World.cell?_of_block (a := ⟨w.heap.size, 11, none⟩) (by rw [hW])).trans (hc 11 _ rfl)) ((World.cell?_of_block (a := ⟨w.heap.size, 12, none⟩) (by rw [hW])).trans (hc 12 _ rfl)) ((World.cell?_of_block (a := ⟨w.heap.size, 13, none⟩) (by rw [hW])).trans (hc 13 _ rfl)) ((World.cell?_of_block (a := ⟨w.heap.size, 14, none⟩) (by rw [hW])).trans (hc 14 _ rfl)) ((World.cell?_of_block (a := ⟨w.heap.size, 15, none⟩) (by rw [hW])).trans (hc 15 _ rfl))
  have r0 : W0.cell? ⟨w.heap.size + 1, 0, none⟩ = some (.int .u64 0) := by rw [cell_of_row _ _ 0 _ _ (0, 0) HQ.out.2]; rfl
  have r1 : W0.cell? ⟨w.heap.size + 1, 1, none⟩ = some (.int .u64 0) := by rw [cell_of_row _ _ 1 _ _ (0, 0) HQ.out.2]; rfl
  have r2 : W0.cell? ⟨w.heap.size + 1, 2, none⟩ = some (.pointer none) := by rw [cell_of_row _ _ 2 _ _ (0, 0) HQ.out.2]; rfl
  have rf := fun i => cell_free (W := W0) i HQ.out.2
  have g6 := HG0.out.z6
  have hsz := hg.sz
  have g2 : (2 : Nat) < w.heap.size := by omega
  clear hc e1 hg
  go_enter Tryd.func43, Tryd.ntmps43
  go_wp2_with fail
  rw [hW0.out]
  go_region_law (first | (go_simp; go_at_call_of 52 (Value.slice (some ⟨w.heap.size, 0, none⟩) 8 16); refine (K1.out _ (by rfl)).mono ?_; rintro e w1 ⟨rfl, z1, rfl⟩) | (go_simp; go_at_call_of 52 (Value.slice (some ⟨w.heap.size, 8, none⟩) 8 8); refine (K2.out _ (by rfl)).mono ?_; rintro e w1 ⟨rfl, z2, rfl⟩))
  all_goals
    go_wp2_with fail
    refine bodyPost_ret (v := .agg #[.int .u64 (((((((x0 * 256 + x1) * 256 + x2) * 256 + x3) * 256 + x4) * 256 + x5) * 256 + x6) * 256 + x7), .int .u64 (((((((x8 * 256 + x9) * 256 + x10) * 256 + x11) * 256 + x12) * 256 + x13) * 256 + x14) * 256 + x15), .pointer (some a6)]) (by simp [results, Tryd.results43, go_sem, r0, r1, r2]) rfl ?_
    exact ⟨rfl, below_cell (below_cell (below_cell (below_drewN HB0.out _) (HB0.out.size) _ _ _ (by omega)) (by rw [size_cell]; exact HB0.out.size) _ _ _ (by omega)) (by rw [size_cell, size_cell]; exact HB0.out.size) _ _ _ (by omega)⟩

set_option maxRecDepth 100000 in
set_option maxHeartbeats 2000000 in
theorem apf (hi lo pt : Int) (z : Option Addr) (w : World) :
    Calls Tryd.prog 36 #[.agg #[.int .u64 hi, .int .u64 lo, .pointer z], .int .u16 pt] w fun e w' => e = .returned (.agg #[.int .u64 hi, .int .u64 lo, .pointer z, .int .u16 pt]) ∧ Hid (Below w.heap.size w w') := by
  go_enter Tryd.func36, Tryd.ntmps36
  go_wp2_with fail
  refine bodyPost_ret (v := .agg #[.int .u64 hi, .int .u64 lo, .pointer z, .int .u16 pt]) (by simp [results, Tryd.results36, go_sem]) rfl ?_
  exact ⟨rfl, ((Below.refl _ _).alloc (Nat.le_refl _) _).alloc (by simp) _⟩

set_option maxRecDepth 100000 in
set_option maxHeartbeats 2000000 in
theorem apa (hi lo pt : Int) (z : Option Addr) (w : World) :
    Calls Tryd.prog 31 #[.agg #[.int .u64 hi, .int .u64 lo, .pointer z, .int .u16 pt]] w fun e w' => e = .returned (.agg #[.int .u64 hi, .int .u64 lo, .pointer z]) ∧ Hid (Below w.heap.size w w') := by
  go_enter Tryd.func31, Tryd.ntmps31
  go_wp2_with fail
  refine bodyPost_ret (v := .agg #[.int .u64 hi, .int .u64 lo, .pointer z]) (by simp [results, Tryd.results31, go_sem]) rfl ?_
  exact ⟨rfl, ((Below.refl _ _).alloc (Nat.le_refl _) _).alloc (by simp) _⟩

set_option maxRecDepth 100000 in
set_option maxHeartbeats 2000000 in
theorem app (hi lo pt : Int) (z : Option Addr) (w : World) :
    Calls Tryd.prog 33 #[.agg #[.int .u64 hi, .int .u64 lo, .pointer z, .int .u16 pt]] w fun e w' => e = .returned (.int .u16 pt) ∧ Hid (Below w.heap.size w w') := by
  go_enter Tryd.func33, Tryd.ntmps33
  go_wp2_with fail
  go_ret
  exact ⟨rfl, (Below.refl _ _).alloc (Nat.le_refl _) _⟩

set_option maxRecDepth 100000 in
set_option maxHeartbeats 2000000 in
theorem pu32 (g : Nat) (x0 x1 x2 x3 : Int) (hx0 : 0 ≤ x0 ∧ x0 ≤ 255) (hx1 : 0 ≤ x1 ∧ x1 ≤ 255) (hx2 : 0 ≤ x2 ∧ x2 ≤ 255) (hx3 : 0 ≤ x3 ∧ x3 ≤ 255) (w : World) (hq : w.heap[g]? = some (.cells #[.int .u8 0, .int .u8 0, .int .u8 0, .int .u8 0] 98 (0, 0))) :
    Calls Tryd.prog 45 #[.slice (some ⟨g, 0, none⟩) 4 4, .int .u32 (((x0 * 256 + x1) * 256 + x2) * 256 + x3)] w fun e w' => e = .returned (.tuple #[]) ∧ Hid (w'.heap[g]? = some (.cells #[.int .u8 x0, .int .u8 x1, .int .u8 x2, .int .u8 x3] 98 (0, 0)) ∧ w.grownBy w' (some g)) := by
  obtain ⟨v, hv⟩ : ∃ v, Hid (((x0 * 256 + x1) * 256 + x2) * 256 + x3 = v) := ⟨_, Lib.hid rfl⟩
  rw [hv.out]
  have hv' := hv.out
  have v0 : 0 ≤ v := by omega
  have v1 : v ≤ 4294967295 := by omega
  have w0 : IntKind.u8.wrap (v / 16777216) = x0 := by rw [IntKind.wrap_u8]; omega
  have w1 : IntKind.u8.wrap (v / 65536) = x1 := by rw [IntKind.wrap_u8]; omega
  have w2 : IntKind.u8.wrap (v / 256) = x2 := by rw [IntKind.wrap_u8]; omega
  have w3 : IntKind.u8.wrap v = x3 := by rw [IntKind.wrap_u8]; omega
  have HQ := Lib.hid hq
  have c0 : w.cell? ⟨g, 0, none⟩ = some (.int .u8 0) := by rw [cell_of_row _ _ 0 _ _ (0, 0) hq]; rfl
  have c1 : w.cell? ⟨g, 1, none⟩ = some (.int .u8 0) := by rw [cell_of_row _ _ 1 _ _ (0, 0) hq]; rfl
  have c2 : w.cell? ⟨g, 2, none⟩ = some (.int .u8 0) := by rw [cell_of_row _ _ 2 _ _ (0, 0) hq]; rfl
  have c3 : w.cell? ⟨g, 3, none⟩ = some (.int .u8 0) := by rw [cell_of_row _ _ 3 _ _ (0, 0) hq]; rfl
  have f := fun i => cell_free (W := w) i hq
  clear hq hv'
  go_enter Tryd.func45, Tryd.ntmps45
  go_wp2_with fail
  go_end0
  have k0 := cell_at (r' := #[.int .u8 x0, .int .u8 0, .int .u8 0, .int .u8 0]) 0 (.int .u8 x0) HQ.out rfl
  have k1 := cell_at (r' := #[.int .u8 x0, .int .u8 x1, .int .u8 0, .int .u8 0]) 1 (.int .u8 x1) k0 rfl
  have k2 := cell_at (r' := #[.int .u8 x0, .int .u8 x1, .int .u8 x2, .int .u8 0]) 2 (.int .u8 x2) k1 rfl
  have k3 := cell_at (r' := #[.int .u8 x0, .int .u8 x1, .int .u8 x2, .int .u8 x3]) 3 (.int .u8 x3) k2 rfl
  have tr : ∀ {a b c : World}, a.grownBy b (some g) → b.grownBy c (some g) → a.grownBy c (some g) := fun h1 h2 => ⟨h2.os.trans h1.os, h2.tape.trans h1.tape, h2.output.trans h1.output, Nat.le_trans h1.size h2.size, fun j hj hne => (h2.block j (Nat.lt_of_lt_of_le hj h1.size) hne).trans (h1.block j hj hne)⟩
  exact ⟨rfl, k3, tr (tr (tr (cgrown _ _ _ _) (cgrown _ _ _ _)) (cgrown _ _ _ _)) (cgrown _ _ _ _)⟩

end Go.Proofs.YtdjdcpcomhjnjaaDoor

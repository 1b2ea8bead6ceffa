/- Contracts of netip's AsSlice and AddrFromSlice. Conditions: the variables z0, z4, z6noz read as told. -/
import Derived.Test.YtdjdcpcomhjnjaaDoorNip
import Derived.Laws.Cover3
namespace Go.Proofs.YtdjdcpcomhjnjaaDoor
open Go.RowKit
set_option linter.unusedVariables false
set_option linter.unusedSimpArgs false

theorem gtr {g : Nat} {a b c : World} (h1 : a.grownBy b (some g)) (h2 : b.grownBy c (some g)) : a.grownBy c (some g) := ⟨h2.os.trans h1.os, h2.tape.trans h1.tape, h2.output.trans h1.output, Nat.le_trans h1.size h2.size, fun j hj hne => (h2.block j (Nat.lt_of_lt_of_le hj h1.size) hne).trans (h1.block j hj hne)⟩

set_option maxRecDepth 100000 in
set_option maxHeartbeats 4000000 in
theorem pu64a (g : Nat) (x0 x1 x2 x3 x4 x5 x6 x7 y0 y1 y2 y3 y4 y5 y6 y7 : Int) (hx0 : 0 ≤ x0 ∧ x0 ≤ 255) (hx1 : 0 ≤ x1 ∧ x1 ≤ 255) (hx2 : 0 ≤ x2 ∧ x2 ≤ 255) (hx3 : 0 ≤ x3 ∧ x3 ≤ 255) (hx4 : 0 ≤ x4 ∧ x4 ≤ 255) (hx5 : 0 ≤ x5 ∧ x5 ≤ 255) (hx6 : 0 ≤ x6 ∧ x6 ≤ 255) (hx7 : 0 ≤ x7 ∧ x7 ≤ 255) (w : World) (hq : w.heap[g]? = some (.cells #[.int .u8 0, .int .u8 0, .int .u8 0, .int .u8 0, .int .u8 0, .int .u8 0, .int .u8 0, .int .u8 0, .int .u8 y0, .int .u8 y1, .int .u8 y2, .int .u8 y3, .int .u8 y4, .int .u8 y5, .int .u8 y6, .int .u8 y7] 102 (0, 0))) :
    Calls Tryd.prog 46 #[.slice (some ⟨g, 0, none⟩) 8 16, .int .u64 (((((((x0 * 256 + x1) * 256 + x2) * 256 + x3) * 256 + x4) * 256 + x5) * 256 + x6) * 256 + x7)] w fun e w' => e = .returned (.tuple #[]) ∧ Hid (w'.heap[g]? = some (.cells #[.int .u8 x0, .int .u8 x1, .int .u8 x2, .int .u8 x3, .int .u8 x4, .int .u8 x5, .int .u8 x6, .int .u8 x7, .int .u8 y0, .int .u8 y1, .int .u8 y2, .int .u8 y3, .int .u8 y4, .int .u8 y5, .int .u8 y6, .int .u8 y7] 102 (0, 0)) ∧ w.grownBy w' (some g)) := by
  obtain ⟨v, hv⟩ : ∃ v, Hid (((((((x0 * 256 + x1) * 256 + x2) * 256 + x3) * 256 + x4) * 256 + x5) * 256 + x6) * 256 + x7 = v) := ⟨_, Lib.hid rfl⟩
  rw [hv.out]
  have hv' := hv.out
  have v0 : 0 ≤ v := by omega
  have v1 : v ≤ 18446744073709551615 := by omega
  have w0 : IntKind.u8.wrap (v / 72057594037927936) = x0 := by rw [IntKind.wrap_u8]; omega
  have w1 : IntKind.u8.wrap (v / 281474976710656) = x1 := by rw [IntKind.wrap_u8]; omega
  have w2 : IntKind.u8.wrap (v / 1099511627776) = x2 := by rw [IntKind.wrap_u8]; omega
  have w3 : IntKind.u8.wrap (v / 4294967296) = x3 := by rw [IntKind.wrap_u8]; omega
  have w4 : IntKind.u8.wrap (v / 16777216) = x4 := by rw [IntKind.wrap_u8]; omega
  have w5 : IntKind.u8.wrap (v / 65536) = x5 := by rw [IntKind.wrap_u8]; omega
  have w6 : IntKind.u8.wrap (v / 256) = x6 := by rw [IntKind.wrap_u8]; omega
  have w7 : IntKind.u8.wrap (v) = x7 := by rw [IntKind.wrap_u8]; omega
  have HQ := Lib.hid hq
  have c0 : w.cell? ⟨g, 0, none⟩ = some (.int .u8 0) := by rw [cell_of_row _ _ 0 _ _ (0, 0) hq]; rfl
  have c1 : w.cell? ⟨g, 1, none⟩ = some (.int .u8 0) := by rw [cell_of_row _ _ 1 _ _ (0, 0) hq]; rfl
  have c2 : w.cell? ⟨g, 2, none⟩ = some (.int .u8 0) := by rw [cell_of_row _ _ 2 _ _ (0, 0) hq]; rfl
  have c3 : w.cell? ⟨g, 3, none⟩ = some (.int .u8 0) := by rw [cell_of_row _ _ 3 _ _ (0, 0) hq]; rfl
  have c4 : w.cell? ⟨g, 4, none⟩ = some (.int .u8 0) := by rw [cell_of_row _ _ 4 _ _ (0, 0) hq]; rfl
  have c5 : w.cell? ⟨g, 5, none⟩ = some (.int .u8 0) := by rw [cell_of_row _ _ 5 _ _ (0, 0) hq]; rfl
  have c6 : w.cell? ⟨g, 6, none⟩ = some (.int .u8 0) := by rw [cell_of_row _ _ 6 _ _ (0, 0) hq]; rfl
  have c7 : w.cell? ⟨g, 7, none⟩ = some (.int .u8 0) := by rw [cell_of_row _ _ 7 _ _ (0, 0) hq]; rfl
  have f := fun i => cell_free (W := w) i hq
  clear hq hv'
  go_enter Tryd.func46, Tryd.ntmps46
  go_wp2_with fail
  go_end0
  have k0 := cell_at (r' := #[.int .u8 x0, .int .u8 0, .int .u8 0, .int .u8 0, .int .u8 0, .int .u8 0, .int .u8 0, .int .u8 0, .int .u8 y0, .int .u8 y1, .int .u8 y2, .int .u8 y3, .int .u8 y4, .int .u8 y5, .int .u8 y6, .int .u8 y7]) 0 (.int .u8 x0) HQ.out rfl
  have k1 := cell_at (r' := #[.int .u8 x0, .int .u8 x1, .int .u8 0, .int .u8 0, .int .u8 0, .int .u8 0, .int .u8 0, .int .u8 0, .int .u8 y0, .int .u8 y1, .int .u8 y2, .int .u8 y3, .int .u8 y4, .int .u8 y5, .int .u8 y6, .int .u8 y7]) 1 (.int .u8 x1) k0 rfl
  have k2 := cell_at (r' := #[.int .u8 x0, .int .u8 x1, .int .u8 x2, .int .u8 0, .int .u8 0, .int .u8 0, .int .u8 0, .int .u8 0, .int .u8 y0, .int .u8 y1, .int .u8 y2, .int .u8 y3, .int .u8 y4, .int .u8 y5, .int .u8 y6, .int .u8 y7]) 2 (.int .u8 x2) k1 rfl
  have k3 := cell_at (r' := #[.int .u8 x0, .int .u8 x1, .int .u8 x2, .int .u8 x3, .int .u8 0, .int .u8 0, .int .u8 0, .int .u8 0, .int .u8 y0, .int .u8 y1, .int .u8 y2, .int .u8 y3, .int .u8 y4, .int .u8 y5, .int .u8 y6, .int .u8 y7]) 3 (.int .u8 x3) k2 rfl
  have k4 := cell_at (r' := #[.int .u8 x0, .int .u8 x1, .int .u8 x2, .int .u8 x3, .int .u8 x4, .int .u8 0, .int .u8 0, .int .u8 0, .int .u8 y0, .int .u8 y1, .int .u8 y2, .int .u8 y3, .int .u8 y4, .int .u8 y5, .int .u8 y6, .int .u8 y7]) 4 (.int .u8 x4) k3 rfl
  have k5 := cell_at (r' := #[.int .u8 x0, .int .u8 x1, .int .u8 x2, .int .u8 x3, .int .u8 x4, .int .u8 x5, .int .u8 0, .int .u8 0, .int .u8 y0, .int .u8 y1, .int .u8 y2, .int .u8 y3, .int .u8 y4, .int .u8 y5, .int .u8 y6, .int .u8 y7]) 5 (.int .u8 x5) k4 rfl
  have k6 := cell_at (r' := #[.int .u8 x0, .int .u8 x1, .int .u8 x2, .int .u8 x3, .int .u8 x4, .int .u8 x5, .int .u8 x6, .int .u8 0, .int .u8 y0, .int .u8 y1, .int .u8 y2, .int .u8 y3, .int .u8 y4, .int .u8 y5, .int .u8 y6, .int .u8 y7]) 6 (.int .u8 x6) k5 rfl
  have k7 := cell_at (r' := #[.int .u8 x0, .int .u8 x1, .int .u8 x2, .int .u8 x3, .int .u8 x4, .int .u8 x5, .int .u8 x6, .int .u8 x7, .int .u8 y0, .int .u8 y1, .int .u8 y2, .int .u8 y3, .int .u8 y4, .int .u8 y5, .int .u8 y6, .int .u8 y7]) 7 (.int .u8 x7) k6 rfl
  exact ⟨rfl, k7, gtr (gtr (gtr (gtr (gtr (gtr (gtr (cgrown _ _ _ _) (cgrown _ _ _ _)) (cgrown _ _ _ _)) (cgrown _ _ _ _)) (cgrown _ _ _ _)) (cgrown _ _ _ _)) (cgrown _ _ _ _)) (cgrown _ _ _ _)⟩

set_option maxRecDepth 100000 in
set_option maxHeartbeats 4000000 in
theorem pu64b (g : Nat) (x0 x1 x2 x3 x4 x5 x6 x7 y0 y1 y2 y3 y4 y5 y6 y7 : Int) (hx0 : 0 ≤ x0 ∧ x0 ≤ 255) (hx1 : 0 ≤ x1 ∧ x1 ≤ 255) (hx2 : 0 ≤ x2 ∧ x2 ≤ 255) (hx3 : 0 ≤ x3 ∧ x3 ≤ 255) (hx4 : 0 ≤ x4 ∧ x4 ≤ 255) (hx5 : 0 ≤ x5 ∧ x5 ≤ 255) (hx6 : 0 ≤ x6 ∧ x6 ≤ 255) (hx7 : 0 ≤ x7 ∧ x7 ≤ 255) (w : World) (hq : w.heap[g]? = some (.cells #[.int .u8 y0, .int .u8 y1, .int .u8 y2, .int .u8 y3, .int .u8 y4, .int .u8 y5, .int .u8 y6, .int .u8 y7, .int .u8 0, .int .u8 0, .int .u8 0, .int .u8 0, .int .u8 0, .int .u8 0, .int .u8 0, .int .u8 0] 102 (0, 0))) :
    Calls Tryd.prog 46 #[.slice (some ⟨g, 8, none⟩) 8 8, .int .u64 (((((((x0 * 256 + x1) * 256 + x2) * 256 + x3) * 256 + x4) * 256 + x5) * 256 + x6) * 256 + x7)] w fun e w' => e = .returned (.tuple #[]) ∧ Hid (w'.heap[g]? = some (.cells #[.int .u8 y0, .int .u8 y1, .int .u8 y2, .int .u8 y3, .int .u8 y4, .int .u8 y5, .int .u8 y6, .int .u8 y7, .int .u8 x0, .int .u8 x1, .int .u8 x2, .int .u8 x3, .int .u8 x4, .int .u8 x5, .int .u8 x6, .int .u8 x7] 102 (0, 0)) ∧ w.grownBy w' (some g)) := by
  obtain ⟨v, hv⟩ : ∃ v, Hid (((((((x0 * 256 + x1) * 256 + x2) * 256 + x3) * 256 + x4) * 256 + x5) * 256 + x6) * 256 + x7 = v) := ⟨_, Lib.hid rfl⟩
  rw [hv.out]
  have hv' := hv.out
  have v0 : 0 ≤ v := by omega
  have v1 : v ≤ 18446744073709551615 := by omega
  have w0 : IntKind.u8.wrap (v / 72057594037927936) = x0 := by rw [IntKind.wrap_u8]; omega
  have w1 : IntKind.u8.wrap (v / 281474976710656) = x1 := by rw [IntKind.wrap_u8]; omega
  have w2 : IntKind.u8.wrap (v / 1099511627776) = x2 := by rw [IntKind.wrap_u8]; omega
  have w3 : IntKind.u8.wrap (v / 4294967296) = x3 := by rw [IntKind.wrap_u8]; omega
  have w4 : IntKind.u8.wrap (v / 16777216) = x4 := by rw [IntKind.wrap_u8]; omega
  have w5 : IntKind.u8.wrap (v / 65536) = x5 := by rw [IntKind.wrap_u8]; omega
  have w6 : IntKind.u8.wrap (v / 256) = x6 := by rw [IntKind.wrap_u8]; omega
  have w7 : IntKind.u8.wrap (v) = x7 := by rw [IntKind.wrap_u8]; omega
  have HQ := Lib.hid hq
  have c0 : w.cell? ⟨g, 8, none⟩ = some (.int .u8 0) := by rw [cell_of_row _ _ 8 _ _ (0, 0) hq]; rfl
  have c1 : w.cell? ⟨g, 9, none⟩ = some (.int .u8 0) := by rw [cell_of_row _ _ 9 _ _ (0, 0) hq]; rfl
  have c2 : w.cell? ⟨g, 10, none⟩ = some (.int .u8 0) := by rw [cell_of_row _ _ 10 _ _ (0, 0) hq]; rfl
  have c3 : w.cell? ⟨g, 11, none⟩ = some (.int .u8 0) := by rw [cell_of_row _ _ 11 _ _ (0, 0) hq]; rfl
  have c4 : w.cell? ⟨g, 12, none⟩ = some (.int .u8 0) := by rw [cell_of_row _ _ 12 _ _ (0, 0) hq]; rfl
  have c5 : w.cell? ⟨g, 13, none⟩ = some (.int .u8 0) := by rw [cell_of_row _ _ 13 _ _ (0, 0) hq]; rfl
  have c6 : w.cell? ⟨g, 14, none⟩ = some (.int .u8 0) := by rw [cell_of_row _ _ 14 _ _ (0, 0) hq]; rfl
  have c7 : w.cell? ⟨g, 15, none⟩ = some (.int .u8 0) := by rw [cell_of_row _ _ 15 _ _ (0, 0) hq]; rfl
  have f := fun i => cell_free (W := w) i hq
  clear hq hv'
  go_enter Tryd.func46, Tryd.ntmps46
  go_wp2_with fail
  go_end0
  have k0 := cell_at (r' := #[.int .u8 y0, .int .u8 y1, .int .u8 y2, .int .u8 y3, .int .u8 y4, .int .u8 y5, .int .u8 y6, .int .u8 y7, .int .u8 x0, .int .u8 0, .int .u8 0, .int .u8 0, .int .u8 0, .int .u8 0, .int .u8 0, .int .u8 0]) 8 (.int .u8 x0) HQ.out rfl
  have k1 := cell_at (r' := #[.int .u8 y0, .int .u8 y1, .int .u8 y2, .int .u8 y3, .int .u8 y4, .int .u8 y5, .int .u8 y6, .int .u8 y7, .int .u8 x0, .int .u8 x1, .int .u8 0, .int .u8 0, .int .u8 0, .int .u8 0, .int .u8 0, .int .u8 0]) 9 (.int .u8 x1) k0 rfl
  have k2 := cell_at (r' := #[.int .u8 y0, .int .u8 y1, .int .u8 y2, .int .u8 y3, .int .u8 y4, .int .u8 y5, .int .u8 y6, .int .u8 y7, .int .u8 x0, .int .u8 x1, .int .u8 x2, .int .u8 0, .int .u8 0, .int .u8 0, .int .u8 0, .int .u8 0]) 10 (.int .u8 x2) k1 rfl
  have k3 := cell_at (r' := #[.int .u8 y0, .int .u8 y1, .int .u8 y2, .int .u8 y3, .int .u8 y4, .int .u8 y5, .int .u8 y6, .int .u8 y7, .int .u8 x0, .int .u8 x1, .int .u8 x2, .int .u8 x3, .int .u8 0, .int .u8 0, .int .u8 0, .int .u8 0]) 11 (.int .u8 x3) k2 rfl
  have k4 := cell_at (r' := #[.int .u8 y0, .int .u8 y1, .int .u8 y2, .int .u8 y3, .int .u8 y4, .int .u8 y5, .int .u8 y6, .int .u8 y7, .int .u8 x0, .int .u8 x1, .int .u8 x2, .int .u8 x3, .int .u8 x4, .int .u8 0, .int .u8 0, .int .u8 0]) 12 (.int .u8 x4) k3 rfl
  have k5 := cell_at (r' := #[.int .u8 y0, .int .u8 y1, .int .u8 y2, .int .u8 y3, .int .u8 y4, .int .u8 y5, .int .u8 y6, .int .u8 y7, .int .u8 x0, .int .u8 x1, .int .u8 x2, .int .u8 x3, .int .u8 x4, .int .u8 x5, .int .u8 0, .int .u8 0]) 13 (.int .u8 x5) k4 rfl
  have k6 := cell_at (r' := #[.int .u8 y0, .int .u8 y1, .int .u8 y2, .int .u8 y3, .int .u8 y4, .int .u8 y5, .int .u8 y6, .int .u8 y7, .int .u8 x0, .int .u8 x1, .int .u8 x2, .int .u8 x3, .int .u8 x4, .int .u8 x5, .int .u8 x6, .int .u8 0]) 14 (.int .u8 x6) k5 rfl
  have k7 := cell_at (r' := #[.int .u8 y0, .int .u8 y1, .int .u8 y2, .int .u8 y3, .int .u8 y4, .int .u8 y5, .int .u8 y6, .int .u8 y7, .int .u8 x0, .int .u8 x1, .int .u8 x2, .int .u8 x3, .int .u8 x4, .int .u8 x5, .int .u8 x6, .int .u8 x7]) 15 (.int .u8 x7) k6 rfl
  exact ⟨rfl, k7, gtr (gtr (gtr (gtr (gtr (gtr (gtr (cgrown _ _ _ _) (cgrown _ _ _ _)) (cgrown _ _ _ _)) (cgrown _ _ _ _)) (cgrown _ _ _ _)) (cgrown _ _ _ _)) (cgrown _ _ _ _)) (cgrown _ _ _ _)⟩

set_option maxRecDepth 100000 in
set_option maxHeartbeats 2000000 in
theorem as0 (a4 a6 : Addr) (hi lo : Int) (w : World) (hg : Gl w a4 a6) :
    Calls Tryd.prog 32 #[.agg #[.int .u64 hi, .int .u64 lo, .pointer none]] w fun e w' => e = .returned (.slice none 0 0) ∧ Hid (Below w.heap.size w w') := by
  have HG := Lib.hid (hg.alloc (.cells #[.int .u64 hi, .int .u64 lo, .pointer none] 71 (0, 0)))
  have z0 := HG.out.z0
  have nz : ∀ w, (Op.equalIn 9999 67 (.pointer none) (.pointer none)).run Tryd.prog w = .ok true w := fun w => run_equalIn_pointer_nil (P := Tryd.prog) w 9998 67 none (by kernel_rfl)
  clear hg
  go_enter Tryd.func32, Tryd.ntmps32
  go_wp2_with fail
  go_ret
  exact ⟨rfl, (Below.refl _ _).alloc (Nat.le_refl _) _⟩

set_option maxRecDepth 100000 in
set_option maxHeartbeats 4000000 in
theorem as4 (a4 a6 : Addr) (x0 x1 x2 x3 : Int) (hx0 : 0 ≤ x0 ∧ x0 ≤ 255) (hx1 : 0 ≤ x1 ∧ x1 ≤ 255) (hx2 : 0 ≤ x2 ∧ x2 ≤ 255) (hx3 : 0 ≤ x3 ∧ x3 ≤ 255) (w : World) (hg : Gl w a4 a6) :
    Calls Tryd.prog 32 #[.agg #[.int .u64 0, .int .u64 (281470681743360 + (((x0 * 256 + x1) * 256 + x2) * 256 + x3)), .pointer (some a4)]] w fun e w' => ∃ g, e = .returned (.slice (some ⟨g, 0, none⟩) 4 4) ∧ Hid (Below w.heap.size w w' ∧ Rd w' (some ⟨g, 0, none⟩) [x0, x1, x2, x3] ∧ w.heap.size ≤ g) := by
  have hbs : Bs [x0, x1, x2, x3] := Bs.cons hx0 (Bs.cons hx1 (Bs.cons hx2 (Bs.cons hx3 Bs.nil)))
  have HBS := Lib.hid hbs
  obtain ⟨v, hv⟩ : ∃ v, Hid (281470681743360 + (((x0 * 256 + x1) * 256 + x2) * 256 + x3) = v) := ⟨_, Lib.hid rfl⟩
  have hw : IntKind.u32.wrap v = (((x0 * 256 + x1) * 256 + x2) * 256 + x3) := by rw [IntKind.wrap_u32', ← hv.out]; omega
  rw [hv.out]
  obtain ⟨W0, hW0⟩ : ∃ W0, Hid (w.alloc (.cells #[.int .u64 0, .int .u64 v, .pointer (some a4)] 71 (0, 0)) = W0) := ⟨_, Lib.hid rfl⟩
  have hG := hg.alloc (.cells #[.int .u64 0, .int .u64 v, .pointer (some a4)] 71 (0, 0))
  have HG := Lib.hid hG
  have z0 := hG.z0
  have z4 := hG.z4
  have q1 : (Op.equalIn 9999 67 (.pointer (some a4)) (.pointer (some a4))).run Tryd.prog (w.alloc (.cells #[.int .u64 0, .int .u64 v, .pointer (some a4)] 71 (0, 0))) = .ok true (w.alloc (.cells #[.int .u64 0, .int .u64 v, .pointer (some a4)] 71 (0, 0))) := (hG.eqs 9998).1
  have nz : ∀ w, (Op.equalIn 9999 67 (.pointer (some a4)) (.pointer none)).run Tryd.prog w = .ok false w := fun w => run_equalIn_pointer_nil (P := Tryd.prog) w 9998 67 (some a4) (by kernel_rfl)
  have k0 := heap_alloc_new w (.cells #[.int .u64 0, .int .u64 v, .pointer (some a4)] 71 (0, 0))
  rw [hW0.out] at k0
  have HK0 := Lib.hid k0
  have HS0 : Hid (W0.heap.size = w.heap.size + 1) := by show _ = _; rw [← hW0.out]; simp
  have HB0 : Hid (Below w.heap.size w W0) := by show Below _ _ _; rw [← hW0.out]; exact (Below.refl _ _).alloc (Nat.le_refl _) _
  obtain ⟨W1, hW1⟩ : ∃ W1, Hid (W0.alloc (.cells #[.int .u8 0, .int .u8 0, .int .u8 0, .int .u8 0] 98 (0, 0)) = W1) := ⟨_, Lib.hid rfl⟩
  have HK1 : Hid (W1.heap[w.heap.size + 1]? = some (.cells #[.int .u8 0, .int .u8 0, .int .u8 0, .int .u8 0] 98 (0, 0))) := by
    show _ = _
    have := heap_alloc_new W0 (.cells #[.int .u8 0, .int .u8 0, .int .u8 0, .int .u8 0] 98 (0, 0))
    rw [hW1.out, HS0.out] at this
    exact this
  have hl1 : W1.cell? ⟨w.heap.size, 1, none⟩ = some (.int .u64 v) := by
    rw [← hW1.out, World.cell?_alloc_lt _ _ _ (by rw [HS0.out]; show w.heap.size < _; omega), cell_of_row _ _ 1 _ _ (0, 0) HK0.out]
    rfl
  have HB1 : Hid (Below w.heap.size w W1) := by show Below _ _ _; rw [← hW1.out]; exact HB0.out.alloc HB0.out.size _
  clear hg hG k0 hbs
  go_enter Tryd.func32, Tryd.ntmps32
  go_wp2_with fail
  rw [hW0.out, hW1.out]
  have K : Hid (∀ W', W'.heap = W1.heap → Calls Tryd.prog 45 #[.slice (some ⟨w.heap.size + 1, 0, none⟩) 4 4, .int .u32 ((((x0 * 256 + x1) * 256 + x2) * 256 + x3))] W' fun e w' => e = .returned (.tuple #[]) ∧ Hid (w'.heap[w.heap.size + 1]? = some (.cells #[.int .u8 x0, .int .u8 x1, .int .u8 x2, .int .u8 x3] 98 (0, 0)) ∧ W'.grownBy w' (some (w.heap.size + 1)))) := fun W' hW => pu32 (w.heap.size + 1) x0 x1 x2 x3 hx0 hx1 hx2 hx3 W' (by rw [hW]; exact HK1.out)
  clear q1 nz z0 z4
  go_region_law ((go_simp; go_at_call 45; refine (K.out _ (by rfl)).mono ?_; rintro e w2 ⟨rfl, H2⟩))
  go_wp2_with fail
  go_ret
  have hd : Below w.heap.size w (W1.drewN 1) := below_drewN HB1.out 1
  refine ⟨_, rfl, hd.grown H2.out.2 HB1.out.size (fun k hk => by simp at hk; omega), ⟨HBS.out, fun _ => ⟨_, 0, rfl, fun i hi => ?_⟩⟩, by omega⟩
  rw [Nat.zero_add, cell_of_row _ _ i _ _ (0, 0) H2.out.1]
  match i, hi with
  | 0, _ => rfl
  | 1, _ => rfl
  | 2, _ => rfl
  | 3, _ => rfl
  | i + 4, hi => have h : i + 4 < 4 := hi; omega

set_option maxRecDepth 100000 in
set_option maxHeartbeats 4000000 in
theorem as6 (a4 a6 : Addr) (x0 x1 x2 x3 x4 x5 x6 x7 x8 x9 x10 x11 x12 x13 x14 x15 : Int) (hx0 : 0 ≤ x0 ∧ x0 ≤ 255) (hx1 : 0 ≤ x1 ∧ x1 ≤ 255) (hx2 : 0 ≤ x2 ∧ x2 ≤ 255) (hx3 : 0 ≤ x3 ∧ x3 ≤ 255) (hx4 : 0 ≤ x4 ∧ x4 ≤ 255) (hx5 : 0 ≤ x5 ∧ x5 ≤ 255) (hx6 : 0 ≤ x6 ∧ x6 ≤ 255) (hx7 : 0 ≤ x7 ∧ x7 ≤ 255) (hx8 : 0 ≤ x8 ∧ x8 ≤ 255) (hx9 : 0 ≤ x9 ∧ x9 ≤ 255) (hx10 : 0 ≤ x10 ∧ x10 ≤ 255) (hx11 : 0 ≤ x11 ∧ x11 ≤ 255) (hx12 : 0 ≤ x12 ∧ x12 ≤ 255) (hx13 : 0 ≤ x13 ∧ x13 ≤ 255) (hx14 : 0 ≤ x14 ∧ x14 ≤ 255) (hx15 : 0 ≤ x15 ∧ x15 ≤ 255) (w : World) (hg : Gl w a4 a6) :
    Calls Tryd.prog 32 #[.agg #[.int .u64 (((((((x0 * 256 + x1) * 256 + x2) * 256 + x3) * 256 + x4) * 256 + x5) * 256 + x6) * 256 + x7), .int .u64 (((((((x8 * 256 + x9) * 256 + x10) * 256 + x11) * 256 + x12) * 256 + x13) * 256 + x14) * 256 + x15), .pointer (some a6)]] w fun e w' => ∃ g, e = .returned (.slice (some ⟨g, 0, none⟩) 16 16) ∧ Hid (Below w.heap.size w w' ∧ Rd w' (some ⟨g, 0, none⟩) [x0, x1, x2, x3, x4, x5, x6, x7, x8, x9, x10, x11, x12, x13, x14, x15] ∧ w.heap.size ≤ g) := by
  have hbs : Bs [x0, x1, x2, x3, x4, x5, x6, x7, x8, x9, x10, x11, x12, x13, x14, x15] := Bs.cons hx0 (Bs.cons hx1 (Bs.cons hx2 (Bs.cons hx3 (Bs.cons hx4 (Bs.cons hx5 (Bs.cons hx6 (Bs.cons hx7 (Bs.cons hx8 (Bs.cons hx9 (Bs.cons hx10 (Bs.cons hx11 (Bs.cons hx12 (Bs.cons hx13 (Bs.cons hx14 (Bs.cons hx15 (Bs.nil))))))))))))))))
  have HBS := Lib.hid hbs
  obtain ⟨u, hu⟩ : ∃ u, Hid (((((((x0 * 256 + x1) * 256 + x2) * 256 + x3) * 256 + x4) * 256 + x5) * 256 + x6) * 256 + x7 = u) := ⟨_, Lib.hid rfl⟩
  obtain ⟨v, hv⟩ : ∃ v, Hid (((((((x8 * 256 + x9) * 256 + x10) * 256 + x11) * 256 + x12) * 256 + x13) * 256 + x14) * 256 + x15 = v) := ⟨_, Lib.hid rfl⟩
  rw [hu.out, hv.out]
  obtain ⟨W0, hW0⟩ : ∃ W0, Hid (w.alloc (.cells #[.int .u64 u, .int .u64 v, .pointer (some a6)] 71 (0, 0)) = W0) := ⟨_, Lib.hid rfl⟩
  have hG := hg.alloc (.cells #[.int .u64 u, .int .u64 v, .pointer (some a6)] 71 (0, 0))
  have HG := Lib.hid hG
  have z0 := hG.z0
  have z4 := hG.z4
  have q1 : (Op.equalIn 9999 67 (.pointer (some a6)) (.pointer (some a4))).run Tryd.prog (w.alloc (.cells #[.int .u64 u, .int .u64 v, .pointer (some a6)] 71 (0, 0))) = .ok false (w.alloc (.cells #[.int .u64 u, .int .u64 v, .pointer (some a6)] 71 (0, 0))) := (hG.eqs 9998).2
  have nz : ∀ w, (Op.equalIn 9999 67 (.pointer (some a6)) (.pointer none)).run Tryd.prog w = .ok false w := fun w => run_equalIn_pointer_nil (P := Tryd.prog) w 9998 67 (some a6) (by kernel_rfl)
  have k0 := heap_alloc_new w (.cells #[.int .u64 u, .int .u64 v, .pointer (some a6)] 71 (0, 0))
  rw [hW0.out] at k0
  have HK0 := Lib.hid k0
  have HS0 : Hid (W0.heap.size = w.heap.size + 1) := by show _ = _; rw [← hW0.out]; simp
  have HB0 : Hid (Below w.heap.size w W0) := by show Below _ _ _; rw [← hW0.out]; exact (Below.refl _ _).alloc (Nat.le_refl _) _
  obtain ⟨W1, hW1⟩ : ∃ W1, Hid (W0.alloc (.cells #[.int .u8 0, .int .u8 0, .int .u8 0, .int .u8 0, .int .u8 0, .int .u8 0, .int .u8 0, .int .u8 0, .int .u8 0, .int .u8 0, .int .u8 0, .int .u8 0, .int .u8 0, .int .u8 0, .int .u8 0, .int .u8 0] 102 (0, 0)) = W1) := ⟨_, Lib.hid rfl⟩
  have HK1 : Hid (W1.heap[w.heap.size + 1]? = some (.cells #[.int .u8 0, .int .u8 0, .int .u8 0, .int .u8 0, .int .u8 0, .int .u8 0, .int .u8 0, .int .u8 0, .int .u8 0, .int .u8 0, .int .u8 0, .int .u8 0, .int .u8 0, .int .u8 0, .int .u8 0, .int .u8 0] 102 (0, 0))) := by
    show _ = _
    have := heap_alloc_new W0 (.cells #[.int .u8 0, .int .u8 0, .int .u8 0, .int .u8 0, .int .u8 0, .int .u8 0, .int .u8 0, .int .u8 0, .int .u8 0, .int .u8 0, .int .u8 0, .int .u8 0, .int .u8 0, .int .u8 0, .int .u8 0, .int .u8 0] 102 (0, 0))
    rw [hW1.out, HS0.out] at this
    exact this
  have hl0 : W1.cell? ⟨w.heap.size, 0, none⟩ = some (.int .u64 u) := by
    rw [← hW1.out, World.cell?_alloc_lt _ _ _ (by rw [HS0.out]; show w.heap.size < _; omega), cell_of_row _ _ 0 _ _ (0, 0) HK0.out]
    rfl
  have hl1 : W1.cell? ⟨w.heap.size, 1, none⟩ = some (.int .u64 v) := by
    rw [← hW1.out, World.cell?_alloc_lt _ _ _ (by rw [HS0.out]; show w.heap.size < _; omega), cell_of_row _ _ 1 _ _ (0, 0) HK0.out]
    rfl
  have HL1 := Lib.hid hl1
  have HZ1 : Hid (w.heap.size < W1.heap.size) := World.block_lt_of_cell? _ _ hl1
  have HB1 : Hid (Below w.heap.size w W1) := by show Below _ _ _; rw [← hW1.out]; exact HB0.out.alloc HB0.out.size _
  clear hg hG k0 hbs
  go_enter Tryd.func32, Tryd.ntmps32
  go_wp2_with fail
  rw [hW0.out, hW1.out]
  have K : Hid (∀ W', W'.heap = W1.heap → Calls Tryd.prog 46 #[.slice (some ⟨w.heap.size + 1, 0, none⟩) 8 16, .int .u64 u] W' fun e w' => e = .returned (.tuple #[]) ∧ Hid (w'.heap[w.heap.size + 1]? = some (.cells #[.int .u8 x0, .int .u8 x1, .int .u8 x2, .int .u8 x3, .int .u8 x4, .int .u8 x5, .int .u8 x6, .int .u8 x7, .int .u8 0, .int .u8 0, .int .u8 0, .int .u8 0, .int .u8 0, .int .u8 0, .int .u8 0, .int .u8 0] 102 (0, 0)) ∧ W'.grownBy w' (some (w.heap.size + 1)))) := fun W' hW => by
    rw [← hu.out]
    exact pu64a (w.heap.size + 1) x0 x1 x2 x3 x4 x5 x6 x7 0 0 0 0 0 0 0 0 hx0 hx1 hx2 hx3 hx4 hx5 hx6 hx7 W' (by rw [hW]; exact HK1.out)
  clear q1 nz z0 z4 hl1
  go_region_law ((go_simp; go_at_call 46; refine (K.out _ (by rfl)).mono ?_; rintro e w2 ⟨rfl, H2⟩))
  have hl2 : w2.cell? ⟨w.heap.size, 1, none⟩ = some (.int .u64 v) := (World.cell?_of_block (a := ⟨w.heap.size, 1, none⟩) (H2.out.2.block w.heap.size HZ1.out (by simp))).trans HL1.out
  have K2 : Hid (∀ W', W'.heap = w2.heap → Calls Tryd.prog 46 #[.slice (some ⟨w.heap.size + 1, 8, none⟩) 8 8, .int .u64 v] W' fun e w' => e = .returned (.tuple #[]) ∧ Hid (w'.heap[w.heap.size + 1]? = some (.cells #[.int .u8 x0, .int .u8 x1, .int .u8 x2, .int .u8 x3, .int .u8 x4, .int .u8 x5, .int .u8 x6, .int .u8 x7, .int .u8 x8, .int .u8 x9, .int .u8 x10, .int .u8 x11, .int .u8 x12, .int .u8 x13, .int .u8 x14, .int .u8 x15] 102 (0, 0)) ∧ W'.grownBy w' (some (w.heap.size + 1)))) := fun W' hW => by
    rw [← hv.out]
    exact pu64b (w.heap.size + 1) x8 x9 x10 x11 x12 x13 x14 x15 x0 x1 x2 x3 x4 x5 x6 x7 hx8 hx9 hx10 hx11 hx12 hx13 hx14 hx15 W' (by rw [hW]; exact H2.out.1)
  go_wp2_with fail
  go_region_law ((go_simp; go_at_call 46; refine (K2.out _ (by rfl)).mono ?_; rintro e w3 ⟨rfl, H3⟩))
  go_wp2_with fail
  go_ret
  have hd : Below w.heap.size w (W1.drewN 1) := below_drewN HB1.out 1
  have hd2 : Below w.heap.size w w2 := hd.grown H2.out.2 HB1.out.size (fun k hk => by simp at hk; omega)
  refine ⟨_, rfl, (below_drewN hd2 1).grown H3.out.2 hd2.size (fun k hk => by simp at hk; omega), ⟨HBS.out, fun _ => ⟨_, 0, rfl, fun i hi => ?_⟩⟩, by omega⟩
  rw [Nat.zero_add, cell_of_row _ _ i _ _ (0, 0) H3.out.1]
  match i, hi with
  | 0, _ => rfl
  | 1, _ => rfl
  | 2, _ => rfl
  | 3, _ => rfl
  | 4, _ => rfl
  | 5, _ => rfl
  | 6, _ => rfl
  | 7, _ => rfl
  | 8, _ => rfl
  | 9, _ => rfl
  | 10, _ => rfl
  | 11, _ => rfl
  | 12, _ => rfl
  | 13, _ => rfl
  | 14, _ => rfl
  | 15, _ => rfl
  | i + 16, hi => have h : i + 16 < 16 := hi; omega

set_option maxRecDepth 100000 in
set_option maxHeartbeats 4000000 in
theorem afs0 (A : Option Addr) (c : Nat) (w : World) :
    Calls Tryd.prog 34 #[.slice A 0 c] w fun e w' => e = .returned (.tuple #[.agg #[.int .u64 0, .int .u64 0, .pointer none], .bool false]) ∧ Hid (Below w.heap.size w w') := by
  go_enter Tryd.func34, Tryd.ntmps34
  go_wp2_with fail
  refine bodyPost_ret (v := .tuple #[.agg #[.int .u64 0, .int .u64 0, .pointer none], .bool false]) (by simp [results, Tryd.results34, go_sem]) rfl ?_
  exact ⟨rfl, (Below.refl _ _).alloc (Nat.le_refl _) _⟩

set_option maxRecDepth 100000 in
set_option maxHeartbeats 8000000 in
theorem afs4 (a4 a6 : Addr) (b o c : Nat) (x0 x1 x2 x3 : Int) (hx0 : 0 ≤ x0 ∧ x0 ≤ 255) (hx1 : 0 ≤ x1 ∧ x1 ≤ 255) (hx2 : 0 ≤ x2 ∧ x2 ≤ 255) (hx3 : 0 ≤ x3 ∧ x3 ≤ 255) (w : World) (hg : Gl w a4 a6) (c0 : w.cell? ⟨b, o, none⟩ = some (.int .u8 x0)) (c1 : w.cell? ⟨b, o + 1, none⟩ = some (.int .u8 x1)) (c2 : w.cell? ⟨b, o + 2, none⟩ = some (.int .u8 x2)) (c3 : w.cell? ⟨b, o + 3, none⟩ = some (.int .u8 x3)) :
    Calls Tryd.prog 34 #[.slice (some ⟨b, o, none⟩) 4 c] w fun e w' => e = .returned (.tuple #[.agg #[.int .u64 0, .int .u64 (281470681743360 + (((x0 * 256 + x1) * 256 + x2) * 256 + x3)), .pointer (some a4)], .bool true]) ∧ Hid (Below w.heap.size w w') := by
  obtain ⟨W0, hW0⟩ : ∃ W0, Hid (w.alloc (.cells #[.int .u64 0, .int .u64 0, .pointer none] 71 (0, 0)) = W0) := ⟨_, Lib.hid rfl⟩
  have HG0 : Hid (Gl W0 a4 a6) := by show Gl _ _ _; rw [← hW0.out]; exact hg.alloc _
  have HB0 : Hid (Below w.heap.size w W0) := by show Below _ _ _; rw [← hW0.out]; exact (Below.refl _ _).alloc (Nat.le_refl _) _
  have HK0 : Hid (W0.heap[w.heap.size]? = some (.cells #[.int .u64 0, .int .u64 0, .pointer none] 71 (0, 0))) := by show _ = _; rw [← hW0.out]; exact heap_alloc_new w _
  have HZ0 : Hid (w.heap.size < W0.heap.size) := cell_in HK0.out
  have hbb : b < w.heap.size := World.block_lt_of_cell? _ _ c0
  have hat : ∀ w, (Instr.arrayAt 98 (.slice (some ⟨b, o, none⟩) 4 c)).run Tryd.prog w = .ok (.pointer (some ⟨b, o, none⟩)) w := fun w => run_arrayAt w 98 _ 4 _ 4 c Tryd.underlying98 (Nat.le_refl _)
  have e0 : W0.cell? ⟨b, o, none⟩ = some (.int .u8 x0) := (HB0.out.cell (p := ⟨b, o, none⟩) hbb).trans c0
  have e1 : W0.cell? ⟨b, o + 1, none⟩ = some (.int .u8 x1) := (HB0.out.cell (p := ⟨b, o + 1, none⟩) hbb).trans c1
  have e2 : W0.cell? ⟨b, o + 2, none⟩ = some (.int .u8 x2) := (HB0.out.cell (p := ⟨b, o + 2, none⟩) hbb).trans c2
  have e3 : W0.cell? ⟨b, o + 3, none⟩ = some (.int .u8 x3) := (HB0.out.cell (p := ⟨b, o + 3, none⟩) hbb).trans c3
  clear hg
  go_enter Tryd.func34, Tryd.ntmps34
  go_wp2_with fail
  rw [hW0.out]
  refine (af4 a4 a6 x0 x1 x2 x3 hx0 hx1 hx2 hx3 W0 HG0.out).mono ?_
  rintro e w1 ⟨rfl, H1⟩
  have k1 := (H1.out.block w.heap.size HZ0.out).trans HK0.out
  have HK1 := Lib.hid k1
  have r0 : w1.cell? ⟨w.heap.size, 0, none⟩ = some (.int .u64 0) := by rw [cell_of_row _ _ 0 _ _ (0, 0) k1]; rfl
  have r1 : w1.cell? ⟨w.heap.size, 1, none⟩ = some (.int .u64 0) := by rw [cell_of_row _ _ 1 _ _ (0, 0) k1]; rfl
  have r2 : w1.cell? ⟨w.heap.size, 2, none⟩ = some (.pointer none) := by rw [cell_of_row _ _ 2 _ _ (0, 0) k1]; rfl
  have rf := fun i => cell_free (W := w1) i k1
  clear k1
  go_wp2_with fail
  refine bodyPost_ret (v := .tuple #[.agg #[.int .u64 0, .int .u64 (281470681743360 + (((x0 * 256 + x1) * 256 + x2) * 256 + x3)), .pointer (some a4)], .bool true]) (by simp [results, Tryd.results34, go_sem, r0, r1, r2]) rfl ?_
  have hb1 : Below w.heap.size w w1 := HB0.out.trans (H1.out.mono HB0.out.size)
  exact ⟨rfl, below_cell (below_cell (below_cell hb1 hb1.size _ _ _ (Nat.le_refl _)) (by rw [size_cell]; exact hb1.size) _ _ _ (Nat.le_refl _)) (by rw [size_cell, size_cell]; exact hb1.size) _ _ _ (Nat.le_refl _)⟩

set_option maxRecDepth 100000 in
set_option maxHeartbeats 8000000 in
theorem afs16 (a4 a6 : Addr) (b o c : Nat) (x0 x1 x2 x3 x4 x5 x6 x7 x8 x9 x10 x11 x12 x13 x14 x15 : Int) (hx0 : 0 ≤ x0 ∧ x0 ≤ 255) (hx1 : 0 ≤ x1 ∧ x1 ≤ 255) (hx2 : 0 ≤ x2 ∧ x2 ≤ 255) (hx3 : 0 ≤ x3 ∧ x3 ≤ 255) (hx4 : 0 ≤ x4 ∧ x4 ≤ 255) (hx5 : 0 ≤ x5 ∧ x5 ≤ 255) (hx6 : 0 ≤ x6 ∧ x6 ≤ 255) (hx7 : 0 ≤ x7 ∧ x7 ≤ 255) (hx8 : 0 ≤ x8 ∧ x8 ≤ 255) (hx9 : 0 ≤ x9 ∧ x9 ≤ 255) (hx10 : 0 ≤ x10 ∧ x10 ≤ 255) (hx11 : 0 ≤ x11 ∧ x11 ≤ 255) (hx12 : 0 ≤ x12 ∧ x12 ≤ 255) (hx13 : 0 ≤ x13 ∧ x13 ≤ 255) (hx14 : 0 ≤ x14 ∧ x14 ≤ 255) (hx15 : 0 ≤ x15 ∧ x15 ≤ 255) (w : World) (hg : Gl w a4 a6) (c0 : w.cell? ⟨b, o, none⟩ = some (.int .u8 x0)) (c1 : w.cell? ⟨b, o + 1, none⟩ = some (.int .u8 x1)) (c2 : w.cell? ⟨b, o + 2, none⟩ = some (.int .u8 x2)) (c3 : w.cell? ⟨b, o + 3, none⟩ = some (.int .u8 x3)) (c4 : w.cell? ⟨b, o + 4, none⟩ = some (.int .u8 x4)) (c5 : w.cell? ⟨b, o + 5, none⟩ = some (.int .u8 x5)) (c6 : w.cell? ⟨b, o + 6, none⟩ = some (.int .u8 x6)) (c7 : w.cell? ⟨b, o + 7, none⟩ = some (.int .u8 x7)) (c8 : w.cell? ⟨b, o + 8, none⟩ = some (.int .u8 x8)) (c9 : w.cell? ⟨b, o + 9, none⟩ = some (.int .u8 x9)) (c10 : w.cell? ⟨b, o + 10, none⟩ = some (.int .u8 x10)) (c11 : w.cell? ⟨b, o + 11, none⟩ = some (.int .u8 x11)) (c12 : w.cell? ⟨b, o + 12, none⟩ = some (.int .u8 x12)) (c13 : w.cell? ⟨b, o + 13, none⟩ = some (.int .u8 x13)) (c14 : w.cell? ⟨b, o + 14, none⟩ = some (.int .u8 x14)) (c15 : w.cell? ⟨b, o + 15, none⟩ = some (.int .u8 x15)) :
    Calls Tryd.prog 34 #[.slice (some ⟨b, o, none⟩) 16 c] w fun e w' => e = .returned (.tuple #[.agg #[.int .u64 (((((((x0 * 256 + x1) * 256 + x2) * 256 + x3) * 256 + x4) * 256 + x5) * 256 + x6) * 256 + x7), .int .u64 (((((((x8 * 256 + x9) * 256 + x10) * 256 + x11) * 256 + x12) * 256 + x13) * 256 + x14) * 256 + x15), .pointer (some a6)], .bool true]) ∧ Hid (Below w.heap.size w w') := by
  obtain ⟨W0, hW0⟩ : ∃ W0, Hid (w.alloc (.cells #[.int .u64 0, .int .u64 0, .pointer none] 71 (0, 0)) = W0) := ⟨_, Lib.hid rfl⟩
  have HG0 : Hid (Gl W0 a4 a6) := by show Gl _ _ _; rw [← hW0.out]; exact hg.alloc _
  have HB0 : Hid (Below w.heap.size w W0) := by show Below _ _ _; rw [← hW0.out]; exact (Below.refl _ _).alloc (Nat.le_refl _) _
  have HK0 : Hid (W0.heap[w.heap.size]? = some (.cells #[.int .u64 0, .int .u64 0, .pointer none] 71 (0, 0))) := by show _ = _; rw [← hW0.out]; exact heap_alloc_new w _
  have HZ0 : Hid (w.heap.size < W0.heap.size) := cell_in HK0.out
  have hbb : b < w.heap.size := World.block_lt_of_cell? _ _ c0
  have hat : ∀ w, (Instr.arrayAt 102 (.slice (some ⟨b, o, none⟩) 16 c)).run Tryd.prog w = .ok (.pointer (some ⟨b, o, none⟩)) w := fun w => run_arrayAt w 102 _ 16 _ 16 c Tryd.underlying102 (Nat.le_refl _)
  have e0 : W0.cell? ⟨b, o, none⟩ = some (.int .u8 x0) := (HB0.out.cell (p := ⟨b, o, none⟩) hbb).trans c0
  have e1 : W0.cell? ⟨b, o + 1, none⟩ = some (.int .u8 x1) := (HB0.out.cell (p := ⟨b, o + 1, none⟩) hbb).trans c1
  have e2 : W0.cell? ⟨b, o + 2, none⟩ = some (.int .u8 x2) := (HB0.out.cell (p := ⟨b, o + 2, none⟩) hbb).trans c2
  have e3 : W0.cell? ⟨b, o + 3, none⟩ = some (.int .u8 x3) := (HB0.out.cell (p := ⟨b, o + 3, none⟩) hbb).trans c3
  have e4 : W0.cell? ⟨b, o + 4, none⟩ = some (.int .u8 x4) := (HB0.out.cell (p := ⟨b, o + 4, none⟩) hbb).trans c4
  have e5 : W0.cell? ⟨b, o + 5, none⟩ = some (.int .u8 x5) := (HB0.out.cell (p := ⟨b, o + 5, none⟩) hbb).trans c5
  have e6 : W0.cell? ⟨b, o + 6, none⟩ = some (.int .u8 x6) := (HB0.out.cell (p := ⟨b, o + 6, none⟩) hbb).trans c6
  have e7 : W0.cell? ⟨b, o + 7, none⟩ = some (.int .u8 x7) := (HB0.out.cell (p := ⟨b, o + 7, none⟩) hbb).trans c7
  have e8 : W0.cell? ⟨b, o + 8, none⟩ = some (.int .u8 x8) := (HB0.out.cell (p := ⟨b, o + 8, none⟩) hbb).trans c8
  have e9 : W0.cell? ⟨b, o + 9, none⟩ = some (.int .u8 x9) := (HB0.out.cell (p := ⟨b, o + 9, none⟩) hbb).trans c9
  have e10 : W0.cell? ⟨b, o + 10, none⟩ = some (.int .u8 x10) := (HB0.out.cell (p := ⟨b, o + 10, none⟩) hbb).trans c10
  have e11 : W0.cell? ⟨b, o + 11, none⟩ = some (.int .u8 x11) := (HB0.out.cell (p := ⟨b, o + 11, none⟩) hbb).trans c11
  have e12 : W0.cell? ⟨b, o + 12, none⟩ = some (.int .u8 x12) := (HB0.out.cell (p := ⟨b, o + 12, none⟩) hbb).trans c12
  have e13 : W0.cell? ⟨b, o + 13, none⟩ = some (.int .u8 x13) := (HB0.out.cell (p := ⟨b, o + 13, none⟩) hbb).trans c13
  have e14 : W0.cell? ⟨b, o + 14, none⟩ = some (.int .u8 x14) := (HB0.out.cell (p := ⟨b, o + 14, none⟩) hbb).trans c14
  have e15 : W0.cell? ⟨b, o + 15, none⟩ = some (.int .u8 x15) := (HB0.out.cell (p := ⟨b, o + 15, none⟩) hbb).trans c15
  clear hg
  go_enter Tryd.func34, Tryd.ntmps34
  go_wp2_with fail
  rw [hW0.out]
  refine (af16 a4 a6 x0 x1 x2 x3 x4 x5 x6 x7 x8 x9 x10 x11 x12 x13 x14 x15 hx0 hx1 hx2 hx3 hx4 hx5 hx6 hx7 hx8 hx9 hx10 hx11 hx12 hx13 hx14 hx15 W0 HG0.out).mono ?_
  rintro e w1 ⟨rfl, H1⟩
  have k1 := (H1.out.block w.heap.size HZ0.out).trans HK0.out
  have HK1 := Lib.hid k1
  have r0 : w1.cell? ⟨w.heap.size, 0, none⟩ = some (.int .u64 0) := by rw [cell_of_row _ _ 0 _ _ (0, 0) k1]; rfl
  have r1 : w1.cell? ⟨w.heap.size, 1, none⟩ = some (.int .u64 0) := by rw [cell_of_row _ _ 1 _ _ (0, 0) k1]; rfl
  have r2 : w1.cell? ⟨w.heap.size, 2, none⟩ = some (.pointer none) := by rw [cell_of_row _ _ 2 _ _ (0, 0) k1]; rfl
  have rf := fun i => cell_free (W := w1) i k1
  clear k1
  go_wp2_with fail
  refine bodyPost_ret (v := .tuple #[.agg #[.int .u64 (((((((x0 * 256 + x1) * 256 + x2) * 256 + x3) * 256 + x4) * 256 + x5) * 256 + x6) * 256 + x7), .int .u64 (((((((x8 * 256 + x9) * 256 + x10) * 256 + x11) * 256 + x12) * 256 + x13) * 256 + x14) * 256 + x15), .pointer (some a6)], .bool true]) (by simp [results, Tryd.results34, go_sem, r0, r1, r2]) rfl ?_
  have hb1 : Below w.heap.size w w1 := HB0.out.trans (H1.out.mono HB0.out.size)
  exact ⟨rfl, below_cell (below_cell (below_cell hb1 hb1.size _ _ _ (Nat.le_refl _)) (by rw [size_cell]; exact hb1.size) _ _ _ (Nat.le_refl _)) (by rw [size_cell, size_cell]; exact hb1.size) _ _ _ (Nat.le_refl _)⟩

end Go.Proofs.YtdjdcpcomhjnjaaDoor

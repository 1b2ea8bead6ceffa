/- Contracts of the library's byteorder and netip, as transport parameters meet them. Conditions: the variables z0, z4, z6noz read as told; the bytes are there. -/
import Derived.Test.YtdjdcpcomhjnjaaDoorCells
import Derived.Test.YtdjdcpcomhjnjaaDoorBits
import Derived.BigQuiet
import Derived.BigRegion
import Derived.StillTailTactics
import Derived.LaidEqlPtr
namespace Go.Proofs.YtdjdcpcomhjnjaaDoor
open Go.RowKit
set_option linter.unusedVariables false
set_option linter.unusedSimpArgs false

theorem or_u64r (j : Nat) (a y : Int) (h0 : 0 ≤ a) (hy0 : 0 ≤ y) (hy : y < 2 ^ j) (hm : a % 2 ^ j = 0) (h1 : a < 18446744073709551616) (h2 : y < 18446744073709551616) : bits .or .u64 y a = y + a := by
  obtain ⟨A, rfl⟩ := Int.eq_ofNat_of_zero_le h0
  obtain ⟨Y, rfl⟩ := Int.eq_ofNat_of_zero_le hy0
  rw [u64_or_nat Y A (by omega) (by omega), Nat.or_comm, nat_join j A Y (by exact_mod_cast hm) (by exact_mod_cast hy)]
  simp [Int.add_comm]
theorem or_u16 (x y : Int) (hx : 0 ≤ x ∧ x ≤ 255) (hy : 0 ≤ y ∧ y ≤ 255) : bits .or .u16 (x * 256) y = x * 256 + y := by
  obtain ⟨X, rfl⟩ := Int.eq_ofNat_of_zero_le hx.1
  obtain ⟨Y, rfl⟩ := Int.eq_ofNat_of_zero_le hy.1
  have e : ((X : Int) * 256) = ((X * 256 : Nat) : Int) := by omega
  rw [e]
  show IntKind.u16.wrap (((BitVec.ofInt 16 ((X * 256 : Nat) : Int)) ||| (BitVec.ofInt 16 (Y : Int))).toNat : Int) = _
  rw [BitVec.toNat_or, BitVec.ofInt_natCast, BitVec.ofInt_natCast, BitVec.toNat_ofNat, BitVec.toNat_ofNat, Nat.mod_eq_of_lt (by omega), Nat.mod_eq_of_lt (by omega), nat_join 8 (X * 256) Y (by omega) (by omega), IntKind.wrap_u16]
  omega

/-- The package's three variables. -/
structure Gl (w : World) (a4 a6 : Addr) : Prop where
  z0 : w.cell? ⟨0, 0, none⟩ = some (.pointer none)
  z4 : w.cell? ⟨1, 0, none⟩ = some (.pointer (some a4))
  z6 : w.cell? ⟨2, 0, none⟩ = some (.pointer (some a6))
  ne : a4 ≠ a6
  h4 : ∃ c t, w.heap[a4.block]? = some (.cells c t (0, 0))
  h6 : ∃ c t, w.heap[a6.block]? = some (.cells c t (0, 0))
  sz : 3 ≤ w.heap.size
theorem Gl.below {w w' : World} {a4 a6 : Addr} {B : Nat} (h : Gl w a4 a6) (hb : Below B w w') (hB : w.heap.size ≤ B) : Gl w' a4 a6 := by
  have hz := h.sz
  obtain ⟨c, t, h4⟩ := h.h4
  obtain ⟨c', t', h6⟩ := h.h6
  have l4 := cell_in h4
  have l6 := cell_in h6
  exact ⟨(hb.cell (p := ⟨0, 0, none⟩) (show _ < B by simp only; omega)).trans h.z0, (hb.cell (p := ⟨1, 0, none⟩) (show _ < B by simp only; omega)).trans h.z4, (hb.cell (p := ⟨2, 0, none⟩) (show _ < B by simp only; omega)).trans h.z6, h.ne, ⟨c, t, (hb.block _ (by omega)).trans h4⟩, ⟨c', t', (hb.block _ (by omega)).trans h6⟩, Nat.le_trans hz hb.size⟩
theorem Gl.drewN {w : World} {a4 a6 : Addr} (h : Gl w a4 a6) (n : Nat) : Gl (w.drewN n) a4 a6 := h.below (below_drewN (Below.refl _ _) n) (Nat.le_refl _)
theorem Gl.alloc {w : World} {a4 a6 : Addr} (h : Gl w a4 a6) (o : Obj) : Gl (w.alloc o) a4 a6 := h.below ((Below.refl _ _).alloc (Nat.le_refl _) _) (Nat.le_refl _)
/-- Two of its pointers held against each other. -/
theorem Gl.eqs {w : World} {a4 a6 : Addr} (h : Gl w a4 a6) (d : Nat) : (Op.equalIn (d + 1) 67 (.pointer (some a4)) (.pointer (some a4))).run Tryd.prog w = .ok true w ∧ (Op.equalIn (d + 1) 67 (.pointer (some a6)) (.pointer (some a4))).run Tryd.prog w = .ok false w := by
  obtain ⟨c, t, h4⟩ := h.h4
  obtain ⟨c', t', h6⟩ := h.h6
  have hp := Tryd.underlying67
  cases hq : Tryd.prog.info? 129 with
  | none =>
    have h : (Tryd.prog.info? 129).isSome = true := by kernel_rfl
    rw [hq] at h
    cases h
  | some j =>
    have hs : (Tryd.prog.info? 129).map (·.size) = some 2 := by kernel_rfl
    rw [hq] at hs
    have hj : j.size = 2 := by simpa using hs
    refine ⟨?_, ?_⟩
    · simp [Op.equalIn, run_underlying hp, sizeOf, typeInfo, hq, run_sameAddr_same]
    · simp [Op.equalIn, run_underlying hp, sizeOf, typeInfo, hq, hj, run_sameAddr_other w h.ne.symm h6 h4]

set_option maxHeartbeats 1000000 in
theorem bu16 (b o n c : Nat) (x y : Int) (hx : 0 ≤ x ∧ x ≤ 255) (hy : 0 ≤ y ∧ y ≤ 255) (w : World) (hn : 2 ≤ n) (hn2 : n ≤ 9223372036854775807) (c0 : w.cell? ⟨b, o, none⟩ = some (.int .u8 x)) (c1 : w.cell? ⟨b, o + 1, none⟩ = some (.int .u8 y)) :
    Calls Tryd.prog 42 #[.slice (some ⟨b, o, none⟩) n c] w fun e w' => e = .returned (.int .u16 (x * 256 + y)) ∧ ∃ z, w' = w.drewN z := by
  have ho := or_u16 x y hx hy
  have hn1 : (1 : Int) < (n : Int) := by omega
  obtain ⟨hx0, hx1⟩ := hx
  obtain ⟨hy0, hy1⟩ := hy
  go_enter Tryd.func42, Tryd.ntmps42
  go_wp2_with fail
  go_quiet (fail)
  go_wp2_with fail
  go_ret
  exact ⟨rfl, _, rfl⟩

set_option maxRecDepth 100000 in
set_option maxHeartbeats 4000000 in
theorem bu64 (b o n c : Nat) (x0 x1 x2 x3 x4 x5 x6 x7 : Int) (hx0 : 0 ≤ x0 ∧ x0 ≤ 255) (hx1 : 0 ≤ x1 ∧ x1 ≤ 255) (hx2 : 0 ≤ x2 ∧ x2 ≤ 255) (hx3 : 0 ≤ x3 ∧ x3 ≤ 255) (hx4 : 0 ≤ x4 ∧ x4 ≤ 255) (hx5 : 0 ≤ x5 ∧ x5 ≤ 255) (hx6 : 0 ≤ x6 ∧ x6 ≤ 255) (hx7 : 0 ≤ x7 ∧ x7 ≤ 255) (w : World) (hn : 8 ≤ n) (hn2 : n ≤ 9223372036854775807) (c0 : w.cell? ⟨b, o, none⟩ = some (.int .u8 x0)) (c1 : w.cell? ⟨b, o + 1, none⟩ = some (.int .u8 x1)) (c2 : w.cell? ⟨b, o + 2, none⟩ = some (.int .u8 x2)) (c3 : w.cell? ⟨b, o + 3, none⟩ = some (.int .u8 x3)) (c4 : w.cell? ⟨b, o + 4, none⟩ = some (.int .u8 x4)) (c5 : w.cell? ⟨b, o + 5, none⟩ = some (.int .u8 x5)) (c6 : w.cell? ⟨b, o + 6, none⟩ = some (.int .u8 x6)) (c7 : w.cell? ⟨b, o + 7, none⟩ = some (.int .u8 x7)) :
    Calls Tryd.prog 52 #[.slice (some ⟨b, o, none⟩) n c] w fun e w' => e = .returned (.int .u64 (((((((x0 * 256 + x1) * 256 + x2) * 256 + x3) * 256 + x4) * 256 + x5) * 256 + x6) * 256 + x7)) ∧ ∃ z, w' = w.drewN z := by
  obtain ⟨hx0l, hx0u⟩ := hx0
  obtain ⟨hx1l, hx1u⟩ := hx1
  obtain ⟨hx2l, hx2u⟩ := hx2
  obtain ⟨hx3l, hx3u⟩ := hx3
  obtain ⟨hx4l, hx4u⟩ := hx4
  obtain ⟨hx5l, hx5u⟩ := hx5
  obtain ⟨hx6l, hx6u⟩ := hx6
  obtain ⟨hx7l, hx7u⟩ := hx7
  have q8 : bits .or .u64 (x7) (x6 * 256) = x7 + x6 * 256 := or_u64r 8 (x6 * 256) _ (by omega) (by omega) (by omega) (by omega) (by omega) (by omega)
  have q16 : bits .or .u64 (x7 + x6 * 256) (x5 * 65536) = x7 + x6 * 256 + x5 * 65536 := or_u64r 16 (x5 * 65536) _ (by omega) (by omega) (by omega) (by omega) (by omega) (by omega)
  have q24 : bits .or .u64 (x7 + x6 * 256 + x5 * 65536) (x4 * 16777216) = x7 + x6 * 256 + x5 * 65536 + x4 * 16777216 := or_u64r 24 (x4 * 16777216) _ (by omega) (by omega) (by omega) (by omega) (by omega) (by omega)
  have q32 : bits .or .u64 (x7 + x6 * 256 + x5 * 65536 + x4 * 16777216) (x3 * 4294967296) = x7 + x6 * 256 + x5 * 65536 + x4 * 16777216 + x3 * 4294967296 := or_u64r 32 (x3 * 4294967296) _ (by omega) (by omega) (by omega) (by omega) (by omega) (by omega)
  have q40 : bits .or .u64 (x7 + x6 * 256 + x5 * 65536 + x4 * 16777216 + x3 * 4294967296) (x2 * 1099511627776) = x7 + x6 * 256 + x5 * 65536 + x4 * 16777216 + x3 * 4294967296 + x2 * 1099511627776 := or_u64r 40 (x2 * 1099511627776) _ (by omega) (by omega) (by omega) (by omega) (by omega) (by omega)
  have q48 : bits .or .u64 (x7 + x6 * 256 + x5 * 65536 + x4 * 16777216 + x3 * 4294967296 + x2 * 1099511627776) (x1 * 281474976710656) = x7 + x6 * 256 + x5 * 65536 + x4 * 16777216 + x3 * 4294967296 + x2 * 1099511627776 + x1 * 281474976710656 := or_u64r 48 (x1 * 281474976710656) _ (by omega) (by omega) (by omega) (by omega) (by omega) (by omega)
  have q56 : bits .or .u64 (x7 + x6 * 256 + x5 * 65536 + x4 * 16777216 + x3 * 4294967296 + x2 * 1099511627776 + x1 * 281474976710656) (x0 * 72057594037927936) = x7 + x6 * 256 + x5 * 65536 + x4 * 16777216 + x3 * 4294967296 + x2 * 1099511627776 + x1 * 281474976710656 + x0 * 72057594037927936 := or_u64r 56 (x0 * 72057594037927936) _ (by omega) (by omega) (by omega) (by omega) (by omega) (by omega)
  have hn1 : (7 : Int) < (n : Int) := by omega
  have e : ((((((x0 * 256 + x1) * 256 + x2) * 256 + x3) * 256 + x4) * 256 + x5) * 256 + x6) * 256 + x7 = x7 + x6 * 256 + x5 * 65536 + x4 * 16777216 + x3 * 4294967296 + x2 * 1099511627776 + x1 * 281474976710656 + x0 * 72057594037927936 := by omega
  rw [e]
  clear e
  go_enter Tryd.func52, Tryd.ntmps52
  go_wp2_with fail
  go_quiet (fail)
  go_wp2_with fail
  go_ret
  exact ⟨rfl, _, rfl⟩

end Go.Proofs.YtdjdcpcomhjnjaaDoor

/- Contract of beUint32 (four bytes, the high one first). Conditions: the slice reads as bytes. -/
import Derived.Test.YtdogepkfgobcfaaBase
import Derived.Test.YtdogepkfgobcfaaBits
import Derived.Deep.RegionWith
namespace Go.Proofs.Ytdogepkfgobcfaa
open Go.RowKit
set_option linter.unusedVariables false

theorem or4_32 (x y z u : Int) (hx : 0 ≤ x ∧ x ≤ 255) (hy : 0 ≤ y ∧ y ≤ 255) (hz : 0 ≤ z ∧ z ≤ 255) (hu : 0 ≤ u ∧ u ≤ 255) :
    bits .or .u32 (bits .or .u32 (bits .or .u32 (x * 16777216) (y * 65536)) (z * 256)) u = ((x * 256 + y) * 256 + z) * 256 + u := by
  rw [or_u32 24 (x * 16777216) (y * 65536) (by omega) (by omega) (by omega) (by omega) (by omega) (by omega),
    or_u32 16 _ (z * 256) (by omega) (by omega) (by omega) (by omega) (by omega) (by omega),
    or_u32 8 _ u (by omega) (by omega) (by omega) (by omega) (by omega) (by omega)]
  omega

set_option maxHeartbeats 1000000 in
theorem be32_at (b o n c : Nat) (x y z u : Int) (w : World) (hn : 4 ≤ n) (hn2 : n ≤ 9223372036854775807) (hx : 0 ≤ x ∧ x ≤ 255) (hy : 0 ≤ y ∧ y ≤ 255) (hz : 0 ≤ z ∧ z ≤ 255) (hu : 0 ≤ u ∧ u ≤ 255)
    (c0 : w.cell? ⟨b, o, none⟩ = some (.int .u8 x)) (c1 : w.cell? ⟨b, o + 1, none⟩ = some (.int .u8 y)) (c2 : w.cell? ⟨b, o + 2, none⟩ = some (.int .u8 z)) (c3 : w.cell? ⟨b, o + 3, none⟩ = some (.int .u8 u)) :
    Calls Try.prog 112 #[.slice (some ⟨b, o, none⟩) n c] w fun e w' => e = .returned (.int .u32 (((x * 256 + y) * 256 + z) * 256 + u)) ∧ ∃ q, w' = w.drewN q := by
  have p0 : (0 : Int) < (n : Int) := by omega
  have p1 : (1 : Int) < (n : Int) := by omega
  have p2 : (2 : Int) < (n : Int) := by omega
  have p3 : (3 : Int) < (n : Int) := by omega
  go_enter Try.func112, Try.ntmps112
  go_wp2_with fail
  go_quiet (fail)
  go_wp2
  go_ret
  exact ⟨ret1_eq (or4_32 x y z u hx hy hz hu), nq, rfl⟩

/-- beUint32 of bytes of which there are four. -/
theorem be32 (A : Option Addr) (n c : Nat) (l : List Int) (w : World) (hr : Rd w A l) (hn : l.length = n) (h4 : 4 ≤ n) (hn2 : n ≤ 9223372036854775807) :
    Calls Try.prog 112 #[.slice A n c] w fun e w' => e = .returned (.int .u32 (be 0 (l.take 4))) ∧ ∃ q, w' = w.drewN q := by
  obtain ⟨b, o, rfl, hc⟩ := hr.2 (by omega)
  have hb := hr.1
  have e : be 0 (l.take 4) = ((l.getD 0 0 * 256 + l.getD 1 0) * 256 + l.getD 2 0) * 256 + l.getD 3 0 := by
    match l, hn with
    | x :: y :: z :: u :: r, _ => simp [be]
    | [], hn => simp at hn; omega
    | [_], hn => simp at hn; omega
    | [_, _], hn => simp at hn; omega
    | [_, _, _], hn => simp at hn; omega
  rw [e]
  exact be32_at b o n c _ _ _ _ w h4 hn2 (hb.getD 0) (hb.getD 1) (hb.getD 2) (hb.getD 3) (by simpa using hc 0 (by omega)) (hc 1 (by omega)) (hc 2 (by omega)) (hc 3 (by omega))

end Go.Proofs.Ytdogepkfgobcfaa

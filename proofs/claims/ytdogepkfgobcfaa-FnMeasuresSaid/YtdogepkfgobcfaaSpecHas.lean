/- Contract of spec.Has. Conditions: the slice reads as ops. -/
import Derived.Test.YtdogepkfgobcfaaRangeOps
import Derived.Test.YtdogepkfgobcfaaSetCuts
namespace Go.Proofs.Ytdogepkfgobcfaa
open Go.RowKit
set_option linter.unusedVariables false

theorem hasF_take (l : List Opr) (v : Int) (k : Nat) (h : k < l.length) : hasF false (l.take (k + 1)) v = (if l[k].st ≤ v ∧ v < l[k].en then !l[k].sub else hasF false (l.take k) v) := by
  rw [take_snoc h, hasF_append]
  rfl

set_option maxRecDepth 100000 in
set_option maxHeartbeats 1000000 in
theorem shas (A : Option Addr) (n c : Nat) (l : List Opr) (v : Int) (w : World) (hr : RdE ESo w A l) (hn : Hid (l.length = n)) (hn2 : n ≤ 1000) :
    Calls Try.prog 30 #[.slice A n c, .int .i64 v] w fun e w' => e = .returned (.bool (has l v)) ∧ Below w.heap.size w w' := by
  have HR := Lib.hid hr
  clear hr
  go_enter Try.func30, Try.ntmps30
  go_wp2_with fail
  go_loopw [5, 10] (fun s i wr => ∃ (k : Nat) (x : Bool), k ≤ n ∧ i = .int .i64 k ∧ s = .bool x ∧ Hid (x = hasF false (l.take k) v) ∧ Hid (Below w.heap.size w wr)) (fun _ i _ => n - (intOf i).toNat)
  case atStart => exact ⟨0, false, by omega, rfl, rfl, rfl, Below.refl _ _⟩
  case round =>
    obtain ⟨k, b, hk, rfl, rfl, HX, HB⟩ := hrel
    by_cases hlt : k < n
    · have hlt' : k < l.length := by rw [hn.out]; exact hlt
      obtain ⟨bb, o, rfl, hc⟩ := (HR.out.below HB.out) (by omega)
      obtain ⟨c0, c1, c2⟩ := op_cells rfl rfl hc k hlt'
      have hm := Lib.hid (hasF_take l v k hlt')
      obtain ⟨q, hq⟩ : ∃ q, q = l[k] := ⟨_, rfl⟩
      rw [← hq] at c0 c1 c2 hm
      obtain ⟨x, y, z⟩ := q
      have HB1 := Lib.hid (HB.out.alloc HB.out.size (.cells #[.bool x, .int .i64 y, .int .i64 z] 78))
      clear hc hq hlt'
      by_cases h1 : y ≤ v
      · by_cases h2 : v < z
        · go_wp2_with fail
          go_roundw
          case rel => exact ⟨k + 1, !x, by omega, by go_num, rfl, by show _ = _; rw [hm.out, if_pos ⟨h1, h2⟩], HB1⟩
          case measure => simp [intOf]; omega
        · go_wp2_with fail
          go_roundw
          case rel => exact ⟨k + 1, b, by omega, by go_num, rfl, by show _ = _; rw [hm.out, if_neg (fun h => h2 h.2)]; exact HX.out, HB1⟩
          case measure => simp [intOf]; omega
      · go_wp2_with fail
        go_roundw
        case rel => exact ⟨k + 1, b, by omega, by go_num, rfl, by show _ = _; rw [hm.out, if_neg (fun h => h1 h.1)]; exact HX.out, HB1⟩
        case measure => simp [intOf]; omega
    · obtain rfl : k = n := by omega
      have he : Hid (l.take k = l) := List.take_of_length_le (by rw [hn.out]; exact Nat.le_refl _)
      rw [he.out] at HX
      go_wp2
      go_ret
      exact ⟨by rw [HX.out]; rfl, HB.out⟩

end Go.Proofs.Ytdogepkfgobcfaa

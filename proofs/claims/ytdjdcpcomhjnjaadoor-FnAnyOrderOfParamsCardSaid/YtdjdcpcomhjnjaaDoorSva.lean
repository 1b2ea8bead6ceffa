/- Contract of spec.Varint: a number as the shortest variable-length integer, in new memory. Conditions: the number is below 2^62. -/
import Derived.Test.YtdjdcpcomhjnjaaDoorOwn
import Derived.Test.YtdjdcpcomhjnjaaDoorAv
namespace Go.Proofs.YtdjdcpcomhjnjaaDoor
open Go.RowKit
set_option linter.unusedVariables false

set_option maxHeartbeats 2000000 in
theorem sva_1 (v : Int) (w : World) (h0 : 0 ≤ v) (hlo : 0 ≤ v) (hhi : v ≤ 63) :
    Calls Tryd.prog 25 #[.int .u64 v] w fun e w' => MadeEnd w (enc v) e w' := by
  have hbs := enc_Bs h0 (by omega : v ≤ 4611686018427387903)
  have he : enc v = [v] := by rw [enc, if_pos hhi]
  have HB := Lib.hid (he ▸ hbs)
  have HE := Lib.hid he
  clear hbs he
  have ho : bits .or .u8 v 0 = v := by have := or_u8_r 6 0 v (by decide) h0 (by omega) (by decide) (by decide) (by omega); rwa [Int.zero_add] at this
  have hmk : ∀ w, (Instr.makeSlice 22 (.int .i64 1) (.int .i64 1)).run Tryd.prog w = .ok (.slice (some ⟨w.heap.size, 0, none⟩) 1 1) (w.alloc (.cells #[.int .u8 0] 5)) := fun _ => by kernel_rfl
  go_enter Tryd.func25, Tryd.ntmps25
  go_wp2
  refine wp_loop_rounds 5 ?_
  iterate 5
    rw [rounds_succ]
    go_wp2
  refine wp_loop_rounds 2 ?_
  iterate 2
    rw [rounds_succ]
    go_wp2
  go_ret
  rw [HE.out]
  exact ⟨_, rfl, Own.new w _ HB.out (by simp [maxLen]), (Below.refl _ _).alloc (Nat.le_refl _) _⟩

set_option maxHeartbeats 2000000 in
theorem sva_2 (v : Int) (w : World) (h0 : 0 ≤ v) (hlo : 63 < v) (hhi : v ≤ 16383) :
    Calls Tryd.prog 25 #[.int .u64 v] w fun e w' => MadeEnd w (enc v) e w' := by
  have hbs := enc_Bs h0 (by omega : v ≤ 4611686018427387903)
  have he : enc v = [64 + v / 256, v % 256] := by rw [enc, if_neg (by omega), if_pos hhi]
  have HB := Lib.hid (he ▸ hbs)
  have HE := Lib.hid he
  clear hbs he
  have ho : bits .or .u8 (v / 256) 64 = 64 + v / 256 := or_u8_r 6 _ _ (by decide) (by omega) (by omega) (by decide) (by decide) (by omega)
  have hw0 : IntKind.u8.wrap v = v % 256 := wrap_u8 _
  have hmk : ∀ w, (Instr.makeSlice 22 (.int .i64 2) (.int .i64 2)).run Tryd.prog w = .ok (.slice (some ⟨w.heap.size, 0, none⟩) 2 2) (w.alloc (.cells #[.int .u8 0, .int .u8 0] 5)) := fun _ => by kernel_rfl
  go_enter Tryd.func25, Tryd.ntmps25
  go_wp2
  refine wp_loop_rounds 5 ?_
  iterate 5
    rw [rounds_succ]
    go_wp2
  refine wp_loop_rounds 3 ?_
  iterate 3
    rw [rounds_succ]
    go_wp2
  go_ret
  rw [HE.out]
  exact ⟨_, rfl, Own.new w _ HB.out (by simp [maxLen]), (Below.refl _ _).alloc (Nat.le_refl _) _⟩

set_option maxHeartbeats 2000000 in
theorem sva_4 (v : Int) (w : World) (h0 : 0 ≤ v) (hlo : 16383 < v) (hhi : v ≤ 1073741823) :
    Calls Tryd.prog 25 #[.int .u64 v] w fun e w' => MadeEnd w (enc v) e w' := by
  have hbs := enc_Bs h0 (by omega : v ≤ 4611686018427387903)
  have he : enc v = [128 + v / 16777216, v / 65536 % 256, v / 256 % 256, v % 256] := by rw [enc, if_neg (by omega), if_neg (by omega), if_pos hhi]
  have HB := Lib.hid (he ▸ hbs)
  have HE := Lib.hid he
  clear hbs he
  have ho : bits .or .u8 (v / 16777216) 128 = 128 + v / 16777216 := or_u8_r 6 _ _ (by decide) (by omega) (by omega) (by decide) (by decide) (by omega)
  have hw16 : IntKind.u8.wrap (v / 65536) = v / 65536 % 256 := wrap_u8 _
  have hw8 : IntKind.u8.wrap (v / 256) = v / 256 % 256 := wrap_u8 _
  have hw0 : IntKind.u8.wrap v = v % 256 := wrap_u8 _
  have hmk : ∀ w, (Instr.makeSlice 22 (.int .i64 4) (.int .i64 4)).run Tryd.prog w = .ok (.slice (some ⟨w.heap.size, 0, none⟩) 4 4) (w.alloc (.cells #[.int .u8 0, .int .u8 0, .int .u8 0, .int .u8 0] 5)) := fun _ => by kernel_rfl
  go_enter Tryd.func25, Tryd.ntmps25
  go_wp2
  refine wp_loop_rounds 5 ?_
  iterate 5
    rw [rounds_succ]
    go_wp2
  refine wp_loop_rounds 5 ?_
  iterate 5
    rw [rounds_succ]
    go_wp2
  go_ret
  rw [HE.out]
  exact ⟨_, rfl, Own.new w _ HB.out (by simp [maxLen]), (Below.refl _ _).alloc (Nat.le_refl _) _⟩

set_option maxHeartbeats 2000000 in
theorem sva_8 (v : Int) (w : World) (h0 : 0 ≤ v) (hlo : 1073741823 < v) (hhi : v ≤ 4611686018427387903) :
    Calls Tryd.prog 25 #[.int .u64 v] w fun e w' => MadeEnd w (enc v) e w' := by
  have hbs := enc_Bs h0 (by omega : v ≤ 4611686018427387903)
  have he : enc v = [192 + v / 72057594037927936, v / 281474976710656 % 256, v / 1099511627776 % 256, v / 4294967296 % 256, v / 16777216 % 256, v / 65536 % 256, v / 256 % 256, v % 256] := by rw [enc, if_neg (by omega), if_neg (by omega), if_neg (by omega)]
  have HB := Lib.hid (he ▸ hbs)
  have HE := Lib.hid he
  clear hbs he
  have ho : bits .or .u8 (v / 72057594037927936) 192 = 192 + v / 72057594037927936 := or_u8_r 6 _ _ (by decide) (by omega) (by omega) (by decide) (by decide) (by omega)
  have hw48 : IntKind.u8.wrap (v / 281474976710656) = v / 281474976710656 % 256 := wrap_u8 _
  have hw40 : IntKind.u8.wrap (v / 1099511627776) = v / 1099511627776 % 256 := wrap_u8 _
  have hw32 : IntKind.u8.wrap (v / 4294967296) = v / 4294967296 % 256 := wrap_u8 _
  have hw24 : IntKind.u8.wrap (v / 16777216) = v / 16777216 % 256 := wrap_u8 _
  have hw16 : IntKind.u8.wrap (v / 65536) = v / 65536 % 256 := wrap_u8 _
  have hw8 : IntKind.u8.wrap (v / 256) = v / 256 % 256 := wrap_u8 _
  have hw0 : IntKind.u8.wrap v = v % 256 := wrap_u8 _
  have hmk : ∀ w, (Instr.makeSlice 22 (.int .i64 8) (.int .i64 8)).run Tryd.prog w = .ok (.slice (some ⟨w.heap.size, 0, none⟩) 8 8) (w.alloc (.cells #[.int .u8 0, .int .u8 0, .int .u8 0, .int .u8 0, .int .u8 0, .int .u8 0, .int .u8 0, .int .u8 0] 5)) := fun _ => by kernel_rfl
  go_enter Tryd.func25, Tryd.ntmps25
  go_wp2
  refine wp_loop_rounds 5 ?_
  iterate 5
    rw [rounds_succ]
    go_wp2
  refine wp_loop_rounds 9 ?_
  iterate 9
    rw [rounds_succ]
    go_wp2
  go_ret
  rw [HE.out]
  exact ⟨_, rfl, Own.new w _ HB.out (by simp [maxLen]), (Below.refl _ _).alloc (Nat.le_refl _) _⟩

/-- spec.Varint of a number below 2^62. -/
theorem sva (v : Int) (w : World) (h0 : 0 ≤ v) (h1 : v ≤ 4611686018427387903) :
    Calls Tryd.prog 25 #[.int .u64 v] w fun e w' => MadeEnd w (enc v) e w' := by
  by_cases a : v ≤ 63
  · exact sva_1 v w h0 h0 a
  by_cases b : v ≤ 16383
  · exact sva_2 v w h0 (by omega) b
  by_cases c : v ≤ 1073741823
  · exact sva_4 v w h0 (by omega) c
  · exact sva_8 v w h0 (by omega) h1

end Go.Proofs.YtdjdcpcomhjnjaaDoor


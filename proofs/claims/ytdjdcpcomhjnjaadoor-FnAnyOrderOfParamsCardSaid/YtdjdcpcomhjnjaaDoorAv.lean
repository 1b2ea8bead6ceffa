/- Contracts of quicwire.AppendVarint and SizeVarint. Conditions: the number is below 2^62. -/
import Derived.Test.YtdjdcpcomhjnjaaDoorOwn
import Derived.Test.YtdjdcpcomhjnjaaDoorBits
namespace Go.Proofs.YtdjdcpcomhjnjaaDoor
open Go.RowKit
set_option linter.unusedVariables false

set_option maxHeartbeats 1000000 in
/-- SizeVarint of a number below 2^62. -/
theorem sv (v : Int) (w : World) (h0 : 0 ≤ v) (h1 : v ≤ 4611686018427387903) :
    Calls Tryd.prog 49 #[.int .u64 v] w fun e w' => e = .returned (.int .i64 (esz v : Nat)) ∧ w = w' := by
  unfold esz
  by_cases a : v ≤ 63
  · rw [if_pos a]
    go_enter Tryd.func49, Tryd.ntmps49
    go_wp2
    go_ret
    exact ⟨rfl, rfl⟩
  by_cases b : v ≤ 16383
  · rw [if_neg a, if_pos b]
    go_enter Tryd.func49, Tryd.ntmps49
    go_wp2
    go_ret
    exact ⟨rfl, rfl⟩
  by_cases c : v ≤ 1073741823
  · rw [if_neg a, if_neg b, if_pos c]
    go_enter Tryd.func49, Tryd.ntmps49
    go_wp2
    go_ret
    exact ⟨rfl, rfl⟩
  · rw [if_neg a, if_neg b, if_neg c]
    go_enter Tryd.func49, Tryd.ntmps49
    go_wp2
    go_ret
    exact ⟨rfl, rfl⟩

theorem wrap_u8 (x : Int) : IntKind.u8.wrap x = x % 256 := by rw [IntKind.wrap_u8]

set_option maxHeartbeats 1000000 in
theorem av_1 (B : Nat) (s : Value) (l : List Int) (v : Int) (w : World) (hown : Own B w s l) (hB : B ≤ w.heap.size) (hlen : l.length ≤ 1099511627776) (h0 : 0 ≤ v) (hlo : 0 ≤ v) (hhi : v ≤ 63) :
    Calls Tryd.prog 47 #[s, .int .u64 v] w fun e w' => AppEnd B w s (l ++ enc v) e w' := by
  have hbs := enc_Bs h0 (by omega : v ≤ 4611686018427387903)
  have he : enc v = [v] := by rw [enc, if_pos hhi]
  rw [he] at hbs ⊢
  have hrd := Rd.new w _ hbs 5
  have HR := Lib.hid hrd
  clear he hbs hrd
  go_enter Tryd.func47, Tryd.ntmps47
  go_wp2_with (at_builtin; refine wpList_app B _ rfl _ _ rfl _ l rfl (hown.alloc _) (some ⟨w.heap.size, 0, none⟩) 1 1 [v] rfl rfl (by exact HR.out) (by simp) (by omega) (by simp; omega) ?_; intro s' w1 hown1 hgrow1 hat1 hbel1 hnil1)
  go_ret
  exact ⟨s', rfl, hown1, grownBy_alloc_left hgrow1, hat1.imp id fun h => ⟨_, h, by simp⟩, ((Below.refl _ _).alloc hB _).trans hbel1, fun h => (hnil1.1 h).1⟩

set_option maxHeartbeats 1000000 in
theorem av_2 (B : Nat) (s : Value) (l : List Int) (v : Int) (w : World) (hown : Own B w s l) (hB : B ≤ w.heap.size) (hlen : l.length ≤ 1099511627776) (h0 : 0 ≤ v) (hlo : 63 < v) (hhi : v ≤ 16383) :
    Calls Tryd.prog 47 #[s, .int .u64 v] w fun e w' => AppEnd B w s (l ++ enc v) e w' := by
  have hbs := enc_Bs h0 (by omega : v ≤ 4611686018427387903)
  have he : enc v = [64 + v / 256, v % 256] := by rw [enc, if_neg (by omega), if_pos hhi]
  rw [he] at hbs ⊢
  have hrd := Rd.new w _ hbs 5
  have HR := Lib.hid hrd
  clear he hbs hrd
  have ho : bits .or .u8 64 (v / 256) = 64 + v / 256 := or_u8 6 _ _ (by omega) (by omega) (by omega) (by decide) (by omega) (by omega)
  have hw0 : IntKind.u8.wrap v = v % 256 := wrap_u8 _
  go_enter Tryd.func47, Tryd.ntmps47
  go_wp2_with (at_builtin; refine wpList_app B _ rfl _ _ rfl _ l rfl (hown.alloc _) (some ⟨w.heap.size, 0, none⟩) 2 2 [64 + v / 256, v % 256] rfl rfl (by exact HR.out) (by simp) (by omega) (by simp; omega) ?_; intro s' w1 hown1 hgrow1 hat1 hbel1 hnil1)
  go_ret
  exact ⟨s', rfl, hown1, grownBy_alloc_left hgrow1, hat1.imp id fun h => ⟨_, h, by simp⟩, ((Below.refl _ _).alloc hB _).trans hbel1, fun h => (hnil1.1 h).1⟩

set_option maxHeartbeats 1000000 in
theorem av_4 (B : Nat) (s : Value) (l : List Int) (v : Int) (w : World) (hown : Own B w s l) (hB : B ≤ w.heap.size) (hlen : l.length ≤ 1099511627776) (h0 : 0 ≤ v) (hlo : 16383 < v) (hhi : v ≤ 1073741823) :
    Calls Tryd.prog 47 #[s, .int .u64 v] w fun e w' => AppEnd B w s (l ++ enc v) e w' := by
  have hbs := enc_Bs h0 (by omega : v ≤ 4611686018427387903)
  have he : enc v = [128 + v / 16777216, v / 65536 % 256, v / 256 % 256, v % 256] := by rw [enc, if_neg (by omega), if_neg (by omega), if_pos hhi]
  rw [he] at hbs ⊢
  have hrd := Rd.new w _ hbs 5
  have HR := Lib.hid hrd
  clear he hbs hrd
  have ho : bits .or .u8 128 (v / 16777216) = 128 + v / 16777216 := or_u8 6 _ _ (by omega) (by omega) (by omega) (by decide) (by omega) (by omega)
  have hw16 : IntKind.u8.wrap (v / 65536) = v / 65536 % 256 := wrap_u8 _
  have hw8 : IntKind.u8.wrap (v / 256) = v / 256 % 256 := wrap_u8 _
  have hw0 : IntKind.u8.wrap v = v % 256 := wrap_u8 _
  go_enter Tryd.func47, Tryd.ntmps47
  go_wp2_with (at_builtin; refine wpList_app B _ rfl _ _ rfl _ l rfl (hown.alloc _) (some ⟨w.heap.size, 0, none⟩) 4 4 [128 + v / 16777216, v / 65536 % 256, v / 256 % 256, v % 256] rfl rfl (by exact HR.out) (by simp) (by omega) (by simp; omega) ?_; intro s' w1 hown1 hgrow1 hat1 hbel1 hnil1)
  go_ret
  exact ⟨s', rfl, hown1, grownBy_alloc_left hgrow1, hat1.imp id fun h => ⟨_, h, by simp⟩, ((Below.refl _ _).alloc hB _).trans hbel1, fun h => (hnil1.1 h).1⟩

set_option maxHeartbeats 1000000 in
theorem av_8 (B : Nat) (s : Value) (l : List Int) (v : Int) (w : World) (hown : Own B w s l) (hB : B ≤ w.heap.size) (hlen : l.length ≤ 1099511627776) (h0 : 0 ≤ v) (hlo : 1073741823 < v) (hhi : v ≤ 4611686018427387903) :
    Calls Tryd.prog 47 #[s, .int .u64 v] w fun e w' => AppEnd B w s (l ++ enc v) e w' := by
  have hbs := enc_Bs h0 (by omega : v ≤ 4611686018427387903)
  have he : enc v = [192 + v / 72057594037927936, v / 281474976710656 % 256, v / 1099511627776 % 256, v / 4294967296 % 256, v / 16777216 % 256, v / 65536 % 256, v / 256 % 256, v % 256] := by rw [enc, if_neg (by omega), if_neg (by omega), if_neg (by omega)]
  rw [he] at hbs ⊢
  have hrd := Rd.new w _ hbs 5
  have HR := Lib.hid hrd
  clear he hbs hrd
  have ho : bits .or .u8 192 (v / 72057594037927936) = 192 + v / 72057594037927936 := or_u8 6 _ _ (by omega) (by omega) (by omega) (by decide) (by omega) (by omega)
  have hw48 : IntKind.u8.wrap (v / 281474976710656) = v / 281474976710656 % 256 := wrap_u8 _
  have hw40 : IntKind.u8.wrap (v / 1099511627776) = v / 1099511627776 % 256 := wrap_u8 _
  have hw32 : IntKind.u8.wrap (v / 4294967296) = v / 4294967296 % 256 := wrap_u8 _
  have hw24 : IntKind.u8.wrap (v / 16777216) = v / 16777216 % 256 := wrap_u8 _
  have hw16 : IntKind.u8.wrap (v / 65536) = v / 65536 % 256 := wrap_u8 _
  have hw8 : IntKind.u8.wrap (v / 256) = v / 256 % 256 := wrap_u8 _
  have hw0 : IntKind.u8.wrap v = v % 256 := wrap_u8 _
  go_enter Tryd.func47, Tryd.ntmps47
  go_wp2_with (at_builtin; refine wpList_app B _ rfl _ _ rfl _ l rfl (hown.alloc _) (some ⟨w.heap.size, 0, none⟩) 8 8 [192 + v / 72057594037927936, v / 281474976710656 % 256, v / 1099511627776 % 256, v / 4294967296 % 256, v / 16777216 % 256, v / 65536 % 256, v / 256 % 256, v % 256] rfl rfl (by exact HR.out) (by simp) (by omega) (by simp; omega) ?_; intro s' w1 hown1 hgrow1 hat1 hbel1 hnil1)
  go_ret
  exact ⟨s', rfl, hown1, grownBy_alloc_left hgrow1, hat1.imp id fun h => ⟨_, h, by simp⟩, ((Below.refl _ _).alloc hB _).trans hbel1, fun h => (hnil1.1 h).1⟩

/-- AppendVarint onto bytes of the call's own. -/
theorem av (B : Nat) (s : Value) (l : List Int) (v : Int) (w : World) (hown : Own B w s l) (hB : B ≤ w.heap.size) (hlen : l.length ≤ 1099511627776) (h0 : 0 ≤ v) (h1 : v ≤ 4611686018427387903) :
    Calls Tryd.prog 47 #[s, .int .u64 v] w fun e w' => AppEnd B w s (l ++ enc v) e w' := by
  by_cases a : v ≤ 63
  · exact av_1 B s l v w hown hB hlen h0 h0 a
  by_cases b : v ≤ 16383
  · exact av_2 B s l v w hown hB hlen h0 (by omega) b
  by_cases c : v ≤ 1073741823
  · exact av_4 B s l v w hown hB hlen h0 (by omega) c
  · exact av_8 B s l v w hown hB hlen h0 (by omega) h1

end Go.Proofs.YtdjdcpcomhjnjaaDoor


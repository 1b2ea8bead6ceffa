/- Contract of laws.ops. Conditions: the slice reads as ops of 64-bit numbers. -/
import Derived.Test.YtdogepkfgobcfaaRangeOps
namespace Go.Proofs.Ytdogepkfgobcfaa
open Go.RowKit
set_option linter.unusedVariables false

def mx4 (x y z u : Int) : Int := max (max (max x y) z) u
theorem run_max4 (ts : Array TypeId) (t : TypeId) (x y z u : Int) (w : World) : (Builtin.max_ ts t #[.int .i64 x, .int .i64 y, .int .i64 z, .int .i64 u]).run Try.prog w = .ok (.int .i64 (mx4 x y z u)) w := by
  have e : mx4 x y z u = (if u > (if z > (if y > x then y else x) then z else (if y > x then y else x)) then u else (if z > (if y > x then y else x) then z else (if y > x then y else x))) := by
    unfold mx4
    split <;> split <;> split <;> omega
  rw [e]
  simp [Builtin.max_, Builtin.max2]

theorem in_of {y z : Int} (hM : ¬ 4611686018427387904 < mx4 y (wrap64 (-y)) z (wrap64 (-z))) (hy : (y == -9223372036854775808) = false) (hz : (z == -9223372036854775808) = false) (y1 : -9223372036854775808 ≤ y) (y2 : y ≤ 9223372036854775807) (z1 : -9223372036854775808 ≤ z) (z2 : z ≤ 9223372036854775807) :
    (-4611686018427387904 ≤ y ∧ y ≤ 4611686018427387904) ∧ (-4611686018427387904 ≤ z ∧ z ≤ 4611686018427387904) := by
  have a : ¬ y = -9223372036854775808 := by simpa using hy
  have b : ¬ z = -9223372036854775808 := by simpa using hz
  rw [IntWalk.wrap64_in _ (by omega), IntWalk.wrap64_in _ (by omega)] at hM
  unfold mx4 at hM
  omega
theorem ne_lt {y z : Int} (h1 : ¬ z < y) (h2 : (y == z) = false) : y < z := by
  have : ¬ y = z := by simpa using h2
  omega
theorem OpsOk.snoc {l : List Opr} (h : OpsOk l) {o : Opr} (h1 : o.st ≤ o.en) (h2 : o.sub = true → o.st < o.en) : OpsOk (l ++ [o]) := by
  intro q hq
  rcases List.mem_append.1 hq with hq | hq
  · exact h q hq
  · obtain rfl : q = o := by simpa using hq
    exact ⟨h1, h2⟩

/-- What laws.ops answers: where it says yes, the ops are good ones, and at most 200. -/
def OpsEnd (w : World) (l : List Opr) (e : Ending) (w' : World) : Prop :=
  ∃ s b, e = .returned (.tuple #[s, .bool b]) ∧ (b = true → l.length ≤ 200 ∧ OpsOk (l.map plainO) ∧ (∀ o ∈ l, (-4611686018427387904 ≤ o.st ∧ o.st ≤ 4611686018427387904) ∧ (-4611686018427387904 ≤ o.en ∧ o.en ≤ 4611686018427387904)) ∧ OwnE ESo w.heap.size w' s (l.map plainO)) ∧ Below w.heap.size w w'

set_option maxRecDepth 100000 in
set_option maxHeartbeats 1000000 in
theorem lops (A : Option Addr) (n c : Nat) (l : List Opr) (w : World) (hr : RdE EOp w A l) (hn : Hid (l.length = n)) (hn2 : n ≤ 2147483647) (hbd : Hid (OpsBd l)) :
    Calls Try.prog 26 #[.slice A n c] w fun e w' => OpsEnd w l e w' := by
  have HR := Lib.hid hr
  clear hr
  go_enter Try.func26, Try.ntmps26
  go_wp2_with fail
  go_loopw [4, 9] (fun s i wr => ∃ (k : Nat), k ≤ n ∧ i = .int .i64 k ∧ Hid (OwnE ESo w.heap.size wr s ((l.take k).map plainO)) ∧ Hid (Below w.heap.size w wr) ∧ Hid (∀ o ∈ l.take k, (-4611686018427387904 ≤ o.st ∧ o.st ≤ 4611686018427387904) ∧ (-4611686018427387904 ≤ o.en ∧ o.en ≤ 4611686018427387904)) ∧ Hid (OpsOk ((l.take k).map plainO))) (fun _ i _ => n - (intOf i).toNat)
  case atStart => exact ⟨0, by omega, rfl, OwnE.nil_ _ _, Below.refl _ _, (fun o ho => by cases ho), (fun o ho => by cases ho)⟩
  case round =>
    obtain ⟨k, hk, rfl, HO, HB, HL, HK⟩ := hrel
    by_cases hlt : k < n
    · have hlt' : k < l.length := by rw [hn.out]; exact hlt
      obtain ⟨b, o, rfl, hc⟩ := (HR.out.below HB.out) (by omega)
      obtain ⟨c0, c1, c2⟩ := op_cells rfl rfl hc k hlt'
      have hm := Lib.hid (map_snoc plainO l k hlt')
      have hq1 := hbd.out _ (List.getElem_mem hlt')
      have ht := Lib.hid (take_snoc hlt')
      obtain ⟨q, hq⟩ : ∃ q, q = l[k] := ⟨_, rfl⟩
      rw [← hq] at c0 c1 c2 hm hq1 ht
      obtain ⟨x, y, z⟩ := q
      obtain ⟨⟨y1, y2⟩, z1, z2⟩ := hq1
      simp only at y1 y2 z1 z2
      have hlen : Hid (((l.take k).map plainO).length + 1 ≤ 1000000000000) := by show _ ≤ _; simp; omega
      clear hc hq hlt'
      have hmx := run_max4
      by_cases hM : 4611686018427387904 < mx4 y (wrap64 (-y)) z (wrap64 (-z))
      · go_wp2_with fail
        go_ret2
        exact ⟨_, false, rfl, fun h => by simp at h, HB.out.alloc HB.out.size _⟩
      cases hy : (y == -9223372036854775808)
      case true =>
        go_wp2_with fail
        go_ret2
        exact ⟨_, false, rfl, fun h => by simp at h, HB.out.alloc HB.out.size _⟩
      cases hz : (z == -9223372036854775808)
      case true =>
        go_wp2_with fail
        go_ret2
        exact ⟨_, false, rfl, fun h => by simp at h, HB.out.alloc HB.out.size _⟩
      have hin : Hid ((-4611686018427387904 ≤ y ∧ y ≤ 4611686018427387904) ∧ (-4611686018427387904 ≤ z ∧ z ≤ 4611686018427387904)) := in_of hM hy hz y1 y2 z1 z2
      have hM2 : ¬ 4611686018427387904 < mx4 y (-y) z (-z) := by
        have := hin.out
        rwa [IntWalk.wrap64_in _ (by omega), IntWalk.wrap64_in _ (by omega)] at hM
      clear hM
      obtain ⟨⟨i1, i2⟩, i3, i4⟩ := hin.out
      have HL1 : Hid (∀ o ∈ l.take (k + 1), (-4611686018427387904 ≤ o.st ∧ o.st ≤ 4611686018427387904) ∧ (-4611686018427387904 ≤ o.en ∧ o.en ≤ 4611686018427387904)) := by
        intro o ho
        rw [ht.out] at ho
        rcases List.mem_append.1 ho with ho | ho
        · exact HL.out o ho
        · obtain rfl : o = ⟨x, y, z⟩ := by simpa using ho
          exact hin.out
      by_cases hyz : z < y
      · cases x
        · have hpl : Hid (plainO ⟨false, y, z⟩ = ⟨false, y, y⟩) := by show _ = _; unfold plainO; rw [if_pos hyz]
          rw [hpl.out] at hm
          have HN := Lib.hid (new_cells2 ESo wr (.cells #[.bool false, .int .i64 y, .int .i64 y] 41) [⟨false, y, y⟩] 78)
          have HK1 : Hid (OpsOk ((l.take (k + 1)).map plainO)) := by
            show OpsOk _
            rw [hm.out]
            exact HK.out.snoc (by simp only; omega) (by simp)
          go_wp2_with (at_builtin; refine wpList_appE (E := ESo) w.heap.size _ rfl (.tmp 52) (.tmp 60) rfl _ ((l.take k).map plainO) rfl ((HO.out.alloc _).alloc _) ⟨wr.heap.size + 1, 0, none⟩ 1 1 [⟨false, y, y⟩] rfl rfl (by exact HN.out) hlen.out (by have := HB.out.size; simp; omega) ?_; intro v1 w1 ho1 hg1 ha1 hb1 hn1; have HO1 := Lib.hid ho1; have HB1 := Lib.hid (((HB.out.alloc HB.out.size _).alloc (by have := HB.out.size; simp; omega) _).trans hb1); clear ho1 hg1 ha1 hb1 hn1)
          go_roundw
          case rel => exact ⟨k + 1, by omega, by go_num, by rw [hm.out]; exact HO1, HB1, HL1, HK1⟩
          case measure => simp [intOf]; omega
        · go_wp2_with fail
          go_ret2
          exact ⟨_, false, rfl, fun h => by simp at h, HB.out.alloc HB.out.size _⟩
      · cases x
        · have hpl : Hid (plainO ⟨false, y, z⟩ = ⟨false, y, z⟩) := by show _ = _; unfold plainO; rw [if_neg hyz]
          rw [hpl.out] at hm
          have HN := Lib.hid (new_cells2 ESo wr (.cells #[.bool false, .int .i64 y, .int .i64 z] 41) [⟨false, y, z⟩] 78)
          have HK1 : Hid (OpsOk ((l.take (k + 1)).map plainO)) := by
            show OpsOk _
            rw [hm.out]
            exact HK.out.snoc (by simp only; omega) (by simp)
          go_wp2_with (at_builtin; refine wpList_appE (E := ESo) w.heap.size _ rfl (.tmp 52) (.tmp 60) rfl _ ((l.take k).map plainO) rfl ((HO.out.alloc _).alloc _) ⟨wr.heap.size + 1, 0, none⟩ 1 1 [⟨false, y, z⟩] rfl rfl (by exact HN.out) hlen.out (by have := HB.out.size; simp; omega) ?_; intro v1 w1 ho1 hg1 ha1 hb1 hn1; have HO1 := Lib.hid ho1; have HB1 := Lib.hid (((HB.out.alloc HB.out.size _).alloc (by have := HB.out.size; simp; omega) _).trans hb1); clear ho1 hg1 ha1 hb1 hn1)
          go_roundw
          case rel => exact ⟨k + 1, by omega, by go_num, by rw [hm.out]; exact HO1, HB1, HL1, HK1⟩
          case measure => simp [intOf]; omega
        · cases hyz2 : (y == z)
          · have hpl : Hid (plainO ⟨true, y, z⟩ = ⟨true, y, z⟩) := by show _ = _; unfold plainO; rw [if_neg hyz]
            rw [hpl.out] at hm
            have HN := Lib.hid (new_cells2 ESo wr (.cells #[.bool true, .int .i64 y, .int .i64 z] 41) [⟨true, y, z⟩] 78)
            have HK1 : Hid (OpsOk ((l.take (k + 1)).map plainO)) := by
              show OpsOk _
              rw [hm.out]
              exact HK.out.snoc (by simp only; omega) (fun _ => ne_lt hyz hyz2)
            go_wp2_with (at_builtin; refine wpList_appE (E := ESo) w.heap.size _ rfl (.tmp 52) (.tmp 60) rfl _ ((l.take k).map plainO) rfl ((HO.out.alloc _).alloc _) ⟨wr.heap.size + 1, 0, none⟩ 1 1 [⟨true, y, z⟩] rfl rfl (by exact HN.out) hlen.out (by have := HB.out.size; simp; omega) ?_; intro v1 w1 ho1 hg1 ha1 hb1 hn1; have HO1 := Lib.hid ho1; have HB1 := Lib.hid (((HB.out.alloc HB.out.size _).alloc (by have := HB.out.size; simp; omega) _).trans hb1); clear ho1 hg1 ha1 hb1 hn1)
            go_roundw
            case rel => exact ⟨k + 1, by omega, by go_num, by rw [hm.out]; exact HO1, HB1, HL1, HK1⟩
            case measure => simp [intOf]; omega
          · go_wp2_with fail
            go_ret2
            exact ⟨_, false, rfl, fun h => by simp at h, HB.out.alloc HB.out.size _⟩
    · obtain rfl : k = n := by omega
      have he : Hid (l.take k = l) := List.take_of_length_le (by rw [hn.out]; exact Nat.le_refl _)
      rw [he.out] at HO HL HK
      obtain ⟨A1, c1, hs, -, -, -⟩ := HO.out.shape
      rw [List.length_map, hn.out] at hs
      subst hs
      go_wp2_with fail
      go_ret2
      have hk2 : decide ((k : Int) ≤ 200) = true → l.length ≤ 200 := fun h => by
        have := of_decide_eq_true h
        rw [hn.out]
        omega
      exact ⟨_, decide ((k : Int) ≤ 200), rfl, fun h => ⟨hk2 h, HK.out, HL.out, HO.out⟩, HB.out⟩

end Go.Proofs.Ytdogepkfgobcfaa

/- Contract of laws.acked: if it says yes, the ranges and numbers are the statement's. Conditions: none. -/
import Derived.Test.YtdogepkfgobcfaaAckPut
import Derived.Test.YtdogepkfgobcfaaRangeOps
import Derived.BigQuiet
import Derived.WalkLawsBesides
namespace Go.Proofs.Ytdogepkfgobcfaa
open Go.RowKit
set_option linter.unusedVariables false

/-- What acked says yes to. -/
structure AckedF (L : Rgs) (d e0 e1 e2 : Int) : Prop where
  asc : AscI (-1) L
  pos : 1 ≤ L.length
  le : L.length ≤ 64
  d : Num62 d
  e0 : Num62 e0
  e1 : Num62 e1
  e2 : Num62 e2
/-- What acked answers. -/
def AckedEnd (L : Rgs) (d e0 e1 e2 : Int) (w : World) (e : Ending) (w' : World) : Prop := ∃ b, e = .returned (.bool b) ∧ Hid ((b = true → AckedF L d e0 e1 e2) ∧ Below w.heap.size w w')
/-- The first k ranges are in order, none above m. -/
def AInv (L : Rgs) (k : Nat) (m : Int) : Prop := ∀ Y, AscI m Y → AscI (-1) (L.take k ++ Y)
theorem AInv.zero (L : Rgs) : AInv L 0 (-1) := fun Y h => by simpa using h
theorem AInv.step {L : Rgs} {k : Nat} {m : Int} (h : AInv L k m) (hk : k < L.length) (h1 : m < L[k].1) (h2 : L[k].1 < L[k].2) (h3 : L[k].2 ≤ 4611686018427387903) : AInv L (k + 1) L[k].2 := fun Y hY => by
  rw [List.take_succ_eq_append_getElem hk, List.append_assoc]
  exact h _ ⟨h1, h2, h3, hY⟩
theorem AInv.done {L : Rgs} {m : Int} (h : AInv L L.length m) : AscI (-1) L := by
  have := h [] trivial
  rwa [List.take_length, List.append_nil] at this

theorem run_min4 (a b c d : Int) : ∃ m : Int, (∀ (w : World) (ts : Array TypeId) (t : TypeId), (Builtin.min_ ts t #[.int .i64 a, .int .i64 b, .int .i64 c, .int .i64 d]).run Try.prog w = .ok (.int .i64 m) w) ∧ (0 ≤ m → 0 ≤ a ∧ 0 ≤ b ∧ 0 ≤ c ∧ 0 ≤ d) := by
  refine ⟨_, fun w ts t => by simp [Builtin.min_, Builtin.min2]; rfl, ?_⟩
  intro h
  split at h <;> split at h <;> split at h <;> omega
theorem run_max4 (a b c d : Int) : ∃ m : Int, (∀ (w : World) (ts : Array TypeId) (t : TypeId), (Builtin.max_ ts t #[.int .i64 a, .int .i64 b, .int .i64 c, .int .i64 d]).run Try.prog w = .ok (.int .i64 m) w) ∧ (m ≤ 4611686018427387903 → a ≤ 4611686018427387903 ∧ b ≤ 4611686018427387903 ∧ c ≤ 4611686018427387903 ∧ d ≤ 4611686018427387903) := by
  refine ⟨_, fun w ts t => by simp [Builtin.max_, Builtin.max2]; rfl, ?_⟩
  intro h
  split at h <;> split at h <;> split at h <;> omega

set_option maxRecDepth 100000 in
set_option maxHeartbeats 4000000 in
theorem acked_ (A : Option Addr) (n c : Nat) (L : Rgs) (d e0 e1 e2 : Int) (w : World) (hr : RdE EPr w A L) (hn : Hid (L.length = n)) (hn2 : n ≤ 2147483647) :
    Calls Try.prog 41 #[.slice A n c, .int .i64 d, .agg #[.int .i64 e0, .int .i64 e1, .int .i64 e2]] w fun e w' => AckedEnd L d e0 e1 e2 w e w' := by
  obtain ⟨W0, hW0⟩ : ∃ W0, Hid (w.alloc (.cells #[.int .i64 e0, .int .i64 e1, .int .i64 e2] 56 (0, 0)) = W0) := ⟨_, Lib.hid rfl⟩
  have HQ : Hid (W0.heap[w.heap.size]? = some (.cells #[.int .i64 e0, .int .i64 e1, .int .i64 e2] 56 (0, 0))) := by show _ = _; rw [← hW0.out]; exact heap_alloc_new w _
  have HR : Hid (RdE EPr W0 A L) := by show RdE _ _ _ _; rw [← hW0.out]; exact hr.below ((Below.refl _ _).alloc (Nat.le_refl _) _)
  have HB : Hid (Below w.heap.size w W0) := by show Below _ _ _; rw [← hW0.out]; exact (Below.refl _ _).alloc (Nat.le_refl _) _
  have HZ : w.heap.size < W0.heap.size := by rw [← hW0.out]; simp
  clear hr
  go_enter Try.func41, Try.ntmps41
  go_wp2_with fail
  rw [hW0.out]
  go_loopw [7, 12] (fun m i wr => ∃ (k : Nat) (M : Int), k ≤ n ∧ i = .int .i64 k ∧ m = .int .i64 M ∧ Hid (AInv L k M) ∧ Hid (Below W0.heap.size W0 wr)) (fun _ i _ => n - (intOf i).toNat)
  case atStart => exact ⟨0, -1, by omega, rfl, rfl, AInv.zero L, Below.refl _ _⟩
  case round =>
    obtain ⟨k, M, hk, rfl, rfl, HI, HBr⟩ := hrel
    by_cases hlt : k < n
    · have hkl : k < L.length := by rw [hn.out]; exact hlt
      have hR := HR.out.below HBr.out
      obtain ⟨b, o, rfl, hc⟩ := hR (by omega)
      obtain ⟨a0, a1⟩ := rg_cells rfl rfl hc k hkl
      obtain ⟨x0, hx0⟩ : ∃ x, x = L[k].1 := ⟨_, rfl⟩
      obtain ⟨x1, hx1⟩ : ∃ x, x = L[k].2 := ⟨_, rfl⟩
      rw [← hx0] at a0
      rw [← hx1] at a1
      have HX := Lib.hid (⟨hkl, hx0, hx1⟩ : ∃ h : k < L.length, x0 = L[k].1 ∧ x1 = L[k].2)
      have hbb := World.block_lt_of_cell? _ _ a0
      clear hR hc hx0 hx1 hkl
      by_cases c1 : x0 ≤ M
      · go_wp2_with fail
        go_ret
        exact ⟨false, rfl, (fun h => by cases h), (HB.out.trans (HBr.out.mono HB.out.size)).alloc (by have := HB.out.size; have := HBr.out.size; omega) _⟩
      by_cases c2 : x1 ≤ x0
      · go_wp2_with fail
        go_ret
        exact ⟨false, rfl, (fun h => by cases h), (HB.out.trans (HBr.out.mono HB.out.size)).alloc (by have := HB.out.size; have := HBr.out.size; omega) _⟩
      by_cases c3 : 4611686018427387903 < x1
      · go_wp2_with fail
        go_ret
        exact ⟨false, rfl, (fun h => by cases h), (HB.out.trans (HBr.out.mono HB.out.size)).alloc (by have := HB.out.size; have := HBr.out.size; omega) _⟩
      go_wp2_with fail
      go_roundw
      case rel =>
        obtain ⟨h1, h2, h3⟩ := HX.out
        refine ⟨k + 1, x1, by omega, by go_num, rfl, ?_, HBr.out.alloc HBr.out.size _⟩
        show AInv _ _ _
        rw [h3]
        exact HI.out.step h1 (by omega) (by omega) (by omega)
      case measure => simp [intOf]; omega
    · obtain rfl : k = n := by omega
      have k0 := (HBr.out.block w.heap.size HZ).trans HQ.out
      have q0 : wr.cell? ⟨w.heap.size, 0, none⟩ = some (.int .i64 e0) := by rw [cell_of_row _ _ 0 _ _ (0, 0) k0]; rfl
      have q1 : wr.cell? ⟨w.heap.size, 1, none⟩ = some (.int .i64 e1) := by rw [cell_of_row _ _ 1 _ _ (0, 0) k0]; rfl
      have q2 : wr.cell? ⟨w.heap.size, 2, none⟩ = some (.int .i64 e2) := by rw [cell_of_row _ _ 2 _ _ (0, 0) k0]; rfl
      have HE := Lib.hid (HB.out.trans (HBr.out.mono HB.out.size))
      clear k0
      by_cases d1 : 0 < k
      · by_cases d2 : k ≤ 64
        · obtain ⟨mn, hmn, hmn2⟩ := run_min4 d e0 e1 e2
          obtain ⟨mx, hmx, hmx2⟩ := run_max4 d e0 e1 e2
          have HN := Lib.hid hmn2
          have HM := Lib.hid hmx2
          clear hmn2 hmx2
          by_cases d3 : 0 ≤ mn
          · by_cases d4 : mx ≤ 4611686018427387903
            · have f3 : decide (0 ≤ mn) = true := by simpa using d3
              have f4 : decide (mx ≤ 4611686018427387903) = true := by simpa using d4
              go_wp2_with fail
              go_ret
              refine ⟨true, rfl, fun _ => ?_, HE.out⟩
              obtain ⟨a0, a1, a2, a3⟩ := HN.out d3
              obtain ⟨b0, b1, b2, b3⟩ := HM.out d4
              exact ⟨(hn.out ▸ HI.out : AInv L L.length M).done, by rw [hn.out]; omega, by rw [hn.out]; exact d2, ⟨a0, b0⟩, ⟨a1, b1⟩, ⟨a2, b2⟩, ⟨a3, b3⟩⟩
            · have f3 : decide (0 ≤ mn) = true := by simpa using d3
              have f4 : decide (mx ≤ 4611686018427387903) = false := by simpa using d4
              go_wp2_with fail
              go_ret
              exact ⟨false, rfl, (fun h => by cases h), HE.out⟩
          · have f3 : decide (0 ≤ mn) = false := by simpa using d3
            go_wp2_with fail
            go_ret
            exact ⟨false, rfl, (fun h => by cases h), HE.out⟩
        · go_wp2_with fail
          go_ret
          exact ⟨false, rfl, (fun h => by cases h), HE.out⟩
      · go_wp2_with fail
        go_ret
        exact ⟨false, rfl, (fun h => by cases h), HE.out⟩

end Go.Proofs.Ytdogepkfgobcfaa

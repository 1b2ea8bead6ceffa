/- Contract of spec.Ranges. Conditions: the slice reads as ops. -/
import Derived.Test.YtdogepkfgobcfaaSpecHas
import Derived.Deep.RegionHeld3
namespace Go.Proofs.Ytdogepkfgobcfaa
open Go.RowKit
set_option linter.unusedVariables false

theorem in_cell {w : World} {b o : Nat} {l : List Int} (h : ∀ (i j : Nat) (v : Value) (hi : i < l.length), j < EIn.k → (EIn.f l[i])[j]? = some v → w.cell? ⟨b, o + (i * EIn.k + j), none⟩ = some v) (i : Nat) (hi : i < l.length) : w.cell? ⟨b, o + i, none⟩ = some (.int .i64 l[i]) := by
  have := h i 0 _ hi (by decide) rfl
  rwa [show i * EIn.k + 0 = i by show i * 1 + 0 = i; omega] at this

theorem rd_cell {w : World} {b o : Nat} {l : List Int} (h : RdE EIn w (some ⟨b, o, none⟩) l) (i : Nat) (hi : i < l.length) : w.cell? ⟨b, o + i, none⟩ = some (.int .i64 l[i]) := by
  obtain ⟨b', o', e, hc⟩ := h (by omega)
  obtain ⟨rfl, rfl⟩ : b = b' ∧ o = o' := by simpa using e
  exact in_cell hc i hi

/-- What holds in the loop over an op's two numbers: the cuts' slice, and the block of the two numbers. -/
def Mid (w : World) (p : Nat) (q : Opr) (wr : World) (s : Value) (D : List Int) : Prop :=
  OwnE EIn w.heap.size wr s D ∧ Below w.heap.size w wr ∧ wr.heap[p]? = some (.cells #[.int .i64 q.st, .int .i64 q.en] 2 (0, 0)) ∧ s.ownBlock ≠ some p
section
variable {w wr : World} {p : Nat} {q : Opr} {s : Value} {D : List Int}
theorem Mid.cell (h : Mid w p q wr s D) (j : Nat) (hj : j < 2) : wr.cell? ⟨p, j, none⟩ = some (.int .i64 (elt q j)) := by
  rw [cell_of_row wr p j _ _ (0, 0) h.2.2.1]
  match j, hj with
  | 0, _ => rfl
  | 1, _ => rfl
theorem Mid.drewN (h : Mid w p q wr s D) (n : Nat) : Mid w p q (wr.drewN n) s D := ⟨h.1.drewN n, below_drewN h.2.1 n, h.2.2⟩
theorem Mid.plt (h : Mid w p q wr s D) : p < wr.heap.size := (Array.getElem?_eq_some_iff.1 h.2.2.1).1
/-- One more in the slice. -/
theorem Mid.app {m : Nat} (h : Mid w p q wr s D) (hm : D.length = m) {o : Obj} {v1 : Value} {w2 : World} {z : Int} (ho : OwnE EIn w.heap.size w2 v1 (D ++ [z])) (hg : (wr.alloc o).grownBy w2 s.ownBlock)
    (ha : v1.ownBlock = s.ownBlock ∨ v1.ownBlock = some (wr.alloc o).heap.size) (hb : Below w.heap.size (wr.alloc o) w2) :
    ∃ g cap', v1 = .slice (some ⟨g, 0, none⟩) (m + 1) cap' ∧ m + 1 ≤ cap' ∧ cap' ≤ maxLen ∧ w.heap.size ≤ g ∧ Hid (Mid w p q w2 v1 (D ++ [z])) := by
  have hp := h.plt
  have hsz := h.2.1.size
  rcases ho.form with ⟨_, e⟩ | ⟨g, cap', e, k1, k2, k3, k4⟩
  · simp at e
  · have hl : (D ++ [z]).length = m + 1 := by simp [hm]
    rw [hl] at e k3
    refine ⟨g, cap', e, k3, k4, k1, ho, (h.2.1.alloc hsz _).trans hb, ?_, ?_⟩
    · rw [hg.block p (by simp; omega) (fun e => h.2.2.2 e.symm), heap_alloc_old _ _ hp]
      exact h.2.2.1
    · rcases ha with ha | ha
      · rw [ha]; exact h.2.2.2
      · rw [ha]
        intro e
        have : wr.heap.size + 1 - 1 = p - 0 := by simp at e; omega
        simp at e
        omega
theorem Mid.wrote {g n cap : Nat} {w' : World} {L : List Int} (h : Mid w p q wr (.slice (some ⟨g, 0, none⟩) n cap) D) (hg : wr.grownBy w' (some g)) (ho : OwnE EIn w.heap.size w' (.slice (some ⟨g, 0, none⟩) n cap) L) : Mid w p q w' (.slice (some ⟨g, 0, none⟩) n cap) L := by
  have hB : w.heap.size ≤ g := (h.1.lt g rfl).1
  have hne : p ≠ g := fun e => h.2.2.2 (by rw [e]; rfl)
  exact ⟨ho, h.2.1.grown hg h.2.1.size fun k hk => by simp at hk; omega, (hg.block p h.plt (by simpa using hne)).trans h.2.2.1, h.2.2.2⟩
end

set_option maxRecDepth 100000 in
set_option maxHeartbeats 4000000 in
theorem srng (A : Option Addr) (n c : Nat) (l : List Opr) (w : World) (hr : RdE ESo w A l) (hn : Hid (l.length = n)) (hn2 : n ≤ 200) :
    Calls Try.prog 28 #[.slice A n c] w fun e w' => MadeE EPr w (specR l) e w' := by
  have HR := Lib.hid hr
  clear hr
  go_enter Try.func28, Try.ntmps28
  go_wp2_with fail
  go_loopw [3, 14] (fun s i wr => ∃ (k : Nat), k ≤ n ∧ i = .int .i64 k ∧ Hid (OwnE EIn w.heap.size wr s (cutsP (l.take k))) ∧ Hid (Below w.heap.size w wr)) (fun _ i _ => n - (intOf i).toNat)
  case atStart => exact ⟨0, by omega, rfl, OwnE.nil_ _ _, Below.refl _ _⟩
  case round =>
    obtain ⟨k, hk, rfl, HO, HB⟩ := hrel
    by_cases hlt : k < n
    · have hlt' : k < l.length := by rw [hn.out]; exact hlt
      obtain ⟨bb, o, rfl, hc⟩ := (HR.out.below HB.out) (by omega)
      obtain ⟨c0, c1, c2⟩ := op_cells rfl rfl hc k hlt'
      have hm := Lib.hid (cutsP_take l k hlt')
      obtain ⟨q, hq⟩ : ∃ q, q = l[k] := ⟨_, rfl⟩
      rw [← hq] at c0 c1 c2 hm
      obtain ⟨C, hC⟩ : ∃ C, Hid (C = cutsP (l.take k)) := ⟨_, rfl⟩
      have hsort : Hid (C.Pairwise (· < ·)) := by show C.Pairwise _; rw [hC.out]; exact (cuts_spec _).1
      have hlen : Hid (C.length ≤ 400) := by show _ ≤ _; rw [hC.out]; have := cutsP_len l k (by omega); omega
      rw [← hC.out] at HO hm
      clear hc hq hlt'
      obtain ⟨wo, hwo⟩ : ∃ wo, wo = wr := ⟨_, rfl⟩
      rw [← hwo] at c0 c1 c2 HO HB ⊢
      clear hwo hC
      go_wp2_with fail
      have HM0 : Hid (Mid w (wo.heap.size + 1) q ((wo.alloc (.cells #[.bool q.sub, .int .i64 q.st, .int .i64 q.en] 78)).alloc (.cells #[.int .i64 q.st, .int .i64 q.en] 2)) u3 C) := by
        refine ⟨(HO.out.alloc _).alloc _, (HB.out.alloc HB.out.size _).alloc (by have := HB.out.size; simp; omega) _, ?_, ?_⟩
        · have := heap_alloc_new (wo.alloc (.cells #[.bool q.sub, .int .i64 q.st, .int .i64 q.en] 78)) (.cells #[.int .i64 q.st, .int .i64 q.en] 2)
          rwa [show (wo.alloc (Obj.cells #[.bool q.sub, .int .i64 q.st, .int .i64 q.en] 78)).heap.size = wo.heap.size + 1 by simp] at this
        · intro e
          have := (HO.out.lt _ e).2
          omega
      clear c0 c1 c2 HO HB
      go_loopw [3, 24] (fun s i wr => ∃ (j : Nat), j ≤ 2 ∧ i = .int .i64 j ∧ Hid (Mid w (wo.heap.size + 1) q wr s (insN q C j))) (fun _ i _ => 2 - (intOf i).toNat)
      case atStart => exact ⟨0, by omega, rfl, HM0⟩
      case round =>
        clear HM0
        obtain ⟨j, hj, rfl, HM⟩ := hrel
        by_cases hj2 : j < 2
        · obtain ⟨D, hD⟩ : ∃ D, Hid (D = insN q C j) := ⟨_, rfl⟩
          have hnext := Lib.hid (insN_succ q C j hj2)
          have hso : Hid (D.Pairwise (· < ·)) := by show D.Pairwise _; rw [hD.out]; exact insN_sorted q hsort.out j
          have hDl : Hid (D.length ≤ 402) := by show _ ≤ _; rw [hD.out]; have := insN_len q C j; have := hlen.out; omega
          rw [← hD.out] at HM hnext
          have ce := HM.out.cell j hj2
          obtain ⟨x, hx⟩ : ∃ x, x = elt q j := ⟨_, rfl⟩
          rw [← hx] at ce hnext
          obtain ⟨m, hm⟩ : ∃ m, Hid (D.length = m) := ⟨_, rfl⟩
          have hm402 : m ≤ 402 := by rw [← hm.out]; exact hDl.out
          obtain ⟨A1, c1, hs, hr1, -, hc1⟩ := HM.out.1.shape
          rw [hm.out] at hs
          subst hs
          have HR1 := Lib.hid hr1
          clear hr1 hx hD
          go_wp2_with fail
          go_loop [8] (fun i => ∃ k2 : Nat, k2 ≤ m ∧ i = .int .i64 k2 ∧ Hid (∀ t (h : t < D.length), k2 ≤ t → x ≤ D[t])) (fun i => (intOf i).toNat)
          case atStart => exact ⟨m, Nat.le_refl _, rfl, fun t h ht => by have := hm.out; omega⟩
          case round =>
            obtain ⟨k2, hk2, rfl, HA⟩ := hrel
            by_cases h0 : 0 < k2
            · have hkl : k2 - 1 < D.length := by rw [hm.out]; omega
              obtain ⟨g, o3, rfl, hc3⟩ := HR1.out (by omega)
              have ck := in_cell hc3 (k2 - 1) hkl
              obtain ⟨y, hy⟩ : ∃ y, Hid (y = D[k2 - 1]) := ⟨D[k2 - 1], Lib.hid rfl⟩
              rw [← hy.out] at ck
              have e1 : (k2 : Int) - 1 = ((k2 - 1 : Nat) : Int) := by omega
              have hcap : k2 - 1 < m := by omega
              clear hc3
              by_cases hyx : x ≤ y
              · have HA1 : Hid (∀ t (h : t < D.length), k2 - 1 ≤ t → x ≤ D[t]) := by
                  intro t ht htk
                  rcases Nat.eq_or_lt_of_le htk with rfl | hlt5
                  · rw [← hy.out]; exact hyx
                  · exact HA.out t ht (by omega)
                go_wp2_with fail
                go_round
                case rel => exact ⟨k2 - 1, by omega, rfl, HA1⟩
                case measure => simp [intOf]; omega
              · have HS : Hid (k2 = 0 ∨ ∃ h : k2 - 1 < D.length, D[k2 - 1] < x) := .inr ⟨hkl, by rw [← hy.out]; omega⟩
                have hpos := insC_at hso.out (by rw [hm.out]; exact hk2) HS.out (fun h => HA.out k2 h (Nat.le_refl _))
                have HP := Lib.hid hpos
                clear hpos
                have hcs : (∃ h : k2 < D.length, D[k2] = x) ∨ (∀ h : k2 < D.length, ¬ D[k2] = x) := by
                  by_cases h : k2 < D.length
                  · by_cases h' : D[k2] = x
                    · exact .inl ⟨h, h'⟩
                    · exact .inr fun _ => h'
                  · exact .inr fun h' => absurd h' h
                rcases hcs with heq | hneq
                · have hins : Hid (insN q C (j + 1) = D) := by show _ = _; rw [hnext.out]; exact HP.out.1 heq
                  obtain ⟨hlt3, hx3⟩ := heq
                  have ck2 := rd_cell HR1.out k2 hlt3
                  rw [hx3] at ck2
                  have hlt4 : k2 < m := by rw [← hm.out]; exact hlt3
                  clear hx3 hlt3 HP
                  go_wp2_with fail
                  go_roundw
                  case rel => exact ⟨j + 1, by omega, by go_num, by rw [hins.out]; exact HM⟩
                  case measure => simp [intOf]; omega
                · have hins : Hid (insN q C (j + 1) = D.take k2 ++ [x] ++ D.drop k2) := by show _ = _; rw [hnext.out]; exact HP.out.2 hneq
                  have HAP := fun {o : Obj} {v1 : Value} {w2 : World} => HM.out.app hm.out (o := o) (v1 := v1) (w2 := w2) (z := 0)
                  have HN := Lib.hid (new_cells (E := EIn) wr [(0 : Int)] 2)
                  by_cases h4 : k2 < m
                  · have h5 : k2 < D.length := by rw [hm.out]; exact h4
                    have ck2 := rd_cell HR1.out k2 h5
                    obtain ⟨y2, hy2⟩ : ∃ y2, Hid (y2 = D[k2]) := ⟨D[k2], Lib.hid rfl⟩
                    rw [← hy2.out] at ck2
                    have hne2 : (y2 == x) = false := by rw [hy2.out]; simpa using hneq h5
                    clear hneq HP
                    go_wp2_with (at_builtin; refine wpList_appE (E := EIn) w.heap.size _ rfl (.tmp 55) (.tmp 56) rfl _ D rfl (HM.out.1.alloc _) ⟨wr.heap.size, 0, none⟩ 1 1 [(0 : Int)] rfl rfl (by exact HN.out) (by have := hDl.out; omega) (by have := HM.out.2.1.size; simp; omega) ?_; intro v1 w2 ho1 hg1 ha1 hb1 hn1; obtain ⟨g4, cap', rfl, k5, k6, k7, HM2⟩ := HAP ho1 hg1 ha1 hb1; clear ho1 hg1 ha1 hb1 hn1 HAP)
                    have hc1 : ¬ cap' = k2 + 1 := by omega
                    have g1 : IntKind.i64.wrap ((k2 : Int) + 1) = (k2 : Int) + 1 := IntWalk.i64_in _ (by omega)
                    have g2 : (0 : Int) ≤ (k2 : Int) + 1 := by omega
                    have g3 : ((k2 : Int) + 1).toNat = k2 + 1 := by omega
                    have g6 : k2 ≤ m + 1 := by omega
                    have g7 : (k2 : Int) ≤ (m : Int) + 1 := by omega
                    have hc2 : ¬ cap' = k2 := by omega
                    obtain ⟨m2, hm2⟩ : ∃ m2, Hid (m2 = m - k2) := ⟨m - k2, Lib.hid rfl⟩
                    unfold maxLen at k6
                    refine wp_region_still_tail 7 (by kernel_rfl) (by kernel_rfl) ?_
                    obtain ⟨w3, hw3⟩ : ∃ w3 : World, { w2 with drawn := w2.drawn + 1 } = w3 := ⟨_, rfl⟩
                    rw [hw3]
                    have HM3 : Hid (Mid w (wo.heap.size + 1) q w3 (.slice (some ⟨g4, 0, none⟩) (m + 1) cap') (D ++ [0])) := by show Mid _ _ _ _ _ _; rw [← hw3]; exact HM2.out.drewN 1
                    clear hw3
                    simp only [List.take_succ_cons, List.take_zero, List.drop_succ_cons, List.drop_zero]
                    repeat still_step
                    refine wpStill_nil ?_
                    clear g1
                    refine wpList_copyE (E := EIn) rfl (.tmp 61) (.tmp 64) rfl w.heap.size g4 _ _ (D ++ [0]) HM3.out.1 (k2 + 1) k2 _ _ _ _ _ _ rfl rfl m2 (by have := hm2.out; show _ = min _ _; omega) (fun h => by have := hm2.out; first | omega | exact ⟨by simp [EIn], by simp [EIn]⟩) (by have := hm2.out; omega) (by have := hm2.out; omega) (by simp) ?_
                    intro w4 ho4 hg4
                    have hG := insG_spec (0 : Int) D k2 (by rw [hm.out]; omega) x
                    have ho5 : OwnE EIn w.heap.size w4 (.slice (some ⟨g4, 0, none⟩) (m + 1) cap') (insG 0 D k2) := by unfold insG; rw [hm.out, ← hm2.out]; exact ho4
                    have HM4 := Lib.hid (HM3.out.wrote hg4 ho5)
                    have hkG : k2 < (insG 0 D k2).length := by rw [hG.1, hm.out]; omega
                    have hst := OwnE.set1 (E := EIn) ho5 k2 0 (.int .i64 x) x hkG (by decide) rfl
                    obtain ⟨z0, d0⟩ : ∃ z, w4.cell? ⟨g4, k2, none⟩ = some (.int .i64 z) := ⟨_, by have := ho5.cell k2 0 _ hkG (by decide) rfl; rwa [show k2 * EIn.k + 0 = k2 by show k2 * 1 + 0 = k2; omega] at this⟩
                    have fz := ho5.free k2
                    rw [show k2 * EIn.k + 0 = k2 by show k2 * 1 + 0 = k2; omega, hG.2] at hst
                    have HM5 := Lib.hid (HM4.out.wrote (gset _ _ _ _) hst)
                    clear hst ho5 ho4 hg4 hG hkG HM4 HM3 HM2
                    go_wp2_with fail
                    go_roundw
                    case rel => exact ⟨j + 1, by omega, by go_num, by rw [hins.out]; exact HM5⟩
                    case measure => simp [intOf]; omega
                  · have hkm : Hid (k2 = m) := by show _ = _; omega
                    clear hneq HP
                    go_wp2_with (at_builtin; refine wpList_appE (E := EIn) w.heap.size _ rfl (.tmp 55) (.tmp 56) rfl _ D rfl (HM.out.1.alloc _) ⟨wr.heap.size, 0, none⟩ 1 1 [(0 : Int)] rfl rfl (by exact HN.out) (by have := hDl.out; omega) (by have := HM.out.2.1.size; simp; omega) ?_; intro v1 w2 ho1 hg1 ha1 hb1 hn1; obtain ⟨g4, cap', rfl, k5, k6, k7, HM2⟩ := HAP ho1 hg1 ha1 hb1; clear ho1 hg1 ha1 hb1 hn1 HAP)
                    by_cases hc1 : cap' = k2 + 1
                    · obtain rfl : k2 = m := hkm.out
                      subst hc1
                      have g1 : IntKind.i64.wrap ((k2 : Int) + 1) = (k2 : Int) + 1 := IntWalk.i64_in _ (by omega)
                      have g2 : (0 : Int) ≤ (k2 : Int) + 1 := by omega
                      have g3 : ((k2 : Int) + 1).toNat = k2 + 1 := by omega
                      have g6 : k2 ≤ k2 + 1 := by omega
                      have g7 : (k2 : Int) ≤ (k2 : Int) + 1 := by omega
                      have hc2 : ¬ (k2 + 1) = k2 := by omega
                      obtain ⟨m2, hm2⟩ : ∃ m2, Hid (m2 = k2 - k2) := ⟨k2 - k2, Lib.hid rfl⟩
                      unfold maxLen at k6
                      refine wp_region_still_tail 7 (by kernel_rfl) (by kernel_rfl) ?_
                      obtain ⟨w3, hw3⟩ : ∃ w3 : World, { w2 with drawn := w2.drawn + 1 } = w3 := ⟨_, rfl⟩
                      rw [hw3]
                      have HM3 : Hid (Mid w (wo.heap.size + 1) q w3 (.slice (some ⟨g4, 0, none⟩) (k2 + 1) (k2 + 1)) (D ++ [0])) := by show Mid _ _ _ _ _ _; rw [← hw3]; exact HM2.out.drewN 1
                      clear hw3
                      simp only [List.take_succ_cons, List.take_zero, List.drop_succ_cons, List.drop_zero]
                      repeat still_step
                      refine wpStill_nil ?_
                      clear g1
                      refine wpList_copyE (E := EIn) rfl (.tmp 61) (.tmp 64) rfl w.heap.size g4 _ _ (D ++ [0]) HM3.out.1 (k2 + 1) k2 _ _ _ _ _ _ rfl rfl m2 (by have := hm2.out; show _ = min _ _; omega) (fun h => by have := hm2.out; first | omega | exact ⟨by simp [EIn], by simp [EIn]⟩) (by have := hm2.out; omega) (by have := hm2.out; omega) (by simp) ?_
                      intro w4 ho4 hg4
                      have hG := insG_spec (0 : Int) D k2 (by rw [hm.out]; omega) x
                      have ho5 : OwnE EIn w.heap.size w4 (.slice (some ⟨g4, 0, none⟩) (k2 + 1) (k2 + 1)) (insG 0 D k2) := by unfold insG; rw [hm.out, ← hm2.out]; exact ho4
                      have HM4 := Lib.hid (HM3.out.wrote hg4 ho5)
                      have hkG : k2 < (insG 0 D k2).length := by rw [hG.1, hm.out]; omega
                      have hst := OwnE.set1 (E := EIn) ho5 k2 0 (.int .i64 x) x hkG (by decide) rfl
                      obtain ⟨z0, d0⟩ : ∃ z, w4.cell? ⟨g4, k2, none⟩ = some (.int .i64 z) := ⟨_, by have := ho5.cell k2 0 _ hkG (by decide) rfl; rwa [show k2 * EIn.k + 0 = k2 by show k2 * 1 + 0 = k2; omega] at this⟩
                      have fz := ho5.free k2
                      rw [show k2 * EIn.k + 0 = k2 by show k2 * 1 + 0 = k2; omega, hG.2] at hst
                      have HM5 := Lib.hid (HM4.out.wrote (gset _ _ _ _) hst)
                      clear hst ho5 ho4 hg4 hG hkG HM4 HM3 HM2
                      go_wp2_with fail
                      go_roundw
                      case rel => exact ⟨j + 1, by omega, by go_num, by rw [hins.out]; exact HM5⟩
                      case measure => simp [intOf]; omega
                    · obtain rfl : k2 = m := hkm.out
                      have g1 : IntKind.i64.wrap ((k2 : Int) + 1) = (k2 : Int) + 1 := IntWalk.i64_in _ (by omega)
                      have g2 : (0 : Int) ≤ (k2 : Int) + 1 := by omega
                      have g3 : ((k2 : Int) + 1).toNat = k2 + 1 := by omega
                      have g6 : k2 ≤ k2 + 1 := by omega
                      have g7 : (k2 : Int) ≤ (k2 : Int) + 1 := by omega
                      have hc2 : ¬ cap' = k2 := by omega
                      obtain ⟨m2, hm2⟩ : ∃ m2, Hid (m2 = k2 - k2) := ⟨k2 - k2, Lib.hid rfl⟩
                      unfold maxLen at k6
                      refine wp_region_still_tail 7 (by kernel_rfl) (by kernel_rfl) ?_
                      obtain ⟨w3, hw3⟩ : ∃ w3 : World, { w2 with drawn := w2.drawn + 1 } = w3 := ⟨_, rfl⟩
                      rw [hw3]
                      have HM3 : Hid (Mid w (wo.heap.size + 1) q w3 (.slice (some ⟨g4, 0, none⟩) (k2 + 1) cap') (D ++ [0])) := by show Mid _ _ _ _ _ _; rw [← hw3]; exact HM2.out.drewN 1
                      clear hw3
                      simp only [List.take_succ_cons, List.take_zero, List.drop_succ_cons, List.drop_zero]
                      repeat still_step
                      refine wpStill_nil ?_
                      clear g1
                      refine wpList_copyE (E := EIn) rfl (.tmp 61) (.tmp 64) rfl w.heap.size g4 _ _ (D ++ [0]) HM3.out.1 (k2 + 1) k2 _ _ _ _ _ _ rfl rfl m2 (by have := hm2.out; show _ = min _ _; omega) (fun h => by have := hm2.out; first | omega | exact ⟨by simp [EIn], by simp [EIn]⟩) (by have := hm2.out; omega) (by have := hm2.out; omega) (by simp) ?_
                      intro w4 ho4 hg4
                      have hG := insG_spec (0 : Int) D k2 (by rw [hm.out]; omega) x
                      have ho5 : OwnE EIn w.heap.size w4 (.slice (some ⟨g4, 0, none⟩) (k2 + 1) cap') (insG 0 D k2) := by unfold insG; rw [hm.out, ← hm2.out]; exact ho4
                      have HM4 := Lib.hid (HM3.out.wrote hg4 ho5)
                      have hkG : k2 < (insG 0 D k2).length := by rw [hG.1, hm.out]; omega
                      have hst := OwnE.set1 (E := EIn) ho5 k2 0 (.int .i64 x) x hkG (by decide) rfl
                      obtain ⟨z0, d0⟩ : ∃ z, w4.cell? ⟨g4, k2, none⟩ = some (.int .i64 z) := ⟨_, by have := ho5.cell k2 0 _ hkG (by decide) rfl; rwa [show k2 * EIn.k + 0 = k2 by show k2 * 1 + 0 = k2; omega] at this⟩
                      have fz := ho5.free k2
                      rw [show k2 * EIn.k + 0 = k2 by show k2 * 1 + 0 = k2; omega, hG.2] at hst
                      have HM5 := Lib.hid (HM4.out.wrote (gset _ _ _ _) hst)
                      clear hst ho5 ho4 hg4 hG hkG HM4 HM3 HM2
                      go_wp2_with fail
                      go_roundw
                      case rel => exact ⟨j + 1, by omega, by go_num, by rw [hins.out]; exact HM5⟩
                      case measure => simp [intOf]; omega
            · have HS : Hid (k2 = 0 ∨ ∃ h : k2 - 1 < D.length, D[k2 - 1] < x) := .inl (by omega)
              have hpos := insC_at hso.out (by rw [hm.out]; exact hk2) HS.out (fun h => HA.out k2 h (Nat.le_refl _))
              have HP := Lib.hid hpos
              clear hpos
              have hcs : (∃ h : k2 < D.length, D[k2] = x) ∨ (∀ h : k2 < D.length, ¬ D[k2] = x) := by
                by_cases h : k2 < D.length
                · by_cases h' : D[k2] = x
                  · exact .inl ⟨h, h'⟩
                  · exact .inr fun _ => h'
                · exact .inr fun h' => absurd h' h
              rcases hcs with heq | hneq
              · have hins : Hid (insN q C (j + 1) = D) := by show _ = _; rw [hnext.out]; exact HP.out.1 heq
                obtain ⟨hlt3, hx3⟩ := heq
                obtain ⟨g, o3, rfl, hc3⟩ := HR1.out (by omega)
                clear hc3
                have ck2 := rd_cell HR1.out k2 hlt3
                rw [hx3] at ck2
                have hlt4 : k2 < m := by rw [← hm.out]; exact hlt3
                clear hx3 hlt3 HP
                go_wp2_with fail
                go_roundw
                case rel => exact ⟨j + 1, by omega, by go_num, by rw [hins.out]; exact HM⟩
                case measure => simp [intOf]; omega
              · have hins : Hid (insN q C (j + 1) = D.take k2 ++ [x] ++ D.drop k2) := by show _ = _; rw [hnext.out]; exact HP.out.2 hneq
                have HAP := fun {o : Obj} {v1 : Value} {w2 : World} => HM.out.app hm.out (o := o) (v1 := v1) (w2 := w2) (z := 0)
                have HN := Lib.hid (new_cells (E := EIn) wr [(0 : Int)] 2)
                by_cases h4 : k2 < m
                · have h5 : k2 < D.length := by rw [hm.out]; exact h4
                  obtain ⟨g, o3, rfl, hc3⟩ := HR1.out (by omega)
                  clear hc3
                  have ck2 := rd_cell HR1.out k2 h5
                  obtain ⟨y2, hy2⟩ : ∃ y2, Hid (y2 = D[k2]) := ⟨D[k2], Lib.hid rfl⟩
                  rw [← hy2.out] at ck2
                  have hne2 : (y2 == x) = false := by rw [hy2.out]; simpa using hneq h5
                  clear hneq HP
                  go_wp2_with (at_builtin; refine wpList_appE (E := EIn) w.heap.size _ rfl (.tmp 55) (.tmp 56) rfl _ D rfl (HM.out.1.alloc _) ⟨wr.heap.size, 0, none⟩ 1 1 [(0 : Int)] rfl rfl (by exact HN.out) (by have := hDl.out; omega) (by have := HM.out.2.1.size; simp; omega) ?_; intro v1 w2 ho1 hg1 ha1 hb1 hn1; obtain ⟨g4, cap', rfl, k5, k6, k7, HM2⟩ := HAP ho1 hg1 ha1 hb1; clear ho1 hg1 ha1 hb1 hn1 HAP)
                  have hc1 : ¬ cap' = k2 + 1 := by omega
                  have g1 : IntKind.i64.wrap ((k2 : Int) + 1) = (k2 : Int) + 1 := IntWalk.i64_in _ (by omega)
                  have g2 : (0 : Int) ≤ (k2 : Int) + 1 := by omega
                  have g3 : ((k2 : Int) + 1).toNat = k2 + 1 := by omega
                  have g6 : k2 ≤ m + 1 := by omega
                  have g7 : (k2 : Int) ≤ (m : Int) + 1 := by omega
                  have hc2 : ¬ cap' = k2 := by omega
                  obtain ⟨m2, hm2⟩ : ∃ m2, Hid (m2 = m - k2) := ⟨m - k2, Lib.hid rfl⟩
                  unfold maxLen at k6
                  refine wp_region_still_tail 7 (by kernel_rfl) (by kernel_rfl) ?_
                  obtain ⟨w3, hw3⟩ : ∃ w3 : World, { w2 with drawn := w2.drawn + 1 } = w3 := ⟨_, rfl⟩
                  rw [hw3]
                  have HM3 : Hid (Mid w (wo.heap.size + 1) q w3 (.slice (some ⟨g4, 0, none⟩) (m + 1) cap') (D ++ [0])) := by show Mid _ _ _ _ _ _; rw [← hw3]; exact HM2.out.drewN 1
                  clear hw3
                  simp only [List.take_succ_cons, List.take_zero, List.drop_succ_cons, List.drop_zero]
                  repeat still_step
                  refine wpStill_nil ?_
                  clear g1
                  refine wpList_copyE (E := EIn) rfl (.tmp 61) (.tmp 64) rfl w.heap.size g4 _ _ (D ++ [0]) HM3.out.1 (k2 + 1) k2 _ _ _ _ _ _ rfl rfl m2 (by have := hm2.out; show _ = min _ _; omega) (fun h => by have := hm2.out; first | omega | exact ⟨by simp [EIn], by simp [EIn]⟩) (by have := hm2.out; omega) (by have := hm2.out; omega) (by simp) ?_
                  intro w4 ho4 hg4
                  have hG := insG_spec (0 : Int) D k2 (by rw [hm.out]; omega) x
                  have ho5 : OwnE EIn w.heap.size w4 (.slice (some ⟨g4, 0, none⟩) (m + 1) cap') (insG 0 D k2) := by unfold insG; rw [hm.out, ← hm2.out]; exact ho4
                  have HM4 := Lib.hid (HM3.out.wrote hg4 ho5)
                  have hkG : k2 < (insG 0 D k2).length := by rw [hG.1, hm.out]; omega
                  have hst := OwnE.set1 (E := EIn) ho5 k2 0 (.int .i64 x) x hkG (by decide) rfl
                  obtain ⟨z0, d0⟩ : ∃ z, w4.cell? ⟨g4, k2, none⟩ = some (.int .i64 z) := ⟨_, by have := ho5.cell k2 0 _ hkG (by decide) rfl; rwa [show k2 * EIn.k + 0 = k2 by show k2 * 1 + 0 = k2; omega] at this⟩
                  have fz := ho5.free k2
                  rw [show k2 * EIn.k + 0 = k2 by show k2 * 1 + 0 = k2; omega, hG.2] at hst
                  have HM5 := Lib.hid (HM4.out.wrote (gset _ _ _ _) hst)
                  clear hst ho5 ho4 hg4 hG hkG HM4 HM3 HM2
                  go_wp2_with fail
                  go_roundw
                  case rel => exact ⟨j + 1, by omega, by go_num, by rw [hins.out]; exact HM5⟩
                  case measure => simp [intOf]; omega
                · have hkm : Hid (k2 = m) := by show _ = _; omega
                  clear hneq HP
                  go_wp2_with (at_builtin; refine wpList_appE (E := EIn) w.heap.size _ rfl (.tmp 55) (.tmp 56) rfl _ D rfl (HM.out.1.alloc _) ⟨wr.heap.size, 0, none⟩ 1 1 [(0 : Int)] rfl rfl (by exact HN.out) (by have := hDl.out; omega) (by have := HM.out.2.1.size; simp; omega) ?_; intro v1 w2 ho1 hg1 ha1 hb1 hn1; obtain ⟨g4, cap', rfl, k5, k6, k7, HM2⟩ := HAP ho1 hg1 ha1 hb1; clear ho1 hg1 ha1 hb1 hn1 HAP)
                  by_cases hc1 : cap' = k2 + 1
                  · obtain rfl : k2 = m := hkm.out
                    subst hc1
                    have g1 : IntKind.i64.wrap ((k2 : Int) + 1) = (k2 : Int) + 1 := IntWalk.i64_in _ (by omega)
                    have g2 : (0 : Int) ≤ (k2 : Int) + 1 := by omega
                    have g3 : ((k2 : Int) + 1).toNat = k2 + 1 := by omega
                    have g6 : k2 ≤ k2 + 1 := by omega
                    have g7 : (k2 : Int) ≤ (k2 : Int) + 1 := by omega
                    have hc2 : ¬ (k2 + 1) = k2 := by omega
                    obtain ⟨m2, hm2⟩ : ∃ m2, Hid (m2 = k2 - k2) := ⟨k2 - k2, Lib.hid rfl⟩
                    unfold maxLen at k6
                    refine wp_region_still_tail 7 (by kernel_rfl) (by kernel_rfl) ?_
                    obtain ⟨w3, hw3⟩ : ∃ w3 : World, { w2 with drawn := w2.drawn + 1 } = w3 := ⟨_, rfl⟩
                    rw [hw3]
                    have HM3 : Hid (Mid w (wo.heap.size + 1) q w3 (.slice (some ⟨g4, 0, none⟩) (k2 + 1) (k2 + 1)) (D ++ [0])) := by show Mid _ _ _ _ _ _; rw [← hw3]; exact HM2.out.drewN 1
                    clear hw3
                    simp only [List.take_succ_cons, List.take_zero, List.drop_succ_cons, List.drop_zero]
                    repeat still_step
                    refine wpStill_nil ?_
                    clear g1
                    refine wpList_copyE (E := EIn) rfl (.tmp 61) (.tmp 64) rfl w.heap.size g4 _ _ (D ++ [0]) HM3.out.1 (k2 + 1) k2 _ _ _ _ _ _ rfl rfl m2 (by have := hm2.out; show _ = min _ _; omega) (fun h => by have := hm2.out; first | omega | exact ⟨by simp [EIn], by simp [EIn]⟩) (by have := hm2.out; omega) (by have := hm2.out; omega) (by simp) ?_
                    intro w4 ho4 hg4
                    have hG := insG_spec (0 : Int) D k2 (by rw [hm.out]; omega) x
                    have ho5 : OwnE EIn w.heap.size w4 (.slice (some ⟨g4, 0, none⟩) (k2 + 1) (k2 + 1)) (insG 0 D k2) := by unfold insG; rw [hm.out, ← hm2.out]; exact ho4
                    have HM4 := Lib.hid (HM3.out.wrote hg4 ho5)
                    have hkG : k2 < (insG 0 D k2).length := by rw [hG.1, hm.out]; omega
                    have hst := OwnE.set1 (E := EIn) ho5 k2 0 (.int .i64 x) x hkG (by decide) rfl
                    obtain ⟨z0, d0⟩ : ∃ z, w4.cell? ⟨g4, k2, none⟩ = some (.int .i64 z) := ⟨_, by have := ho5.cell k2 0 _ hkG (by decide) rfl; rwa [show k2 * EIn.k + 0 = k2 by show k2 * 1 + 0 = k2; omega] at this⟩
                    have fz := ho5.free k2
                    rw [show k2 * EIn.k + 0 = k2 by show k2 * 1 + 0 = k2; omega, hG.2] at hst
                    have HM5 := Lib.hid (HM4.out.wrote (gset _ _ _ _) hst)
                    clear hst ho5 ho4 hg4 hG hkG HM4 HM3 HM2
                    go_wp2_with fail
                    go_roundw
                    case rel => exact ⟨j + 1, by omega, by go_num, by rw [hins.out]; exact HM5⟩
                    case measure => simp [intOf]; omega
                  · obtain rfl : k2 = m := hkm.out
                    have g1 : IntKind.i64.wrap ((k2 : Int) + 1) = (k2 : Int) + 1 := IntWalk.i64_in _ (by omega)
                    have g2 : (0 : Int) ≤ (k2 : Int) + 1 := by omega
                    have g3 : ((k2 : Int) + 1).toNat = k2 + 1 := by omega
                    have g6 : k2 ≤ k2 + 1 := by omega
                    have g7 : (k2 : Int) ≤ (k2 : Int) + 1 := by omega
                    have hc2 : ¬ cap' = k2 := by omega
                    obtain ⟨m2, hm2⟩ : ∃ m2, Hid (m2 = k2 - k2) := ⟨k2 - k2, Lib.hid rfl⟩
                    unfold maxLen at k6
                    refine wp_region_still_tail 7 (by kernel_rfl) (by kernel_rfl) ?_
                    obtain ⟨w3, hw3⟩ : ∃ w3 : World, { w2 with drawn := w2.drawn + 1 } = w3 := ⟨_, rfl⟩
                    rw [hw3]
                    have HM3 : Hid (Mid w (wo.heap.size + 1) q w3 (.slice (some ⟨g4, 0, none⟩) (k2 + 1) cap') (D ++ [0])) := by show Mid _ _ _ _ _ _; rw [← hw3]; exact HM2.out.drewN 1
                    clear hw3
                    simp only [List.take_succ_cons, List.take_zero, List.drop_succ_cons, List.drop_zero]
                    repeat still_step
                    refine wpStill_nil ?_
                    clear g1
                    refine wpList_copyE (E := EIn) rfl (.tmp 61) (.tmp 64) rfl w.heap.size g4 _ _ (D ++ [0]) HM3.out.1 (k2 + 1) k2 _ _ _ _ _ _ rfl rfl m2 (by have := hm2.out; show _ = min _ _; omega) (fun h => by have := hm2.out; first | omega | exact ⟨by simp [EIn], by simp [EIn]⟩) (by have := hm2.out; omega) (by have := hm2.out; omega) (by simp) ?_
                    intro w4 ho4 hg4
                    have hG := insG_spec (0 : Int) D k2 (by rw [hm.out]; omega) x
                    have ho5 : OwnE EIn w.heap.size w4 (.slice (some ⟨g4, 0, none⟩) (k2 + 1) cap') (insG 0 D k2) := by unfold insG; rw [hm.out, ← hm2.out]; exact ho4
                    have HM4 := Lib.hid (HM3.out.wrote hg4 ho5)
                    have hkG : k2 < (insG 0 D k2).length := by rw [hG.1, hm.out]; omega
                    have hst := OwnE.set1 (E := EIn) ho5 k2 0 (.int .i64 x) x hkG (by decide) rfl
                    obtain ⟨z0, d0⟩ : ∃ z, w4.cell? ⟨g4, k2, none⟩ = some (.int .i64 z) := ⟨_, by have := ho5.cell k2 0 _ hkG (by decide) rfl; rwa [show k2 * EIn.k + 0 = k2 by show k2 * 1 + 0 = k2; omega] at this⟩
                    have fz := ho5.free k2
                    rw [show k2 * EIn.k + 0 = k2 by show k2 * 1 + 0 = k2; omega, hG.2] at hst
                    have HM5 := Lib.hid (HM4.out.wrote (gset _ _ _ _) hst)
                    clear hst ho5 ho4 hg4 hG hkG HM4 HM3 HM2
                    go_wp2_with fail
                    go_roundw
                    case rel => exact ⟨j + 1, by omega, by go_num, by rw [hins.out]; exact HM5⟩
                    case measure => simp [intOf]; omega
        · obtain rfl : j = 2 := by omega
          rw [← hm.out] at HM
          go_wp2_with fail
          go_roundw
          case rel => exact ⟨k + 1, by omega, by go_num, HM.out.1, HM.out.2.1⟩
          case measure => simp [intOf]; omega
    · obtain rfl : k = n := by omega
      have he : Hid (l.take k = l) := List.take_of_length_le (by rw [hn.out]; exact Nat.le_refl _)
      rw [he.out] at HO
      obtain ⟨C, hC⟩ : ∃ C, Hid (C = cutsP l) := ⟨_, rfl⟩
      have hlen : Hid (C.length ≤ 400) := by show _ ≤ _; rw [hC.out]; have := cutsP_len l k (by have := hn.out; omega); rw [he.out] at this; omega
      rw [← hC.out] at HO
      obtain ⟨m, hm⟩ : ∃ m, Hid (C.length = m) := ⟨_, rfl⟩
      have hm4 : m ≤ 400 := by rw [← hm.out]; exact hlen.out
      obtain ⟨A1, c1, hs, hr1, hlc, -⟩ := HO.out.shape
      rw [hm.out] at hs hlc
      subst hs
      obtain ⟨wo, hwo⟩ : ∃ wo, wo = wr := ⟨_, rfl⟩
      rw [← hwo] at hr1 HB ⊢
      have HR1 := Lib.hid hr1
      clear hr1 hwo HO hlc
      have HB0 := HB
      have HRO := Lib.hid (HR.out.below HB.out)
      clear HB HR
      go_wp2_with fail
      go_loopw [9, 10] (fun s i wr => ∃ (q : Nat), 1 ≤ q ∧ q ≤ 401 ∧ (q ≤ m ∨ q = 1) ∧ i = .int .i64 q ∧ Hid (OwnE EPr wo.heap.size wr s (runSt (has l) C q)) ∧ Hid (Below wo.heap.size wo wr)) (fun _ i _ => m - (intOf i).toNat)
      case atStart => exact ⟨1, by omega, by omega, .inr rfl, rfl, by rw [runSt_one]; exact OwnE.nil_ _ _, Below.refl _ _⟩
      case round =>
        obtain ⟨q, hq1, hq2, hq3, rfl, HO, HB⟩ := hrel
        by_cases hlt : q < m
        · have hl1 : q - 1 < C.length := by rw [hm.out]; omega
          have hl2 : q < C.length := by rw [hm.out]; exact hlt
          have hnext := Lib.hid (runSt_succ (has l) hq1 hl2)
          obtain ⟨g, o, rfl, hc3⟩ := HR1.out (by omega)
          obtain ⟨a, ha⟩ : ∃ a, Hid (a = C[q - 1]) := ⟨C[q - 1], Lib.hid rfl⟩
          obtain ⟨b, hb⟩ : ∃ b, Hid (b = C[q]) := ⟨C[q], Lib.hid rfl⟩
          have rd1 := fun (w' : World) (h : Below wo.heap.size wo w') => rd_cell (HR1.out.below h) (q - 1) hl1
          have rd2 := fun (w' : World) (h : Below wo.heap.size wo w') => rd_cell (HR1.out.below h) q hl2
          rw [← ha.out] at rd1 hnext
          rw [← hb.out] at rd2 hnext
          have RD1 := Lib.hid rd1
          have RD2 := Lib.hid rd2
          have d1 := rd1 wr HB.out
          have e1 : (q : Int) - 1 = ((q - 1 : Nat) : Int) := by omega
          have hlt1 : q - 1 < m := by omega
          obtain ⟨S, hS⟩ : ∃ S, Hid (S = runSt (has l) C q) := ⟨_, Lib.hid rfl⟩
          rw [← hS.out] at HO hnext
          have hSl : Hid (S.length ≤ 400) := by show _ ≤ _; rw [hS.out]; have := runSt_len (has l) C q (by omega); have := hm.out; omega
          obtain ⟨t, ht⟩ : ∃ t, Hid (S.length = t) := ⟨_, Lib.hid rfl⟩
          have ht4 : t ≤ 400 := by rw [← ht.out]; exact hSl.out
          have HRw := Lib.hid (HRO.out.below HB.out)
          clear hc3 rd1 rd2 hl1 hl2 hS ha hb
          go_wp2_with fail
          refine (shas _ k _ l a wr HRw.out hn (by omega)).mono ?_
          rintro e w2 ⟨rfl, hb2⟩
          have HO2 := Lib.hid (HO.out.below hb2)
          have HB2 := Lib.hid (HB.out.trans (hb2.mono HB.out.size))
          clear hb2 HO HB d1 HRw
          obtain ⟨f, hf⟩ : ∃ f, Hid (has l a = f) := ⟨_, Lib.hid rfl⟩
          rw [hf.out]
          cases f
          · rw [ext_no _ _ hf.out] at hnext
            go_wp2_with fail
            go_roundw
            case rel => exact ⟨q + 1, by omega, by omega, by omega, by go_num, by rw [hnext.out]; exact HO2, HB2⟩
            case measure => simp [intOf]; omega
          · have d1 := RD1.out w2 HB2.out
            have d2 := RD2.out w2 HB2.out
            obtain ⟨A9, c9, hs9, -, hlc9, hmx9⟩ := HO2.out.shape
            rw [ht.out] at hs9 hlc9
            subst hs9
            rcases Nat.eq_zero_or_pos t with rfl | htp
            · have hS0 : Hid (S = []) := List.eq_nil_of_length_eq_zero ht.out
              rw [hS0.out, ext_nil _ hf.out] at hnext
              go_wp2_with fail
              go_quiet (fail)
              have HO3 := Lib.hid (HO2.out.drewN nq)
              have HB3 := Lib.hid (below_drewN HB2.out nq)
              obtain ⟨w3, hw3⟩ : ∃ w3, w2.drewN nq = w3 := ⟨_, rfl⟩
              rw [hw3] at HO3 HB3 ⊢
              clear hw3 HO2 HB2
              go_wp2_with fail
              have d1 := RD1.out w3 HB3.out
              have d2 := RD2.out w3 HB3.out
              have g1 : IntKind.i64.wrap ((q - 1 : Nat) : Int) = ((q - 1 : Nat) : Int) := IntWalk.i64_in _ (by omega)
              have i1 : ((q - 1 : Nat) : Int) < (m : Int) := by omega
              have i2 : (q : Int) < (m : Int) := by omega
              go_region_held3 (fun w' => w'.cell? ⟨g, o + (q - 1), none⟩ = some (.int .i64 a) ∧ w'.cell? ⟨g, o + q, none⟩ = some (.int .i64 b)) (first | go_keep | (exact ⟨RD1.out _ HB5.out, RD2.out _ HB5.out⟩)) ((refine step_appE (E := EPr) (by rfl) (.tmp 113) (.tmp 124) (by rfl) wo.heap.size _ S (by rfl) ((HO3.out.drewN 1).alloc _) ⟨w3.heap.size, 0, none⟩ 1 1 [(a, b)] (by rfl) (by rfl) (by exact new_cells (E := EPr) (w3.drewN 1) [(a, b)] 47) (by have := hSl.out; omega) (by have := HB3.out.size; simp; omega) ?_; intro v1 w5 ho1 hg1 ha1 hb1; have HO5 := Lib.hid ho1; have HB5 := Lib.hid (((below_drewN HB3.out 1).alloc HB3.out.size _).trans hb1); clear ho1 hg1 ha1 hb1))
              go_wp2_with fail
              go_roundw
              case rel => exact ⟨q + 1, by omega, by omega, by omega, by go_num, by rw [hnext.out]; have := HO5.out; rw [hS0.out] at this; exact this, HB5⟩
              case measure => simp [intOf]; omega
            · have hla : t - 1 < S.length := by rw [ht.out]; omega
              have ed : ∃ y, Hid (y = S[t - 1].2) := ⟨S[t - 1].2, Lib.hid rfl⟩
              obtain ⟨y, hy⟩ := ed
              obtain ⟨g9, rfl⟩ : ∃ g9, A9 = some ⟨g9, 0, none⟩ := by
                rcases HO2.out.form with ⟨e, h0⟩ | ⟨g9, _, e, _⟩
                · rw [h0] at hla; simp at hla
                · simp only [Value.slice.injEq] at e
                  exact ⟨g9, e.1⟩
              have dy : w2.cell? ⟨g9, (t - 1) * 2 + 1, none⟩ = some (.int .i64 y) := by rw [hy.out]; exact HO2.out.cell (t - 1) 1 _ hla (by decide) rfl
              have e2 : (t : Int) - 1 = ((t - 1 : Nat) : Int) := by omega
              have ht1 : t - 1 < t := by omega
              have hst := ext_last (has l) (acc := S) b hf.out (by have := ht.out; omega)
              simp only [ht.out] at hst
              have HST := Lib.hid hst
              clear hst
              cases hya : (y == a)
              · have hnya : ¬ S[t - 1].2 = a := by rw [← hy.out]; simpa using hya
                rw [HST.out.2 hnya] at hnext
                clear HST hnya
                have t1 : IntKind.i64.wrap ((t - 1 : Nat) : Int) = ((t - 1 : Nat) : Int) := IntWalk.i64_in _ (by omega)
                have g1 : IntKind.i64.wrap ((q - 1 : Nat) : Int) = ((q - 1 : Nat) : Int) := IntWalk.i64_in _ (by omega)
                go_wp2_with fail
                go_quiet (fail)
                clear t1 g1 d1 d2
                have HO3 := Lib.hid (HO2.out.drewN nq)
                have HB3 := Lib.hid (below_drewN HB2.out nq)
                obtain ⟨w3, hw3⟩ : ∃ w3, w2.drewN nq = w3 := ⟨_, rfl⟩
                rw [hw3] at HO3 HB3 ⊢
                clear hw3 HO2 HB2
                go_wp2_with fail
                have d1 := RD1.out w3 HB3.out
                have d2 := RD2.out w3 HB3.out
                have g1 : IntKind.i64.wrap ((q - 1 : Nat) : Int) = ((q - 1 : Nat) : Int) := IntWalk.i64_in _ (by omega)
                have i1 : ((q - 1 : Nat) : Int) < (m : Int) := by omega
                have i2 : (q : Int) < (m : Int) := by omega
                go_region_held3 (fun w' => w'.cell? ⟨g, o + (q - 1), none⟩ = some (.int .i64 a) ∧ w'.cell? ⟨g, o + q, none⟩ = some (.int .i64 b)) (first | go_keep | (exact ⟨RD1.out _ HB5.out, RD2.out _ HB5.out⟩)) ((refine step_appE (E := EPr) (by rfl) (.tmp 113) (.tmp 124) (by rfl) wo.heap.size _ S (by rfl) ((HO3.out.drewN 1).alloc _) ⟨w3.heap.size, 0, none⟩ 1 1 [(a, b)] (by rfl) (by rfl) (by exact new_cells (E := EPr) (w3.drewN 1) [(a, b)] 47) (by have := hSl.out; omega) (by have := HB3.out.size; simp; omega) ?_; intro v1 w5 ho1 hg1 ha1 hb1; have HO5 := Lib.hid ho1; have HB5 := Lib.hid (((below_drewN HB3.out 1).alloc HB3.out.size _).trans hb1); clear ho1 hg1 ha1 hb1))
                go_wp2_with fail
                go_roundw
                case rel => exact ⟨q + 1, by omega, by omega, by omega, by go_num, by rw [hnext.out]; exact HO5, HB5⟩
                case measure => simp [intOf]; omega
              · have hnya : S[t - 1].2 = a := by rw [← hy.out]; simpa using hya
                rw [HST.out.1 hnya] at hnext
                clear HST hnya
                have t1 : IntKind.i64.wrap ((t - 1 : Nat) : Int) = ((t - 1 : Nat) : Int) := IntWalk.i64_in _ (by omega)
                have g1 : IntKind.i64.wrap ((q - 1 : Nat) : Int) = ((q - 1 : Nat) : Int) := IntWalk.i64_in _ (by omega)
                go_wp2_with fail
                go_quiet (fail)
                clear d1 d2 dy
                have HO3 := Lib.hid (HO2.out.drewN nq)
                have HB3 := Lib.hid (below_drewN HB2.out nq)
                obtain ⟨w3, hw3⟩ : ∃ w3, w2.drewN nq = w3 := ⟨_, rfl⟩
                rw [hw3] at HO3 HB3 ⊢
                clear hw3 HO2 HB2
                go_wp2_with fail
                refine wp_region_still_tail 9 (by kernel_rfl) (by kernel_rfl) ?_
                obtain ⟨w4, hw4⟩ : ∃ w4 : World, { w3 with drawn := w3.drawn + 1 } = w4 := ⟨_, rfl⟩
                rw [hw4]
                have HO4 : Hid (OwnE EPr wo.heap.size w4 (.slice (some ⟨g9, 0, none⟩) t c9) S) := by show OwnE _ _ _ _ _; rw [← hw4]; exact HO3.out.drewN 1
                have HB4 : Hid (Below wo.heap.size wo w4) := by show Below _ _ _; rw [← hw4]; exact below_drewN HB3.out 1
                clear hw4 HO3 HB3
                have d2 := RD2.out w4 HB4.out
                have dy : w4.cell? ⟨g9, (t - 1) * 2 + 1, none⟩ = some (.int .i64 y) := by rw [hy.out]; exact HO4.out.cell (t - 1) 1 _ hla (by decide) rfl
                have fy := HO4.out.free ((t - 1) * 2 + 1)
                have i2 : (q : Int) < (m : Int) := by omega
                have i3 : ((t - 1 : Nat) : Int) < (t : Int) := by omega
                have HO5 := Lib.hid (OwnE.set1 (E := EPr) HO4.out (t - 1) 1 (.int .i64 b) (S[t - 1].1, b) hla (by decide) rfl)
                have HB5 := Lib.hid (Below.set_ HB4.out HB4.out.size g9 ((t - 1) * EPr.k + 1) (.int .i64 b) (HO4.out.lt g9 rfl).1)
                simp only [List.take_succ_cons, List.take_zero, List.drop_succ_cons, List.drop_zero]
                repeat still_step
                refine wpStill_nil ?_
                clear t1 g1 d2
                go_wp2_with fail
                go_roundw
                case rel => exact ⟨q + 1, by omega, by omega, by omega, by go_num, by rw [hnext.out]; exact HO5, HB5⟩
                case measure => simp [intOf]; omega
        · have he2 : Hid (runSt (has l) C q = specR l) := by show _ = _; rw [hC.out]; exact runSt_all l q (by rw [← hC.out, hm.out]; omega)
          rw [he2.out] at HO
          go_wp2
          go_ret
          exact ⟨_, rfl, HO.out.lower HB0.out.size, HB0.out.trans (HB.out.mono HB0.out.size)⟩

end Go.Proofs.Ytdogepkfgobcfaa

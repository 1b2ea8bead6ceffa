/- Contracts of consumePathChallengeFrame and consumePathResponseFrame. Conditions: the slice reads as bytes, at least one. -/
import Derived.Test.YtggcnepdeaijoaaCons
import Derived.Test.YtggcnepdeaijoaaCells
import Derived.Laws.CopyOwn
import Derived.StillTailTactics
import Derived.BigQuiet
import Derived.BigRegion
namespace Go.Proofs.Ytggcnepdeaijoaa
open Go.RowKit
set_option linter.unusedVariables false

theorem list8 {α : Type} (l : List α) (h : l.length = 8) : ∃ a0 a1 a2 a3 a4 a5 a6 a7, l = [a0, a1, a2, a3, a4, a5, a6, a7] := by
  match l, h with
  | [a0, a1, a2, a3, a4, a5, a6, a7], _ => exact ⟨_, _, _, _, _, _, _, _, rfl⟩
theorem size_u8 : (Try.prog.info? 5).map (·.size) = some 1 := by kernel_rfl
theorem splice_full {α : Type} (L cs : List α) (h : L.length = cs.length) : splice L 0 cs = cs := by
  simp [splice]
  omega
theorem cells8 {w : World} {g : Nat} {a0 a1 a2 a3 a4 a5 a6 a7 : Value} {t : TypeId} (h : w.heap[g]? = some (.cells #[a0, a1, a2, a3, a4, a5, a6, a7] t (0, 0))) :
    (w.cell? ⟨g, 0, none⟩ = some a0 ∧ w.cell? ⟨g, 1, none⟩ = some a1 ∧ w.cell? ⟨g, 2, none⟩ = some a2 ∧ w.cell? ⟨g, 3, none⟩ = some a3) ∧ (w.cell? ⟨g, 4, none⟩ = some a4 ∧ w.cell? ⟨g, 5, none⟩ = some a5 ∧ w.cell? ⟨g, 6, none⟩ = some a6 ∧ w.cell? ⟨g, 7, none⟩ = some a7) := by
  refine ⟨⟨?_, ?_, ?_, ?_⟩, ?_, ?_, ?_, ?_⟩
  · rw [cell_of_row _ _ 0 _ _ (0, 0) h]; rfl
  · rw [cell_of_row _ _ 1 _ _ (0, 0) h]; rfl
  · rw [cell_of_row _ _ 2 _ _ (0, 0) h]; rfl
  · rw [cell_of_row _ _ 3 _ _ (0, 0) h]; rfl
  · rw [cell_of_row _ _ 4 _ _ (0, 0) h]; rfl
  · rw [cell_of_row _ _ 5 _ _ (0, 0) h]; rfl
  · rw [cell_of_row _ _ 6 _ _ (0, 0) h]; rfl
  · rw [cell_of_row _ _ 7 _ _ (0, 0) h]; rfl
theorem Rd.vals_at {w : World} {ad : Addr} {l : List Int} (h : Rd w (some ad) l) : ∀ j u, (vals l)[j]? = some u → w.cell? (ad.add j) = some u := by
  intro j u hu
  obtain ⟨hj, rfl⟩ := vals_get? l j u hu
  obtain ⟨b, o, e, hc⟩ := h.2 (by omega)
  obtain rfl : ad = ⟨b, o, none⟩ := by simpa using e
  rw [Addr.add_lit]
  exact hc j hj

theorem splice_vals (L X : List Int) (o : Nat) : splice (vals L) o (vals X) = vals (splice L o X) := by simp [splice, vals]

/-- Eight cells stored. -/
def sto8 (w : World) (g : Nat) (a0 a1 a2 a3 a4 a5 a6 a7 : Value) : World := (((((((w.setCell ⟨g, 0, none⟩ a0).setCell ⟨g, 1, none⟩ a1).setCell ⟨g, 2, none⟩ a2).setCell ⟨g, 3, none⟩ a3).setCell ⟨g, 4, none⟩ a4).setCell ⟨g, 5, none⟩ a5).setCell ⟨g, 6, none⟩ a6).setCell ⟨g, 7, none⟩ a7
theorem sto8_heap {w : World} {g : Nat} {b0 b1 b2 b3 b4 b5 b6 b7 : Value} {t : TypeId} (h : w.heap[g]? = some (.cells #[b0, b1, b2, b3, b4, b5, b6, b7] t (0, 0))) (a0 a1 a2 a3 a4 a5 a6 a7 : Value) : (sto8 w g a0 a1 a2 a3 a4 a5 a6 a7).heap[g]? = some (.cells #[a0, a1, a2, a3, a4, a5, a6, a7] t (0, 0)) := by
  have h0 := cell_at (r' := #[a0, b1, b2, b3, b4, b5, b6, b7]) 0 a0 h rfl
  have h1 := cell_at (r' := #[a0, a1, b2, b3, b4, b5, b6, b7]) 1 a1 h0 rfl
  have h2 := cell_at (r' := #[a0, a1, a2, b3, b4, b5, b6, b7]) 2 a2 h1 rfl
  have h3 := cell_at (r' := #[a0, a1, a2, a3, b4, b5, b6, b7]) 3 a3 h2 rfl
  have h4 := cell_at (r' := #[a0, a1, a2, a3, a4, b5, b6, b7]) 4 a4 h3 rfl
  have h5 := cell_at (r' := #[a0, a1, a2, a3, a4, a5, b6, b7]) 5 a5 h4 rfl
  have h6 := cell_at (r' := #[a0, a1, a2, a3, a4, a5, a6, b7]) 6 a6 h5 rfl
  have h7 := cell_at (r' := #[a0, a1, a2, a3, a4, a5, a6, a7]) 7 a7 h6 rfl
  exact h7
theorem sto8_below {B : Nat} {w0 w : World} {g : Nat} (h : Below B w0 w) (hg : B ≤ g) (hB : B ≤ w.heap.size) (a0 a1 a2 a3 a4 a5 a6 a7 : Value) : Below B w0 (sto8 w g a0 a1 a2 a3 a4 a5 a6 a7) := by
  unfold sto8
  have st : ∀ (W : World) (i : Nat) (v : Value), Below B w0 W ∧ B ≤ W.heap.size → Below B w0 (W.setCell ⟨g, i, none⟩ v) ∧ B ≤ (W.setCell ⟨g, i, none⟩ v).heap.size := fun W i v ⟨h1, h2⟩ => ⟨below_cell h1 h2 _ _ _ hg, by rw [size_cell]; exact h2⟩
  exact (st _ _ _ (st _ _ _ (st _ _ _ (st _ _ _ (st _ _ _ (st _ _ _ (st _ _ _ (st _ _ _ ⟨h, hB⟩)))))))).1

def E_cpc (l : List Int) (w : World) (e : Ending) (w' : World) : Prop :=
  ((Ppc l = none ∧ ∃ x0 x1 x2 x3 x4 x5 x6 x7, e = .returned (.tuple #[.agg #[.int .u8 x0, .int .u8 x1, .int .u8 x2, .int .u8 x3, .int .u8 x4, .int .u8 x5, .int .u8 x6, .int .u8 x7], .int .i64 (-1)]) ∧ Hid (Bs [x0, x1, x2, x3, x4, x5, x6, x7])) ∨
   ∃ x0 x1 x2 x3 x4 x5 x6 x7, Ppc l = some ([], [[x0, x1, x2, x3, x4, x5, x6, x7]], 9) ∧ e = .returned (.tuple #[.agg #[.int .u8 x0, .int .u8 x1, .int .u8 x2, .int .u8 x3, .int .u8 x4, .int .u8 x5, .int .u8 x6, .int .u8 x7], .int .i64 9]) ∧ Hid (Bs [x0, x1, x2, x3, x4, x5, x6, x7])) ∧ Below w.heap.size w w'

set_option maxRecDepth 100000 in
set_option maxHeartbeats 2000000 in
theorem cpc (b o n c : Nat) (l : List Int) (w : World) (hr : Rd w (some ⟨b, o, none⟩) l) (hn : Hid (l.length = n)) (hnc : n ≤ c) (hc2 : c ≤ 9223372036854775807) (h1 : 1 ≤ n) (hn2 : n ≤ 4294967295) :
    Calls Try.prog 32 #[.slice (some ⟨b, o, none⟩) n c] w fun e w' => E_cpc l w e w' := by
  obtain ⟨A1, hA1, HA1, hs1⟩ := cut_ad hr hn hnc 1
  obtain ⟨W0, hW0⟩ : ∃ W0, Hid (w.alloc (.cells #[.int .u8 0, .int .u8 0, .int .u8 0, .int .u8 0, .int .u8 0, .int .u8 0, .int .u8 0, .int .u8 0] 68 (0, 0)) = W0) := ⟨_, Lib.hid rfl⟩
  have HQ : Hid (W0.heap[w.heap.size]? = some (.cells #[.int .u8 0, .int .u8 0, .int .u8 0, .int .u8 0, .int .u8 0, .int .u8 0, .int .u8 0, .int .u8 0] 68 (0, 0))) := by show _ = _; rw [← hW0.out]; exact heap_alloc_new w _
  have HB0 : Hid (Below w.heap.size w W0) := by show Below _ _ _; rw [← hW0.out]; exact (Below.refl _ _).alloc (Nat.le_refl _) _
  have HR1 : Hid (Rd W0 A1 (l.drop 1)) := HA1.out.below HB0.out
  obtain ⟨ad, had⟩ := hs1
  have had := Lib.hid had
  have hlx : Hid (((l.drop 1).take 8).length = min (n - 1) 8) := by show _ = _; rw [List.length_take, List.length_drop, hn.out, Nat.min_comm]
  have hbs := Lib.hid (HA1.out.bs.take 8)
  have HT := Lib.hid (HR1.out.take 8)
  have HP : Hid (Ppc l = if n < 9 then none else some ([], [(l.drop 1).take 8], 9)) := by show _ = _; unfold Ppc; rw [hn.out]
  obtain ⟨X, hX⟩ : ∃ X, Hid ((l.drop 1).take 8 = X) := ⟨_, Lib.hid rfl⟩
  rw [hX.out] at hlx hbs HT HP
  obtain ⟨m, hm⟩ : ∃ m, Hid (X.length = m) := ⟨_, Lib.hid rfl⟩
  have hmm : m = min (n - 1) 8 := by rw [← hm.out]; exact hlx.out
  have h1' : (1 : Int) ≤ (n : Int) := by omega
  go_enter Try.func32, Try.ntmps32
  go_wp2_with fail
  rw [hW0.out]
  refine wp_region_still_tail 4 (by kernel_rfl) (by kernel_rfl) ?_
  obtain ⟨w3, hw3⟩ : ∃ w3 : World, { W0 with drawn := W0.drawn + 1 } = w3 := ⟨_, rfl⟩
  rw [hw3]
  have HQ3 : Hid (w3.heap[w.heap.size]? = some (.cells (vals [0, 0, 0, 0, 0, 0, 0, 0]).toArray 68 (0, 0))) := by subst hw3; exact HQ.out
  have HT3 : Hid (Rd w3 (some ad) X) := by subst hw3; rw [← had.out]; exact HT.out.drewN 1
  have HB3 : Hid (Below w.heap.size w w3) := by subst hw3; exact below_drewN HB0.out 1
  clear hw3
  simp only [List.take_succ_cons, List.take_zero, List.drop_succ_cons, List.drop_zero]
  repeat still_step
  refine wpStill_nil ?_
  refine wpList_copy_splice rfl (.tmp 5) (.tmp 8) 22 22 rfl 5 Try.underlying22 size_u8 (some ⟨w.heap.size, 0, none⟩) (some ad) 8 8 (n - 1) (c - 1) rfl rfl w.heap.size 0 _ _ HQ3.out (vals X) (by rw [vals_length, hm.out, hmm]) (fun _ => ⟨rfl, ad, rfl, HT3.out.vals_at⟩) (by rw [vals_length, hm.out, vals_length]; simp; omega) (vals_one X) w.heap.size w HB3.out (Nat.le_refl _) ?_
  intro w4 HQ4 HB4
  rw [vals_length, hm.out]
  have hlen : (splice ([0, 0, 0, 0, 0, 0, 0, 0] : List Int) 0 X).length = 8 := by rw [length_splice _ _ _ (by rw [hm.out]; simp; omega)]; rfl
  obtain ⟨y0, y1, y2, y3, y4, y5, y6, y7, hY⟩ := list8 _ hlen
  have HY := Lib.hid hY
  have hbY : Hid (Bs [y0, y1, y2, y3, y4, y5, y6, y7]) := by
    show Bs _
    rw [← HY.out]
    exact ((Bs.nil.append (show Bs [0, 0, 0, 0, 0, 0, 0, 0] from fun x hx => by simp at hx; omega)).take 0).append (hbs.out.append (Bs.drop (show Bs [0, 0, 0, 0, 0, 0, 0, 0] from fun x hx => by simp at hx; omega) _))
  rw [splice_vals, hY] at HQ4
  obtain ⟨⟨e0, e1, e2, e3⟩, e4, e5, e6, e7⟩ := cells8 HQ4.out
  have HB4 := Lib.hid HB4
  have ff := fun i => cell_free i HQ4.out
  clear hY hlen hA1
  by_cases h9 : n < 9
  · have HP9 : Hid (Ppc l = none) := HP.out.trans (if_pos h9)
    have hne : (m : Int) ≠ 8 := by omega
    have hne2 : ((m : Int) != 8) = true := by simpa using hne
    clear hne
    clear hmm
    go_wp2_with fail
    obtain ⟨w5, hw5⟩ : ∃ w5, Hid (sto8 w4 w.heap.size (.int .u8 y0) (.int .u8 y1) (.int .u8 y2) (.int .u8 y3) (.int .u8 y4) (.int .u8 y5) (.int .u8 y6) (.int .u8 y7) = w5) := ⟨_, Lib.hid rfl⟩
    have HQ5 : w5.heap[w.heap.size]? = some (.cells #[.int .u8 y0, .int .u8 y1, .int .u8 y2, .int .u8 y3, .int .u8 y4, .int .u8 y5, .int .u8 y6, .int .u8 y7] 68 (0, 0)) := by rw [← hw5.out]; exact sto8_heap HQ4.out _ _ _ _ _ _ _ _
    have HB5 : Hid (Below w.heap.size w w5) := by show Below _ _ _; rw [← hw5.out]; exact sto8_below HB4.out (Nat.le_refl _) (HB4.out.size) _ _ _ _ _ _ _ _
    obtain ⟨⟨g0, g1, g2, g3⟩, g4, g5, g6, g7⟩ := cells8 HQ5
    change bodyPost _ _ _ _ _ (sto8 w4 w.heap.size (.int .u8 y0) (.int .u8 y1) (.int .u8 y2) (.int .u8 y3) (.int .u8 y4) (.int .u8 y5) (.int .u8 y6) (.int .u8 y7))
    rw [hw5.out]
    clear hw5 ff e0 e1 e2 e3 e4 e5 e6 e7
    refine bodyPost_ret (v := .tuple #[.agg #[.int .u8 y0, .int .u8 y1, .int .u8 y2, .int .u8 y3, .int .u8 y4, .int .u8 y5, .int .u8 y6, .int .u8 y7], .int .i64 (-1)]) (by simp [results, Try.results32, go_sem, g0, g1, g2, g3, g4, g5, g6, g7]) rfl ?_
    exact ⟨.inl ⟨HP9.out, y0, y1, y2, y3, y4, y5, y6, y7, rfl, hbY⟩, HB5.out⟩
  · have hm8 : m = 8 := by omega
    subst hm8
    have hXY : Hid (X = [y0, y1, y2, y3, y4, y5, y6, y7]) := by show _ = _; rw [← HY.out, splice_full _ _ (by rw [hm.out]; rfl)]
    rw [hXY.out, if_neg h9] at HP
    rw [hXY.out] at hbs
    clear hmm
    go_wp2_with fail
    obtain ⟨w5, hw5⟩ : ∃ w5, Hid (sto8 w4 w.heap.size (.int .u8 y0) (.int .u8 y1) (.int .u8 y2) (.int .u8 y3) (.int .u8 y4) (.int .u8 y5) (.int .u8 y6) (.int .u8 y7) = w5) := ⟨_, Lib.hid rfl⟩
    have HQ5 : w5.heap[w.heap.size]? = some (.cells #[.int .u8 y0, .int .u8 y1, .int .u8 y2, .int .u8 y3, .int .u8 y4, .int .u8 y5, .int .u8 y6, .int .u8 y7] 68 (0, 0)) := by rw [← hw5.out]; exact sto8_heap HQ4.out _ _ _ _ _ _ _ _
    have HB5 : Hid (Below w.heap.size w w5) := by show Below _ _ _; rw [← hw5.out]; exact sto8_below HB4.out (Nat.le_refl _) (HB4.out.size) _ _ _ _ _ _ _ _
    obtain ⟨⟨g0, g1, g2, g3⟩, g4, g5, g6, g7⟩ := cells8 HQ5
    change bodyPost _ _ _ _ _ (sto8 w4 w.heap.size (.int .u8 y0) (.int .u8 y1) (.int .u8 y2) (.int .u8 y3) (.int .u8 y4) (.int .u8 y5) (.int .u8 y6) (.int .u8 y7))
    rw [hw5.out]
    clear hw5 ff e0 e1 e2 e3 e4 e5 e6 e7
    refine bodyPost_ret (v := .tuple #[.agg #[.int .u8 y0, .int .u8 y1, .int .u8 y2, .int .u8 y3, .int .u8 y4, .int .u8 y5, .int .u8 y6, .int .u8 y7], .int .i64 9]) (by simp [results, Try.results32, go_sem, g0, g1, g2, g3, g4, g5, g6, g7]) rfl ?_
    exact ⟨.inr ⟨y0, y1, y2, y3, y4, y5, y6, y7, HP.out, rfl, hbs⟩, HB5.out⟩

set_option maxHeartbeats 1000000 in
theorem cpr (b o n c : Nat) (l : List Int) (w : World) (hr : Rd w (some ⟨b, o, none⟩) l) (hn : Hid (l.length = n)) (hnc : n ≤ c) (hc2 : c ≤ 9223372036854775807) (h1 : 1 ≤ n) (hn2 : n ≤ 4294967295) :
    Calls Try.prog 33 #[.slice (some ⟨b, o, none⟩) n c] w fun e w' => E_cpc l w e w' := by
  obtain ⟨W0, hW0⟩ : ∃ W0, Hid (w.alloc (.cells #[.int .u8 0, .int .u8 0, .int .u8 0, .int .u8 0, .int .u8 0, .int .u8 0, .int .u8 0, .int .u8 0] 68 (0, 0)) = W0) := ⟨_, Lib.hid rfl⟩
  have HR := Lib.hid (hr.alloc (.cells #[.int .u8 0, .int .u8 0, .int .u8 0, .int .u8 0, .int .u8 0, .int .u8 0, .int .u8 0, .int .u8 0] 68 (0, 0)))
  rw [hW0.out] at HR
  have HB0 : Hid (Below w.heap.size w W0) := by show Below _ _ _; rw [← hW0.out]; exact (Below.refl _ _).alloc (Nat.le_refl _) _
  clear hr
  go_enter Try.func33, Try.ntmps33
  go_wp2_with fail
  rw [hW0.out]
  refine (cpc b o n c l W0 HR.out hn hnc hc2 h1 hn2).mono ?_
  rintro e w1 ⟨he, hb1⟩
  have HQ1 : Hid (w1.heap[w.heap.size]? = some (.cells #[.int .u8 0, .int .u8 0, .int .u8 0, .int .u8 0, .int .u8 0, .int .u8 0, .int .u8 0, .int .u8 0] 68 (0, 0))) := by
    show _ = _
    rw [hb1.block _ (by rw [← hW0.out]; simp), ← hW0.out]
    exact heap_alloc_new w _
  have HB1 : Hid (Below w.heap.size w w1) := HB0.out.trans (hb1.mono HB0.out.size)
  have f1 := fun i => cell_free i HQ1.out
  obtain ⟨⟨e0, e1, e2, e3⟩, e4, e5, e6, e7⟩ := cells8 HQ1.out
  clear hb1
  rcases he with ⟨hP, y0, y1, y2, y3, y4, y5, y6, y7, rfl, hbs⟩ | ⟨y0, y1, y2, y3, y4, y5, y6, y7, hP, rfl, hbs⟩
  · have HP := Lib.hid hP
    clear hP
    go_wp2_with fail
    obtain ⟨w5, hw5⟩ : ∃ w5, Hid (sto8 w1 w.heap.size (.int .u8 y0) (.int .u8 y1) (.int .u8 y2) (.int .u8 y3) (.int .u8 y4) (.int .u8 y5) (.int .u8 y6) (.int .u8 y7) = w5) := ⟨_, Lib.hid rfl⟩
    have HQ5 : w5.heap[w.heap.size]? = some (.cells #[.int .u8 y0, .int .u8 y1, .int .u8 y2, .int .u8 y3, .int .u8 y4, .int .u8 y5, .int .u8 y6, .int .u8 y7] 68 (0, 0)) := by rw [← hw5.out]; exact sto8_heap HQ1.out _ _ _ _ _ _ _ _
    have HB5 : Hid (Below w.heap.size w w5) := by show Below _ _ _; rw [← hw5.out]; exact sto8_below HB1.out (Nat.le_refl _) (HB1.out.size) _ _ _ _ _ _ _ _
    obtain ⟨⟨g0, g1, g2, g3⟩, g4, g5, g6, g7⟩ := cells8 HQ5
    change bodyPost _ _ _ _ _ (sto8 w1 w.heap.size (.int .u8 y0) (.int .u8 y1) (.int .u8 y2) (.int .u8 y3) (.int .u8 y4) (.int .u8 y5) (.int .u8 y6) (.int .u8 y7))
    rw [hw5.out]
    clear hw5 f1 e0 e1 e2 e3 e4 e5 e6 e7
    refine bodyPost_ret (v := .tuple #[.agg #[.int .u8 y0, .int .u8 y1, .int .u8 y2, .int .u8 y3, .int .u8 y4, .int .u8 y5, .int .u8 y6, .int .u8 y7], .int .i64 (-1)]) (by simp [results, Try.results33, go_sem, g0, g1, g2, g3, g4, g5, g6, g7]) rfl ?_
    exact ⟨.inl ⟨HP.out, y0, y1, y2, y3, y4, y5, y6, y7, rfl, hbs⟩, HB5.out⟩
  · have HP := Lib.hid hP
    clear hP
    go_wp2_with fail
    obtain ⟨w5, hw5⟩ : ∃ w5, Hid (sto8 w1 w.heap.size (.int .u8 y0) (.int .u8 y1) (.int .u8 y2) (.int .u8 y3) (.int .u8 y4) (.int .u8 y5) (.int .u8 y6) (.int .u8 y7) = w5) := ⟨_, Lib.hid rfl⟩
    have HQ5 : w5.heap[w.heap.size]? = some (.cells #[.int .u8 y0, .int .u8 y1, .int .u8 y2, .int .u8 y3, .int .u8 y4, .int .u8 y5, .int .u8 y6, .int .u8 y7] 68 (0, 0)) := by rw [← hw5.out]; exact sto8_heap HQ1.out _ _ _ _ _ _ _ _
    have HB5 : Hid (Below w.heap.size w w5) := by show Below _ _ _; rw [← hw5.out]; exact sto8_below HB1.out (Nat.le_refl _) (HB1.out.size) _ _ _ _ _ _ _ _
    obtain ⟨⟨g0, g1, g2, g3⟩, g4, g5, g6, g7⟩ := cells8 HQ5
    change bodyPost _ _ _ _ _ (sto8 w1 w.heap.size (.int .u8 y0) (.int .u8 y1) (.int .u8 y2) (.int .u8 y3) (.int .u8 y4) (.int .u8 y5) (.int .u8 y6) (.int .u8 y7))
    rw [hw5.out]
    clear hw5 f1 e0 e1 e2 e3 e4 e5 e6 e7
    refine bodyPost_ret (v := .tuple #[.agg #[.int .u8 y0, .int .u8 y1, .int .u8 y2, .int .u8 y3, .int .u8 y4, .int .u8 y5, .int .u8 y6, .int .u8 y7], .int .i64 9]) (by simp [results, Try.results33, go_sem, g0, g1, g2, g3, g4, g5, g6, g7]) rfl ?_
    exact ⟨.inr ⟨y0, y1, y2, y3, y4, y5, y6, y7, HP.out, rfl, hbs⟩, HB5.out⟩

end Go.Proofs.Ytggcnepdeaijoaa

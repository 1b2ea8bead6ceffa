/- Contract of impl.Ack. Conditions: the slice reads as bytes. -/
import Derived.Test.YtdogepkfgobcfaaImplAck
namespace Go.Proofs.Ytdogepkfgobcfaa
open Go.RowKit
set_option linter.unusedVariables false

/-- What impl.Ack answers. -/
def IAckEnd (w : World) (l : List Int) (e : Ending) (w' : World) : Prop := Below w.heap.size w w' ∧
  ((ackP l = none ∧ ∃ A m c e0 e1 e2 a b, e = .returned (.tuple #[.slice A m c, .int .i64 a, .int .i64 b, .agg #[.int .i64 e0, .int .i64 e1, .int .i64 e2], .int .i64 (-1)])) ∨
   ∃ r A c, ackP l = some r ∧ e = .returned (.tuple #[.slice A r.rs.length c, .int .i64 r.lg, .int .i64 r.dl, .agg #[.int .i64 r.e0, .int .i64 r.e1, .int .i64 r.e2], .int .i64 (r.n : Nat)]) ∧ OwnE EPr w.heap.size w' (.slice A r.rs.length c) r.rs)

theorem set_at {W : World} {g : Nat} {r r' : Array Value} {t : TypeId} (i : Nat) (v : Value) (hr : W.heap[g]? = some (.cells r t (0, 0))) (he : r.setIfInBounds i v = r') : (W.setCell ⟨g, i, none⟩ v).heap[g]? = some (.cells r' t (0, 0)) := by
  simp [World.setCell, Array.getElem?_modify, hr, he]
theorem set_off {W : World} {g : Nat} {ob : Obj} (p i : Nat) (v : Value) (hr : W.heap[g]? = some ob) (hp : g ≠ p) : (W.setCell ⟨p, i, none⟩ v).heap[g]? = some ob := by
  have : p ≠ g := fun e => hp e.symm
  simp [World.setCell, Array.getElem?_modify, hr, this]
theorem free_at {W : World} {g : Nat} {r : Array Value} {t : TypeId} (i : Nat) (hr : W.heap[g]? = some (.cells r t (0, 0))) : W.frozen? ⟨g, i, none⟩ = false := by simp [World.frozen?, hr]

theorem zz_end {w W0 w1 : World} {A : Option Addr} {m c : Nat} {acc : Rgs} (hW0 : (w.alloc (.cells #[.slice none 0 0] 45 (0, 0))).alloc (.cells #[.int .i64 0, .int .i64 0, .int .i64 0] 56 (0, 0)) = W0) (hF : Fr W0.heap.size w.heap.size W0 w1) (hC : Cap (W0.heap.size + 1) w1 w.heap.size A m c acc) (e0 e1 e2 : Int) :
    w.heap.size + 1 < w1.heap.size ∧ ∃ W, Hid (w1.alloc (.cells #[.int .i64 e0, .int .i64 e1, .int .i64 e2] 115 (0, 0)) = W) ∧
      (W.cell? ⟨w.heap.size, 0, none⟩ = some (.slice A m c) ∧ W.cell? ⟨w1.heap.size, 0, none⟩ = some (.int .i64 e0) ∧ W.cell? ⟨w1.heap.size, 1, none⟩ = some (.int .i64 e1) ∧ W.cell? ⟨w1.heap.size, 2, none⟩ = some (.int .i64 e2) ∧ W.cell? ⟨w.heap.size + 1, 0, none⟩ = some (.int .i64 0) ∧ W.cell? ⟨w.heap.size + 1, 1, none⟩ = some (.int .i64 0) ∧ W.cell? ⟨w.heap.size + 1, 2, none⟩ = some (.int .i64 0)) ∧
      (W.frozen? ⟨w.heap.size, 0, none⟩ = false ∧ W.frozen? ⟨w.heap.size + 1, 0, none⟩ = false ∧ W.frozen? ⟨w.heap.size + 1, 1, none⟩ = false ∧ W.frozen? ⟨w.heap.size + 1, 2, none⟩ = false) ∧
      ∃ W2, Hid (((((W.setCell ⟨w.heap.size, 0, none⟩ (.slice A m c)).setCell ⟨w.heap.size + 1, 0, none⟩ (.int .i64 e0)).setCell ⟨w.heap.size + 1, 1, none⟩ (.int .i64 e1)).setCell ⟨w.heap.size + 1, 2, none⟩ (.int .i64 e2)).drew = W2) ∧
        (W2.cell? ⟨w.heap.size, 0, none⟩ = some (.slice A m c) ∧ W2.cell? ⟨w.heap.size + 1, 0, none⟩ = some (.int .i64 e0) ∧ W2.cell? ⟨w.heap.size + 1, 1, none⟩ = some (.int .i64 e1) ∧ W2.cell? ⟨w.heap.size + 1, 2, none⟩ = some (.int .i64 e2)) ∧ Hid (Below w.heap.size w W2 ∧ OwnE EPr w.heap.size W2 (.slice A m c) acc) := by
  have hs : W0.heap.size = w.heap.size + 2 := by rw [← hW0]; simp
  have hq := hC.1
  have hlt : w.heap.size < w1.heap.size := (Array.getElem?_eq_some_iff.1 hq).1
  have h5 : W0.heap[w.heap.size + 1]? = some (.cells #[.int .i64 0, .int .i64 0, .int .i64 0] 56 (0, 0)) := by
    rw [← hW0]
    have := heap_alloc_new (w.alloc (.cells #[.slice none 0 0] 45 (0, 0))) (.cells #[.int .i64 0, .int .i64 0, .int .i64 0] 56 (0, 0))
    simpa using this
  have h5' := (hF.blk (w.heap.size + 1) (by omega) (by omega)).trans h5
  have hlt5 : w.heap.size + 1 < w1.heap.size := (Array.getElem?_eq_some_iff.1 h5').1
  have p3 := heap_alloc_new w1 (.cells #[.int .i64 e0, .int .i64 e1, .int .i64 e2] 115 (0, 0))
  have q3 := (heap_alloc_old w1 (.cells #[.int .i64 e0, .int .i64 e1, .int .i64 e2] 115 (0, 0)) hlt).trans hq
  have r3 := (heap_alloc_old w1 (.cells #[.int .i64 e0, .int .i64 e1, .int .i64 e2] 115 (0, 0)) hlt5).trans h5'
  have dr : ∀ (W : World) (a : Addr), W.drew.cell? a = W.cell? a := fun _ _ => rfl
  have q4 := set_at 0 (.slice A m c) q3 (r' := #[.slice A m c]) rfl
  have r4 := set_off w.heap.size 0 (.slice A m c) r3 (by omega)
  have r5 := set_at 0 (.int .i64 e0) r4 (r' := #[.int .i64 e0, .int .i64 0, .int .i64 0]) rfl
  have r6 := set_at 1 (.int .i64 e1) r5 (r' := #[.int .i64 e0, .int .i64 e1, .int .i64 0]) rfl
  have r7 := set_at 2 (.int .i64 e2) r6 (r' := #[.int .i64 e0, .int .i64 e1, .int .i64 e2]) rfl
  have q7 := set_off (w.heap.size + 1) 2 (.int .i64 e2) (set_off (w.heap.size + 1) 1 (.int .i64 e1) (set_off (w.heap.size + 1) 0 (.int .i64 e0) q4 (by omega)) (by omega)) (by omega)
  refine ⟨hlt5, _, Lib.hid rfl, ⟨?_, ?_, ?_, ?_, ?_, ?_, ?_⟩, ⟨free_at _ q3, free_at _ r3, free_at _ r3, free_at _ r3⟩, _, Lib.hid rfl, ⟨?_, ?_, ?_, ?_⟩, ?_, ?_⟩
  · rw [cell_of_row _ _ 0 _ _ (0, 0) q3]; rfl
  · rw [cell_of_row _ _ 0 _ _ (0, 0) p3]; rfl
  · rw [cell_of_row _ _ 1 _ _ (0, 0) p3]; rfl
  · rw [cell_of_row _ _ 2 _ _ (0, 0) p3]; rfl
  · rw [cell_of_row _ _ 0 _ _ (0, 0) r3]; rfl
  · rw [cell_of_row _ _ 1 _ _ (0, 0) r3]; rfl
  · rw [cell_of_row _ _ 2 _ _ (0, 0) r3]; rfl
  · rw [dr, cell_of_row _ _ 0 _ _ (0, 0) q7]; rfl
  · rw [dr, cell_of_row _ _ 0 _ _ (0, 0) r7]; rfl
  · rw [dr, cell_of_row _ _ 1 _ _ (0, 0) r7]; rfl
  · rw [dr, cell_of_row _ _ 2 _ _ (0, 0) r7]; rfl
  · have b0 : Below w.heap.size w W0 := by rw [← hW0]; exact ((Below.refl _ _).alloc (Nat.le_refl _) _).alloc (by simp) _
    have b1 := (b0.trans hF.bel).alloc (Nat.le_of_lt hlt) (.cells #[.int .i64 e0, .int .i64 e1, .int .i64 e2] 115 (0, 0))
    have st : ∀ (W : World) (p i : Nat) (v : Value), w.heap.size ≤ p → Below w.heap.size w W → Below w.heap.size w (W.setCell ⟨p, i, none⟩ v) := fun W p i v hp hb => Below.set_ hb hb.size _ _ _ hp
    exact below_drewN (st _ _ 2 _ (by omega) (st _ _ 1 _ (by omega) (st _ _ 0 _ (by omega) (st _ _ 0 _ (Nat.le_refl _) b1)))) 1
  · have o0 := hC.2.1.alloc (.cells #[.int .i64 e0, .int .i64 e1, .int .i64 e2] 115 (0, 0))
    have st : ∀ (W : World) (p i : Nat) (v : Value), p < W0.heap.size + 1 → OwnE EPr (W0.heap.size + 1) W (.slice A m c) acc → OwnE EPr (W0.heap.size + 1) (W.setCell ⟨p, i, none⟩ v) (.slice A m c) acc := fun W p i v hp ho => ho.kept (gset _ _ _ _) (.inr fun e => by have := (ho.lt _ e).1; omega)
    exact OwnE.lower (st _ _ 2 _ (by omega) (st _ _ 1 _ (by omega) (st _ _ 0 _ (by omega) (st _ _ 0 _ (by omega) o0)))) (by omega)

set_option maxRecDepth 100000 in
set_option maxHeartbeats 3000000 in
theorem zzack (b o n c : Nat) (l : List Int) (w : World) (hr : Rd w (some ⟨b, o, none⟩) l) (hn : Hid (l.length = n)) (hnc : n ≤ c) (hc2 : c ≤ 9223372036854775807) (h1 : 1 ≤ n) (hn2 : n ≤ 4294967295) (hb : b < w.heap.size) (x : Int) (hx : Hid (l.getD 0 0 = x)) (hx0 : 0 ≤ x) (hx1 : x ≤ 255) :
    Calls Try.prog 66 #[.slice (some ⟨b, o, none⟩) n c] w fun e w' => IAckEnd w l e w' := by
  obtain ⟨W0, hW0⟩ : ∃ W0, Hid ((w.alloc (.cells #[.slice none 0 0] 45 (0, 0))).alloc (.cells #[.int .i64 0, .int .i64 0, .int .i64 0] 56 (0, 0)) = W0) := ⟨_, Lib.hid rfl⟩
  have R0 : Hid (Rd W0 (some ⟨b, o, none⟩) l) := by show Rd _ _ _; rw [← hW0.out]; exact (hr.alloc _).alloc _
  have Q0 : Hid (W0.heap[w.heap.size]? = some (.cells #[.slice none 0 0] 45 (0, 0))) := by
    show _ = _
    rw [← hW0.out, heap_alloc_old _ _ (by simp)]
    exact heap_alloc_new w _
  clear hr
  go_enter Try.func66, Try.ntmps66
  go_wp2_with fail
  rw [hW0.out]
  refine (caf b o n c w.heap.size l W0 R0.out hn hnc hc2 h1 hn2 x hx hx0 hx1 Q0 hb).mono ?_
  rintro e w1 ⟨hF, A, m, c1, acc, hC, ⟨hp, rfl⟩ | ⟨r, hp, hacc, rfl⟩⟩
  · have HP := Lib.hid hp
    obtain ⟨hlt, W, EW, ⟨d0, d1, d2, d3, d4, d5, d6⟩, ⟨f0, f1, f2, f3⟩, W2, EW2, ⟨g0, g1, g2, g3⟩, HE⟩ := zz_end hW0.out hF hC 0 0 0
    clear hp hF hC
    go_wp2_with fail
    rw [EW.out]
    clear EW
    go_region
    rw [EW2.out]
    clear EW2 d0 d1 d2 d3 d4 d5 d6 f0 f1 f2 f3
    go_wp2_with fail
    refine bodyPost_ret (v := .tuple #[.slice A m c1, .int .i64 0, .int .i64 0, .agg #[.int .i64 0, .int .i64 0, .int .i64 0], .int .i64 (-1)]) (by simp [results, Try.results66, go_sem, g0, g1, g2, g3]) rfl ?_
    exact ⟨HE.out.1, .inl ⟨HP.out, _, _, _, _, _, _, _, _, rfl⟩⟩
  · have HP := Lib.hid hp
    have hm := hC.2.2.2.2
    obtain ⟨hlt, W, EW, ⟨d0, d1, d2, d3, d4, d5, d6⟩, ⟨f0, f1, f2, f3⟩, W2, EW2, ⟨g0, g1, g2, g3⟩, HE⟩ := zz_end hW0.out hF hC r.e0 r.e1 r.e2
    obtain ⟨rs, v1, v2, x0, x1, x2, kk⟩ := r
    simp only at hacc
    subst hacc
    subst hm
    clear hp hF hC
    simp only at d0 d1 d2 d3 g0 g1 g2 g3 EW EW2
    go_wp2_with fail
    rw [EW.out]
    clear EW
    go_region
    rw [EW2.out]
    clear EW2 d0 d1 d2 d3 d4 d5 d6 f0 f1 f2 f3
    go_wp2_with fail
    refine bodyPost_ret (v := .tuple #[.slice A acc.length c1, .int .i64 v1, .int .i64 v2, .agg #[.int .i64 x0, .int .i64 x1, .int .i64 x2], .int .i64 (kk : Nat)]) (by simp [results, Try.results66, go_sem, g0, g1, g2, g3]) rfl ?_
    exact ⟨HE.out.1, .inr ⟨_, A, c1, HP.out, rfl, HE.out.2⟩⟩

set_option maxRecDepth 100000 in
set_option maxHeartbeats 2000000 in
theorem iack (b o n c : Nat) (l : List Int) (w : World) (hr : Rd w (some ⟨b, o, none⟩) l) (hn : Hid (l.length = n)) (hnc : n ≤ c) (hc2 : c ≤ 9223372036854775807) (h1 : 1 ≤ n) (hn2 : n ≤ 4294967295) (hb : b < w.heap.size) (x : Int) (hx : Hid (l.getD 0 0 = x)) (hx0 : 0 ≤ x) (hx1 : x ≤ 255) :
    Calls Try.prog 39 #[.slice (some ⟨b, o, none⟩) n c] w fun e w' => IAckEnd w l e w' := by
  obtain ⟨W0, hW0⟩ : ∃ W0, Hid (w.alloc (.cells #[.int .i64 0, .int .i64 0, .int .i64 0] 56 (0, 0)) = W0) := ⟨_, Lib.hid rfl⟩
  have R0 : Hid (Rd W0 (some ⟨b, o, none⟩) l) := by show Rd _ _ _; rw [← hW0.out]; exact hr.alloc _
  have hs0 : Hid (W0.heap.size = w.heap.size + 1) := by show _ = _; rw [← hW0.out]; simp
  have q0 : Hid (W0.heap[w.heap.size]? = some (.cells #[.int .i64 0, .int .i64 0, .int .i64 0] 56 (0, 0))) := by show _ = _; rw [← hW0.out]; exact heap_alloc_new w _
  have b0 : Hid (Below w.heap.size w W0) := by show Below _ _ _; rw [← hW0.out]; exact (Below.refl _ _).alloc (Nat.le_refl _) _
  clear hr
  go_enter Try.func39, Try.ntmps39
  go_wp2_with fail
  rw [hW0.out]
  refine (zzack b o n c l W0 R0.out hn hnc hc2 h1 hn2 (by rw [hs0.out]; omega) x hx hx0 hx1).mono ?_
  rintro e w1 ⟨hB, H⟩
  have HB := Lib.hid hB
  have q1 : Hid (w1.heap[w.heap.size]? = some (.cells #[.int .i64 0, .int .i64 0, .int .i64 0] 56 (0, 0))) := (hB.block _ (by rw [hs0.out]; omega)).trans q0.out
  have fin : Hid (∀ e0 e1 e2 : Int, ∃ W2, Hid (((w1.setCell ⟨w.heap.size, 0, none⟩ (.int .i64 e0)).setCell ⟨w.heap.size, 1, none⟩ (.int .i64 e1)).setCell ⟨w.heap.size, 2, none⟩ (.int .i64 e2) = W2) ∧ (W2.cell? ⟨w.heap.size, 0, none⟩ = some (.int .i64 e0) ∧ W2.cell? ⟨w.heap.size, 1, none⟩ = some (.int .i64 e1) ∧ W2.cell? ⟨w.heap.size, 2, none⟩ = some (.int .i64 e2)) ∧ Hid (Below w.heap.size w W2 ∧ ∀ v acc, OwnE EPr W0.heap.size w1 v acc → OwnE EPr w.heap.size W2 v acc)) := by
    intro e0 e1 e2
    have p1 := set_at 0 (.int .i64 e0) q1.out (r' := #[.int .i64 e0, .int .i64 0, .int .i64 0]) rfl
    have p2 := set_at 1 (.int .i64 e1) p1 (r' := #[.int .i64 e0, .int .i64 e1, .int .i64 0]) rfl
    have p3 := set_at 2 (.int .i64 e2) p2 (r' := #[.int .i64 e0, .int .i64 e1, .int .i64 e2]) rfl
    refine ⟨_, Lib.hid rfl, ⟨?_, ?_, ?_⟩, ?_, fun v acc ho => ?_⟩
    · rw [cell_of_row _ _ 0 _ _ (0, 0) p3]; rfl
    · rw [cell_of_row _ _ 1 _ _ (0, 0) p3]; rfl
    · rw [cell_of_row _ _ 2 _ _ (0, 0) p3]; rfl
    · have st : ∀ (W : World) (i : Nat) (v : Value), Below w.heap.size w W → Below w.heap.size w (W.setCell ⟨w.heap.size, i, none⟩ v) := fun W i v hb => Below.set_ hb hb.size _ _ _ (Nat.le_refl _)
      exact st _ 2 _ (st _ 1 _ (st _ 0 _ (b0.out.trans (hB.mono (by rw [hs0.out]; omega)))))
    · have st : ∀ (W : World) (i : Nat) (v' : Value), OwnE EPr W0.heap.size W v acc → OwnE EPr W0.heap.size (W.setCell ⟨w.heap.size, i, none⟩ v') v acc := fun W i v' ho => ho.kept (gset _ _ _ _) (.inr fun e => by have := (ho.lt _ e).1; have := hs0.out; omega)
      exact OwnE.lower (st _ 2 _ (st _ 1 _ (st _ 0 _ ho))) (by rw [hs0.out]; omega)
  have z0 : w1.cell? ⟨w.heap.size, 0, none⟩ = some (.int .i64 0) := by rw [cell_of_row _ _ 0 _ _ (0, 0) q1.out]; rfl
  have z1 : w1.cell? ⟨w.heap.size, 1, none⟩ = some (.int .i64 0) := by rw [cell_of_row _ _ 1 _ _ (0, 0) q1.out]; rfl
  have z2 : w1.cell? ⟨w.heap.size, 2, none⟩ = some (.int .i64 0) := by rw [cell_of_row _ _ 2 _ _ (0, 0) q1.out]; rfl
  have f0 := free_at 0 q1.out
  have f1 := free_at 1 q1.out
  have f2 := free_at 2 q1.out
  clear hB
  rcases H with ⟨hp, A, m, c1, e0, e1, e2, a, b', rfl⟩ | ⟨r, A, c1, hp, rfl, ho⟩
  · have HP := Lib.hid hp
    obtain ⟨W2, EW2, ⟨g0, g1, g2⟩, HE⟩ := fin.out e0 e1 e2
    clear hp fin
    go_wp2_with fail
    rw [EW2.out]
    clear EW2 z0 z1 z2 f0 f1 f2
    refine bodyPost_ret (v := .tuple #[.slice A m c1, .int .i64 a, .int .i64 b', .agg #[.int .i64 e0, .int .i64 e1, .int .i64 e2], .int .i64 (-1)]) (by simp [results, Try.results39, go_sem, g0, g1, g2]) rfl ?_
    exact ⟨HE.out.1, .inl ⟨HP.out, _, _, _, _, _, _, _, _, rfl⟩⟩
  · obtain ⟨rs, v1, v2, x0, x1, x2, kk⟩ := r
    have HP := Lib.hid hp
    have HO := Lib.hid ho
    obtain ⟨W2, EW2, ⟨g0, g1, g2⟩, HE⟩ := fin.out x0 x1 x2
    clear hp ho fin
    go_wp2_with fail
    rw [EW2.out]
    clear EW2 z0 z1 z2 f0 f1 f2
    refine bodyPost_ret (v := .tuple #[.slice A rs.length c1, .int .i64 v1, .int .i64 v2, .agg #[.int .i64 x0, .int .i64 x1, .int .i64 x2], .int .i64 (kk : Nat)]) (by simp [results, Try.results39, go_sem, g0, g1, g2]) rfl ?_
    exact ⟨HE.out.1, .inr ⟨_, A, c1, HP.out, rfl, HE.out.2 _ _ HO.out⟩⟩

end Go.Proofs.Ytdogepkfgobcfaa

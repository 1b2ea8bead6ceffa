/- Contracts of consumeAckFrame and the closure that ZZAck hands it. Conditions: the slice reads as bytes. -/
import Derived.Test.YtdogepkfgobcfaaVarint
import Derived.Test.YtdogepkfgobcfaaRangeOps
import Derived.Test.YtdogepkfgobcfaaAckSet
import Derived.Test.YtdogepkfgobcfaaArr
import Derived.BigRegion
namespace Go.Proofs.Ytdogepkfgobcfaa
open Go.RowKit
set_option linter.unusedVariables false

/-- The captured variable in block q holds the slice of the ranges acc. -/
def Cap (B : Nat) (w : World) (q : Nat) (A : Option Addr) (m c : Nat) (acc : Rgs) : Prop :=
  w.heap[q]? = some (.cells #[.slice A m c] 45 (0, 0)) ∧ OwnE EPr B w (.slice A m c) acc ∧ q < B ∧ B ≤ w.heap.size ∧ acc.length = m
theorem Cap.cell {B q m c : Nat} {w : World} {A : Option Addr} {acc : Rgs} (h : Cap B w q A m c acc) : w.cell? ⟨q, 0, none⟩ = some (.slice A m c) := by rw [cell_of_row w q 0 _ _ (0, 0) h.1]; rfl
theorem Cap.free {B q m c : Nat} {w : World} {A : Option Addr} {acc : Rgs} (h : Cap B w q A m c acc) (i : Nat) : w.frozen? ⟨q, i, none⟩ = false := by have := h.1; simp [World.frozen?, this]
theorem Cap.drewN {B q m c : Nat} {w : World} {A : Option Addr} {acc : Rgs} (h : Cap B w q A m c acc) (n : Nat) : Cap B (w.drewN n) q A m c acc := h

/-- What a call of the closure leaves: below B all but block q, below q all. -/
structure Fr (B q : Nat) (w w' : World) : Prop where
  blk : ∀ j, j < B → j ≠ q → w'.heap[j]? = w.heap[j]?
  bel : Below q w w'
  size : w.heap.size ≤ w'.heap.size
theorem Fr.trans {B q : Nat} {a b c : World} (h : Fr B q a b) (k : Fr B q b c) : Fr B q a c := ⟨fun j h1 h2 => (k.blk j h1 h2).trans (h.blk j h1 h2), h.bel.trans k.bel, Nat.le_trans h.size k.size⟩
theorem Fr.refl (B q : Nat) (w : World) : Fr B q w w := ⟨fun _ _ _ => rfl, Below.refl _ _, Nat.le_refl _⟩
theorem Fr.drewN {B q : Nat} {a b : World} (h : Fr B q a b) (n : Nat) : Fr B q a (b.drewN n) := ⟨h.blk, below_drewN h.bel n, h.size⟩
theorem Cap.app {B q m c : Nat} {w w1 : World} {A : Option Addr} {acc : Rgs} {ob : Obj} {v1 : Value} {x : Int × Int} (h : Cap B w q A m c acc) (ho : OwnE EPr B w1 v1 (acc ++ [x])) (hb : Below B (w.alloc ob) w1) :
    ∃ g c', v1 = .slice (some ⟨g, 0, none⟩) (m + 1) c' ∧ w1.cell? ⟨q, 0, none⟩ = some (.slice A m c) ∧ w1.frozen? ⟨q, 0, none⟩ = false ∧ Hid (Cap B (w1.setCell ⟨q, 0, none⟩ (.slice (some ⟨g, 0, none⟩) (m + 1) c')) q (some ⟨g, 0, none⟩) (m + 1) c' (acc ++ [x])) ∧ Hid (Fr B q w (w1.setCell ⟨q, 0, none⟩ (.slice (some ⟨g, 0, none⟩) (m + 1) c'))) := by
  obtain ⟨h1, h2, h3, h4, h5⟩ := h
  have hb2 : Below B w w1 := ((Below.refl _ _).alloc h4 ob).trans hb
  have hq1 := (hb2.block q h3).trans h1
  rcases ho.form with ⟨_, e⟩ | ⟨g, c', e, k1, _⟩
  · simp at e
  · have hl : (acc ++ [x]).length = m + 1 := by simp [h5]
    rw [hl] at e
    subst e
    refine ⟨g, c', rfl, by rw [cell_of_row w1 q 0 _ _ (0, 0) hq1]; rfl, by simp [World.frozen?, hq1], ⟨?_, ?_, h3, ?_, hl⟩, ⟨fun j hj hjq => ?_, ?_, ?_⟩⟩
    · simp [World.setCell, Array.getElem?_modify, hq1]
    · exact ho.kept (gset _ _ _ _) (.inr fun e => by have := (ho.lt _ e).1; omega)
    · have := Nat.le_trans h4 hb2.size
      simpa [World.setCell] using this
    · rw [(gset w1 q 0 _).block j (by have := hb2.size; omega) (by simpa using hjq)]
      exact hb2.block j hj
    · exact Below.set_ (hb2.mono (Nat.le_of_lt h3)) (by have := hb2.size; omega) _ _ _ (Nat.le_refl _)
    · have := hb2.size
      simpa [World.setCell] using this

set_option maxRecDepth 100000 in
set_option maxHeartbeats 1000000 in
theorem clo (B q m c : Nat) (A : Option Addr) (acc : Rgs) (i s e : Int) (w : World) (h : Cap B w q A m c acc) (hm : m ≤ 4294967295) :
    Calls Try.prog 88 #[.int .i64 i, .int .i64 s, .int .i64 e, .pointer (some ⟨q, 0, none⟩)] w fun en w' => en = .returned (.tuple #[]) ∧ ∃ A' c', Hid (Cap B w' q A' (m + 1) c' (acc ++ [(s, e)])) ∧ Hid (Fr B q w w') := by
  have c0 := h.cell
  have f0 := h.free 0
  have HC := Lib.hid h
  have HN := Lib.hid (new_cells (E := EPr) w [(s, e)] 47)
  have hqB : q < B := h.2.2.1
  have hBw : B ≤ w.heap.size := h.2.2.2.1
  clear h
  go_enter Try.func88, Try.ntmps88
  go_wp2_with (at_builtin; refine wpList_appE (E := EPr) B _ rfl (.tmp 7) (.tmp 11) rfl _ acc rfl (OwnE.alloc HC.out.2.1 _) ⟨w.heap.size, 0, none⟩ 1 1 [(s, e)] rfl rfl (by exact HN.out) (by have := HC.out.2.2.2.2; omega) (by simp; omega) ?_; intro v1 w1 ho1 hg1 ha1 hb1 hn1; obtain ⟨g, c', rfl, k1, k2, k3, k4⟩ := HC.out.app ho1 hb1; clear ho1 hg1 ha1 hb1 hn1)
  go_end0
  exact ⟨rfl, _, _, k3, k4⟩

theorem cutA {w : World} {b o C m : Nat} {L : List Int} (h : Rd w (some ⟨b, o, none⟩) L) (hc : L.length ≤ C) : ∃ o'', (if C = m then some (⟨b, o, none⟩ : Addr) else some ⟨b, o + m, none⟩) = some ⟨b, o'', none⟩ ∧ Rd w (some ⟨b, o'', none⟩) (L.drop m) := by
  have := h.cut_at (k := m) hc
  split at this
  · rename_i e
    exact ⟨o, by rw [if_pos e], this⟩
  · rename_i e
    exact ⟨o + m, by rw [if_neg e], this⟩

/-- What consumeAckFrame answers. -/
def CafEnd (w : World) (q : Nat) (l : List Int) (e : Ending) (w' : World) : Prop :=
  Fr w.heap.size q w w' ∧ ∃ A m c acc, Cap (w.heap.size + 1) w' q A m c acc ∧
    ((ackP l = none ∧ e = .returned (.tuple #[.int .i64 0, .int .i64 0, .agg #[.int .i64 0, .int .i64 0, .int .i64 0], .int .i64 (-1)])) ∨
     ∃ r, ackP l = some r ∧ acc = r.rs ∧ e = .returned (.tuple #[.int .i64 r.lg, .int .i64 r.dl, .agg #[.int .i64 r.e0, .int .i64 r.e1, .int .i64 r.e2], .int .i64 (r.n : Nat)]))

/-- The walk's state behind so many bytes: what is left of the bytes, the captured variable, the counts' block. -/
structure Cst (w : World) (q b n : Nat) (l : List Int) (wr : World) (o k : Nat) (A : Option Addr) (m c : Nat) (acc : Rgs) : Prop where
  rd : Rd wr (some ⟨b, o, none⟩) (l.drop k)
  cap : Cap (w.heap.size + 1) wr q A m c acc
  fr : Fr w.heap.size q w wr
  ecn : wr.heap[w.heap.size]? = some (.cells #[.int .i64 0, .int .i64 0, .int .i64 0] 115 (0, 0))
  kn : k ≤ n
  bq : b < q
section
variable {w wr w' : World} {q b n o k m c : Nat} {l : List Int} {A : Option Addr} {acc : Rgs}
theorem Cst.drewN (h : Cst w q b n l wr o k A m c acc) (z : Nat) : Cst w q b n l (wr.drewN z) o k A m c acc := ⟨h.rd.drewN z, h.cap.drewN z, h.fr.drewN z, h.ecn, h.kn, h.bq⟩
theorem Cst.e (h : Cst w q b n l wr o k A m c acc) : (wr.cell? ⟨w.heap.size, 0, none⟩ = some (.int .i64 0) ∧ wr.cell? ⟨w.heap.size, 1, none⟩ = some (.int .i64 0) ∧ wr.cell? ⟨w.heap.size, 2, none⟩ = some (.int .i64 0)) ∧ (wr.frozen? ⟨w.heap.size, 0, none⟩ = false ∧ wr.frozen? ⟨w.heap.size, 1, none⟩ = false ∧ wr.frozen? ⟨w.heap.size, 2, none⟩ = false) := by
  have h1 := h.ecn
  refine ⟨⟨?_, ?_, ?_⟩, ?_, ?_, ?_⟩
  · rw [cell_of_row wr _ 0 _ _ (0, 0) h1]; rfl
  · rw [cell_of_row wr _ 1 _ _ (0, 0) h1]; rfl
  · rw [cell_of_row wr _ 2 _ _ (0, 0) h1]; rfl
  · simp [World.frozen?, h1]
  · simp [World.frozen?, h1]
  · simp [World.frozen?, h1]
/-- The counts' block written. -/
theorem Cst.set3 (h : Cst w q b n l wr o k A m c acc) (hq : q < w.heap.size) (x0 x1 x2 : Int) : Fr w.heap.size q w (((wr.setCell ⟨w.heap.size, 0, none⟩ (.int .i64 x0)).setCell ⟨w.heap.size, 1, none⟩ (.int .i64 x1)).setCell ⟨w.heap.size, 2, none⟩ (.int .i64 x2)) ∧
    Cap (w.heap.size + 1) (((wr.setCell ⟨w.heap.size, 0, none⟩ (.int .i64 x0)).setCell ⟨w.heap.size, 1, none⟩ (.int .i64 x1)).setCell ⟨w.heap.size, 2, none⟩ (.int .i64 x2)) q A m c acc := by
  have step : ∀ (W : World) (i : Nat) (v : Value), Fr w.heap.size q w W → Cap (w.heap.size + 1) W q A m c acc → Fr w.heap.size q w (W.setCell ⟨w.heap.size, i, none⟩ v) ∧ Cap (w.heap.size + 1) (W.setCell ⟨w.heap.size, i, none⟩ v) q A m c acc := by
    intro W i v hf hc
    have hg := gset W w.heap.size i v
    refine ⟨⟨fun j hj hjq => ?_, ?_, ?_⟩, ⟨?_, ?_, hc.2.2.1, ?_, hc.2.2.2.2⟩⟩
    · rw [hg.block j (by have := hf.size; omega) (by simp; omega)]
      exact hf.blk j hj hjq
    · exact Below.set_ hf.bel (by have := hf.size; omega) _ _ _ (Nat.le_of_lt hq)
    · have := hf.size; simpa [World.setCell] using this
    · rw [hg.block q (by have := hf.size; omega) (by simp; omega)]
      exact hc.1
    · exact hc.2.1.kept hg (.inr fun e => by have := (hc.2.1.lt _ e).1; omega)
    · have := hc.2.2.2.1; simpa [World.setCell] using this
  obtain ⟨a1, a2⟩ := step wr 0 (.int .i64 x0) h.fr h.cap
  obtain ⟨b1, b2⟩ := step _ 1 (.int .i64 x1) a1 a2
  exact step _ 2 (.int .i64 x2) b1 b2
theorem Cst.bad (h : Cst w q b n l wr o k A m c acc) (hq : q < w.heap.size) (hp : ackP l = none) : CafEnd w q l (.returned (.tuple #[.int .i64 0, .int .i64 0, .agg #[.int .i64 0, .int .i64 0, .int .i64 0], .int .i64 (-1)])) (((wr.setCell ⟨w.heap.size, 0, none⟩ (.int .i64 0)).setCell ⟨w.heap.size, 1, none⟩ (.int .i64 0)).setCell ⟨w.heap.size, 2, none⟩ (.int .i64 0)) :=
  ⟨(h.set3 hq 0 0 0).1, A, m, c, acc, (h.set3 hq 0 0 0).2, .inl ⟨hp, rfl⟩⟩
/-- A number is taken off. -/
theorem Cst.cut (h : Cst w q b n l wr o k A m c acc) {C mm : Nat} (hn : l.length = n) (hC : n - k ≤ C) (hk : k + mm ≤ n) : ∃ o2, Hid ((if C = mm then some (⟨b, o, none⟩ : Addr) else some ⟨b, o + mm, none⟩) = some ⟨b, o2, none⟩) ∧ Hid (Cst w q b n l wr o2 (k + mm) A m c acc) := by
  obtain ⟨o2, e, hr⟩ := cutA (C := C) (m := mm) h.rd (by rw [List.length_drop, hn]; exact hC)
  rw [List.drop_drop] at hr
  exact ⟨o2, e, hr, h.cap, h.fr, h.ecn, hk, h.bq⟩
/-- Behind a call of the closure. -/
theorem Cst.clo_ (h : Cst w q b n l wr o k A m c acc) (hq : q < w.heap.size) {A' : Option Addr} {m' c' : Nat} {acc' : Rgs} (hc : Cap (w.heap.size + 1) w' q A' m' c' acc') (hf : Fr (w.heap.size + 1) q wr w') : Cst w q b n l w' o k A' m' c' acc' := by
  refine ⟨⟨h.rd.1, fun hl => ?_⟩, hc, h.fr.trans ⟨fun j hj hjq => hf.blk j (by omega) hjq, hf.bel, hf.size⟩, (hf.blk _ (by omega) (by omega)).trans h.ecn, h.kn, h.bq⟩
  obtain ⟨b', o', e, hcl⟩ := h.rd.2 hl
  refine ⟨b', o', e, fun i hi => ?_⟩
  obtain ⟨rfl, rfl⟩ : b = b' ∧ o = o' := by simpa using e
  rw [hf.bel.cell (p := ⟨b, o + i, none⟩) h.bq]
  exact hcl i hi
/-- The frame's first byte. -/
theorem Cst.first (h : Cst w q b n l wr o k A m c acc) {o0 : Nat} (hr : Rd w (some ⟨b, o0, none⟩) l) (hn : l.length = n) (h1 : 1 ≤ n) {x : Int} (hx : l.getD 0 0 = x) : wr.cell? ⟨b, o0, none⟩ = some (.int .u8 x) := by
  obtain ⟨b', o', e, hc⟩ := hr.2 (by rw [hn]; omega)
  obtain ⟨rfl, rfl⟩ : b = b' ∧ o0 = o' := by simpa using e
  rw [h.fr.bel.cell (p := ⟨b, o0, none⟩) h.bq]
  have := hc 0 (by rw [hn]; omega)
  rwa [hx] at this
theorem Cst.good (h : Cst w q b n l wr o k A m c acc) (hq : q < w.heap.size) {v1 v2 x0 x1 x2 N : Int} {kk : Nat} (hp : ackP l = some ⟨acc, v1, v2, x0, x1, x2, kk⟩) (hN : N = (kk : Int)) : CafEnd w q l (.returned (.tuple #[.int .i64 v1, .int .i64 v2, .agg #[.int .i64 x0, .int .i64 x1, .int .i64 x2], .int .i64 N])) (((wr.setCell ⟨w.heap.size, 0, none⟩ (.int .i64 x0)).setCell ⟨w.heap.size, 1, none⟩ (.int .i64 x1)).setCell ⟨w.heap.size, 2, none⟩ (.int .i64 x2)) := by
  subst hN
  exact ⟨(h.set3 hq x0 x1 x2).1, A, m, c, acc, (h.set3 hq x0 x1 x2).2, .inr ⟨_, hp, rfl, rfl⟩⟩
/-- The counts' block written: the world by a name. -/
theorem Cst.three (h : Cst w q b n l wr o k A m c acc) (hq : q < w.heap.size) (x0 x1 x2 : Int) : ∃ W, Hid ((((wr.setCell ⟨w.heap.size, 0, none⟩ (.int .i64 x0)).setCell ⟨w.heap.size, 1, none⟩ (.int .i64 x1)).setCell ⟨w.heap.size, 2, none⟩ (.int .i64 x2)) = W) ∧
    (W.cell? ⟨w.heap.size, 0, none⟩ = some (.int .i64 x0) ∧ W.cell? ⟨w.heap.size, 1, none⟩ = some (.int .i64 x1) ∧ W.cell? ⟨w.heap.size, 2, none⟩ = some (.int .i64 x2)) ∧ (W.frozen? ⟨w.heap.size, 0, none⟩ = false ∧ W.frozen? ⟨w.heap.size, 1, none⟩ = false ∧ W.frozen? ⟨w.heap.size, 2, none⟩ = false) ∧
    ∃ W2, Hid (((((W.setCell ⟨w.heap.size, 0, none⟩ (.int .i64 x0)).setCell ⟨w.heap.size, 1, none⟩ (.int .i64 x1)).setCell ⟨w.heap.size, 2, none⟩ (.int .i64 x2)).drew) = W2) ∧ (W2.cell? ⟨w.heap.size, 0, none⟩ = some (.int .i64 x0) ∧ W2.cell? ⟨w.heap.size, 1, none⟩ = some (.int .i64 x1) ∧ W2.cell? ⟨w.heap.size, 2, none⟩ = some (.int .i64 x2)) ∧ Hid (Fr w.heap.size q w W2 ∧ Cap (w.heap.size + 1) W2 q A m c acc) := by
  have hs : ∀ (W : World) (i : Nat) (v : Value) (r r' : Array Value), W.heap[w.heap.size]? = some (.cells r 115 (0, 0)) → r.setIfInBounds i v = r' → (W.setCell ⟨w.heap.size, i, none⟩ v).heap[w.heap.size]? = some (.cells r' 115 (0, 0)) := by
    intro W i v r r' hr he
    simp [World.setCell, Array.getElem?_modify, hr, he]
  have e1 := hs _ 0 (.int .i64 x0) _ #[.int .i64 x0, .int .i64 0, .int .i64 0] h.ecn rfl
  have e2 := hs _ 1 (.int .i64 x1) _ #[.int .i64 x0, .int .i64 x1, .int .i64 0] e1 rfl
  have e3 := hs _ 2 (.int .i64 x2) _ #[.int .i64 x0, .int .i64 x1, .int .i64 x2] e2 rfl
  have e4 := hs _ 0 (.int .i64 x0) _ #[.int .i64 x0, .int .i64 x1, .int .i64 x2] e3 rfl
  have e5 := hs _ 1 (.int .i64 x1) _ #[.int .i64 x0, .int .i64 x1, .int .i64 x2] e4 rfl
  have e6 := hs _ 2 (.int .i64 x2) _ #[.int .i64 x0, .int .i64 x1, .int .i64 x2] e5 rfl
  have dr : ∀ (W : World) (a : Addr), W.drew.cell? a = W.cell? a := fun _ _ => rfl
  refine ⟨_, Lib.hid rfl, ⟨?_, ?_, ?_⟩, ⟨?_, ?_, ?_⟩, _, Lib.hid rfl, ⟨?_, ?_, ?_⟩, ?_⟩
  · rw [cell_of_row _ _ 0 _ _ (0, 0) e3]; rfl
  · rw [cell_of_row _ _ 1 _ _ (0, 0) e3]; rfl
  · rw [cell_of_row _ _ 2 _ _ (0, 0) e3]; rfl
  · simp [World.frozen?, e3]
  · simp [World.frozen?, e3]
  · simp [World.frozen?, e3]
  · rw [dr, cell_of_row _ _ 0 _ _ (0, 0) e6]; rfl
  · rw [dr, cell_of_row _ _ 1 _ _ (0, 0) e6]; rfl
  · rw [dr, cell_of_row _ _ 2 _ _ (0, 0) e6]; rfl
  · have step : ∀ (W : World) (i : Nat) (v : Value), Fr w.heap.size q w W ∧ Cap (w.heap.size + 1) W q A m c acc → Fr w.heap.size q w (W.setCell ⟨w.heap.size, i, none⟩ v) ∧ Cap (w.heap.size + 1) (W.setCell ⟨w.heap.size, i, none⟩ v) q A m c acc := by
      intro W i v ⟨hf, hc⟩
      have hg := gset W w.heap.size i v
      refine ⟨⟨fun j hj hjq => ?_, ?_, ?_⟩, ⟨?_, ?_, hc.2.2.1, ?_, hc.2.2.2.2⟩⟩
      · rw [hg.block j (by have := hf.size; omega) (by simp; omega)]
        exact hf.blk j hj hjq
      · exact Below.set_ hf.bel (by have := hf.size; omega) _ _ _ (Nat.le_of_lt hq)
      · have := hf.size; simpa [World.setCell] using this
      · rw [hg.block q (by have := hf.size; omega) (by simp; omega)]
        exact hc.1
      · exact hc.2.1.kept hg (.inr fun e => by have := (hc.2.1.lt _ e).1; omega)
      · have := hc.2.2.2.1; simpa [World.setCell] using this
    have k0 := h.set3 hq x0 x1 x2
    have k1 := step _ 2 (.int .i64 x2) (step _ 1 (.int .i64 x1) (step _ 0 (.int .i64 x0) k0))
    exact ⟨k1.1.drewN 1, k1.2.drewN 1⟩
end

theorem ecn_0 {l : List Int} {rs : Rgs} {lg dl : Int} {k : Nat} (hx : l.getD 0 0 = 3) (h1 : nm l k = none) : ecnP l rs lg dl k = none := by unfold ecnP; rw [if_pos hx]; simp [h1]
theorem ecn_1 {l : List Int} {rs : Rgs} {lg dl x : Int} {k k1 : Nat} (hx : l.getD 0 0 = 3) (h1 : nm l k = some (x, k1)) (h2 : nm l k1 = none) : ecnP l rs lg dl k = none := by unfold ecnP; rw [if_pos hx]; simp [h1, h2]
theorem ecn_2 {l : List Int} {rs : Rgs} {lg dl x y : Int} {k k1 k2 : Nat} (hx : l.getD 0 0 = 3) (h1 : nm l k = some (x, k1)) (h2 : nm l k1 = some (y, k2)) (h3 : nm l k2 = none) : ecnP l rs lg dl k = none := by unfold ecnP; rw [if_pos hx]; simp [h1, h2, h3]
theorem ecn_3 {l : List Int} {rs : Rgs} {lg dl x y z : Int} {k k1 k2 k3 : Nat} (hx : l.getD 0 0 = 3) (h1 : nm l k = some (x, k1)) (h2 : nm l k1 = some (y, k2)) (h3 : nm l k2 = some (z, k3)) : ecnP l rs lg dl k = some ⟨rs, lg, dl, x, y, z, k3⟩ := by unfold ecnP; rw [if_pos hx]; simp [h1, h2, h3]

set_option maxRecDepth 100000 in
set_option maxHeartbeats 3000000 in
theorem caf (b o n c q : Nat) (l : List Int) (w : World) (hr : Rd w (some ⟨b, o, none⟩) l) (hn : Hid (l.length = n)) (hnc : n ≤ c) (hc2 : c ≤ 9223372036854775807) (h1 : 1 ≤ n) (hn2 : n ≤ 4294967295) (x : Int) (hx : Hid (l.getD 0 0 = x)) (hx0 : 0 ≤ x) (hx1 : x ≤ 255)
    (hq : Hid (w.heap[q]? = some (.cells #[.slice none 0 0] 45 (0, 0)))) (hbq : b < q) :
    Calls Try.prog 87 #[.slice (some ⟨b, o, none⟩) n c, .func (.func 88) #[] #[.pointer (some ⟨q, 0, none⟩)]] w fun e w' => CafEnd w q l e w' := by
  have hql : q < w.heap.size := (Array.getElem?_eq_some_iff.1 hq.out).1
  have HBS := Lib.hid hr.1
  obtain ⟨o1, e1, hr1⟩ := cutA (C := c) (m := 1) hr (by rw [hn.out]; exact hnc)
  have E1 := Lib.hid e1
  have S0 : Hid (Cst w q b n l (w.alloc (.cells #[.int .i64 0, .int .i64 0, .int .i64 0] 115)) o1 1 none 0 0 []) := by
    refine ⟨hr1.alloc _, ⟨(heap_alloc_old _ _ hql).trans hq.out, OwnE.nil_ _ _, by omega, by simp, rfl⟩, ⟨fun j hj _ => heap_alloc_old _ _ hj, (Below.refl _ _).alloc (Nat.le_of_lt hql) _, by simp⟩, heap_alloc_new w _, h1, hbq⟩
  have HR := Lib.hid hr
  have hn1 : 1 ≤ n := h1
  clear hr hr1 e1 hq
  go_enter Try.func87, Try.ntmps87
  have e1 := E1.out
  go_wp2_with fail
  clear e1
  cases hv1 : rv (l.drop (1)) with
  | none =>
    have HV := Lib.hid hv1
    have HP : Hid (ackP l = none) := ackP_1  (nm_none hv1)
    clear hv1
    refine (cv_none _ _ _ (l.drop (1)) _ S0.out.rd (by show _ = _; rw [List.length_drop, hn.out]; try omega) (by omega) HV).mono ?_
    rintro e w2 ⟨rfl, hz⟩
    have S : Hid (Cst w q b n l w2 o1 (1) none 0 0 []) := by obtain ⟨z, rfl⟩ := hz; exact S0.out.drewN z
    clear hz S0
    obtain ⟨⟨d0, d1, d2⟩, f0, f1, f2⟩ := S.out.e
    go_wp2_with fail
    refine bodyPost_ret (v := .tuple #[.int .i64 0, .int .i64 0, .agg #[.int .i64 0, .int .i64 0, .int .i64 0], .int .i64 (-1)]) (by simp [results, Try.results87, go_sem, d0, d1, d2]) rfl ?_
    exact S.out.bad hql HP.out
  | some p1 =>
  obtain ⟨v1, m1⟩ := p1
  have hb1 := rv_bd (HBS.out.drop (1)) hv1
  rw [List.length_drop, hn.out] at hb1
  obtain ⟨a1, b1, c1, -, h11⟩ := hb1
  have M1 := Lib.hid (nm_some hv1)
  have HV := Lib.hid hv1
  clear hv1
  refine (cv_some _ _ _ (l.drop (1)) _ v1 m1 S0.out.rd (by show _ = _; rw [List.length_drop, hn.out]; try omega) (by omega) HV).mono ?_
  rintro e w1 ⟨rfl, hz⟩
  have T1 : Hid (Cst w q b n l w1 o1 (1) none 0 0 []) := by obtain ⟨z, rfl⟩ := hz; exact S0.out.drewN z
  clear hz S0 HV
  obtain ⟨o2, E, S1⟩ := T1.out.cut (C := c - 1) (mm := m1) hn.out (by omega) (by omega)
  have e1 := E.out
  clear T1 E
  go_wp2_with (go_at_call 102; go_in)
  clear e1
  cases hv2 : rv (l.drop (1 + m1)) with
  | none =>
    have HV := Lib.hid hv2
    have HP : Hid (ackP l = none) := ackP_2 M1.out (nm_none hv2)
    clear hv2
    refine (cv_none _ _ _ (l.drop (1 + m1)) _ S1.out.rd (by show _ = _; rw [List.length_drop, hn.out]; try omega) (by omega) HV).mono ?_
    rintro e w2 ⟨rfl, hz⟩
    have S : Hid (Cst w q b n l w2 o2 (1 + m1) none 0 0 []) := by obtain ⟨z, rfl⟩ := hz; exact S1.out.drewN z
    clear hz S1
    obtain ⟨⟨d0, d1, d2⟩, f0, f1, f2⟩ := S.out.e
    go_wp2_with fail
    refine bodyPost_ret (v := .tuple #[.int .i64 0, .int .i64 0, .agg #[.int .i64 0, .int .i64 0, .int .i64 0], .int .i64 (-1)]) (by simp [results, Try.results87, go_sem, d0, d1, d2]) rfl ?_
    exact S.out.bad hql HP.out
  | some p2 =>
  obtain ⟨v2, m2⟩ := p2
  have hb2 := rv_bd (HBS.out.drop (1 + m1)) hv2
  rw [List.length_drop, hn.out] at hb2
  obtain ⟨a2, b2, c2, -, h21⟩ := hb2
  have M2 := Lib.hid (nm_some hv2)
  have HV := Lib.hid hv2
  clear hv2
  refine (cv_some _ _ _ (l.drop (1 + m1)) _ v2 m2 S1.out.rd (by show _ = _; rw [List.length_drop, hn.out]; try omega) (by omega) HV).mono ?_
  rintro e w2 ⟨rfl, hz⟩
  have T2 : Hid (Cst w q b n l w2 o2 (1 + m1) none 0 0 []) := by obtain ⟨z, rfl⟩ := hz; exact S1.out.drewN z
  clear hz S1 HV
  obtain ⟨o3, E, S2⟩ := T2.out.cut (C := c - 1 - m1) (mm := m2) hn.out (by omega) (by omega)
  have e1 := E.out
  clear T2 E
  go_wp2_with fail
  clear e1
  cases hv3 : rv (l.drop (1 + m1 + m2)) with
  | none =>
    have HV := Lib.hid hv3
    have HP : Hid (ackP l = none) := ackP_3 M1.out M2.out (nm_none hv3)
    clear hv3
    refine (cv_none _ _ _ (l.drop (1 + m1 + m2)) _ S2.out.rd (by show _ = _; rw [List.length_drop, hn.out]; try omega) (by omega) HV).mono ?_
    rintro e w2 ⟨rfl, hz⟩
    have S : Hid (Cst w q b n l w2 o3 (1 + m1 + m2) none 0 0 []) := by obtain ⟨z, rfl⟩ := hz; exact S2.out.drewN z
    clear hz S2
    obtain ⟨⟨d0, d1, d2⟩, f0, f1, f2⟩ := S.out.e
    go_wp2_with fail
    refine bodyPost_ret (v := .tuple #[.int .i64 0, .int .i64 0, .agg #[.int .i64 0, .int .i64 0, .int .i64 0], .int .i64 (-1)]) (by simp [results, Try.results87, go_sem, d0, d1, d2]) rfl ?_
    exact S.out.bad hql HP.out
  | some p3 =>
  obtain ⟨v3, m3⟩ := p3
  have hb3 := rv_bd (HBS.out.drop (1 + m1 + m2)) hv3
  rw [List.length_drop, hn.out] at hb3
  obtain ⟨a3, b3, c3, -, h31⟩ := hb3
  have M3 := Lib.hid (nm_some hv3)
  have HV := Lib.hid hv3
  clear hv3
  refine (cv_some _ _ _ (l.drop (1 + m1 + m2)) _ v3 m3 S2.out.rd (by show _ = _; rw [List.length_drop, hn.out]; try omega) (by omega) HV).mono ?_
  rintro e w3 ⟨rfl, hz⟩
  have T3 : Hid (Cst w q b n l w3 o3 (1 + m1 + m2) none 0 0 []) := by obtain ⟨z, rfl⟩ := hz; exact S2.out.drewN z
  clear hz S2 HV
  obtain ⟨o4, E, S3⟩ := T3.out.cut (C := c - 1 - m1 - m2) (mm := m3) hn.out (by omega) (by omega)
  have e1 := E.out
  clear T3 E
  go_wp2_with fail
  clear e1
  have HE : Hid (∀ T, joinR [] (ackM l v3.toNat v1 (1 + m1 + m2 + m3)) = T → ackP l = finP l v1 v2 T) := fun T hT => ackP_join M1.out M2.out M3.out hT
  have hmb : 1 + m1 + m2 + m3 ≤ n := S3.out.kn
  clear M1 M2 M3
  go_loopw [5, 8, 12, 13] (fun s5 bs mx i wr => ∃ (j : Nat) (M : Int) (k o5 C m c7 : Nat) (A7 : Option Addr) (acc : Rgs), (j : Int) ≤ v3 ∧ s5 = .int .i64 v2 ∧ bs = .slice (some ⟨b, o5, none⟩) (n - k) C ∧ mx = .int .i64 M ∧ i = .int .u64 j ∧ -4611686018427387905 ≤ M ∧ M ≤ 4611686018427387903 ∧ n - k ≤ C ∧ C ≤ c ∧ m ≤ k ∧ k ≤ n ∧ Hid (Cst w q b n l wr o5 k A7 m c7 acc) ∧ Hid (joinR [] (ackM l v3.toNat v1 (1 + m1 + m2 + m3)) = joinR acc (ackM l (v3.toNat - j) M k))) (fun _ _ _ i _ => v3.toNat - (intOf i).toNat)
  case atStart =>
    have e : n - 1 - m1 - m2 - m3 = n - (1 + m1 + m2 + m3) := by omega
    exact ⟨0, v1, 1 + m1 + m2 + m3, o4, c - 1 - m1 - m2 - m3, 0, 0, none, [], by omega, rfl, by rw [e], rfl, rfl, by omega, by omega, by omega, by omega, by omega, hmb, S3, rfl⟩
  case round =>
    clear S3
    obtain ⟨j, M, k, o5, C, m, c7, A7, acc, hj, rfl, rfl, rfl, rfl, hM0, hM1, hLC, hCc, hmk, hkn, S4, HJ⟩ := hrel
    cases hv4 : rv (l.drop k) with
    | none =>
      have HV := Lib.hid hv4
      have HP : Hid (ackP l = none) := by show _ = _; rw [HE.out none (by rw [HJ.out, ackM_none (nm_none hv4)]; rfl)]; rfl
      clear hv4
      go_wp2_with fail
      refine (cv_none _ _ _ (l.drop k) _ S4.out.rd (by show _ = _; rw [List.length_drop, hn.out]; try omega) (by omega) HV).mono ?_
      rintro e w5 ⟨rfl, hz⟩
      have S : Hid (Cst w q b n l w5 o5 k A7 m c7 acc) := by obtain ⟨z, rfl⟩ := hz; exact S4.out.drewN z
      clear hz S4
      obtain ⟨⟨d0, d1, d2⟩, f0, f1, f2⟩ := S.out.e
      go_wp2_with fail
      refine bodyPost_ret (v := .tuple #[.int .i64 0, .int .i64 0, .agg #[.int .i64 0, .int .i64 0, .int .i64 0], .int .i64 (-1)]) (by simp [results, Try.results87, go_sem, d0, d1, d2]) rfl ?_
      exact S.out.bad hql HP.out
    | some p4 =>
    obtain ⟨v4, m4⟩ := p4
    have hb4 := rv_bd (HBS.out.drop k) hv4
    rw [List.length_drop, hn.out] at hb4
    obtain ⟨a4, b4, c4, -, h41⟩ := hb4
    have M4 := Lib.hid (nm_some hv4)
    have HV := Lib.hid hv4
    clear hv4
    go_wp2_with fail
    refine (cv_some _ _ _ (l.drop k) _ v4 m4 S4.out.rd (by show _ = _; rw [List.length_drop, hn.out]; try omega) (by omega) HV).mono ?_
    rintro e w5 ⟨rfl, hz⟩
    have T4 : Hid (Cst w q b n l w5 o5 k A7 m c7 acc) := by obtain ⟨z, rfl⟩ := hz; exact S4.out.drewN z
    clear hz S4 HV
    obtain ⟨o6, E, S5⟩ := T4.out.cut (C := C) (mm := m4) hn.out (by omega) (by omega)
    have e1 := E.out
    clear T4 E
    by_cases hs : M < v4
    · have HP : Hid (ackP l = none) := by show _ = _; rw [HE.out none (by rw [HJ.out, ackM_short M4.out hs]; rfl)]; rfl
      obtain ⟨⟨d0, d1, d2⟩, f0, f1, f2⟩ := S5.out.e
      go_wp2_with fail
      refine bodyPost_ret (v := .tuple #[.int .i64 0, .int .i64 0, .agg #[.int .i64 0, .int .i64 0, .int .i64 0], .int .i64 (-1)]) (by simp [results, Try.results87, go_sem, d0, d1, d2]) rfl ?_
      exact S5.out.bad hql HP.out
    have HJ2 : Hid (joinR [] (ackM l v3.toNat v1 (1 + m1 + m2 + m3)) = joinR (acc ++ [(M - v4, M + 1)]) (ackG l (v3.toNat - j) (M - v4) (k + m4))) := by show _ = _; rw [HJ.out]; exact ackM_some acc M4.out hs
    clear HJ M4
    by_cases hjv : (j : Int) = v3
    · have hjb : ((j : Int) == v3) = true := by simp [hjv]
      have hJ3 : Hid (v3.toNat - j = 0) := by show _ = _; omega
      have HP : Hid (ackP l = ecnP l (acc ++ [(M - v4, M + 1)]) v1 v2 (k + m4)) := by show _ = _; rw [HE.out (some (acc ++ [(M - v4, M + 1)], k + m4)) (by rw [HJ2.out, hJ3.out]; exact ackG_zero l _ _ _)]; rfl
      clear HJ2 HE hJ3
      have hp0 : (0 : Int) < (n : Int) := by omega
      by_cases hx3 : x = 3
      · subst hx3
        go_wp2_with (go_at_call 88; refine (clo _ _ _ _ _ _ _ _ _ _ S5.out.cap (by omega)).mono ?_; rintro e w6 ⟨rfl, A8, c8, K1, K2⟩; have S6 := Lib.hid (S5.out.clo_ hql K1.out K2.out); clear K1 K2 S5; have cx := S6.out.first HR.out hn.out h1 hx.out)
        cases hva : rv (l.drop (k + m4)) with
        | none =>
          have HV := Lib.hid hva
          have HN : Hid (ackP l = none) := by show _ = _; rw [HP.out]; exact ecn_0 hx.out  (nm_none hva)
          clear hva
          refine (cv_none _ _ _ (l.drop (k + m4)) _ S6.out.rd (by show _ = _; rw [List.length_drop, hn.out]; try omega) (by omega) HV).mono ?_
          rintro e w9 ⟨rfl, hz⟩
          have S : Hid (Cst w q b n l w9 o6 (k + m4) A8 (m + 1) c8 (acc ++ [(M - v4, M + 1)])) := by obtain ⟨z, rfl⟩ := hz; exact S6.out.drewN z
          clear hz S6
          obtain ⟨⟨d0, d1, d2⟩, f0, f1, f2⟩ := S.out.e
          go_wp2_with fail
          refine bodyPost_ret (v := .tuple #[.int .i64 0, .int .i64 0, .agg #[.int .i64 0, .int .i64 0, .int .i64 0], .int .i64 (-1)]) (by simp [results, Try.results87, go_sem, d0, d1, d2]) rfl ?_
          exact S.out.bad hql HN.out
        | some pa =>
        obtain ⟨xa, ma⟩ := pa
        have hba := rv_bd (HBS.out.drop (k + m4)) hva
        rw [List.length_drop, hn.out] at hba
        obtain ⟨aa, ba, ca, -, ha1⟩ := hba
        have Na := Lib.hid (nm_some hva)
        have HV := Lib.hid hva
        clear hva
        refine (cv_some _ _ _ (l.drop (k + m4)) _ xa ma S6.out.rd (by show _ = _; rw [List.length_drop, hn.out]; try omega) (by omega) HV).mono ?_
        rintro e wa ⟨rfl, hz⟩
        have Ta : Hid (Cst w q b n l wa o6 (k + m4) A8 (m + 1) c8 (acc ++ [(M - v4, M + 1)])) := by obtain ⟨z, rfl⟩ := hz; exact S6.out.drewN z
        clear hz S6 HV
        obtain ⟨oa, E, Sa⟩ := Ta.out.cut (C := C - m4) (mm := ma) hn.out (by omega) (by omega)
        have e1 := E.out
        clear Ta E
        go_wp2_with fail
        clear e1
        cases hvb : rv (l.drop (k + m4 + ma)) with
        | none =>
          have HV := Lib.hid hvb
          have HN : Hid (ackP l = none) := by show _ = _; rw [HP.out]; exact ecn_1 hx.out Na.out (nm_none hvb)
          clear hvb
          refine (cv_none _ _ _ (l.drop (k + m4 + ma)) _ Sa.out.rd (by show _ = _; rw [List.length_drop, hn.out]; try omega) (by omega) HV).mono ?_
          rintro e w9 ⟨rfl, hz⟩
          have S : Hid (Cst w q b n l w9 oa (k + m4 + ma) A8 (m + 1) c8 (acc ++ [(M - v4, M + 1)])) := by obtain ⟨z, rfl⟩ := hz; exact Sa.out.drewN z
          clear hz Sa
          obtain ⟨⟨d0, d1, d2⟩, f0, f1, f2⟩ := S.out.e
          go_wp2_with fail
          refine bodyPost_ret (v := .tuple #[.int .i64 0, .int .i64 0, .agg #[.int .i64 0, .int .i64 0, .int .i64 0], .int .i64 (-1)]) (by simp [results, Try.results87, go_sem, d0, d1, d2]) rfl ?_
          exact S.out.bad hql HN.out
        | some pb =>
        obtain ⟨xb, mb⟩ := pb
        have hbb := rv_bd (HBS.out.drop (k + m4 + ma)) hvb
        rw [List.length_drop, hn.out] at hbb
        obtain ⟨ab, bb, cb, -, hb1⟩ := hbb
        have Nb := Lib.hid (nm_some hvb)
        have HV := Lib.hid hvb
        clear hvb
        refine (cv_some _ _ _ (l.drop (k + m4 + ma)) _ xb mb Sa.out.rd (by show _ = _; rw [List.length_drop, hn.out]; try omega) (by omega) HV).mono ?_
        rintro e wb ⟨rfl, hz⟩
        have Tb : Hid (Cst w q b n l wb oa (k + m4 + ma) A8 (m + 1) c8 (acc ++ [(M - v4, M + 1)])) := by obtain ⟨z, rfl⟩ := hz; exact Sa.out.drewN z
        clear hz Sa HV
        obtain ⟨ob, E, Sb⟩ := Tb.out.cut (C := C - m4 - ma) (mm := mb) hn.out (by omega) (by omega)
        have e1 := E.out
        clear Tb E
        go_wp2_with fail
        clear e1
        cases hvd : rv (l.drop (k + m4 + ma + mb)) with
        | none =>
          have HV := Lib.hid hvd
          have HN : Hid (ackP l = none) := by show _ = _; rw [HP.out]; exact ecn_2 hx.out Na.out Nb.out (nm_none hvd)
          clear hvd
          refine (cv_none _ _ _ (l.drop (k + m4 + ma + mb)) _ Sb.out.rd (by show _ = _; rw [List.length_drop, hn.out]; try omega) (by omega) HV).mono ?_
          rintro e w9 ⟨rfl, hz⟩
          have S : Hid (Cst w q b n l w9 ob (k + m4 + ma + mb) A8 (m + 1) c8 (acc ++ [(M - v4, M + 1)])) := by obtain ⟨z, rfl⟩ := hz; exact Sb.out.drewN z
          clear hz Sb
          obtain ⟨⟨d0, d1, d2⟩, f0, f1, f2⟩ := S.out.e
          go_wp2_with fail
          refine bodyPost_ret (v := .tuple #[.int .i64 0, .int .i64 0, .agg #[.int .i64 0, .int .i64 0, .int .i64 0], .int .i64 (-1)]) (by simp [results, Try.results87, go_sem, d0, d1, d2]) rfl ?_
          exact S.out.bad hql HN.out
        | some pd =>
        obtain ⟨xd, md⟩ := pd
        have hbd := rv_bd (HBS.out.drop (k + m4 + ma + mb)) hvd
        rw [List.length_drop, hn.out] at hbd
        obtain ⟨ad, bd, cd, -, hd1⟩ := hbd
        have Nd := Lib.hid (nm_some hvd)
        have HV := Lib.hid hvd
        clear hvd
        refine (cv_some _ _ _ (l.drop (k + m4 + ma + mb)) _ xd md Sb.out.rd (by show _ = _; rw [List.length_drop, hn.out]; try omega) (by omega) HV).mono ?_
        rintro e wd ⟨rfl, hz⟩
        have Td : Hid (Cst w q b n l wd ob (k + m4 + ma + mb) A8 (m + 1) c8 (acc ++ [(M - v4, M + 1)])) := by obtain ⟨z, rfl⟩ := hz; exact Sb.out.drewN z
        clear hz Sb HV
        obtain ⟨od, E, Sd⟩ := Td.out.cut (C := C - m4 - ma - mb) (mm := md) hn.out (by omega) (by omega)
        have e1 := E.out
        clear Td E
        have HF : Hid (ackP l = some ⟨acc ++ [(M - v4, M + 1)], v1, v2, xa, xb, xd, k + m4 + ma + mb + md⟩) := by show _ = _; rw [HP.out]; exact ecn_3 hx.out Na.out Nb.out Nd.out
        obtain ⟨⟨d0, d1, d2⟩, f0, f1, f2⟩ := Sd.out.e
        obtain ⟨W, EW, ⟨g0, g1, g2⟩, ⟨j0, j1, j2⟩, W2, EW2, ⟨r0, r1, r2⟩, HW⟩ := Sd.out.three hql xa xb xd
        go_wp2_with fail
        rw [EW.out]
        clear d0 d1 d2 f0 f1 f2 e1 EW
        go_region
        rw [EW2.out]
        clear EW2 g0 g1 g2 j0 j1 j2
        go_wp2_with fail
        refine bodyPost_ret (v := .tuple #[.int .i64 v1, .int .i64 v2, .agg #[.int .i64 xa, .int .i64 xb, .int .i64 xd], .int .i64 ((n : Int) - ((n - k - m4 - ma - mb - md : Nat) : Int))]) (by simp [results, Try.results87, go_sem, r0, r1, r2]) rfl ?_
        have hN : (n : Int) - ((n - k - m4 - ma - mb - md : Nat) : Int) = ((k + m4 + ma + mb + md : Nat) : Int) := by omega
        rw [hN]
        exact ⟨HW.out.1, _, _, _, _, HW.out.2, .inr ⟨_, HF.out, rfl, rfl⟩⟩
      · have hxb : (x == 3) = false := by simp [hx3]
        have HF : Hid (ackP l = some ⟨acc ++ [(M - v4, M + 1)], v1, v2, 0, 0, 0, k + m4⟩) := by show _ = _; rw [HP.out]; exact ecnP_no _ _ _ _ (by rw [hx.out]; exact hx3)
        go_wp2_with (go_at_call 88; refine (clo _ _ _ _ _ _ _ _ _ _ S5.out.cap (by omega)).mono ?_; rintro e w6 ⟨rfl, A8, c8, K1, K2⟩; have S6 := Lib.hid (S5.out.clo_ hql K1.out K2.out); clear K1 K2 S5; have cx := S6.out.first HR.out hn.out h1 hx.out; obtain ⟨⟨d0, d1, d2⟩, f0, f1, f2⟩ := S6.out.e)
        refine bodyPost_ret (v := .tuple #[.int .i64 v1, .int .i64 v2, .agg #[.int .i64 0, .int .i64 0, .int .i64 0], .int .i64 ((n : Int) - ((n - k - m4 : Nat) : Int))]) (by simp [results, Try.results87, go_sem, d0, d1, d2]) rfl ?_
        exact S6.out.good hql HF.out (by omega)
    · have hjb : ((j : Int) == v3) = false := by simp [hjv]
      have hJ3 : Hid (v3.toNat - j = (v3.toNat - (j + 1)) + 1) := by show _ = _; omega
      rw [hJ3.out] at HJ2
      clear hJ3
      cases hv7 : rv (l.drop (k + m4)) with
      | none =>
        have HV := Lib.hid hv7
        have HP : Hid (ackP l = none) := by show _ = _; rw [HE.out none (by rw [HJ2.out, ackG_succ, nm_none hv7]; rfl)]; rfl
        clear hv7
        go_wp2_with (go_at_call 88; refine (clo _ _ _ _ _ _ _ _ _ _ S5.out.cap (by omega)).mono ?_; rintro e w6 ⟨rfl, A8, c8, K1, K2⟩; have S6 := Lib.hid (S5.out.clo_ hql K1.out K2.out); clear K1 K2 S5)
        refine (cv_none _ _ _ (l.drop (k + m4)) _ S6.out.rd (by show _ = _; rw [List.length_drop, hn.out]; try omega) (by omega) HV).mono ?_
        rintro e w7 ⟨rfl, hz⟩
        have S : Hid (Cst w q b n l w7 o6 (k + m4) A8 (m + 1) c8 (acc ++ [(M - v4, M + 1)])) := by obtain ⟨z, rfl⟩ := hz; exact S6.out.drewN z
        clear hz S6
        obtain ⟨⟨d0, d1, d2⟩, f0, f1, f2⟩ := S.out.e
        go_wp2_with fail
        refine bodyPost_ret (v := .tuple #[.int .i64 0, .int .i64 0, .agg #[.int .i64 0, .int .i64 0, .int .i64 0], .int .i64 (-1)]) (by simp [results, Try.results87, go_sem, d0, d1, d2]) rfl ?_
        exact S.out.bad hql HP.out
      | some p7 =>
      obtain ⟨v7, m7⟩ := p7
      have hb7 := rv_bd (HBS.out.drop (k + m4)) hv7
      rw [List.length_drop, hn.out] at hb7
      obtain ⟨a7, b7, c7', -, h71⟩ := hb7
      have HJ3 : Hid (joinR [] (ackM l v3.toNat v1 (1 + m1 + m2 + m3)) = joinR (acc ++ [(M - v4, M + 1)]) (ackM l (v3.toNat - (j + 1)) (M - v4 - v7 - 2) (k + m4 + m7))) := by show _ = _; rw [HJ2.out, ackG_succ, nm_some hv7]
      have HV := Lib.hid hv7
      clear hv7 HJ2
      go_wp2_with (go_at_call 88; refine (clo _ _ _ _ _ _ _ _ _ _ S5.out.cap (by omega)).mono ?_; rintro e w6 ⟨rfl, A8, c8, K1, K2⟩; have S6 := Lib.hid (S5.out.clo_ hql K1.out K2.out); clear K1 K2 S5)
      refine (cv_some _ _ _ (l.drop (k + m4)) _ v7 m7 S6.out.rd (by show _ = _; rw [List.length_drop, hn.out]; try omega) (by omega) HV).mono ?_
      rintro e w7 ⟨rfl, hz⟩
      have T6 : Hid (Cst w q b n l w7 o6 (k + m4) A8 (m + 1) c8 (acc ++ [(M - v4, M + 1)])) := by obtain ⟨z, rfl⟩ := hz; exact S6.out.drewN z
      clear hz S6 HV
      obtain ⟨o7, E, S7⟩ := T6.out.cut (C := C - m4) (mm := m7) hn.out (by omega) (by omega)
      have e1 := E.out
      clear T6 E
      go_wp2_with fail
      go_roundw
      case rel =>
        have e : n - k - m4 - m7 = n - (k + m4 + m7) := by omega
        exact ⟨j + 1, M - v4 - v7 - 2, k + m4 + m7, o7, C - m4 - m7, m + 1, c8, A8, _, by omega, rfl, by rw [e], rfl, by go_num, by omega, by omega, by omega, by omega, by omega, by omega, S7, HJ3⟩
      case measure => simp [intOf]; omega

end Go.Proofs.Ytdogepkfgobcfaa

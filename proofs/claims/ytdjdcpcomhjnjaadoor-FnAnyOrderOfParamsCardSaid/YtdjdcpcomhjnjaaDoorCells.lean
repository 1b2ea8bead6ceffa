/- Words for a block's cells, and for bytes that the call itself made when one of them is set. Conditions: none. -/
import Derived.Test.YtdjdcpcomhjnjaaDoorOwn
namespace Go.Proofs.YtdjdcpcomhjnjaaDoor
open Go.RowKit
set_option linter.unusedVariables false

theorem cgrown (w : World) (g i : Nat) (v : Value) : w.grownBy (w.setCell ⟨g, i, none⟩ v) (some g) :=
  ⟨rfl, rfl, rfl, by simp [World.setCell], fun j hj hne => Below.heap_setCell _ _ _ _ (fun e => hne (by rw [e]))⟩
theorem below_cell {B : Nat} {a w : World} (h : Below B a w) (hB : B ≤ w.heap.size) (g i : Nat) (v : Value) (hg : B ≤ g) : Below B a (w.setCell ⟨g, i, none⟩ v) :=
  h.grown (cgrown w g i v) hB fun k hk => by simp at hk; omega
theorem cell_at {W : World} {g : Nat} {r r' : Array Value} {t : TypeId} (i : Nat) (v : Value) (hr : W.heap[g]? = some (.cells r t (0, 0))) (he : r.setIfInBounds i v = r') : (W.setCell ⟨g, i, none⟩ v).heap[g]? = some (.cells r' t (0, 0)) := by
  simp [World.setCell, Array.getElem?_modify, hr, he]
theorem cell_off {W : World} {g : Nat} {ob : Obj} (p i : Nat) (v : Value) (hr : W.heap[g]? = some ob) (hp : g ≠ p) : (W.setCell ⟨p, i, none⟩ v).heap[g]? = some ob := by
  have : p ≠ g := fun e => hp e.symm
  simp [World.setCell, Array.getElem?_modify, hr, this]
theorem cell_free {W : World} {g : Nat} {r : Array Value} {t : TypeId} (i : Nat) (hr : W.heap[g]? = some (.cells r t (0, 0))) : W.frozen? ⟨g, i, none⟩ = false := by simp [World.frozen?, hr]
theorem cell_in {W : World} {g : Nat} {ob : Obj} (hr : W.heap[g]? = some ob) : g < W.heap.size := (Array.getElem?_eq_some_iff.1 hr).1
theorem size_cell (w : World) (a : Addr) (v : Value) : (w.setCell a v).heap.size = w.heap.size := by simp [World.setCell]

theorem Own.set {B : Nat} {w : World} {g n cap : Nat} {l : List Int} (h : Own B w (.slice (some ⟨g, 0, none⟩) n cap) l) (i : Nat) (x : Int) (hi : i < l.length) (hx : 0 ≤ x ∧ x ≤ 255) :
    Own B (w.setCell ⟨g, i, none⟩ (.int .u8 x)) (.slice (some ⟨g, 0, none⟩) n cap) (l.set i x) := by
  refine ⟨fun y hy => ?_, ?_⟩
  · rcases List.mem_or_eq_of_mem_set hy with hy | rfl
    · exact h.1 y hy
    · exact hx
  rcases h.2.2 with ⟨h0, _⟩ | ⟨g', cap', cur, e, hg, hh, hl, hm, hsz, ht⟩
  · cases h0
  obtain ⟨rfl, rfl, rfl⟩ : g = g' ∧ n = l.length ∧ cap = cap' := by simpa using e
  refine ⟨by simp [vals], .inr ⟨g, cap, cur.setIfInBounds i (.int .u8 x), by rw [List.length_set], hg, ?_, by rw [List.length_set]; exact hl, hm, by rw [Array.size_setIfInBounds]; exact hsz, ?_⟩⟩
  · exact cell_at i _ hh rfl
  · rw [List.length_set, Array.toList_setIfInBounds, List.take_set, ht]
    simp [vals, List.map_set]
theorem Own.free {B : Nat} {w : World} {g n cap : Nat} {l : List Int} (h : Own B w (.slice (some ⟨g, 0, none⟩) n cap) l) (i : Nat) : w.frozen? ⟨g, i, none⟩ = false := by
  rcases h.2.2 with ⟨h0, _⟩ | ⟨g', cap', cur, e, hg, hh, hl, hm, hsz, ht⟩
  · cases h0
  obtain ⟨rfl, rfl, rfl⟩ : g = g' ∧ n = l.length ∧ cap = cap' := by simpa using e
  simp [World.frozen?, hh]
theorem Own.raise {B B' : Nat} {w : World} {s : Value} {l : List Int} (h : Own B w s l) (hB : ∀ k, s.ownBlock = some k → B' ≤ k) : Own B' w s l :=
  ⟨h.1, h.2.1, h.2.2.imp id fun ⟨g, cap, cur, a, b, c⟩ => ⟨g, cap, cur, a, hB g (by rw [a]; rfl), c⟩⟩

theorem Own.nonempty {B : Nat} {w : World} {s : Value} {l : List Int} (h : Own B w s l) (hl : 0 < l.length) : ∃ g c, s = .slice (some ⟨g, 0, none⟩) l.length c := by
  rcases h.form with ⟨_, rfl⟩ | ⟨g, c, e, _⟩
  · simp at hl
  · exact ⟨g, c, e⟩

/-- What a call leaves that may change but block q of what lies below B. -/
structure Fo (B q : Nat) (w w' : World) : Prop where
  blk : ∀ j, j < B → j ≠ q → w'.heap[j]? = w.heap[j]?
  bel : Below q w w'
  size : w.heap.size ≤ w'.heap.size
theorem Fo.trans {B q : Nat} {a b c : World} (h : Fo B q a b) (k : Fo B q b c) : Fo B q a c := ⟨fun j h1 h2 => (k.blk j h1 h2).trans (h.blk j h1 h2), h.bel.trans k.bel, Nat.le_trans h.size k.size⟩
theorem Fo.refl (B q : Nat) (w : World) : Fo B q w w := ⟨fun _ _ _ => rfl, Below.refl _ _, Nat.le_refl _⟩
theorem Fo.drewN {B q : Nat} {a b : World} (h : Fo B q a b) (n : Nat) : Fo B q a (b.drewN n) := ⟨h.blk, below_drewN h.bel n, h.size⟩
theorem Fo.set {B q : Nat} {a b : World} (h : Below B a b) (hq : q < B) (hB : B ≤ a.heap.size) (i : Nat) (v : Value) : Fo B q a (b.setCell ⟨q, i, none⟩ v) :=
  ⟨fun j h1 h2 => by rw [(cgrown b q i v).block j (by have := h.size; omega) (by simpa using h2)]; exact h.block j h1,
    below_cell (h.mono (Nat.le_of_lt hq)) (by have := h.size; omega) _ _ _ (Nat.le_refl _), by rw [size_cell]; exact h.size⟩
theorem Fo.setc {B q : Nat} {a b : World} (h : Fo B q a b) (hq : q < B) (hB : B ≤ a.heap.size) (i : Nat) (v : Value) : Fo B q a (b.setCell ⟨q, i, none⟩ v) :=
  ⟨fun j h1 h2 => by rw [(cgrown b q i v).block j (by have := h.size; omega) (by simpa using h2)]; exact h.blk j h1 h2,
    below_cell h.bel (by have := h.size; omega) _ _ _ (Nat.le_refl _), by rw [size_cell]; exact h.size⟩

end Go.Proofs.YtdjdcpcomhjnjaaDoor

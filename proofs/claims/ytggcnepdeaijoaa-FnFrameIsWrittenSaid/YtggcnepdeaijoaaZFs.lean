/- The state of ZZFrame: its variables of values and data. Conditions: none. -/
import Derived.Test.YtggcnepdeaijoaaZFc
import Derived.Test.YtggcnepdeaijoaaFrP
namespace Go.Proofs.Ytggcnepdeaijoaa
open Go.RowKit
set_option linter.unusedVariables false

theorem setCell_self {w : World} {g : Nat} {V : Value} {t : TypeId} (h : w.heap[g]? = some (.cells #[V] t (0, 0))) : w.setCell ⟨g, 0, none⟩ V = w := by
  have hh : (w.setCell ⟨g, 0, none⟩ V).heap = w.heap := by
    apply Array.ext_getElem?
    intro i
    by_cases hi : i = g
    · subst hi
      exact (cell_at 0 V h rfl).trans h.symm
    · simp [World.setCell, Array.getElem?_modify, show ¬ g = i from fun e => hi e.symm]
  have : w.setCell ⟨g, 0, none⟩ V = { w with heap := (w.setCell ⟨g, 0, none⟩ V).heap } := rfl
  rw [this, hh]

/-- ZZFrame's variables (blocks H and H + 1, H the heap's size when it is called): the values V read as vs, the data D as ds. -/
structure Zs (w W : World) (AV : Option Addr) (nV cV : Nat) (vs : List Int) (AD : Option Addr) (nD cD : Nat) (ds : List (List Int)) : Prop where
  b0 : W.heap[w.heap.size]? = some (.cells #[.slice AV nV cV] 23 (0, 0))
  b1 : W.heap[w.heap.size + 1]? = some (.cells #[.slice AD nD cD] 24 (0, 0))
  bel : Below w.heap.size w W
  rv : RdE EI W AV vs
  nv : vs.length = nV
  cv : nV ≤ cV ∧ cV ≤ 9223372036854775807
  av : ∀ a, AV = some a → w.heap.size + 2 ≤ a.block
  rd : ∃ ts, RdE EB W AD ts ∧ ts.length = nD ∧ Rts W ts ds
  cd : nD ≤ cD ∧ cD ≤ 9223372036854775807
section
variable {w W W' : World} {AV : Option Addr} {nV cV : Nat} {vs : List Int} {AD : Option Addr} {nD cD : Nat} {ds : List (List Int)}
theorem Zs.size (h : Zs w W AV nV cV vs AD nD cD ds) : w.heap.size + 2 ≤ W.heap.size := cell_in h.b1
theorem Zs.below (h : Zs w W AV nV cV vs AD nD cD ds) (hb : Below W.heap.size W W') : Zs w W' AV nV cV vs AD nD cD ds := by
  have := h.size
  obtain ⟨ts, a, b, c⟩ := h.rd
  exact ⟨(hb.block _ (by omega)).trans h.b0, (hb.block _ (by omega)).trans h.b1, h.bel.trans (hb.mono (by omega)), h.rv.below hb, h.nv, h.cv, h.av, ⟨ts, a.below hb, b, c.below hb⟩, h.cd⟩
theorem Zs.drewN (h : Zs w W AV nV cV vs AD nD cD ds) (n : Nat) : Zs w (W.drewN n) AV nV cV vs AD nD cD ds := h.below (below_drewN (Below.refl _ _) n)
theorem Zs.cells (h : Zs w W AV nV cV vs AD nD cD ds) : (W.cell? ⟨w.heap.size, 0, none⟩ = some (.slice AV nV cV) ∧ W.cell? ⟨w.heap.size + 1, 0, none⟩ = some (.slice AD nD cD)) ∧ W.frozen? ⟨w.heap.size, 0, none⟩ = false ∧ W.frozen? ⟨w.heap.size + 1, 0, none⟩ = false := by
  refine ⟨⟨?_, ?_⟩, cell_free 0 h.b0, cell_free 0 h.b1⟩
  · rw [cell_of_row _ _ 0 _ _ (0, 0) h.b0]; rfl
  · rw [cell_of_row _ _ 0 _ _ (0, 0) h.b1]; rfl
theorem Zs.new (w : World) : Zs w ((w.alloc (.cells #[.slice none 0 0] 23 (0, 0))).alloc (.cells #[.slice none 0 0] 24 (0, 0))) none 0 0 [] none 0 0 [] := by
  have e1 : (w.alloc (.cells #[.slice none 0 0] 23 (0, 0))).heap.size = w.heap.size + 1 := by simp
  have k1 := heap_alloc_new (w.alloc (.cells #[.slice none 0 0] 23 (0, 0))) (.cells #[.slice none 0 0] 24 (0, 0))
  rw [e1] at k1
  exact ⟨(heap_alloc_old _ _ (by rw [e1]; omega)).trans (heap_alloc_new w _), k1, ((Below.refl _ _).alloc (Nat.le_refl _) _).alloc (by rw [e1]; omega) _, RdE.nil_ _ _ _, rfl, by simp, (fun a h => by cases h), ⟨[], RdE.nil_ _ _ _, rfl, Rts.nil_ _⟩, by simp⟩
/-- The values are told. -/
theorem Zs.setv (h : Zs w W none 0 0 [] none 0 0 []) (xs : List Int) (n : Nat) (hn : xs.length = n) (hbig : n ≤ 1000) : Zs w ((W.alloc (.cells (flat EI xs).toArray 2 (0, 0))).setCell ⟨w.heap.size, 0, none⟩ (.slice (some ⟨W.heap.size, 0, none⟩) n n)) (some ⟨W.heap.size, 0, none⟩) n n xs none 0 0 [] := by
  have hs := h.size
  have a0 := (heap_alloc_old W (.cells (flat EI xs).toArray 2 (0, 0)) (cell_in h.b0)).trans h.b0
  have a1 := (heap_alloc_old W (.cells (flat EI xs).toArray 2 (0, 0)) (cell_in h.b1)).trans h.b1
  refine ⟨cell_at 0 _ a0 rfl, cell_off _ 0 _ a1 (by omega), below_cell (h.bel.alloc (by omega) _) (by simp; omega) _ _ _ (Nat.le_refl _), ?_, hn, by omega, ?_, ⟨[], RdE.nil_ _ _ _, rfl, Rts.nil_ _⟩, by simp⟩
  · have hr := RdE.new (E := EI) W xs 2
    intro hl
    obtain ⟨b, o, e, hc⟩ := hr hl
    obtain ⟨rfl, rfl⟩ : W.heap.size = b ∧ 0 = o := by simpa using e
    refine ⟨_, _, rfl, fun i j v hi hj hv => ?_⟩
    rw [← hc i j v hi hj hv]
    exact World.cell?_of_block (a := ⟨W.heap.size, 0 + (i * EI.k + j), none⟩) ((cgrown _ w.heap.size 0 _).block _ (by simp) (by simp; omega))
  · intro a ha
    obtain rfl : (⟨W.heap.size, 0, none⟩ : Addr) = a := by simpa using ha
    exact hs
/-- The data are told. -/
theorem Zs.setd {D' : Value} {ts : List Tri} (h : Zs w W AV nV cV vs none 0 0 []) (hd : Dc W.heap.size (w.heap.size + 1) W' D' ts ds) (hf : Fo W.heap.size (w.heap.size + 1) W W') (hl : ts.length = nD) : ∃ A c, Zs w W' AV nV cV vs A nD c ds := by
  have hs := h.size
  obtain ⟨A, c, hD, hr, h1, h2⟩ := hd.own.shape
  unfold maxLen at h2
  rw [hl] at hD h1
  subst hD
  refine ⟨A, c, (hf.blk _ (by omega) (by omega)).trans h.b0, hd.bx, ?_, ?_, h.nv, h.cv, h.av, ⟨ts, hr, hl, hd.rts⟩, h1, by omega⟩
  · exact ⟨hf.bel.os.trans h.bel.os, hf.bel.tape.trans h.bel.tape, hf.bel.output.trans h.bel.output, Nat.le_trans h.bel.size hf.size, fun j hj => (hf.blk j (by omega) (by omega)).trans (h.bel.block j hj)⟩
  · intro hl
    obtain ⟨b, o, e, hc⟩ := h.rv hl
    have hb := h.av _ e
    simp only at hb
    refine ⟨b, o, e, fun i j v hi hj hv => ?_⟩
    have h0 := hc i j v hi hj hv
    rw [World.cell?_of_block (hf.blk b (World.block_lt_of_cell? _ _ h0) (by omega))]
    exact h0
end

theorem Zs.clr {w W : World} {AV : Option Addr} {nV cV : Nat} {vs : List Int} {AD : Option Addr} {nD cD : Nat} {ds : List (List Int)} (h : Zs w W AV nV cV vs AD nD cD ds) : ∃ W', Hid ((W.setCell ⟨w.heap.size, 0, none⟩ (.slice none 0 0)).setCell ⟨w.heap.size + 1, 0, none⟩ (.slice none 0 0) = W') ∧ W'.cell? ⟨w.heap.size, 0, none⟩ = some (.slice none 0 0) ∧ W'.cell? ⟨w.heap.size + 1, 0, none⟩ = some (.slice none 0 0) ∧ Hid (Below w.heap.size w W') := by
  have hs := h.size
  refine ⟨_, rfl, ?_, ?_, ?_⟩
  · rw [cell_of_row _ _ 0 _ _ (0, 0) (cell_off (w.heap.size + 1) 0 _ (cell_at 0 (.slice none 0 0) h.b0 rfl) (by omega))]; rfl
  · rw [cell_of_row _ _ 0 _ _ (0, 0) (cell_at 0 (.slice none 0 0) (cell_off w.heap.size 0 _ h.b1 (by omega)) rfl)]; rfl
  · exact below_cell (below_cell h.bel (by omega) _ _ _ (Nat.le_refl _)) (by rw [size_cell]; omega) _ _ _ (by omega)
/-- The variables stored to themselves. -/
theorem Zs.same {w W : World} {AV : Option Addr} {nV cV : Nat} {vs : List Int} {AD : Option Addr} {nD cD : Nat} {ds : List (List Int)} (h : Zs w W AV nV cV vs AD nD cD ds) : (W.setCell ⟨w.heap.size, 0, none⟩ (.slice AV nV cV)).setCell ⟨w.heap.size + 1, 0, none⟩ (.slice AD nD cD) = W := by
  rw [setCell_self h.b0, setCell_self h.b1]

theorem Zs.rdv {w W : World} {A : Option Addr} {d : List Int} (h : Zs w W none 0 0 [] none 0 0 []) (xs : List Int) (V : Value) (hr : Rd W A d) : Rd ((W.alloc (.cells (flat EI xs).toArray 2 (0, 0))).setCell ⟨w.heap.size, 0, none⟩ V) A d :=
  (hr.alloc _).grown (cgrown _ _ _ _) ((hr.alloc _).no_box ((heap_alloc_old W (.cells (flat EI xs).toArray 2 (0, 0)) (cell_in h.b0)).trans h.b0))

/-- What ZZFrame answers. -/
def ZfEnd (w : World) (r : Option FR) (e : Ending) (w' : World) : Prop := Below w.heap.size w w' ∧
  ((r = none ∧ e = .returned (.tuple #[.slice none 0 0, .slice none 0 0, .int .i64 (-1)])) ∨
   ∃ vs ds k AV nV cV AD nD cD, r = some (vs, ds, k) ∧ e = .returned (.tuple #[.slice AV nV cV, .slice AD nD cD, .int .i64 ((k : Nat) : Int)]) ∧ vs.length = nV ∧ nV ≤ 3 ∧ Hid (RdE EI w' AV vs) ∧ ds.length = nD ∧ nD ≤ 2 ∧ Hid (∃ ts, RdE EB w' AD ts ∧ ts.length = nD ∧ Rts w' ts ds))

end Go.Proofs.Ytggcnepdeaijoaa

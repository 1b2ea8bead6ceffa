/- Contracts of rangeset's insertrange and removeranges. Conditions: the set's slice was made by the call itself. -/
import Derived.Test.YtdogepkfgobcfaaElt
import Derived.Test.YtdogepkfgobcfaaSetStep
import Derived.StillTailTactics
import Derived.LoopTactic
import Derived.Outline
import Derived.IntWalk
namespace Go.Proofs.Ytdogepkfgobcfaa
open Go.RowKit
set_option linter.unusedVariables false

theorem info_rg : (Try.prog.info? 108).map (fun i => (i.zero, i.size, i.bytes)) = some (some (.agg #[.int .i64 0, .int .i64 0]), 2, 16) := by kernel_rfl

def rgCells (r : Int × Int) : List Value := [.int .i64 r.1, .int .i64 r.2]
/-- A set's ranges. -/
def ER : Elt (Int × Int) where
  t := 80
  e := 108
  k := 2
  f := rgCells
  len := fun _ => rfl
  one := fun a u hu => by
    simp [rgCells] at hu
    rcases hu with rfl | rfl <;> rfl
  pos := by decide
  und := Try.underlying80
  info := by
    obtain ⟨i, hi, h0, h1, h2⟩ := info_parts info_rg
    exact ⟨i, _, hi, h0, h1, rfl, by omega⟩

/-- The set in the variable of block p: its slice, in a block of the call's own, holds l. -/
def RS (B : Nat) (w : World) (p : Nat) (A : Option Addr) (cap : Nat) (l : Rgs) : Prop :=
  w.heap[p]? = some (.cells #[.slice A l.length cap] 80 (0, 0)) ∧ OwnE ER B w (.slice A l.length cap) l ∧ B ≤ p ∧ (∀ a, A = some a → a.block ≠ p)
section
variable {B p cap : Nat} {w w' : World} {A : Option Addr} {l : Rgs}
theorem RS.lt (h : RS B w p A cap l) : p < w.heap.size := (Array.getElem?_eq_some_iff.1 h.1).1
theorem RS.cell (h : RS B w p A cap l) : w.cell? ⟨p, 0, none⟩ = some (.slice A l.length cap) := by rw [cell_of_row w p 0 _ _ (0, 0) h.1]; rfl
theorem RS.free (h : RS B w p A cap l) (i : Nat) : w.frozen? ⟨p, i, none⟩ = false := by have := h.1; simp [World.frozen?, this]
theorem RS.own (h : RS B w p A cap l) : OwnE ER B w (.slice A l.length cap) l := h.2.1
theorem RS.drewN (h : RS B w p A cap l) (q : Nat) : RS B (w.drewN q) p A cap l := ⟨h.1, h.2.1.drewN q, h.2.2⟩
theorem RS.alloc (h : RS B w p A cap l) (o : Obj) : RS B (w.alloc o) p A cap l := ⟨(heap_alloc_old w o h.lt).trans h.1, h.2.1.alloc o, h.2.2⟩
theorem RS.ownBlock (h : RS B w p A cap l) : (Value.slice A l.length cap).ownBlock ≠ some p := by
  rcases h.own.form with ⟨e, _⟩ | ⟨g, c, e, _⟩
  · rw [e]; simp [Value.ownBlock]
  · simp only [Value.slice.injEq] at e
    rw [e.1]
    have := h.2.2.2 _ e.1
    simpa [Value.ownBlock] using this
theorem RS.below (h : RS B w p A cap l) (hb : Below w.heap.size w w') : RS B w' p A cap l := ⟨(hb.block p h.lt).trans h.1, h.own.below hb, h.2.2⟩
theorem RS.addr (h : RS B w p A cap l) (hl : 0 < l.length) : ∃ g, A = some ⟨g, 0, none⟩ ∧ B ≤ g ∧ g < w.heap.size ∧ g ≠ p ∧ l.length ≤ cap ∧ cap ≤ maxLen := by
  rcases h.own.form with ⟨e, h0⟩ | ⟨g, c, e, h1, h2, h3, h4⟩
  · rw [h0] at hl; cases hl
  · simp only [Value.slice.injEq] at e
    exact ⟨g, e.1, h1, h2, h.2.2.2 _ e.1, by rw [e.2.2]; exact h3, by rw [e.2.2]; exact h4⟩
end
theorem gset (w : World) (g i : Nat) (v : Value) : w.grownBy (w.setCell ⟨g, i, none⟩ v) (some g) :=
  ⟨rfl, rfl, rfl, by simp [World.setCell], fun j hj hne => Below.heap_setCell _ _ _ _ (fun e => hne (by rw [e]))⟩
theorem Below.set_ {B : Nat} {a w : World} (h : Below B a w) (hB : B ≤ w.heap.size) (g i : Nat) (v : Value) (hg : B ≤ g) : Below B a (w.setCell ⟨g, i, none⟩ v) :=
  h.grown (gset w g i v) hB fun k hk => by simp at hk; omega
theorem box_set {w : World} {p : Nat} {v : Value} {t : TypeId} (h : w.heap[p]? = some (.cells #[v] t (0, 0))) (v' : Value) : (w.setCell ⟨p, 0, none⟩ v').heap[p]? = some (.cells #[v'] t (0, 0)) := by
  simp [World.setCell, Array.getElem?_modify, h]
section
variable {B p cap : Nat} {w w' : World} {A : Option Addr} {l : Rgs}
theorem RS.base (h : RS B w p A cap l) : B ≤ w.heap.size := Nat.le_trans h.2.2.1 (Nat.le_of_lt h.lt)
/-- The slice grown by one element, stored back. -/
theorem RS.app {o : Obj} {x : Int × Int} {v1 : Value} {w1 : World} (n : Nat) (hn : l.length = n) (h : RS B w p A cap l) (ho : OwnE ER B w1 v1 (l ++ [x])) (hg : (w.alloc o).grownBy w1 (Value.slice A n cap).ownBlock)
    (ha : v1.ownBlock = (Value.slice A n cap).ownBlock ∨ v1.ownBlock = some (w.alloc o).heap.size) (hb : Below B (w.alloc o) w1) :
    ∃ g cap', v1 = .slice (some ⟨g, 0, none⟩) (n + 1) cap' ∧ n + 1 ≤ cap' ∧ cap' ≤ maxLen ∧ B ≤ g ∧ g ≠ p ∧ w1.cell? ⟨p, 0, none⟩ = some (.slice A n cap) ∧ w1.frozen? ⟨p, 0, none⟩ = false ∧
      RS B (w1.setCell ⟨p, 0, none⟩ (.slice (some ⟨g, 0, none⟩) (n + 1) cap')) p (some ⟨g, 0, none⟩) cap' (l ++ [x]) ∧ Below B w (w1.setCell ⟨p, 0, none⟩ (.slice (some ⟨g, 0, none⟩) (n + 1) cap')) := by
  subst hn
  have hpl := h.lt
  have hp1 : w1.heap[p]? = some (.cells #[.slice A l.length cap] 80 (0, 0)) := by
    rw [hg.block p (by simp; omega) (fun e => h.ownBlock e.symm), heap_alloc_old w o hpl]
    exact h.1
  rcases ho.form with ⟨_, e⟩ | ⟨g, cap', rfl, k1, k2, k3, k4⟩
  · simp at e
  have hl : (l ++ [x]).length = l.length + 1 := by simp
  rw [hl] at k3 ha ho ⊢
  have hgp : g ≠ p := by
    intro e
    subst e
    rcases ha with ha | ha
    · exact h.ownBlock (by rw [← ha]; rfl)
    · simp [Value.ownBlock] at ha
      omega
  have hB1 : B ≤ w1.heap.size := Nat.le_trans h.base (by have := hg.size; simp at this; omega)
  refine ⟨g, cap', rfl, k3, k4, k1, hgp, by rw [cell_of_row w1 p 0 _ _ (0, 0) hp1]; rfl, by simp [World.frozen?, hp1], ⟨?_, ?_, h.2.2.1, fun a ha => ?_⟩, ?_⟩
  · rw [hl]; exact box_set hp1 _
  · rw [hl]
    exact ho.kept (gset _ _ _ _) (.inr (by simpa [Value.ownBlock] using hgp))
  · obtain rfl : (⟨g, 0, none⟩ : Addr) = a := by simpa using ha
    exact hgp
  · exact Below.set_ (((Below.refl _ _).alloc h.base _).trans hb) hB1 _ _ _ h.2.2.1
end

section
variable {B p cap g : Nat} {w w' : World} {l L : Rgs}
/-- What a write into the slice's own block leaves. -/
theorem RS.wrote (h : RS B w p (some ⟨g, 0, none⟩) cap l) (hg : w.grownBy w' (some g)) (hL : L.length = l.length) (ho : OwnE ER B w' (.slice (some ⟨g, 0, none⟩) l.length cap) L) : RS B w' p (some ⟨g, 0, none⟩) cap L := by
  have hne := h.2.2.2 _ rfl
  refine ⟨?_, by rw [hL]; exact ho, h.2.2⟩
  rw [hL, hg.block p h.lt (by simpa using fun e : p = g => hne e.symm)]
  exact h.1
theorem RS.at0 (h : RS B w p (some ⟨g, 0, none⟩) cap l) {i : Nat} (hi : i < l.length) : w.cell? ⟨g, i * 2, none⟩ = some (.int .i64 l[i].1) := h.own.cell i 0 _ hi (by decide) rfl
theorem RS.at1 (h : RS B w p (some ⟨g, 0, none⟩) cap l) {i : Nat} (hi : i < l.length) : w.cell? ⟨g, i * 2 + 1, none⟩ = some (.int .i64 l[i].2) := h.own.cell i 1 _ hi (by decide) rfl
theorem RS.gfree (h : RS B w p (some ⟨g, 0, none⟩) cap l) (i : Nat) : w.frozen? ⟨g, i, none⟩ = false := h.own.free i
theorem RS.set0 (h : RS B w p (some ⟨g, 0, none⟩) cap l) {i : Nat} (hi : i < l.length) (x : Int) : RS B (w.setCell ⟨g, i * 2, none⟩ (.int .i64 x)) p (some ⟨g, 0, none⟩) cap (l.set i (x, l[i].2)) :=
  h.wrote (gset _ _ _ _) (by simp) (OwnE.set1 (E := ER) h.own i 0 _ _ hi (by decide) rfl)
theorem RS.set1 (h : RS B w p (some ⟨g, 0, none⟩) cap l) {i : Nat} (hi : i < l.length) (x : Int) : RS B (w.setCell ⟨g, i * 2 + 1, none⟩ (.int .i64 x)) p (some ⟨g, 0, none⟩) cap (l.set i (l[i].1, x)) :=
  h.wrote (gset _ _ _ _) (by simp) (OwnE.set1 (E := ER) h.own i 1 _ _ hi (by decide) rfl)
theorem RS.set01 (h : RS B w p (some ⟨g, 0, none⟩) cap l) {i : Nat} (hi : i < l.length) (x y : Int) : RS B ((w.setCell ⟨g, i * 2, none⟩ (.int .i64 x)).setCell ⟨g, i * 2 + 1, none⟩ (.int .i64 y)) p (some ⟨g, 0, none⟩) cap (l.set i (x, y)) := by
  have h1 := h.set0 hi x
  have hi' : i < (l.set i (x, l[i].2)).length := by simpa using hi
  have h2 := h1.set1 hi' y
  simpa using h2
theorem RS.gB (h : RS B w p (some ⟨g, 0, none⟩) cap l) : B ≤ g := by
  rcases h.own.form with ⟨e, _⟩ | ⟨g', c, e, h1, _⟩
  · simp at e
  · simp only [Value.slice.injEq, Option.some.injEq, Addr.mk.injEq] at e
    rw [e.1.1]; exact h1
end

theorem RS.drawn {B p cap n : Nat} {w : World} {A : Option Addr} {l : Rgs} (h : RS B w p A cap l) (hn : l.length = n) (w5 : World) (e : { w with drawn := w.drawn + 1 } = w5) :
    w5.cell? ⟨p, 0, none⟩ = some (.slice A n cap) ∧ w5.frozen? ⟨p, 0, none⟩ = false ∧ Hid (RS B w5 p A cap l) ∧ Hid (Below B w w5) := by
  subst e
  subst hn
  exact ⟨h.cell, h.free 0, h.drewN 1, below_drewN (Below.refl _ _) 1⟩

/-- What the copy of insertrange makes. -/
def insM (l : Rgs) (i : Nat) : Rgs := (l ++ [((0 : Int), (0 : Int))]).take (i + 1) ++ ((l ++ [((0 : Int), (0 : Int))]).drop i).take (l.length - i) ++ (l ++ [((0 : Int), (0 : Int))]).drop (i + 1 + (l.length - i))
theorem insM_spec (l : Rgs) (i : Nat) (hi : i ≤ l.length) (x : Int × Int) : (insM l i).length = l.length + 1 ∧ (insM l i).set i x = l.take i ++ [x] ++ l.drop i := by
  have e1 : (l ++ [((0 : Int), (0 : Int))]).drop (i + 1 + (l.length - i)) = [] := List.drop_eq_nil_of_le (by simp; omega)
  have e2 : ((l ++ [((0 : Int), (0 : Int))]).drop i).take (l.length - i) = l.drop i := by
    rw [List.drop_append_of_le_length hi, List.take_append_of_le_length (by simp), List.take_of_length_le (by simp)]
  have hlt : i < (l ++ [((0 : Int), (0 : Int))]).length := by simp; omega
  have e3 : (l ++ [((0 : Int), (0 : Int))]).take (i + 1) = l.take i ++ [(l ++ [((0 : Int), (0 : Int))])[i]] := by
    rw [take_snoc hlt, List.take_append_of_le_length hi]
  unfold insM
  rw [e1, e2, e3]
  generalize (l ++ [((0 : Int), (0 : Int))])[i] = y
  have hl : (l.take i).length = i := by simp; omega
  constructor
  · simp; omega
  · rw [List.append_nil, List.append_assoc, List.set_append_right _ _ (by omega), hl]
    simp

theorem new_zero (w : World) (j : Nat) (u : Value) (h : (flat ER [((0 : Int), (0 : Int))])[j]? = some u) : (w.alloc (.cells #[.int .i64 0, .int .i64 0] 108)).cell? ((⟨w.heap.size, 0, none⟩ : Addr).add j) = some u := new_cells w [((0 : Int), (0 : Int))] _ j u h

set_option maxRecDepth 100000 in
set_option maxHeartbeats 1000000 in
theorem ins (B p cap : Nat) (A : Option Addr) (l : Rgs) (i n : Nat) (s e : Int) (w : World) (h : RS B w p A cap l) (hn : Hid (l.length = n)) (hi : i ≤ n) (hbig : n ≤ 1000000) :
    Calls Try.prog 105 #[.pointer (some ⟨p, 0, none⟩), .int .i64 i, .int .i64 s, .int .i64 e] w fun en w' => en = .returned (.tuple #[]) ∧ Below B w w' ∧ ∃ A' cap', RS B w' p A' cap' (l.take i ++ [(s, e)] ++ l.drop i) := by
  have c0 := h.cell
  have f0 := h.free 0
  have ho := h.own
  rw [hn.out] at c0 ho
  have HS := Lib.hid h
  have HO := Lib.hid ho
  have hB : B ≤ w.heap.size := Nat.le_trans h.2.2.1 (Nat.le_of_lt h.lt)
  have hpl := h.lt
  clear h ho
  go_enter Try.func105, Try.ntmps105
  go_wp2_with (at_builtin; refine wpList_appE (E := ER) B _ rfl (.tmp 11) (.tmp 13) rfl (.slice A n cap) l rfl (HO.out.alloc _) ⟨w.heap.size, 0, none⟩ 1 1 [((0 : Int), (0 : Int))] rfl rfl (new_zero w) (by have := hn.out; omega) (by simp; omega) ?_; intro v1 w1 ho1 hg1 ha1 hb1 hn1; obtain ⟨g, cap', rfl, k1, k2, k3, k4, k5, k6, k7, k8⟩ := RS.app n hn.out HS.out ho1 hg1 ha1 hb1; have H1 := Lib.hid k7; have H2 := Lib.hid k8; clear ho1 hg1 ha1 hb1 hn1 k7 k8)
  obtain ⟨w2, hw2⟩ : ∃ w2, w1.setCell ⟨p, 0, none⟩ (.slice (some ⟨g, 0, none⟩) (n + 1) cap') = w2 := ⟨_, rfl⟩
  rw [hw2] at H1 H2 ⊢
  have c2 := H1.out.cell
  have f2 := H1.out.free 0
  have o2 := H1.out.own
  have hl : (l ++ [((0 : Int), (0 : Int))]).length = n + 1 := by have := hn.out; simp; omega
  rw [hl] at c2 o2
  have O2 := Lib.hid o2
  have hl1 := Lib.hid hl
  clear hw2 k5 k6 c0 f0 HS HO hpl hB o2 hl
  unfold maxLen at k2
  have HH : Hid (∀ w3 : World, { w2 with drawn := w2.drawn + 1 } = w3 → w3.cell? ⟨p, 0, none⟩ = some (.slice (some ⟨g, 0, none⟩) (n + 1) cap') ∧ Hid (RS B w3 p (some ⟨g, 0, none⟩) cap' (l ++ [((0 : Int), (0 : Int))])) ∧ Hid (OwnE ER B w3 (.slice (some ⟨g, 0, none⟩) (n + 1) cap') (l ++ [((0 : Int), (0 : Int))])) ∧ Hid (Below B w w3)) := by
    rintro _ rfl
    exact ⟨c2, H1.out.drewN 1, O2.out.drewN 1, below_drewN H2.out 1⟩
  obtain ⟨m, hm⟩ : ∃ m, Hid (m = n - i) := ⟨_, rfl⟩
  have g1 : IntKind.i64.wrap ((i : Int) + 1) = (i : Int) + 1 := IntWalk.i64_in _ (by omega)
  have g2 : (0 : Int) ≤ (i : Int) + 1 := by omega
  have g3 : ((i : Int) + 1).toNat = i + 1 := by omega
  have g4 : i ≤ n + 1 := by omega
  have g5 : (i : Int) ≤ (n : Int) + 1 := by omega
  have h3 : (i < n ∧ ¬ cap' = i + 1) ∨ (i = n ∧ ¬ cap' = i + 1) ∨ (i = n ∧ cap' = i + 1) := by omega
  clear c2 f2 O2
  rcases h3 with ⟨hlt, hc1⟩ | ⟨rfl, hc1⟩ | ⟨rfl, rfl⟩
  all_goals
    have hc2 : ¬ _ = i := Nat.ne_of_gt (Nat.lt_of_lt_of_le (Nat.lt_succ_of_le hi) k1)
    refine wp_region_still_tail 11 (by kernel_rfl) (by kernel_rfl) ?_
    obtain ⟨w3, hw3⟩ : ∃ w3 : World, { w2 with drawn := w2.drawn + 1 } = w3 := ⟨_, rfl⟩
    rw [hw3]
    obtain ⟨c3, R3, O3, H3⟩ := HH.out w3 hw3
    clear hw3
    simp only [List.take_succ_cons, List.take_zero, List.drop_succ_cons, List.drop_zero]
    repeat still_step
    refine wpStill_nil ?_
    clear g1
    refine wpList_copyE (E := ER) rfl (.tmp 21) (.tmp 26) rfl B g _ _ (l ++ [((0 : Int), (0 : Int))]) O3.out (i + 1) i _ _ _ _ _ _ rfl rfl m (by have := hm.out; show _ = min _ _; omega) (fun h => by have := hm.out; first | exact ⟨rfl, rfl⟩ | omega) (by have := hm.out; omega) (by have := hm.out; omega) (by simp) ?_
    intro w4 ho4 hg4
    have hM := insM_spec l i (by have := hn.out; omega) (s, e)
    have R4 := R3.out.wrote (L := insM l i) hg4 (by rw [hM.1]; simp) (by rw [hl1.out]; unfold insM; rw [hn.out]; rw [hm.out] at ho4; exact ho4)
    have hM1 : i < (insM l i).length := by rw [hM.1, hn.out]; omega
    obtain ⟨z0, d0⟩ : ∃ z, w4.cell? ⟨g, i * 2, none⟩ = some (.int .i64 z) := ⟨_, R4.at0 hM1⟩
    obtain ⟨z1, d1⟩ : ∃ z, w4.cell? ⟨g, i * 2 + 1, none⟩ = some (.int .i64 z) := ⟨_, R4.at1 hM1⟩
    have f0 := R4.gfree (i * 2)
    have f1 := R4.gfree (i * 2 + 1)
    have c4 := R4.cell
    rw [hM.1, hn.out] at c4
    have RF := R4.set01 hM1 s e
    rw [hM.2] at RF
    have HF := Lib.hid RF
    have HB : Hid (Below B w4 ((w4.setCell ⟨g, i * 2, none⟩ (.int .i64 s)).setCell ⟨g, i * 2 + 1, none⟩ (.int .i64 e))) := Below.set_ (Below.set_ (Below.refl _ _) R4.base _ _ _ k3) (by simp [World.setCell]; exact R4.base) _ _ _ k3
    have HB3 : Hid (Below B w3 w4) := (Below.refl _ _).grown hg4 R3.out.base (fun k hk => by simp at hk; omega)
    clear RF R4 hM1 c3 ho4 hg4 hM
    go_wp2_with fail
    go_end0
    exact ⟨rfl, (H3.out.trans (HB3.out.trans HB.out)), _, _, HF.out⟩

/-- What the copy of removeranges makes. -/
def remM (l : Rgs) (i j : Nat) : Rgs := l.take i ++ (l.drop j).take (l.length - j) ++ l.drop (i + (l.length - j))
theorem remM_spec (l : Rgs) (i j : Nat) (hi : i ≤ j) (hj : j ≤ l.length) : (remM l i j).length = l.length ∧ (remM l i j).take (l.length - (j - i)) = cutAB l i j := by
  have e2 : (l.drop j).take (l.length - j) = l.drop j := List.take_of_length_le (by simp)
  have hl : (l.take i).length = i := by simp; omega
  unfold remM cutAB
  rw [e2]
  constructor
  · simp; omega
  · rw [List.take_append_of_le_length (by simp; omega), List.take_of_length_le (by simp; omega)]

theorem RS.cut (B p cap g m n : Nat) (w : World) (l : Rgs) (h : RS B w p (some ⟨g, 0, none⟩) cap l) (hn : l.length = n) (hm : m ≤ n) : RS B (w.setCell ⟨p, 0, none⟩ (.slice (some ⟨g, 0, none⟩) m cap)) p (some ⟨g, 0, none⟩) cap (l.take m) := by
  subst hn
  have hgp := h.2.2.2 _ rfl
  have hl : (l.take m).length = m := by simp; omega
  refine ⟨by rw [hl]; exact box_set h.1 _, ?_, h.2.2⟩
  rw [hl]
  exact (h.own.cut m hm).kept (gset _ _ _ _) (.inr (by simpa [Value.ownBlock] using hgp))

set_option maxRecDepth 100000 in
set_option maxHeartbeats 1000000 in
theorem rem (B p cap : Nat) (A : Option Addr) (l : Rgs) (i j n : Nat) (w : World) (h : RS B w p A cap l) (hn : Hid (l.length = n)) (hi : i ≤ j) (hj : j ≤ n) (hbig : n ≤ 1000000) :
    Calls Try.prog 106 #[.pointer (some ⟨p, 0, none⟩), .int .i64 i, .int .i64 j] w fun en w' => en = .returned (.tuple #[]) ∧ Below B w w' ∧ ∃ A' cap', RS B w' p A' cap' (cutAB l i j) := by
  rcases Nat.eq_or_lt_of_le hi with rfl | hlt
  · have HS := Lib.hid h
    clear h
    go_enter Try.func106, Try.ntmps106
    go_wp2
    refine bodyPost_ret (results_none rfl _ _ _) rfl ?_
    exact ⟨rfl, Below.refl _ _, A, cap, by unfold cutAB; rw [List.take_append_drop]; exact HS.out⟩
  · obtain ⟨g, rfl, k3, k2, k4, k5, k6⟩ := h.addr (by have := hn.out; omega)
    rw [hn.out] at k5
    unfold maxLen at k6
    have c0 := h.cell
    rw [hn.out] at c0
    have HS := Lib.hid h
    have hne : ((i : Int) == (j : Int)) = false := by simp; omega
    have hx : j < cap ∨ (j = n ∧ j = cap) := by omega
    have HH : Hid (∀ w3 : World, { w with drawn := w.drawn + 1 } = w3 → w3.cell? ⟨p, 0, none⟩ = some (.slice (some ⟨g, 0, none⟩) n cap) ∧ Hid (RS B w3 p (some ⟨g, 0, none⟩) cap l) ∧ Hid (Below B w w3)) := by
      rintro _ rfl
      exact ⟨c0, HS.out.drewN 1, below_drewN (Below.refl _ _) 1⟩
    have hM := Lib.hid (remM_spec l i j (by omega) (by have := hn.out; omega))
    obtain ⟨m, hm⟩ : ∃ m, Hid (m = n - j) := ⟨_, rfl⟩
    have g4 : i ≤ n := by omega
    have g5 : (i : Int) ≤ (n : Int) := by omega
    have g6 : (j : Int) ≤ (n : Int) := by omega
    have hc1 : ¬ cap = i := by omega
    obtain ⟨d, hd⟩ : ∃ d, Hid (d = n - (j - i)) := ⟨_, rfl⟩
    have g7 : IntKind.i64.wrap ((j : Int) - (i : Int)) = (j : Int) - (i : Int) := IntWalk.i64_in _ (by omega)
    have g8 : IntKind.i64.wrap ((n : Int) - ((j : Int) - (i : Int))) = (d : Int) := by have := hd.out; rw [IntWalk.i64_in _ (by omega)]; omega
    have g9 : d ≤ n := by have := hd.out; omega
    have g10 : d ≤ cap := by omega
    clear h c0
    go_enter Try.func106, Try.ntmps106
    go_wp2
    rcases hx with hc2 | ⟨rfl, rfl⟩
    all_goals
      try have hc3 : ¬ _ = j := Nat.ne_of_gt hc2
      refine wp_region_still_tail 10 (by kernel_rfl) (by kernel_rfl) ?_
      obtain ⟨w3, hw3⟩ : ∃ w3 : World, { w with drawn := w.drawn + 1 } = w3 := ⟨_, rfl⟩
      rw [hw3]
      obtain ⟨c3, R3, H3⟩ := HH.out w3 hw3
      clear hw3
      simp only [List.take_succ_cons, List.take_zero, List.drop_succ_cons, List.drop_zero]
      repeat still_step
      refine wpStill_nil ?_
      refine wpList_copyE (E := ER) rfl (.tmp 13) (.tmp 18) rfl B g _ _ l (by have := R3.out.own; rw [hn.out] at this; exact this) i j _ _ _ _ _ _ rfl rfl m (by have := hm.out; show _ = min _ _; omega) (fun h => by have := hm.out; first | exact ⟨rfl, rfl⟩ | omega) (by have := hm.out; omega) (by have := hm.out; omega) (by simp) ?_
      intro w4 ho4 hg4
      have R4 := R3.out.wrote (L := remM l i j) hg4 hM.out.1 (by rw [hn.out]; unfold remM; rw [hn.out]; rw [hm.out] at ho4; exact ho4)
      have HB4 : Hid (Below B w3 w4) := (Below.refl _ _).grown hg4 R3.out.base (fun k hk => by simp at hk; omega)
      have HR4 := Lib.hid R4
      have c4 := R4.cell
      rw [hM.out.1, hn.out] at c4
      clear R4 hg4 ho4 c3
      go_wp2_with fail
      refine wp_region_still_tail 13 (by kernel_rfl) (by kernel_rfl) ?_
      obtain ⟨w5, hw5⟩ : ∃ w5 : World, { w4 with drawn := w4.drawn + 1 } = w5 := ⟨_, rfl⟩
      rw [hw5]
      obtain ⟨c5, f5, R5, H5⟩ := HR4.out.drawn (hM.out.1.trans hn.out) w5 hw5
      clear hw5
      simp only [List.take_succ_cons, List.take_zero, List.drop_succ_cons, List.drop_zero]
      repeat still_step
      refine wpStill_nil ?_
      clear g7 g8
      have HF := Lib.hid (RS.cut B p _ g d _ w5 _ R5.out (hM.out.1.trans hn.out) g9)
      go_wp2_with fail
      go_end0
      have := hM.out.2
      rw [hn.out, ← hd.out] at this
      rw [this] at HF
      exact ⟨rfl, H3.out.trans (HB4.out.trans (H5.out.trans (Below.set_ (Below.refl _ _) R5.out.base _ _ _ HS.out.2.2.1))), _, _, HF.out⟩

end Go.Proofs.Ytdogepkfgobcfaa

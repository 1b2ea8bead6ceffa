/- A slice that the call itself makes, of elements of so many cells: what it owns, its cells, and append onto it. Conditions: lengths far below 2^40. -/
import Derived.Test.YtdjdcpcomhjnjaaDoorOwn
import Derived.Laws.CopyRow
import Derived.Laws.CopyOwn
namespace Go.Proofs.YtdjdcpcomhjnjaaDoor
open Go.RowKit
set_option linter.unusedVariables false

/-- A kind of element: the slice's type, the element's, its cells. -/
structure Elt (α : Type) where
  t : TypeId
  e : TypeId
  k : Nat
  f : α → List Value
  len : ∀ a, (f a).length = k
  one : ∀ a, ∀ u ∈ f a, u.oneCell' = true
  pos : 0 < k
  und : Tryd.prog.underlying t = some (.slice e)
  info : ∃ (i : TypeInfo) (z : Value), Tryd.prog.info? e = some i ∧ i.zero = some z ∧ i.size = k ∧ z.cells.size = k ∧ i.bytes ≤ 64

variable {α : Type} (E : Elt α)
def flat (l : List α) : List Value := (l.map E.f).flatten
theorem flat_length (l : List α) : (flat E l).length = l.length * E.k := by
  induction l with
  | nil => simp [flat]
  | cons a l ih =>
    have e : flat E (a :: l) = E.f a ++ flat E l := by simp [flat]
    rw [e, List.length_append, ih, E.len, List.length_cons, Nat.succ_mul, Nat.add_comm]
theorem flat_append (l l' : List α) : flat E (l ++ l') = flat E l ++ flat E l' := by simp [flat]
theorem flat_get (l : List α) (i j : Nat) (hi : i < l.length) (hj : j < E.k) : (flat E l)[i * E.k + j]? = (E.f l[i])[j]? := by
  induction l generalizing i with
  | nil => simp at hi
  | cons a l ih =>
    have e : flat E (a :: l) = E.f a ++ flat E l := by simp [flat]
    rw [e]
    cases i with
    | zero => rw [Nat.zero_mul, Nat.zero_add, List.getElem?_append_left (by rw [E.len]; exact hj)]; rfl
    | succ i =>
      have hi' : i < l.length := by simpa using hi
      rw [List.getElem?_append_right (by rw [E.len, Nat.succ_mul]; omega), E.len, show (i + 1) * E.k + j - E.k = i * E.k + j by rw [Nat.succ_mul]; omega, ih i hi']
      simp
theorem flat_one (l : List α) : ∀ u ∈ flat E l, u.oneCell' = true := by
  intro u hu
  obtain ⟨x, hx, hu⟩ := List.mem_flatten.1 hu
  obtain ⟨a, _, rfl⟩ := List.mem_map.1 hx
  exact E.one a u hu

/-- The slice value s, made by the call itself in a block from B on, holds l. -/
def OwnE (B : Nat) (w : World) (s : Value) (l : List α) : Prop := w.ownsRow B E.e E.k s l.length (flat E l)
variable {E}
theorem OwnE.nil_ (B : Nat) (w : World) : OwnE E B w (.slice none 0 0) [] := World.ownsRow_nil _ _ _ _
theorem OwnE.drewN {B : Nat} {w : World} {s : Value} {l : List α} (h : OwnE E B w s l) (n : Nat) : OwnE E B (w.drewN n) s l := h
theorem OwnE.alloc {B : Nat} {w : World} {s : Value} {l : List α} (h : OwnE E B w s l) (o : Obj) : OwnE E B (w.alloc o) s l := World.ownsRow.alloc h o
theorem OwnE.lower {B B' : Nat} {w : World} {s : Value} {l : List α} (h : OwnE E B w s l) (hB : B' ≤ B) : OwnE E B' w s l :=
  ⟨h.1, h.2.imp id fun ⟨g, cap, cur, a, b, c⟩ => ⟨g, cap, cur, a, Nat.le_trans hB b, c⟩⟩
theorem OwnE.kept {B : Nat} {w w' : World} {s : Value} {l : List α} {row : Option Nat} (h : OwnE E B w s l) (hg : w.grownBy w' row) (hne : s.ownBlock = none ∨ s.ownBlock ≠ row) : OwnE E B w' s l := World.ownsRow.kept h hg hne
theorem OwnE.lt {B : Nat} {w : World} {s : Value} {l : List α} (h : OwnE E B w s l) : ∀ k, s.ownBlock = some k → B ≤ k ∧ k < w.heap.size := World.ownsRow.lt h
theorem OwnE.below {B : Nat} {w w' : World} {s : Value} {l : List α} (h : OwnE E B w s l) (hb : Below w.heap.size w w') : OwnE E B w' s l := by
  refine ⟨h.1, ?_⟩
  rcases h.2 with hn | ⟨g, cap, cur, rfl, hg, hh, rest⟩
  · exact .inl hn
  · refine .inr ⟨g, cap, cur, rfl, hg, ?_, rest⟩
    rw [hb.block g (Array.getElem?_eq_some_iff.1 hh).1]
    exact hh
theorem OwnE.form {B : Nat} {w : World} {s : Value} {l : List α} (h : OwnE E B w s l) : (s = .slice none 0 0 ∧ l = []) ∨ ∃ g cap, s = .slice (some ⟨g, 0, none⟩) l.length cap ∧ B ≤ g ∧ g < w.heap.size ∧ l.length ≤ cap ∧ cap ≤ maxLen := by
  rcases h.2 with ⟨rfl, hn⟩ | ⟨g, cap, cur, rfl, hg, hh, hl, hm, _⟩
  · exact .inl ⟨rfl, List.eq_nil_of_length_eq_zero hn⟩
  · exact .inr ⟨g, cap, rfl, hg, (Array.getElem?_eq_some_iff.1 hh).1, hl, hm⟩
theorem OwnE.cell {B : Nat} {w : World} {g n c : Nat} {l : List α} (h : OwnE E B w (.slice (some ⟨g, 0, none⟩) n c) l) (i j : Nat) (v : Value) (hi : i < l.length) (hj : j < E.k) (hv : (E.f l[i])[j]? = some v) : w.cell? ⟨g, i * E.k + j, none⟩ = some v := by
  have := World.ownsRow.cells h (g := g) rfl (i * E.k + j) v (by rw [flat_get E l i j hi hj]; exact hv)
  rwa [Addr.add_lit, Nat.zero_add] at this

/-- append onto a slice of the call's own, of elements that lie at an address. -/
theorem wpList_appE {ops : Array Oper} {rest : List Oper} {o : Oper} {a : Act} {Q : Exit → Act → World → Prop} (B : Nat) (w : World) (hgd : o.guard = none) (s x : Operand)
    (ho : o.op = .call { callee := .builtin .append, args := #[s, x], argTypes := #[E.t, E.t] })
    (v : Value) (l : List α) (hs : a.eval s = v) (hown : OwnE E B w v l) (ad : Addr) (m c : Nat) (news : List α) (hx : a.eval x = .slice (some ad) m c) (hm : news.length = m)
    (hnews : ∀ j u, (flat E news)[j]? = some u → w.cell? (ad.add j) = some u)
    (hbig : l.length + m ≤ 1000000000000) (hB : B ≤ w.heap.size)
    (h : ∀ v' w', OwnE E B w' v' (l ++ news) → w.grownBy w' v.ownBlock → (v'.ownBlock = v.ownBlock ∨ v'.ownBlock = some w.heap.size) → Below B w w' → (v' = .slice none 0 0 ↔ v = .slice none 0 0 ∧ m = 0) → wpList Tryd.prog ops Q rest (a.put o.dst v') w') : wpList Tryd.prog ops Q (o :: rest) a w :=
  wpList_plain hgd fun K hK => by
    obtain ⟨i, z, hi, hz, hsz, hzs, hby⟩ := E.info
    obtain ⟨v', w', hrun, h2, h3, h4, h5⟩ := run_append_own_at (P := Tryd.prog) w B _ o.type _ i z E.k i.bytes E.und hi hz hsz rfl hzs E.pos v l.length (flat E l) hown ad m c (flat E news) (by rw [flat_length, hm]) hnews (flat_one E news) (by unfold maxLen; omega) (by have := Nat.mul_le_mul hbig hby; omega) hB
    unfold Oper.wp execOp
    simp only [ho, resolve, invoke, builtin, Sem.run_bind, Sem.run_pure, Result.andThen_ok, List.map_toArray, List.map_cons, List.map_nil, hs, hx, hrun]
    refine hK _ _ (h v' w' ?_ h3 h5 ((Below.refl _ _).grown h3 hB fun k hk => (hown.lt k hk).1) h4)
    unfold OwnE
    rw [List.length_append, hm, flat_append]
    exact h2

/-- A new block of elements: its cells. -/
theorem new_cells (w : World) (news : List α) (t : TypeId) (j : Nat) (u : Value) (h : (flat E news)[j]? = some u) : (w.alloc (.cells (flat E news).toArray t)).cell? ((⟨w.heap.size, 0, none⟩ : Addr).add j) = some u := by
  rw [Addr.add_lit, Nat.zero_add, cell_of_row _ w.heap.size j _ t (0, 0) (heap_alloc_new w _)]
  simpa using h

/-- copy within or into a block of cells, whatever the element's size. -/
theorem run_copy_k (w : World) (dT sT ty elem : TypeId) (k g o dLen dCap : Nat) (a : Addr) (sLen sCap : Nat) (cur : Array Value) (t : TypeId) (cs : List Value)
    (hu : Tryd.prog.underlying dT = some (.slice elem)) (hs : (Tryd.prog.info? elem).map (·.size) = some k)
    (hg : w.heap[g]? = some (.cells cur t (0, 0))) (hn : cs.length = Nat.min sLen dLen * k)
    (hsrc : ∀ j v, cs[j]? = some v → w.cell? (a.add j) = some v) (hfit : o + cs.length ≤ cur.size) (h1 : ∀ v ∈ cs, v.oneCell' = true) :
    (Builtin.copy_ #[dT, sT] ty #[.slice (some ⟨g, o, none⟩) dLen dCap, .slice (some a) sLen sCap]).run Tryd.prog w =
      .ok (goInt (Nat.min sLen dLen)) (w.setRow g (cur.toList.take o ++ cs ++ cur.toList.drop (o + cs.length)).toArray) := by
  have hl := run_loadCells_list (P := Tryd.prog) w a cs hsrc
  have hst := run_storeCells_at Tryd.prog g o t cs 0 cur w hg (by simpa using hfit) h1
  cases hq : Tryd.prog.info? elem with
  | none => simp [hq] at hs
  | some i =>
    have hi : i.size = k := by simpa [hq] using hs
    simp [Builtin.copy_, run_underlying hu, Builtin.lenOf, Builtin.firstCells, sizeOf, typeInfo, hq, hi, ← hn, hl, hst]

theorem flat_take (l : List α) (i : Nat) : (flat E l).take (i * E.k) = flat E (l.take i) := by
  by_cases hi : i ≤ l.length
  · conv => lhs; rw [← List.take_append_drop i l, flat_append]
    rw [List.take_append_of_le_length (by rw [flat_length, List.length_take, Nat.min_eq_left hi]; exact Nat.le_refl _), List.take_of_length_le (by rw [flat_length, List.length_take, Nat.min_eq_left hi]; exact Nat.le_refl _)]
  · rw [List.take_of_length_le (by rw [flat_length]; exact Nat.mul_le_mul_right _ (by omega)), List.take_of_length_le (by omega)]
theorem flat_drop (l : List α) (i : Nat) : (flat E l).drop (i * E.k) = flat E (l.drop i) := by
  by_cases hi : i ≤ l.length
  · conv => lhs; rw [← List.take_append_drop i l, flat_append]
    rw [List.drop_append_of_le_length (by rw [flat_length, List.length_take, Nat.min_eq_left hi]; exact Nat.le_refl _), List.drop_eq_nil_of_le (by rw [flat_length, List.length_take, Nat.min_eq_left hi]; exact Nat.le_refl _), List.nil_append]
  · rw [List.drop_eq_nil_of_le (by rw [flat_length]; exact Nat.mul_le_mul_right _ (by omega)), List.drop_eq_nil_of_le (by omega)]
    rfl

theorem splice_take {β : Type} (cur F : List β) (D M T : Nat) (hF : F.length = M) (h1 : D + M ≤ T) (h2 : T ≤ cur.length) :
    (cur.take D ++ F ++ cur.drop (D + M)).take T = (cur.take T).take D ++ F ++ (cur.take T).drop (D + M) := by
  have hA : (cur.take D ++ F).length = D + M := by rw [List.length_append, List.length_take, hF]; omega
  rw [List.take_append, hA, List.take_of_length_le (by omega), List.take_take, Nat.min_eq_left (by omega), List.drop_take]

/-- What a copy within an owned slice leaves. -/
theorem OwnE.copied {B : Nat} {w : World} {g n cap : Nat} {l : List α} (h : OwnE E B w (.slice (some ⟨g, 0, none⟩) n cap) l) (di si m : Nat) (hd : di + m ≤ n) (hs : si + m ≤ n) :
    ∃ cur : Array Value, w.heap[g]? = some (.cells cur E.e (0, 0)) ∧ (flat E ((l.drop si).take m)).length = m * E.k ∧ di * E.k + m * E.k ≤ cur.size ∧
      OwnE E B (w.setRow g (cur.toList.take (di * E.k) ++ flat E ((l.drop si).take m) ++ cur.toList.drop (di * E.k + m * E.k)).toArray) (.slice (some ⟨g, 0, none⟩) n cap) (l.take di ++ (l.drop si).take m ++ l.drop (di + m)) := by
  rcases h.2 with ⟨h0, _⟩ | ⟨g', cap', cur, e, hg, hh, hl, hm, hsz, ht⟩
  · cases h0
  obtain ⟨rfl, rfl, rfl⟩ : g = g' ∧ n = l.length ∧ cap = cap' := by simpa using e
  have hlen : (flat E ((l.drop si).take m)).length = m * E.k := by rw [flat_length, List.length_take, List.length_drop, Nat.min_eq_left (by omega)]
  have hk1 : (di + m) * E.k ≤ l.length * E.k := Nat.mul_le_mul_right _ hd
  have hk2 : l.length * E.k ≤ cap * E.k := Nat.mul_le_mul_right _ hl
  rw [Nat.add_mul] at hk1
  have hL : (l.take di ++ (l.drop si).take m ++ l.drop (di + m)).length = l.length := by
    simp only [List.length_append, List.length_take, List.length_drop]
    omega
  refine ⟨cur, hh, hlen, by rw [hsz]; omega, ?_⟩
  refine ⟨by rw [flat_length, hL], .inr ⟨g, cap, _, by rw [hL], hg, setRow_heap w g _ _ E.e _ hh, by rw [hL]; exact hl, hm, ?_, ?_⟩⟩
  · simp only [List.size_toArray, List.length_append, List.length_take, List.length_drop, Array.length_toList, hlen, hsz]
    omega
  · have h2 : (di + m) * E.k = di * E.k + m * E.k := Nat.add_mul _ _ _
    rw [hL, flat_append, flat_append]
    generalize flat E ((l.drop si).take m) = F at hlen ⊢
    rw [← flat_take l di, ← flat_drop l (di + m), ← ht, h2]
    refine splice_take _ _ _ _ _ hlen (by omega) ?_
    have e3 : cur.toList.length = cap * E.k := by rw [← hsz]; exact Array.length_toList
    rw [e3]
    exact hk2

theorem flat_set (l : List α) (i j : Nat) (v : Value) (a' : α) (hi : i < l.length) (hj : j < E.k) (ha : E.f a' = (E.f l[i]).set j v) : (flat E l).set (i * E.k + j) v = flat E (l.set i a') := by
  induction l generalizing i with
  | nil => simp at hi
  | cons a l ih =>
    have e : ∀ (b : α) (l : List α), flat E (b :: l) = E.f b ++ flat E l := fun b l => by simp [flat]
    rw [e]
    cases i with
    | zero =>
      rw [Nat.zero_mul, Nat.zero_add, List.set_append_left _ _ (by rw [E.len]; exact hj)]
      simp only [List.set_cons_zero, e]
      rw [ha]
      rfl
    | succ i =>
      have hi' : i < l.length := by simpa using hi
      rw [List.set_append_right _ _ (by rw [E.len, Nat.succ_mul]; omega), E.len, show (i + 1) * E.k + j - E.k = i * E.k + j by rw [Nat.succ_mul]; omega, ih i hi' (by simpa using ha)]
      simp only [List.set_cons_succ, e]

/-- A store of one cell of an element. -/
theorem OwnE.set1 {B : Nat} {w : World} {g n cap : Nat} {l : List α} (h : OwnE E B w (.slice (some ⟨g, 0, none⟩) n cap) l) (i j : Nat) (v : Value) (a' : α) (hi : i < l.length) (hj : j < E.k) (ha : E.f a' = (E.f l[i]).set j v) :
    OwnE E B (w.setCell ⟨g, i * E.k + j, none⟩ v) (.slice (some ⟨g, 0, none⟩) n cap) (l.set i a') := by
  rcases h.2 with ⟨h0, _⟩ | ⟨g', cap', cur, e, hg, hh, hl, hm, hsz, ht⟩
  · cases h0
  obtain ⟨rfl, rfl, rfl⟩ : g = g' ∧ n = l.length ∧ cap = cap' := by simpa using e
  refine ⟨by rw [flat_length], .inr ⟨g, cap, cur.setIfInBounds (i * E.k + j) v, by rw [List.length_set], hg, ?_, by rw [List.length_set]; exact hl, hm, by rw [Array.size_setIfInBounds]; exact hsz, ?_⟩⟩
  · rw [setCell_eq_setRow w g (i * E.k + j) cur E.e (0, 0) v hh]
    exact setRow_heap w g _ _ E.e _ hh
  · rw [List.length_set, Array.toList_setIfInBounds, List.take_set, ht, flat_set l i j v a' hi hj ha]
theorem OwnE.free {B : Nat} {w : World} {g n cap : Nat} {l : List α} (h : OwnE E B w (.slice (some ⟨g, 0, none⟩) n cap) l) (i : Nat) : w.frozen? ⟨g, i, none⟩ = false := by
  rcases h.2 with ⟨h0, _⟩ | ⟨g', cap', cur, e, hg, hh, hl, hm, hsz, ht⟩
  · cases h0
  obtain ⟨rfl, rfl, rfl⟩ : g = g' ∧ n = l.length ∧ cap = cap' := by simpa using e
  simp [World.frozen?, hh]
/-- Cut at its end: 's[:m]'. -/
theorem OwnE.cut {B : Nat} {w : World} {g n cap : Nat} {l : List α} (h : OwnE E B w (.slice (some ⟨g, 0, none⟩) n cap) l) (m : Nat) (hm : m ≤ n) :
    OwnE E B w (.slice (some ⟨g, 0, none⟩) m cap) (l.take m) := by
  rcases h.2 with ⟨h0, _⟩ | ⟨g', cap', cur, e, hg, hh, hl, hmx, hsz, ht⟩
  · cases h0
  obtain ⟨rfl, rfl, rfl⟩ : g = g' ∧ n = l.length ∧ cap = cap' := by simpa using e
  have hl' : (l.take m).length = m := by rw [List.length_take]; omega
  refine ⟨by rw [flat_length], .inr ⟨g, cap, cur, by rw [hl'], hg, hh, by rw [hl']; omega, hmx, hsz, ?_⟩⟩
  rw [hl', ← flat_take, ← ht, List.take_take, Nat.min_eq_left (Nat.mul_le_mul_right _ hm)]

theorem OwnE.len {B : Nat} {w : World} {A : Option Addr} {n cap : Nat} {l : List α} (h : OwnE E B w (.slice A n cap) l) : n = l.length := by
  rcases h.form with ⟨e, rfl⟩ | ⟨g, c, e, _⟩
  · simp only [Value.slice.injEq] at e
    simpa using e.2.1
  · simp only [Value.slice.injEq] at e
    exact e.2.1

theorem run_copy_none_k (w : World) (dT sT ty elem : TypeId) (k : Nat) (d a : Option Addr) (dLen dCap sLen sCap : Nat) (hu : Tryd.prog.underlying dT = some (.slice elem)) (hs : (Tryd.prog.info? elem).map (·.size) = some k) (hn : Nat.min sLen dLen = 0) :
    (Builtin.copy_ #[dT, sT] ty #[.slice d dLen dCap, .slice a sLen sCap]).run Tryd.prog w = .ok (goInt 0) w := by
  cases hq : Tryd.prog.info? elem with
  | none => simp [hq] at hs
  | some i =>
    have hl : ∀ (x : Addr), (loadCells x 0).run Tryd.prog w = .ok #[] w := fun x => by simpa using run_loadCells_list (P := Tryd.prog) w x [] (by simp)
    cases d <;> cases a <;> simp [Builtin.copy_, run_underlying hu, Builtin.lenOf, Builtin.firstCells, sizeOf, typeInfo, hq, hn, storeCells, hl]

/-- copy within an owned slice, as one step of a region that draws. -/
theorem step_copyE {ops : Array Oper} {o : Oper} {a : Act} {w : World} {K : Act → World → Prop} {Q : Exit → Act → World → Prop} {F : Prop} (hgd : o.guard = none) (d s : Operand)
    (ho : o.op = .call { callee := .builtin .copy, args := #[d, s], argTypes := #[E.t, E.t] })
    (B g n cap : Nat) (l : List α) (hown : OwnE E B w (.slice (some ⟨g, 0, none⟩) n cap) l) (di si : Nat) (dp sp : Option Addr) (dLen dCap sLen sCap : Nat) (hd : a.eval d = .slice dp dLen dCap) (hs : a.eval s = .slice sp sLen sCap)
    (m : Nat) (hmin : m = Nat.min sLen dLen) (hpos : 0 < m → dp = some ⟨g, di * E.k, none⟩ ∧ sp = some ⟨g, si * E.k, none⟩) (hdm : di + m ≤ n) (hsm : si + m ≤ n) (hsome : dp ≠ none ∧ sp ≠ none)
    (h : ∀ w', OwnE E B w' (.slice (some ⟨g, 0, none⟩) n cap) (l.take di ++ (l.drop si).take m ++ l.drop (di + m)) → w.grownBy w' (some g) → K (a.put o.dst (goInt m)) w') :
    if Region.wanted o (yielded ops a.tmps) = true then Oper.wp Tryd.prog o a w K Q else F := by
  have hw : Region.wanted o (yielded ops a.tmps) = true := by simp [Region.wanted, hgd]
  rw [if_pos hw]
  obtain ⟨i, z, hi, hz, hsz, hzs, hby⟩ := E.info
  have hsk : (Tryd.prog.info? E.e).map (·.size) = some E.k := by rw [hi, ← hsz]; rfl
  have hlen := hown.len
  rcases Nat.eq_zero_or_pos m with h0 | h0
  · have hrun := run_copy_none_k w E.t E.t o.type E.e E.k dp sp dLen dCap sLen sCap E.und hsk (by rw [← hmin]; exact h0)
    unfold Oper.wp
    simp [execOp, ho, resolve, invoke, builtin, hd, hs, hrun, Result.andThen]
    have := h w (by rw [h0]; simpa using hown) (World.grownBy.refl _ _)
    rw [h0] at this
    exact this
  · obtain ⟨rfl, rfl⟩ := hpos h0
    obtain ⟨cur, hg, hcl, hfit, hres⟩ := hown.copied di si m hdm hsm
    have hsrc : ∀ j v, (flat E ((l.drop si).take m))[j]? = some v → w.cell? ((⟨g, si * E.k, none⟩ : Addr).add j) = some v := by
      intro j v hv
      have hj : j < m * E.k := by rw [← hcl]; exact (List.getElem?_eq_some_iff.1 hv).1
      rw [Addr.add_lit]
      have hc := World.ownsRow.cells hown (g := g) rfl (si * E.k + j) v (by
        rw [← flat_take, ← flat_drop, List.getElem?_take, if_pos hj, List.getElem?_drop] at hv
        exact hv)
      rwa [Addr.add_lit, Nat.zero_add] at hc
    have hrun := run_copy_k w E.t E.t o.type E.e E.k g (di * E.k) dLen dCap ⟨g, si * E.k, none⟩ sLen sCap cur E.e (flat E ((l.drop si).take m)) E.und hsk hg (by rw [hcl, ← hmin]) hsrc (by rw [hcl]; exact hfit) (flat_one E _)
    rw [← hmin, hcl] at hrun
    unfold Oper.wp
    simp only [execOp, ho, resolve, invoke, builtin, Sem.run_bind, Sem.run_pure, Result.andThen_ok, List.map_toArray, List.map_cons, List.map_nil, hd, hs, hrun]
    exact h _ hres ⟨rfl, rfl, rfl, by simp [World.setRow], fun j hj hne => setRow_other w g j _ (by intro e; exact hne (by rw [e]))⟩

/-- copy within an owned slice, as the last operation of a region. -/
theorem wpList_copyE {ops : Array Oper} {rest : List Oper} {o : Oper} {a : Act} {w : World} {Q : Exit → Act → World → Prop} (hgd : o.guard = none) (d s : Operand)
    (ho : o.op = .call { callee := .builtin .copy, args := #[d, s], argTypes := #[E.t, E.t] })
    (B g n cap : Nat) (l : List α) (hown : OwnE E B w (.slice (some ⟨g, 0, none⟩) n cap) l) (di si : Nat) (dp sp : Option Addr) (dLen dCap sLen sCap : Nat) (hd : a.eval d = .slice dp dLen dCap) (hs : a.eval s = .slice sp sLen sCap)
    (m : Nat) (hmin : m = Nat.min sLen dLen) (hpos : 0 < m → dp = some ⟨g, di * E.k, none⟩ ∧ sp = some ⟨g, si * E.k, none⟩) (hdm : di + m ≤ n) (hsm : si + m ≤ n) (hsome : dp ≠ none ∧ sp ≠ none)
    (h : ∀ w', OwnE E B w' (.slice (some ⟨g, 0, none⟩) n cap) (l.take di ++ (l.drop si).take m ++ l.drop (di + m)) → w.grownBy w' (some g) → wpList Tryd.prog ops Q rest (a.put o.dst (goInt m)) w') :
    wpList Tryd.prog ops Q (o :: rest) a w :=
  wpList_plain hgd fun K hK => by
    have hx := step_copyE (ops := ops) (o := o) (a := a) (w := w) (K := K) (Q := Q) (F := True) hgd d s ho B g n cap l hown di si dp sp dLen dCap sLen sCap hd hs m hmin hpos hdm hsm hsome (fun w' h1 h2 => hK _ _ (h w' h1 h2))
    rwa [if_pos (by simp [Region.wanted, hgd])] at hx

/-- append onto a slice of the call's own, as one step of a region that draws. -/
theorem step_appE {ops : Array Oper} {o : Oper} {a : Act} {w : World} {K : Act → World → Prop} {Q : Exit → Act → World → Prop} {F : Prop} (hgd : o.guard = none) (s x : Operand)
    (ho : o.op = .call { callee := .builtin .append, args := #[s, x], argTypes := #[E.t, E.t] })
    (B : Nat) (v : Value) (l : List α) (hs : a.eval s = v) (hown : OwnE E B w v l) (ad : Addr) (m c : Nat) (news : List α) (hx : a.eval x = .slice (some ad) m c) (hm : news.length = m)
    (hnews : ∀ j u, (flat E news)[j]? = some u → w.cell? (ad.add j) = some u)
    (hbig : l.length + m ≤ 1000000000000) (hB : B ≤ w.heap.size)
    (h : ∀ v' w', OwnE E B w' v' (l ++ news) → w.grownBy w' v.ownBlock → (v'.ownBlock = v.ownBlock ∨ v'.ownBlock = some w.heap.size) → Below B w w' → K (a.put o.dst v') w') :
    if Region.wanted o (yielded ops a.tmps) = true then Oper.wp Tryd.prog o a w K Q else F := by
  have hw : Region.wanted o (yielded ops a.tmps) = true := by simp [Region.wanted, hgd]
  rw [if_pos hw]
  obtain ⟨i, z, hi, hz, hsz, hzs, hby⟩ := E.info
  obtain ⟨v', w', hrun, h2, h3, h4, h5⟩ := run_append_own_at (P := Tryd.prog) w B _ o.type _ i z E.k i.bytes E.und hi hz hsz rfl hzs E.pos v l.length (flat E l) hown ad m c (flat E news) (by rw [flat_length, hm]) hnews (flat_one E news) (by unfold maxLen; omega) (by have := Nat.mul_le_mul hbig hby; omega) hB
  unfold Oper.wp execOp
  simp only [ho, resolve, invoke, builtin, Sem.run_bind, Sem.run_pure, Result.andThen_ok, List.map_toArray, List.map_cons, List.map_nil, hs, hx, hrun]
  refine h v' w' ?_ h3 h5 ((Below.refl _ _).grown h3 hB fun k hk => (hown.lt k hk).1)
  unfold OwnE
  rw [List.length_append, hm, flat_append]
  exact h2

end Go.Proofs.YtdjdcpcomhjnjaaDoor

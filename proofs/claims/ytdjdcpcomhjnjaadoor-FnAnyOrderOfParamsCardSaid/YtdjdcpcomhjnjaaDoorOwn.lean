/- A slice of bytes that the call itself makes: what it owns, and the law of append onto it, whatever the source. Conditions: lengths far below 2^47. -/
import Derived.Test.YtdjdcpcomhjnjaaDoorBase
import Derived.Maps.AppendAt
namespace Go.Proofs.YtdjdcpcomhjnjaaDoor
open Go.RowKit
set_option linter.unusedVariables false

theorem info_u8 : (Tryd.prog.info? 5).map (fun i => (i.zero, i.size, i.bytes)) = some (some (.int .u8 0), 1, 1) := by kernel_rfl

def vals (l : List Int) : List Value := l.map (Value.int .u8)
theorem vals_length (l : List Int) : (vals l).length = l.length := by simp [vals]
theorem vals_append (a b : List Int) : vals (a ++ b) = vals a ++ vals b := by simp [vals]
theorem vals_get? (l : List Int) (j : Nat) (u : Value) (h : (vals l)[j]? = some u) : j < l.length ∧ u = .int .u8 (l.getD j 0) := by
  have hj : j < l.length := by
    have := (List.getElem?_eq_some_iff.1 h).1
    simpa [vals] using this
  refine ⟨hj, ?_⟩
  simp [vals, List.getElem?_eq_getElem hj] at h
  simp [List.getD, List.getElem?_eq_getElem hj, h]
theorem vals_one (l : List Int) : ∀ u ∈ vals l, u.oneCell' = true := by
  intro u hu
  obtain ⟨_, _, rfl⟩ := List.mem_map.1 hu
  rfl

/-- The slice value s, made by the call itself in a block from B on, holds the bytes l. -/
def Own (B : Nat) (w : World) (s : Value) (l : List Int) : Prop := Bs l ∧ w.ownsRow B 5 1 s l.length (vals l)

theorem Own.nil_ (B : Nat) (w : World) : Own B w (.slice none 0 0) [] := ⟨Bs.nil, World.ownsRow_nil _ _ _ _⟩
theorem Own.bs {B : Nat} {w : World} {s : Value} {l : List Int} (h : Own B w s l) : Bs l := h.1
theorem Own.drewN {B : Nat} {w : World} {s : Value} {l : List Int} (h : Own B w s l) (n : Nat) : Own B (w.drewN n) s l := h
theorem Own.alloc {B : Nat} {w : World} {s : Value} {l : List Int} (h : Own B w s l) (o : Obj) : Own B (w.alloc o) s l := ⟨h.1, h.2.alloc o⟩
theorem Own.kept {B : Nat} {w w' : World} {s : Value} {l : List Int} {row : Option Nat} (h : Own B w s l) (hg : w.grownBy w' row) (hne : s.ownBlock = none ∨ s.ownBlock ≠ row) : Own B w' s l := ⟨h.1, h.2.kept hg hne⟩
theorem Own.lt {B : Nat} {w : World} {s : Value} {l : List Int} (h : Own B w s l) : ∀ k, s.ownBlock = some k → B ≤ k ∧ k < w.heap.size := h.2.lt
theorem Own.lower {B B' : Nat} {w : World} {s : Value} {l : List Int} (h : Own B w s l) (hB : B' ≤ B) : Own B' w s l :=
  ⟨h.1, h.2.1, h.2.2.imp id fun ⟨g, cap, cur, a, b, c⟩ => ⟨g, cap, cur, a, Nat.le_trans hB b, c⟩⟩
/-- What it owns below a later block number stays: what a callee leaves alone. -/
theorem Own.below {B : Nat} {w w' : World} {s : Value} {l : List Int} (h : Own B w s l) (hb : Below w.heap.size w w') : Own B w' s l := by
  refine ⟨h.1, h.2.1, ?_⟩
  rcases h.2.2 with hn | ⟨g, cap, cur, rfl, hg, hh, rest⟩
  · exact .inl hn
  · refine .inr ⟨g, cap, cur, rfl, hg, ?_, rest⟩
    rw [hb.block g (Array.getElem?_eq_some_iff.1 hh).1]
    exact hh
theorem Own.form {B : Nat} {w : World} {s : Value} {l : List Int} (h : Own B w s l) : (s = .slice none 0 0 ∧ l = []) ∨ ∃ g cap, s = .slice (some ⟨g, 0, none⟩) l.length cap ∧ B ≤ g ∧ g < w.heap.size ∧ l.length ≤ cap ∧ cap ≤ maxLen := by
  rcases h.2.2 with ⟨rfl, hn⟩ | ⟨g, cap, cur, rfl, hg, hh, hl, hm, _⟩
  · exact .inl ⟨rfl, List.eq_nil_of_length_eq_zero hn⟩
  · exact .inr ⟨g, cap, rfl, hg, (Array.getElem?_eq_some_iff.1 hh).1, hl, hm⟩
theorem Own.cell {B : Nat} {w : World} {g : Nat} {n c : Nat} {l : List Int} (h : Own B w (.slice (some ⟨g, 0, none⟩) n c) l) (i : Nat) (hi : i < l.length) : w.cell? ⟨g, i, none⟩ = some (.int .u8 (l.getD i 0)) := by
  have hu : (vals l)[i]? = some (.int .u8 (l.getD i 0)) := by simp [vals, List.getD, List.getElem?_eq_getElem hi]
  have := h.2.cells (g := g) rfl i _ hu
  rwa [Addr.add_lit, Nat.zero_add] at this
/-- It reads as its bytes. -/
theorem Own.rd {B : Nat} {w : World} {s : Value} {l : List Int} (h : Own B w s l) : ∃ A c, s = .slice A l.length c ∧ Rd w A l ∧ l.length ≤ c ∧ c ≤ maxLen ∧ (A = none → l = [] ∧ c = 0) := by
  rcases h.form with ⟨rfl, rfl⟩ | ⟨g, cap, rfl, _, _, hl, hm⟩
  · exact ⟨none, 0, rfl, Rd.nil _ _, by simp, by simp, fun _ => ⟨rfl, rfl⟩⟩
  · exact ⟨some ⟨g, 0, none⟩, cap, rfl, ⟨h.1, fun _ => ⟨g, 0, rfl, fun i hi => by rw [Nat.zero_add]; exact h.cell i hi⟩⟩, hl, hm, fun e => by cases e⟩
theorem Rd.of_own {B : Nat} {w : World} {A : Option Addr} {n c : Nat} {l : List Int} (h : Own B w (.slice A n c) l) : Rd w A l := by
  obtain ⟨A', c', e, hr, _⟩ := h.rd
  obtain ⟨rfl, _, _⟩ : A = A' ∧ n = l.length ∧ c = c' := by simpa using e
  exact hr

/-- A new block of bytes reads as its cells. -/
theorem Rd.new (w : World) (l : List Int) (hl : Bs l) (t : TypeId) : Rd (w.alloc (.cells (vals l).toArray t)) (some ⟨w.heap.size, 0, none⟩) l := by
  refine ⟨hl, fun _ => ⟨w.heap.size, 0, rfl, fun i hi => ?_⟩⟩
  rw [cell_of_row _ w.heap.size (0 + i) _ t (0, 0) (heap_alloc_new w _)]
  simp [vals, List.getD, List.getElem?_eq_getElem hi]

/-- .. and the call owns it. -/
theorem Own.new (w : World) (l : List Int) (hl : Bs l) (hlen : l.length ≤ maxLen) : Own w.heap.size (w.alloc (.cells (vals l).toArray 5)) (.slice (some ⟨w.heap.size, 0, none⟩) l.length l.length) l := by
  refine ⟨hl, by rw [vals_length]; omega, .inr ⟨w.heap.size, l.length, _, rfl, Nat.le_refl _, heap_alloc_new w _, Nat.le_refl _, hlen, by simp [vals_length], ?_⟩⟩
  simp only [Nat.mul_one]
  exact List.take_of_length_le (by rw [vals_length]; exact Nat.le_refl _)

/-- What a maker of bytes returns. -/
def MadeEnd (w : World) (l : List Int) (e : Ending) (w' : World) : Prop := ∃ s', e = .returned s' ∧ Own w.heap.size w' s' l ∧ Below w.heap.size w w'

theorem run_app (B : Nat) (w : World) (ty : TypeId) (v : Value) (l : List Int) (hown : Own B w v l) (A : Option Addr) (m c : Nat) (news : List Int) (hm : news.length = m) (hr : Rd w A news) (hnil : A = none → c = 0)
    (hbig : l.length + m ≤ 140737488355328) (hB : B ≤ w.heap.size) :
    ∃ v' w', (Builtin.append_ #[22, 22] ty #[v, .slice A m c]).run Tryd.prog w = .ok v' w' ∧ Own B w' v' (l ++ news) ∧ w.grownBy w' v.ownBlock ∧ (v'.ownBlock = v.ownBlock ∨ v'.ownBlock = some w.heap.size) ∧ (v' = .slice none 0 0 ↔ v = .slice none 0 0 ∧ m = 0) := by
  obtain ⟨i0, hi, hz0, hz1, hz2⟩ := info_parts info_u8
  have hbs := hown.1.append hr.1
  have fin : ∀ {v' : Value} {w' : World}, w'.ownsRow B 5 1 v' (l.length + m) (vals l ++ vals news) → Own B w' v' (l ++ news) := fun {v' w'} h => by
    refine ⟨hbs, ?_⟩
    rw [List.length_append, hm, vals_append]
    exact h
  cases A with
  | none =>
    have hn : news = [] := by
      rcases Nat.eq_zero_or_pos news.length with h0 | h0
      · exact List.eq_nil_of_length_eq_zero h0
      · obtain ⟨b, o, e, _⟩ := hr.2 h0
        cases e
    subst hn
    obtain rfl : m = 0 := by simpa using hm.symm
    obtain rfl := hnil rfl
    refine ⟨v, w, run_append_owned_none (P := Tryd.prog) w B _ ty _ i0 1 Tryd.underlying22 hi v l.length (vals l) hown.2, by simpa using hown, World.grownBy.refl _ _, .inl rfl, by simp⟩
  | some ad =>
    have hcells : ∀ j u, (vals news)[j]? = some u → w.cell? (ad.add j) = some u := by
      intro j u hu
      obtain ⟨hj, rfl⟩ := vals_get? news j u hu
      obtain ⟨b, o, e, hc⟩ := hr.2 (by omega)
      obtain rfl : ad = ⟨b, o, none⟩ := by simpa using e
      rw [Addr.add_lit]
      exact hc j hj
    obtain ⟨v', w', hrun, h2, h3, h4, h5⟩ := run_append_own_at (P := Tryd.prog) w B _ ty _ i0 (.int .u8 0) 1 1 Tryd.underlying22 hi hz0 hz1 hz2 rfl (by decide) v l.length (vals l) hown.2 ad m c (vals news) (by rw [vals_length]; omega) hcells (vals_one _) (by unfold maxLen; omega) (by omega) hB
    exact ⟨v', w', hrun, fin h2, h3, h5, h4⟩

/-- append onto bytes of the call's own, whatever the source (nil, empty, cut, or a new block). -/
theorem wpList_app {ops : Array Oper} {rest : List Oper} {o : Oper} {a : Act} {Q : Exit → Act → World → Prop} (B : Nat) (w : World) (hgd : o.guard = none) (s x : Operand)
    (ho : o.op = .call { callee := .builtin .append, args := #[s, x], argTypes := #[22, 22] })
    (v : Value) (l : List Int) (hs : a.eval s = v) (hown : Own B w v l) (A : Option Addr) (m c : Nat) (news : List Int) (hx : a.eval x = .slice A m c) (hm : news.length = m) (hr : Rd w A news) (hnil : A = none → c = 0)
    (hbig : l.length + m ≤ 140737488355328) (hB : B ≤ w.heap.size)
    (h : ∀ v' w', Own B w' v' (l ++ news) → w.grownBy w' v.ownBlock → (v'.ownBlock = v.ownBlock ∨ v'.ownBlock = some w.heap.size) → Below B w w' → (v' = .slice none 0 0 ↔ v = .slice none 0 0 ∧ m = 0) → wpList Tryd.prog ops Q rest (a.put o.dst v') w') : wpList Tryd.prog ops Q (o :: rest) a w :=
  wpList_plain hgd fun K hK => by
    obtain ⟨v', w', hrun, h2, h3, h4, h5⟩ := run_app B w o.type v l hown A m c news hm hr hnil hbig hB
    unfold Oper.wp execOp
    simp only [ho, resolve, invoke, builtin, Sem.run_bind, Sem.run_pure, Result.andThen_ok, List.map_toArray, List.map_cons, List.map_nil, hs, hx, hrun]
    exact hK _ _ (h v' w' h2 h3 h4 ((Below.refl _ _).grown h3 hB fun k hk => (hown.lt k hk).1) h5)

/-- What an appender returns. -/
def AppEnd (B : Nat) (w : World) (s : Value) (l : List Int) (e : Ending) (w' : World) : Prop :=
  ∃ s', e = .returned s' ∧ Own B w' s' l ∧ w.grownBy w' s.ownBlock ∧ (s'.ownBlock = s.ownBlock ∨ ∃ g, s'.ownBlock = some g ∧ w.heap.size ≤ g) ∧ Below B w w' ∧ (s' = .slice none 0 0 → s = .slice none 0 0)

theorem grownBy_drewN {w w' : World} {row : Option Nat} (h : w.grownBy w' row) (n : Nat) : w.grownBy (w'.drewN n) row := ⟨h.os, h.tape, h.output, h.size, h.block⟩
theorem grownBy_trans {a b c : World} {row row' : Option Nat} (h : a.grownBy b row) (k : b.grownBy c row') (hr : row' = row ∨ ∃ g, row' = some g ∧ a.heap.size ≤ g) : a.grownBy c row := by
  refine ⟨k.os.trans h.os, k.tape.trans h.tape, k.output.trans h.output, Nat.le_trans h.size k.size, fun i hi hne => ?_⟩
  rw [k.block i (Nat.lt_of_lt_of_le hi h.size) (by
    rcases hr with rfl | ⟨g, rfl, hg⟩
    · exact hne
    · intro e; have : i = g := by simpa using e
      omega)]
  exact h.block i hi hne
theorem grownBy_alloc_left {w w' : World} {o : Obj} {row : Option Nat} (h : (w.alloc o).grownBy w' row) : w.grownBy w' row :=
  grownBy_trans (World.grownBy_alloc w o row) h (.inl rfl)

/-- The slice at A lies in no block that 'row' names. -/
def Sep (A : Option Addr) (row : Option Nat) : Prop := ∀ a, A = some a → row ≠ some a.block
theorem Sep.none_ (row : Option Nat) : Sep none row := fun a h => by cases h
theorem Sep.of_lt {A : Option Addr} {B : Nat} {w : World} {s : Value} {l : List Int} (h : ∀ a, A = some a → a.block < B) (ho : Own B w s l) : Sep A s.ownBlock := fun a ha e => by
  have := h a ha
  have := (ho.lt _ e).1
  omega
theorem Rd.grown {w w' : World} {A : Option Addr} {l : List Int} {row : Option Nat} (h : Rd w A l) (hg : w.grownBy w' row) (hs : 0 < l.length → Sep A row) : Rd w' A l := by
  refine ⟨h.1, fun hl => ?_⟩
  obtain ⟨b, o, e, hc⟩ := h.2 hl
  refine ⟨b, o, e, fun i hi => ?_⟩
  have hb := World.block_lt_of_cell? _ _ (hc i hi)
  rw [World.cell?_of_block (hg.block b hb (fun e2 => hs hl _ e e2.symm))]
  exact hc i hi
theorem Rd.below' {w w' : World} {A : Option Addr} {l : List Int} {B : Nat} (h : Rd w A l) (hb : Below B w w') (hB : w.heap.size ≤ B) : Rd w' A l := h.below (hb.mono hB)
/-- What lay in an older world lies in no block of the call's own. -/
theorem Rd.sep {w w' : World} {A : Option Addr} {l l' : List Int} {B : Nat} {s : Value} (h : Rd w A l) (ho : Own B w' s l') (hB : w.heap.size ≤ B) : 0 < l.length → Sep A s.ownBlock := fun hl a ha e => by
  obtain ⟨b, o, e', hc⟩ := h.2 hl
  have hb := World.block_lt_of_cell? _ _ (hc 0 hl)
  rw [e'] at ha
  obtain rfl : (⟨b, o, none⟩ : Addr) = a := by simpa using ha
  have := (ho.lt _ e).1
  simp at this hb
  omega
/-- A new block without a byte in it: what reads as bytes there read so before. -/
theorem Rd.unalloc {w : World} {cs : Array Value} {t : TypeId} {A : Option Addr} {l : List Int} (h : Rd (w.alloc (.cells cs t)) A l) (hcs : ∀ (i : Nat) (z : Int), cs[i]? ≠ some (Value.int .u8 z)) : Rd w A l := by
  refine ⟨h.1, fun hl => ?_⟩
  obtain ⟨b, o, e, hc⟩ := h.2 hl
  refine ⟨b, o, e, fun i hi => ?_⟩
  have hci := hc i hi
  by_cases hb : b < w.heap.size
  · rwa [World.cell?_alloc_lt w _ _ hb] at hci
  · have hlt := World.block_lt_of_cell? _ _ hci
    have hb' : b = w.heap.size := by simp at hlt; omega
    subst hb'
    rw [cell_of_row _ w.heap.size _ cs t (0, 0) (heap_alloc_new w _)] at hci
    exact absurd hci (hcs _ _)
theorem AppEnd.mk' {B : Nat} {w w1 w2 : World} {s s1 s2 : Value} {l : List Int} (hg1 : w.grownBy w1 s.ownBlock) (ha1 : s1.ownBlock = s.ownBlock ∨ ∃ g, s1.ownBlock = some g ∧ w.heap.size ≤ g) (hb1 : Below B w w1) (hn1 : s1 = .slice none 0 0 → s = .slice none 0 0)
    (ho2 : Own B w2 s2 l) (hg2 : w1.grownBy w2 s1.ownBlock) (ha2 : s2.ownBlock = s1.ownBlock ∨ ∃ g, s2.ownBlock = some g ∧ w1.heap.size ≤ g) (hb2 : Below B w1 w2) (hn2 : s2 = .slice none 0 0 → s1 = .slice none 0 0) :
    AppEnd B w s l (.returned s2) w2 := by
  refine ⟨s2, rfl, ho2, grownBy_trans hg1 hg2 ha1, ?_, hb1.trans hb2, fun h => hn1 (hn2 h)⟩
  rcases ha2 with e | ⟨g, e, hg⟩
  · rw [e]; exact ha1
  · exact .inr ⟨g, e, Nat.le_trans hb1.size hg⟩

end Go.Proofs.YtdjdcpcomhjnjaaDoor

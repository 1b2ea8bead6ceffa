/- Contract of spec.ReadAck. Conditions: the slice reads as bytes. -/
import Derived.Test.YtdogepkfgobcfaaReaderU
import Derived.Test.YtdogepkfgobcfaaRangeOps
import Derived.Test.YtdogepkfgobcfaaAckSet
import Derived.Test.YtdogepkfgobcfaaArr
import Derived.StillTailTactics
import Derived.BigRegion
namespace Go.Proofs.Ytdogepkfgobcfaa
open Go.RowKit
set_option linter.unusedVariables false

/-- What spec.ReadAck answers. -/
def SAckEnd (w : World) (l : List Int) (e : Ending) (w' : World) : Prop := Below w.heap.size w w' ∧
  ((ackP l = none ∧ ∃ A m c2 a b c d f n, e = .returned (.tuple #[.agg #[.slice A m c2, .int .i64 a, .int .i64 b, .int .i64 c, .int .i64 d, .int .i64 f], .int .i64 n, .int .i64 1])) ∨
   ∃ r A c, ackP l = some r ∧ e = .returned (.tuple #[.agg #[.slice A r.rs.length c, .int .i64 r.lg, .int .i64 r.dl, .int .i64 r.e0, .int .i64 r.e1, .int .i64 r.e2], .int .i64 (r.n : Nat), .int .i64 0]) ∧ OwnE EPr w.heap.size w' (.slice A r.rs.length c) r.rs)

/-- The walk's state: the reader in block g, the answer's struct in block p. -/
structure Ast (w : World) (p g b o n c : Nat) (l : List Int) (wr : World) (k : Nat) (bad : Bool) (S : Value) (lg dl e0 e1 e2 : Int) : Prop where
  rdr : Rdr wr g (some ⟨b, o, none⟩) n c k bad
  blk : wr.heap[p]? = some (.cells #[S, .int .i64 lg, .int .i64 dl, .int .i64 e0, .int .i64 e1, .int .i64 e2] 58 (0, 0))
  rd : Rd wr (some ⟨b, o, none⟩) l
  bel : Below w.heap.size w wr
  pg : p ≠ g
  wp : w.heap.size ≤ p
  wg : w.heap.size ≤ g
  kn : k ≤ n
  bw : b < w.heap.size
section
variable {w wr w' : World} {p g b o n c k : Nat} {l : List Int} {bad : Bool} {S : Value} {lg dl e0 e1 e2 : Int}
theorem Ast.plt (h : Ast w p g b o n c l wr k bad S lg dl e0 e1 e2) : p < wr.heap.size := (Array.getElem?_eq_some_iff.1 h.blk).1
theorem Ast.cell (h : Ast w p g b o n c l wr k bad S lg dl e0 e1 e2) (i : Nat) (v : Value) (hv : (#[S, Value.int .i64 lg, .int .i64 dl, .int .i64 e0, .int .i64 e1, .int .i64 e2] : Array Value)[i]? = some v) : wr.cell? ⟨p, i, none⟩ = some v := by
  rw [cell_of_row wr p i _ _ (0, 0) h.blk]; exact hv
theorem Ast.free (h : Ast w p g b o n c l wr k bad S lg dl e0 e1 e2) (i : Nat) : wr.frozen? ⟨p, i, none⟩ = false := by have := h.blk; simp [World.frozen?, this]
/-- Behind a number that the reader has taken. -/
theorem Ast.num (h : Ast w p g b o n c l wr k bad S lg dl e0 e1 e2) {k1 : Nat} {bad1 : Bool} (hr : Rdr w' g (some ⟨b, o, none⟩) n c k1 bad1) (hg : wr.grownBy w' (some g)) (hk : k1 ≤ n) : Ast w p g b o n c l w' k1 bad1 S lg dl e0 e1 e2 := by
  refine ⟨hr, (hg.block p h.plt (by simpa using h.pg)).trans h.blk, h.rd.grown hg fun _ => sep_ne (by have := h.bw; have := h.wg; omega), h.bel.grown hg h.bel.size fun j hj => by simp at hj; have := h.wg; omega, h.pg, h.wp, h.wg, hk, h.bw⟩
theorem Ast.drewN (h : Ast w p g b o n c l wr k bad S lg dl e0 e1 e2) (q : Nat) : Ast w p g b o n c l (wr.drewN q) k bad S lg dl e0 e1 e2 :=
  ⟨h.rdr.drewN q, h.blk, h.rd.drewN q, below_drewN h.bel q, h.pg, h.wp, h.wg, h.kn, h.bw⟩
/-- A cell of the answer's struct. -/
theorem Ast.put (h : Ast w p g b o n c l wr k bad S lg dl e0 e1 e2) (i : Nat) (v S' : Value) (lg' dl' e0' e1' e2' : Int)
    (hv : (#[S, Value.int .i64 lg, .int .i64 dl, .int .i64 e0, .int .i64 e1, .int .i64 e2] : Array Value).setIfInBounds i v = #[S', Value.int .i64 lg', .int .i64 dl', .int .i64 e0', .int .i64 e1', .int .i64 e2']) :
    Ast w p g b o n c l (wr.setCell ⟨p, i, none⟩ v) k bad S' lg' dl' e0' e1' e2' := by
  have hgs := gset wr p i v
  refine ⟨h.rdr.kept hgs (by simpa using fun e : g = p => h.pg e.symm), ?_, h.rd.grown hgs fun _ => sep_ne (by have := h.bw; have := h.wp; omega), h.bel.grown hgs h.bel.size fun j hj => by simp at hj; have := h.wp; omega, h.pg, h.wp, h.wg, h.kn, h.bw⟩
  have := h.blk
  simp only [World.setCell, Array.getElem?_modify, this, if_true, Option.map_some]
  rw [← hv]
  rfl
end
theorem NumSt.nm_ {l : List Int} {k : Nat} {bad : Bool} {v : Int} {k1 : Nat} {bad1 : Bool} (h : NumSt l k bad v k1 bad1) : (bad1 = false ∧ bad = false ∧ nm l k = some (v, k1)) ∨ (bad1 = true ∧ (bad = true ∨ nm l k = none)) := by
  obtain ⟨h1, h2, h3, h4, h5⟩ := h
  rcases h5 with ⟨a, b, c⟩ | ⟨a, b, c⟩
  · exact .inl ⟨a, b, by rw [nm_some c]; congr 2; omega⟩
  · exact .inr ⟨a, c.imp id nm_none⟩

section
variable {w wr w' : World} {p g b o n c k : Nat} {l : List Int} {bad : Bool} {S : Value} {lg dl e0 e1 e2 : Int}
theorem Ast.six (h : Ast w p g b o n c l wr k bad S lg dl e0 e1 e2) : (wr.cell? ⟨p, 0, none⟩ = some S ∧ wr.cell? ⟨p, 1, none⟩ = some (.int .i64 lg) ∧ wr.cell? ⟨p, 2, none⟩ = some (.int .i64 dl) ∧ wr.cell? ⟨p, 3, none⟩ = some (.int .i64 e0) ∧ wr.cell? ⟨p, 4, none⟩ = some (.int .i64 e1) ∧ wr.cell? ⟨p, 5, none⟩ = some (.int .i64 e2)) ∧
    (wr.frozen? ⟨p, 0, none⟩ = false ∧ wr.frozen? ⟨p, 1, none⟩ = false ∧ wr.frozen? ⟨p, 2, none⟩ = false ∧ wr.frozen? ⟨p, 3, none⟩ = false ∧ wr.frozen? ⟨p, 4, none⟩ = false ∧ wr.frozen? ⟨p, 5, none⟩ = false) :=
  ⟨⟨h.cell 0 _ rfl, h.cell 1 _ rfl, h.cell 2 _ rfl, h.cell 3 _ rfl, h.cell 4 _ rfl, h.cell 5 _ rfl⟩, h.free 0, h.free 1, h.free 2, h.free 3, h.free 4, h.free 5⟩
/-- The struct stored into itself. -/
theorem Ast.again (h : Ast w p g b o n c l wr k bad S lg dl e0 e1 e2) : Ast w p g b o n c l ((((((wr.setCell ⟨p, 0, none⟩ S).setCell ⟨p, 1, none⟩ (.int .i64 lg)).setCell ⟨p, 2, none⟩ (.int .i64 dl)).setCell ⟨p, 3, none⟩ (.int .i64 e0)).setCell ⟨p, 4, none⟩ (.int .i64 e1)).setCell ⟨p, 5, none⟩ (.int .i64 e2)) k bad S lg dl e0 e1 e2 :=
  (((((h.put 0 S _ _ _ _ _ _ rfl).put 1 _ _ _ _ _ _ _ rfl).put 2 _ _ _ _ _ _ _ rfl).put 3 _ _ _ _ _ _ _ rfl).put 4 _ _ _ _ _ _ _ rfl).put 5 _ _ _ _ _ _ _ rfl
/-- A number is taken. -/
theorem Ast.number (h : Ast w p g b o n c l wr k bad S lg dl e0 e1 e2) (hn : Hid (l.length = n)) (hnc : n ≤ c) (hc2 : c ≤ 9223372036854775807) :
    Calls Try.prog 51 #[.pointer (some ⟨g, 0, none⟩)] wr fun e w' => ∃ v k1 bad1, e = .returned (.int .i64 v) ∧ 0 ≤ v ∧ v ≤ 4611686018427387903 ∧ k ≤ k1 ∧ Hid (NumSt l k bad v k1 bad1) ∧ Hid (Ast w p g b o n c l w' k1 bad1 S lg dl e0 e1 e2) :=
  (num_u b o n c k g l bad wr h.rd hn hnc hc2 h.kn h.rdr).mono fun e w' ⟨v, k1, bad1, he, hst, hr, hg⟩ => ⟨v, k1, bad1, he, hst.2.2.1, by have := hst.2.2.2.1; omega, hst.1, hst, h.num hr hg (by have := hst.2.1; have := hn.out; omega)⟩
end
/-- What the four numbers of the head are read as. -/
theorem head4 {l : List Int} {v1 v2 v3 v4 : Int} {k1 k2 k3 k4 : Nat} {b1 b2 b3 b4 : Bool} (h1 : NumSt l 1 false v1 k1 b1) (h2 : NumSt l k1 b1 v2 k2 b2) (h3 : NumSt l k2 b2 v3 k3 b3) (h4 : NumSt l k3 b3 v4 k4 b4) :
    (b4 = true ∧ ackP l = none) ∨ (b4 = false ∧ nm l 1 = some (v1, k1) ∧ nm l k1 = some (v2, k2) ∧ nm l k2 = some (v3, k3) ∧ nm l k3 = some (v4, k4)) := by
  rcases h4.nm_ with ⟨rfl, rfl, e4⟩ | ⟨rfl, e4⟩
  · rcases h3.nm_ with ⟨_, rfl, e3⟩ | ⟨h, _⟩
    · rcases h2.nm_ with ⟨_, rfl, e2⟩ | ⟨h, _⟩
      · rcases h1.nm_ with ⟨_, _, e1⟩ | ⟨h, _⟩
        · exact .inr ⟨rfl, e1, e2, e3, e4⟩
        · cases h
      · cases h
    · cases h
  · refine .inl ⟨rfl, ?_⟩
    rcases h1.nm_ with ⟨rfl, _, e1⟩ | ⟨rfl, e1⟩
    · rcases h2.nm_ with ⟨rfl, _, e2⟩ | ⟨rfl, e2⟩
      · rcases h3.nm_ with ⟨rfl, _, e3⟩ | ⟨rfl, e3⟩
        · rcases e4 with h | e4
          · cases h
          · rw [ackP_4 e1 e2 e3, ackM_none e4]
        · rcases e3 with h | e3
          · cases h
          · exact ackP_3 e1 e2 e3
      · rcases e2 with h | e2
        · cases h
        · exact ackP_2 e1 e2
    · rcases e1 with h | e1
      · cases h
      · exact ackP_1 e1

/-- Behind what leaves the reader's and the answer's blocks alone. -/
theorem Ast.below {w wr w' : World} {b o n c k : Nat} {l : List Int} {bad : Bool} {S : Value} {lg dl e0 e1 e2 : Int} (h : Ast w w.heap.size (w.heap.size + 1) b o n c l wr k bad S lg dl e0 e1 e2) (hb : Below (w.heap.size + 2) wr w') : Ast w w.heap.size (w.heap.size + 1) b o n c l w' k bad S lg dl e0 e1 e2 := by
  refine ⟨h.rdr.below hb (by omega), (hb.block _ (by omega)).trans h.blk, ⟨h.rd.1, fun hl => ?_⟩, h.bel.trans (hb.mono (by omega)), h.pg, h.wp, h.wg, h.kn, h.bw⟩
  obtain ⟨b', o', e, hc⟩ := h.rd.2 hl
  refine ⟨b', o', e, fun i hi => ?_⟩
  obtain ⟨rfl, rfl⟩ : b = b' ∧ o = o' := by simpa using e
  rw [hb.cell (p := ⟨b, o + i, none⟩) (by show b < _; have := h.bw; omega)]
  exact hc i hi
/-- The answer's ranges so far. -/
def Acc (w wr : World) (S : Value) (acc : Rgs) : Prop := OwnE EPr (w.heap.size + 2) wr S acc
theorem Acc.num {w wr w' : World} {S : Value} {acc : Rgs} (h : Acc w wr S acc) (hg : wr.grownBy w' (some (w.heap.size + 1))) : Acc w w' S acc :=
  OwnE.kept h hg (.inr fun e => by have := (OwnE.lt h _ e).1; omega)
theorem Acc.put {w wr : World} {S : Value} {acc : Rgs} (h : Acc w wr S acc) (i : Nat) (v : Value) : Acc w (wr.setCell ⟨w.heap.size, i, none⟩ v) S acc :=
  OwnE.kept h (gset _ _ _ _) (.inr fun e => by have := (OwnE.lt h _ e).1; omega)
/-- A number is taken; the ranges stay. -/
theorem Ast.number2 {w wr : World} {b o n c k : Nat} {l : List Int} {bad : Bool} {S : Value} {lg dl e0 e1 e2 : Int} {acc : Rgs} (h : Ast w w.heap.size (w.heap.size + 1) b o n c l wr k bad S lg dl e0 e1 e2) (ha : Acc w wr S acc) (hn : Hid (l.length = n)) (hnc : n ≤ c) (hc2 : c ≤ 9223372036854775807) :
    Calls Try.prog 51 #[.pointer (some ⟨w.heap.size + 1, 0, none⟩)] wr fun e w' => ∃ v k1 bad1, e = .returned (.int .i64 v) ∧ 0 ≤ v ∧ v ≤ 4611686018427387903 ∧ k ≤ k1 ∧ Hid (NumSt l k bad v k1 bad1) ∧ Hid (Ast w w.heap.size (w.heap.size + 1) b o n c l w' k1 bad1 S lg dl e0 e1 e2) ∧ Hid (Acc w w' S acc) :=
  (num_u b o n c k (w.heap.size + 1) l bad wr h.rd hn hnc hc2 h.kn h.rdr).mono fun e w' ⟨v, k1, bad1, he, hst, hr, hg⟩ => ⟨v, k1, bad1, he, hst.2.2.1, by have := hst.2.2.2.1; omega, hst.1, hst, h.num hr hg (by have := hst.2.1; have := hn.out; omega), ha.num hg⟩
/-- Two numbers. -/
theorem two {l : List Int} {v5 v6 : Int} {k k5 k6 : Nat} {b5 b6 : Bool} (c : Nat) (least : Int) (acc : Rgs) (h5 : NumSt l k false v5 k5 b5) (h6 : NumSt l k5 b5 v6 k6 b6) :
    (b6 = true ∧ joinR acc (ackG l (c + 1) least k) = none) ∨ (b6 = false ∧ k < k6 ∧ (least - v5 - 2 < v6 → joinR acc (ackG l (c + 1) least k) = none) ∧
      (¬ least - v5 - 2 < v6 → joinR acc (ackG l (c + 1) least k) = joinR (acc ++ [(least - v5 - 2 - v6, least - v5 - 2 + 1)]) (ackG l c (least - v5 - 2 - v6) k6))) := by
  rcases h6.nm_ with ⟨rfl, rfl, e6⟩ | ⟨rfl, e6⟩
  · rcases h5.nm_ with ⟨_, _, e5⟩ | ⟨h, _⟩
    · have hk : k < k6 := by
        unfold nm at e6
        have h1 := h5.1
        have h2 := h6.1
        cases hv : rv (l.drop k5) with
        | none => rw [hv] at e6; cases e6
        | some q =>
          obtain ⟨a, m⟩ := q
          rw [hv] at e6
          simp only [Option.some.injEq, Prod.mk.injEq] at e6
          have : 1 ≤ m := by
            cases hd : l.drop k5 with
            | nil => rw [hd] at hv; cases hv
            | cons x r =>
              rw [hd, rv_cons] at hv
              split at hv
              · cases hv
              · simp only [Option.some.injEq, Prod.mk.injEq] at hv
                rcases szOf_cases x with e | e | e | e <;> omega
          omega
      refine .inr ⟨rfl, hk, fun hs => ?_, fun hs => ?_⟩
      · rw [ackG_succ, e5]
        show joinR acc (ackM l c (least - v5 - 2) k5) = none
        rw [ackM_short e6 hs]
        rfl
      · rw [ackG_succ, e5]
        show joinR acc (ackM l c (least - v5 - 2) k5) = _
        exact ackM_some acc e6 hs
    · cases h
  · refine .inl ⟨rfl, ?_⟩
    rw [ackG_succ]
    rcases h5.nm_ with ⟨rfl, _, e5⟩ | ⟨rfl, e5⟩
    · rcases e6 with h | e6
      · cases h
      · rw [e5]
        show joinR acc (ackM l c (least - v5 - 2) k5) = none
        rw [ackM_none e6]
        rfl
    · rcases e5 with h | e5
      · cases h
      · rw [e5]
        rfl
/-- A range more. -/
theorem Ast.app {w wr w1 : World} {b o n c k m : Nat} {l : List Int} {bad : Bool} {S v1 : Value} {lg dl e0 e1 e2 : Int} {acc : Rgs} {x : Int × Int} {ob : Obj} (h : Ast w w.heap.size (w.heap.size + 1) b o n c l wr k bad S lg dl e0 e1 e2) (hm : acc.length = m)
    (ho : OwnE EPr (w.heap.size + 2) w1 v1 (acc ++ [x])) (hb : Below (w.heap.size + 2) (wr.alloc ob) w1) :
    ∃ g5 cap, v1 = .slice (some ⟨g5, 0, none⟩) (m + 1) cap ∧ Hid (Ast w w.heap.size (w.heap.size + 1) b o n c l w1 k bad S lg dl e0 e1 e2) ∧ Hid (Ast w w.heap.size (w.heap.size + 1) b o n c l (w1.setCell ⟨w.heap.size, 0, none⟩ (.slice (some ⟨g5, 0, none⟩) (m + 1) cap)) k bad (.slice (some ⟨g5, 0, none⟩) (m + 1) cap) lg dl e0 e1 e2) ∧
      Hid (Acc w (w1.setCell ⟨w.heap.size, 0, none⟩ (.slice (some ⟨g5, 0, none⟩) (m + 1) cap)) (.slice (some ⟨g5, 0, none⟩) (m + 1) cap) (acc ++ [x])) := by
  have hsz : w.heap.size + 2 ≤ wr.heap.size := by have := h.rdr.lt; omega
  have h1 := h.below (((Below.refl _ _).alloc hsz ob).trans hb)
  rcases ho.form with ⟨_, e⟩ | ⟨g5, cap, e, _⟩
  · simp at e
  · have hl : (acc ++ [x]).length = m + 1 := by simp [hm]
    rw [hl] at e
    subst e
    have ha : Acc w w1 (.slice (some ⟨g5, 0, none⟩) (m + 1) cap) (acc ++ [x]) := ho
    exact ⟨g5, cap, rfl, h1, h1.put 0 _ _ _ _ _ _ _ rfl, ha.put 0 _⟩

theorem SAckEnd.mk_ {w w' : World} {l : List Int} {acc : Rgs} {lg dl e0 e1 e2 : Int} {k m c7 : Nat} {A7 : Option Addr} (hb : Below w.heap.size w w') (hp : ackP l = some ⟨acc, lg, dl, e0, e1, e2, k⟩) (hm : acc.length = m) (ho : Acc w w' (.slice A7 m c7) acc) :
    SAckEnd w l (.returned (.tuple #[.agg #[.slice A7 m c7, .int .i64 lg, .int .i64 dl, .int .i64 e0, .int .i64 e1, .int .i64 e2], .int .i64 (k : Nat), .int .i64 0])) w' := by
  subst hm
  exact ⟨hb, .inr ⟨_, A7, c7, hp, rfl, OwnE.lower ho (Nat.le_add_right _ _)⟩⟩
/-- The three counts. -/
theorem ecn3 {l : List Int} {x0 x1 x2 : Int} {k k5 k6 k7 : Nat} {b5 b6 b7 : Bool} (rs : Rgs) (lg dl : Int) (hx : l.getD 0 0 = 3) (h5 : NumSt l k false x0 k5 b5) (h6 : NumSt l k5 b5 x1 k6 b6) (h7 : NumSt l k6 b6 x2 k7 b7) :
    (b7 = true ∧ ecnP l rs lg dl k = none) ∨ (b7 = false ∧ ecnP l rs lg dl k = some ⟨rs, lg, dl, x0, x1, x2, k7⟩) := by
  unfold ecnP
  rw [if_pos hx]
  rcases h7.nm_ with ⟨rfl, rfl, e7⟩ | ⟨rfl, e7⟩
  · rcases h6.nm_ with ⟨_, rfl, e6⟩ | ⟨h, _⟩
    · rcases h5.nm_ with ⟨_, _, e5⟩ | ⟨h, _⟩
      · exact .inr ⟨rfl, by simp [e5, e6, e7]⟩
      · cases h
    · cases h
  · refine .inl ⟨rfl, ?_⟩
    rcases h5.nm_ with ⟨rfl, _, e5⟩ | ⟨rfl, e5⟩
    · rcases h6.nm_ with ⟨rfl, _, e6⟩ | ⟨rfl, e6⟩
      · rcases e7 with h | e7
        · cases h
        · simp [e5, e6, e7]
      · rcases e6 with h | e6
        · cases h
        · simp [e5, e6]
    · rcases e5 with h | e5
      · cases h
      · simp [e5]

set_option maxRecDepth 100000 in
set_option maxHeartbeats 2000000 in
theorem sack2 (b o n c : Nat) (l : List Int) (w : World) (hr : Rd w (some ⟨b, o, none⟩) l) (hn : Hid (l.length = n)) (hnc : n ≤ c) (hc2 : c ≤ 9223372036854775807) (h1 : 1 ≤ n) (hn2 : n ≤ 2147483647) (hb : b < w.heap.size) (hx : Hid (l.getD 0 0 = 2)) :
    Calls Try.prog 38 #[.slice (some ⟨b, o, none⟩) n c] w fun e w' => SAckEnd w l e w' := by
  have hbs := hr.1
  have HBS := Lib.hid hbs
  have c0 : w.cell? ⟨b, o, none⟩ = some (.int .u8 2) := by
    obtain ⟨b', o', e, hc⟩ := hr.2 (by rw [hn.out]; omega)
    obtain ⟨rfl, rfl⟩ : b = b' ∧ o = o' := by simpa using e
    have := hc 0 (by rw [hn.out]; omega)
    rwa [hx.out] at this
  have HR := Lib.hid hr
  have hne : ((n : Int) == 0) = false := by simp; omega
  have hp0 : (0 : Int) < (n : Int) := by omega
  have hA0 : Hid (Ast w w.heap.size (w.heap.size + 1) b o n c l ((w.alloc (.cells #[.slice none 0 0, .int .i64 0, .int .i64 0, .int .i64 0, .int .i64 0, .int .i64 0] 58)).alloc (.cells #[.slice (some ⟨b, o, none⟩) n c, .int .i64 1, .bool false] 74)) 1 false (.slice none 0 0) 0 0 0 0 0) := by
    have hw1 : (w.alloc (.cells #[.slice none 0 0, .int .i64 0, .int .i64 0, .int .i64 0, .int .i64 0, .int .i64 0] 58)).heap.size = w.heap.size + 1 := by simp
    refine ⟨?_, ?_, (hr.alloc _).alloc _, ((Below.refl _ _).alloc (Nat.le_refl _) _).alloc (by simp) _, by omega, Nat.le_refl _, by omega, h1, hb⟩
    · have := Rdr.new (w.alloc (.cells #[.slice none 0 0, .int .i64 0, .int .i64 0, .int .i64 0, .int .i64 0, .int .i64 0] 58)) (some ⟨b, o, none⟩) n c 1
      rwa [hw1] at this
    · rw [heap_alloc_old _ _ (by simp)]
      exact heap_alloc_new w _
  clear hr hbs
  go_enter Try.func38, Try.ntmps38
  go_wp2_with fail
  refine (hA0.out.number hn hnc hc2).mono ?_
  rintro e w1 ⟨v1, k1, b1, rfl, p1, q1, -, N1, S1⟩
  clear c0
  go_wp2_with fail
  refine (S1.out.number hn hnc hc2).mono ?_
  rintro e w2 ⟨v2, k2, b2, rfl, p2, q2, -, N2, S2⟩
  obtain ⟨⟨c0, c1, c2, c3, c4, c5⟩, f0, f1, f2, f3, f4, f5⟩ := S2.out.six
  have S2' := Lib.hid ((S2.out.put 1 (.int .i64 v1) _ v1 _ _ _ _ rfl).put 2 (.int .i64 v2) _ _ v2 _ _ _ rfl)
  clear S1 S2 hA0
  go_wp2_with fail
  clear c0 c1 c2 c3 c4 c5 f0 f1 f2 f3 f4 f5
  refine (S2'.out.number hn hnc hc2).mono ?_
  rintro e w3 ⟨v3, k3, b3, rfl, p3, q3, -, N3, S3⟩
  clear S2'
  go_wp2_with fail
  refine (S3.out.number hn hnc hc2).mono ?_
  rintro e w4 ⟨v4, k4, b4, rfl, p4, q4, -, N4, S4⟩
  clear S3
  obtain ⟨⟨d0, d1, d2, d3, d4, d5⟩, h0, h2, h3, h4, h5, h6⟩ := S4.out.six
  have r2 := S4.out.rdr.cell2
  rcases head4 N1.out N2.out N3.out N4.out with ⟨rfl, hnone⟩ | ⟨rfl, e1, e2, e3, e4⟩
  · have HN := Lib.hid hnone
    have S5 := Lib.hid S4.out.again
    clear hnone
    go_wp2_with fail
    refine bodyPost_ret (v := .tuple #[.agg #[.slice none 0 0, .int .i64 v1, .int .i64 v2, .int .i64 0, .int .i64 0, .int .i64 0], .int .i64 0, .int .i64 1]) (by simp [results, Try.results38, go_sem, d0, d1, d2, d3, d4, d5]) rfl ?_
    exact ⟨S5.out.bel, .inl ⟨HN.out, _, _, _, _, _, _, _, _, _, rfl⟩⟩
  by_cases h41 : v1 < v4
  · have HN : Hid (ackP l = none) := by show _ = _; rw [ackP_4 e1 e2 e3, ackM_short e4 h41]
    have S5 := Lib.hid S4.out.again
    clear e1 e2 e3 e4
    go_wp2_with fail
    refine bodyPost_ret (v := .tuple #[.agg #[.slice none 0 0, .int .i64 v1, .int .i64 v2, .int .i64 0, .int .i64 0, .int .i64 0], .int .i64 0, .int .i64 1]) (by simp [results, Try.results38, go_sem, d0, d1, d2, d3, d4, d5]) rfl ?_
    exact ⟨S5.out.bel, .inl ⟨HN.out, _, _, _, _, _, _, _, _, _, rfl⟩⟩
  have hJ0 := ackM_some (l := l) (c := v3.toNat) [] e4 h41
  have HJ0 := Lib.hid hJ0
  have HE : Hid (∀ T, joinR [] (ackM l v3.toNat v1 k3) = T → ackP l = finP l v1 v2 T) := fun T hT => ackP_join e1 e2 e3 hT
  have hk14 : 1 ≤ k4 := by have := N1.out.1; have := N2.out.1; have := N3.out.1; have := N4.out.1; omega
  clear hJ0 e1 e2 e3 e4 N1 N2 N3
  have hk4 := S4.out.kn
  have HA0 : Hid (OwnE EPr (w.heap.size + 2) w4 (.slice none 0 0) []) := OwnE.nil_ _ _
  have hsz4 : Hid (w.heap.size + 2 ≤ w4.heap.size) := by show _ ≤ _; have := S4.out.rdr.lt; omega
  have HN := Lib.hid (new_cells (E := EPr) w4 [(v1 - v4, v1 + 1)] 47)
  go_wp2_with (at_builtin; refine wpList_appE (E := EPr) (w.heap.size + 2) _ rfl (.tmp 57) (.tmp 63) rfl _ [] rfl (HA0.out.alloc _) ⟨w4.heap.size, 0, none⟩ 1 1 [(v1 - v4, v1 + 1)] rfl rfl (by exact HN.out) (by simp) (by have := hsz4.out; simp; omega) ?_; intro v5 w5 ho1 hg1 ha1 hb1 hn1; obtain ⟨g5, cap5, rfl, A5, A6, C6⟩ := S4.out.app (acc := []) rfl ho1 hb1; obtain ⟨⟨c0, c1, c2, c3, c4, c5⟩, f0, f1, f2, f3, f4, f5⟩ := A5.out.six; clear ho1 hg1 ha1 hb1 hn1)
  clear c0 c1 c2 c3 c4 c5 f0 f1 f2 f3 f4 f5 d0 d1 d2 d3 d4 d5 h0 h2 h3 h4 h5 h6 r2 A5 HA0 hsz4 HN S4
  go_loopw [8, 67] (fun ls i wr => ∃ (j : Nat) (least : Int) (k : Nat) (A7 : Option Addr) (m c7 : Nat) (acc : Rgs), (j : Int) ≤ v3 ∧ i = .int .i64 j ∧ ls = .int .i64 least ∧ 0 ≤ least ∧ least ≤ 4611686018427387903 ∧ Hid (acc.length = m) ∧ m ≤ k ∧ Hid (Ast w w.heap.size (w.heap.size + 1) b o n c l wr k false (.slice A7 m c7) v1 v2 0 0 0) ∧ Hid (Acc w wr (.slice A7 m c7) acc) ∧ Hid (joinR [] (ackM l v3.toNat v1 k3) = joinR acc (ackG l (v3.toNat - j) least k))) (fun _ i _ => v3.toNat - (intOf i).toNat)
  case atStart => exact ⟨0, v1 - v4, k4, some ⟨g5, 0, none⟩, 1, cap5, [(v1 - v4, v1 + 1)], by omega, rfl, rfl, by omega, by omega, rfl, by omega, A6, C6, by show _ = _; rw [HJ0.out]; rfl⟩
  case round =>
    clear A6 C6 HJ0
    obtain ⟨j, least, k, A7, m, c7, acc, hj, rfl, rfl, l0, l1, Hm, hmk, SA, SC, HJ⟩ := hrel
    have hkn := SA.out.kn
    by_cases hlt : (j : Int) < v3
    · go_wp2_with fail
      refine (SA.out.number2 SC.out hn hnc hc2).mono ?_
      rintro e w6 ⟨v5, k5, b5, rfl, p5, q5, -, N5, S5, C5⟩
      clear SA SC
      go_wp2_with fail
      refine (S5.out.number2 C5.out hn hnc hc2).mono ?_
      rintro e w7 ⟨v6, k6, b6, rfl, p6, q6, -, N6, S6, C6⟩
      clear S5 C5
      have hcj : Hid (v3.toNat - j = (v3.toNat - (j + 1)) + 1) := by show _ = _; omega
      rw [hcj.out] at HJ
      obtain ⟨⟨d0, d1, d2, d3, d4, d5⟩, h0, h2, h3, h4, h5, h6⟩ := S6.out.six
      have r2 := S6.out.rdr.cell2
      rcases two (v3.toNat - (j + 1)) least acc N5.out N6.out with ⟨rfl, hno⟩ | ⟨rfl, hk6, hshort, hok⟩
      · have HN : Hid (ackP l = none) := by show _ = _; rw [HE.out none (by rw [HJ.out]; exact hno)]; rfl
        have S7 := Lib.hid S6.out.again
        clear hno
        go_wp2_with fail
        refine bodyPost_ret (v := .tuple #[.agg #[.slice A7 m c7, .int .i64 v1, .int .i64 v2, .int .i64 0, .int .i64 0, .int .i64 0], .int .i64 0, .int .i64 1]) (by simp [results, Try.results38, go_sem, d0, d1, d2, d3, d4, d5]) rfl ?_
        exact ⟨S7.out.bel, .inl ⟨HN.out, _, _, _, _, _, _, _, _, _, rfl⟩⟩
      have HSH := Lib.hid hshort
      have HOK := Lib.hid hok
      clear hshort hok
      by_cases hs : least - v5 - 2 < v6
      · have HN : Hid (ackP l = none) := by show _ = _; rw [HE.out none (by rw [HJ.out]; exact HSH.out hs)]; rfl
        have S7 := Lib.hid S6.out.again
        by_cases hg : least < v5 + 2
        · go_wp2_with fail
          refine bodyPost_ret (v := .tuple #[.agg #[.slice A7 m c7, .int .i64 v1, .int .i64 v2, .int .i64 0, .int .i64 0, .int .i64 0], .int .i64 0, .int .i64 1]) (by simp [results, Try.results38, go_sem, d0, d1, d2, d3, d4, d5]) rfl ?_
          exact ⟨S7.out.bel, .inl ⟨HN.out, _, _, _, _, _, _, _, _, _, rfl⟩⟩
        · go_wp2_with fail
          refine bodyPost_ret (v := .tuple #[.agg #[.slice A7 m c7, .int .i64 v1, .int .i64 v2, .int .i64 0, .int .i64 0, .int .i64 0], .int .i64 0, .int .i64 1]) (by simp [results, Try.results38, go_sem, d0, d1, d2, d3, d4, d5]) rfl ?_
          exact ⟨S7.out.bel, .inl ⟨HN.out, _, _, _, _, _, _, _, _, _, rfl⟩⟩
      · have HJ2 : Hid (joinR [] (ackM l v3.toNat v1 k3) = joinR (acc ++ [(least - v5 - 2 - v6, least - v5 - 2 + 1)]) (ackG l (v3.toNat - (j + 1)) (least - v5 - 2 - v6) k6)) := by show _ = _; rw [HJ.out]; exact HOK.out hs
        have hg : ¬ least < v5 + 2 := by omega
        have hsz4 : Hid (w.heap.size + 2 ≤ w7.heap.size) := by show _ ≤ _; have := S6.out.rdr.lt; omega
        have HN := Lib.hid (new_cells (E := EPr) w7 [(least - v5 - 2 - v6, least - v5 - 2 + 1)] 47)
        clear HOK HSH HJ
        go_wp2_with (at_builtin; refine wpList_appE (E := EPr) (w.heap.size + 2) _ rfl (.tmp 100) (.tmp 105) rfl _ acc rfl (OwnE.alloc C6.out _) ⟨w7.heap.size, 0, none⟩ 1 1 [(least - v5 - 2 - v6, least - v5 - 2 + 1)] rfl rfl (by exact HN.out) (by have := Hm.out; omega) (by have := hsz4.out; simp; omega) ?_; intro v7 w8 ho1 hg1 ha1 hb1 hn1; obtain ⟨g8, cap8, rfl, A8, A9, C9⟩ := S6.out.app Hm.out ho1 hb1; obtain ⟨⟨c0, c1, c2, c3, c4, c5⟩, f0, f1, f2, f3, f4, f5⟩ := A8.out.six; clear ho1 hg1 ha1 hb1 hn1)
        go_roundw
        case rel => exact ⟨j + 1, least - v5 - 2 - v6, k6, some ⟨g8, 0, none⟩, m + 1, cap8, _, by omega, by go_num, rfl, by omega, by omega, by show _ = _; simp [Hm.out], by omega, A9, C9, HJ2⟩
        case measure => simp [intOf]; omega
    · have hjv : Hid (v3.toNat - j = 0) := by show _ = _; omega
      have HP : Hid (ackP l = ecnP l acc v1 v2 k) := by show _ = _; rw [HE.out (some (acc, k)) (by rw [HJ.out, hjv.out]; exact ackG_zero l least k acc)]; rfl
      clear HJ HE
      have cx : wr.cell? ⟨b, o, none⟩ = some (.int .u8 2) := by
        obtain ⟨b', o', e, hc⟩ := SA.out.rd.2 (by rw [hn.out]; omega)
        obtain ⟨rfl, rfl⟩ : b = b' ∧ o = o' := by simpa using e
        have := hc 0 (by rw [hn.out]; omega)
        rwa [hx.out] at this
      have HP2 : Hid (ackP l = some ⟨acc, v1, v2, 0, 0, 0, k⟩) := by show _ = _; rw [HP.out, ecnP_no _ _ _ _ (by rw [hx.out]; decide)]
      obtain ⟨⟨d0, d1, d2, d3, d4, d5⟩, h0, h2, h3, h4, h5, h6⟩ := SA.out.six
      have r2 := SA.out.rdr.cell2
      go_wp2_with fail
      have r1 := SA.out.rdr.cell1
      have S10 := Lib.hid (SA.out.again.drewN 1)
      have C10 : Hid (Acc w _ (.slice A7 m c7) acc) := OwnE.drewN ((((((Acc.put SC.out 0 (.slice A7 m c7)).put 1 (.int .i64 v1)).put 2 (.int .i64 v2)).put 3 (.int .i64 0)).put 4 (.int .i64 0)).put 5 (.int .i64 0)) 1
      go_region
      go_wp2_with fail
      refine bodyPost_ret (v := .tuple #[.agg #[.slice A7 m c7, .int .i64 v1, .int .i64 v2, .int .i64 0, .int .i64 0, .int .i64 0], .int .i64 (k : Nat), .int .i64 0]) (by simp [results, Try.results38, go_sem, d0, d1, d2, d3, d4, d5]) rfl ?_
      exact SAckEnd.mk_ S10.out.bel HP2.out Hm.out C10.out

set_option maxRecDepth 100000 in
set_option maxHeartbeats 2000000 in
theorem sack3 (b o n c : Nat) (l : List Int) (w : World) (hr : Rd w (some ⟨b, o, none⟩) l) (hn : Hid (l.length = n)) (hnc : n ≤ c) (hc2 : c ≤ 9223372036854775807) (h1 : 1 ≤ n) (hn2 : n ≤ 2147483647) (hb : b < w.heap.size) (hx : Hid (l.getD 0 0 = 3)) :
    Calls Try.prog 38 #[.slice (some ⟨b, o, none⟩) n c] w fun e w' => SAckEnd w l e w' := by
  have hbs := hr.1
  have HBS := Lib.hid hbs
  have c0 : w.cell? ⟨b, o, none⟩ = some (.int .u8 3) := by
    obtain ⟨b', o', e, hc⟩ := hr.2 (by rw [hn.out]; omega)
    obtain ⟨rfl, rfl⟩ : b = b' ∧ o = o' := by simpa using e
    have := hc 0 (by rw [hn.out]; omega)
    rwa [hx.out] at this
  have HR := Lib.hid hr
  have hne : ((n : Int) == 0) = false := by simp; omega
  have hp0 : (0 : Int) < (n : Int) := by omega
  have hA0 : Hid (Ast w w.heap.size (w.heap.size + 1) b o n c l ((w.alloc (.cells #[.slice none 0 0, .int .i64 0, .int .i64 0, .int .i64 0, .int .i64 0, .int .i64 0] 58)).alloc (.cells #[.slice (some ⟨b, o, none⟩) n c, .int .i64 1, .bool false] 74)) 1 false (.slice none 0 0) 0 0 0 0 0) := by
    have hw1 : (w.alloc (.cells #[.slice none 0 0, .int .i64 0, .int .i64 0, .int .i64 0, .int .i64 0, .int .i64 0] 58)).heap.size = w.heap.size + 1 := by simp
    refine ⟨?_, ?_, (hr.alloc _).alloc _, ((Below.refl _ _).alloc (Nat.le_refl _) _).alloc (by simp) _, by omega, Nat.le_refl _, by omega, h1, hb⟩
    · have := Rdr.new (w.alloc (.cells #[.slice none 0 0, .int .i64 0, .int .i64 0, .int .i64 0, .int .i64 0, .int .i64 0] 58)) (some ⟨b, o, none⟩) n c 1
      rwa [hw1] at this
    · rw [heap_alloc_old _ _ (by simp)]
      exact heap_alloc_new w _
  clear hr hbs
  go_enter Try.func38, Try.ntmps38
  go_wp2_with fail
  refine (hA0.out.number hn hnc hc2).mono ?_
  rintro e w1 ⟨v1, k1, b1, rfl, p1, q1, -, N1, S1⟩
  clear c0
  go_wp2_with fail
  refine (S1.out.number hn hnc hc2).mono ?_
  rintro e w2 ⟨v2, k2, b2, rfl, p2, q2, -, N2, S2⟩
  obtain ⟨⟨c0, c1, c2, c3, c4, c5⟩, f0, f1, f2, f3, f4, f5⟩ := S2.out.six
  have S2' := Lib.hid ((S2.out.put 1 (.int .i64 v1) _ v1 _ _ _ _ rfl).put 2 (.int .i64 v2) _ _ v2 _ _ _ rfl)
  clear S1 S2 hA0
  go_wp2_with fail
  clear c0 c1 c2 c3 c4 c5 f0 f1 f2 f3 f4 f5
  refine (S2'.out.number hn hnc hc2).mono ?_
  rintro e w3 ⟨v3, k3, b3, rfl, p3, q3, -, N3, S3⟩
  clear S2'
  go_wp2_with fail
  refine (S3.out.number hn hnc hc2).mono ?_
  rintro e w4 ⟨v4, k4, b4, rfl, p4, q4, -, N4, S4⟩
  clear S3
  obtain ⟨⟨d0, d1, d2, d3, d4, d5⟩, h0, h2, h3, h4, h5, h6⟩ := S4.out.six
  have r2 := S4.out.rdr.cell2
  rcases head4 N1.out N2.out N3.out N4.out with ⟨rfl, hnone⟩ | ⟨rfl, e1, e2, e3, e4⟩
  · have HN := Lib.hid hnone
    have S5 := Lib.hid S4.out.again
    clear hnone
    go_wp2_with fail
    refine bodyPost_ret (v := .tuple #[.agg #[.slice none 0 0, .int .i64 v1, .int .i64 v2, .int .i64 0, .int .i64 0, .int .i64 0], .int .i64 0, .int .i64 1]) (by simp [results, Try.results38, go_sem, d0, d1, d2, d3, d4, d5]) rfl ?_
    exact ⟨S5.out.bel, .inl ⟨HN.out, _, _, _, _, _, _, _, _, _, rfl⟩⟩
  by_cases h41 : v1 < v4
  · have HN : Hid (ackP l = none) := by show _ = _; rw [ackP_4 e1 e2 e3, ackM_short e4 h41]
    have S5 := Lib.hid S4.out.again
    clear e1 e2 e3 e4
    go_wp2_with fail
    refine bodyPost_ret (v := .tuple #[.agg #[.slice none 0 0, .int .i64 v1, .int .i64 v2, .int .i64 0, .int .i64 0, .int .i64 0], .int .i64 0, .int .i64 1]) (by simp [results, Try.results38, go_sem, d0, d1, d2, d3, d4, d5]) rfl ?_
    exact ⟨S5.out.bel, .inl ⟨HN.out, _, _, _, _, _, _, _, _, _, rfl⟩⟩
  have hJ0 := ackM_some (l := l) (c := v3.toNat) [] e4 h41
  have HJ0 := Lib.hid hJ0
  have HE : Hid (∀ T, joinR [] (ackM l v3.toNat v1 k3) = T → ackP l = finP l v1 v2 T) := fun T hT => ackP_join e1 e2 e3 hT
  have hk14 : 1 ≤ k4 := by have := N1.out.1; have := N2.out.1; have := N3.out.1; have := N4.out.1; omega
  clear hJ0 e1 e2 e3 e4 N1 N2 N3
  have hk4 := S4.out.kn
  have HA0 : Hid (OwnE EPr (w.heap.size + 2) w4 (.slice none 0 0) []) := OwnE.nil_ _ _
  have hsz4 : Hid (w.heap.size + 2 ≤ w4.heap.size) := by show _ ≤ _; have := S4.out.rdr.lt; omega
  have HN := Lib.hid (new_cells (E := EPr) w4 [(v1 - v4, v1 + 1)] 47)
  go_wp2_with (at_builtin; refine wpList_appE (E := EPr) (w.heap.size + 2) _ rfl (.tmp 57) (.tmp 63) rfl _ [] rfl (HA0.out.alloc _) ⟨w4.heap.size, 0, none⟩ 1 1 [(v1 - v4, v1 + 1)] rfl rfl (by exact HN.out) (by simp) (by have := hsz4.out; simp; omega) ?_; intro v5 w5 ho1 hg1 ha1 hb1 hn1; obtain ⟨g5, cap5, rfl, A5, A6, C6⟩ := S4.out.app (acc := []) rfl ho1 hb1; obtain ⟨⟨c0, c1, c2, c3, c4, c5⟩, f0, f1, f2, f3, f4, f5⟩ := A5.out.six; clear ho1 hg1 ha1 hb1 hn1)
  clear c0 c1 c2 c3 c4 c5 f0 f1 f2 f3 f4 f5 d0 d1 d2 d3 d4 d5 h0 h2 h3 h4 h5 h6 r2 A5 HA0 hsz4 HN S4
  go_loopw [8, 67] (fun ls i wr => ∃ (j : Nat) (least : Int) (k : Nat) (A7 : Option Addr) (m c7 : Nat) (acc : Rgs), (j : Int) ≤ v3 ∧ i = .int .i64 j ∧ ls = .int .i64 least ∧ 0 ≤ least ∧ least ≤ 4611686018427387903 ∧ Hid (acc.length = m) ∧ m ≤ k ∧ Hid (Ast w w.heap.size (w.heap.size + 1) b o n c l wr k false (.slice A7 m c7) v1 v2 0 0 0) ∧ Hid (Acc w wr (.slice A7 m c7) acc) ∧ Hid (joinR [] (ackM l v3.toNat v1 k3) = joinR acc (ackG l (v3.toNat - j) least k))) (fun _ i _ => v3.toNat - (intOf i).toNat)
  case atStart => exact ⟨0, v1 - v4, k4, some ⟨g5, 0, none⟩, 1, cap5, [(v1 - v4, v1 + 1)], by omega, rfl, rfl, by omega, by omega, rfl, by omega, A6, C6, by show _ = _; rw [HJ0.out]; rfl⟩
  case round =>
    clear A6 C6 HJ0
    obtain ⟨j, least, k, A7, m, c7, acc, hj, rfl, rfl, l0, l1, Hm, hmk, SA, SC, HJ⟩ := hrel
    have hkn := SA.out.kn
    by_cases hlt : (j : Int) < v3
    · go_wp2_with fail
      refine (SA.out.number2 SC.out hn hnc hc2).mono ?_
      rintro e w6 ⟨v5, k5, b5, rfl, p5, q5, -, N5, S5, C5⟩
      clear SA SC
      go_wp2_with fail
      refine (S5.out.number2 C5.out hn hnc hc2).mono ?_
      rintro e w7 ⟨v6, k6, b6, rfl, p6, q6, -, N6, S6, C6⟩
      clear S5 C5
      have hcj : Hid (v3.toNat - j = (v3.toNat - (j + 1)) + 1) := by show _ = _; omega
      rw [hcj.out] at HJ
      obtain ⟨⟨d0, d1, d2, d3, d4, d5⟩, h0, h2, h3, h4, h5, h6⟩ := S6.out.six
      have r2 := S6.out.rdr.cell2
      rcases two (v3.toNat - (j + 1)) least acc N5.out N6.out with ⟨rfl, hno⟩ | ⟨rfl, hk6, hshort, hok⟩
      · have HN : Hid (ackP l = none) := by show _ = _; rw [HE.out none (by rw [HJ.out]; exact hno)]; rfl
        have S7 := Lib.hid S6.out.again
        clear hno
        go_wp2_with fail
        refine bodyPost_ret (v := .tuple #[.agg #[.slice A7 m c7, .int .i64 v1, .int .i64 v2, .int .i64 0, .int .i64 0, .int .i64 0], .int .i64 0, .int .i64 1]) (by simp [results, Try.results38, go_sem, d0, d1, d2, d3, d4, d5]) rfl ?_
        exact ⟨S7.out.bel, .inl ⟨HN.out, _, _, _, _, _, _, _, _, _, rfl⟩⟩
      have HSH := Lib.hid hshort
      have HOK := Lib.hid hok
      clear hshort hok
      by_cases hs : least - v5 - 2 < v6
      · have HN : Hid (ackP l = none) := by show _ = _; rw [HE.out none (by rw [HJ.out]; exact HSH.out hs)]; rfl
        have S7 := Lib.hid S6.out.again
        by_cases hg : least < v5 + 2
        · go_wp2_with fail
          refine bodyPost_ret (v := .tuple #[.agg #[.slice A7 m c7, .int .i64 v1, .int .i64 v2, .int .i64 0, .int .i64 0, .int .i64 0], .int .i64 0, .int .i64 1]) (by simp [results, Try.results38, go_sem, d0, d1, d2, d3, d4, d5]) rfl ?_
          exact ⟨S7.out.bel, .inl ⟨HN.out, _, _, _, _, _, _, _, _, _, rfl⟩⟩
        · go_wp2_with fail
          refine bodyPost_ret (v := .tuple #[.agg #[.slice A7 m c7, .int .i64 v1, .int .i64 v2, .int .i64 0, .int .i64 0, .int .i64 0], .int .i64 0, .int .i64 1]) (by simp [results, Try.results38, go_sem, d0, d1, d2, d3, d4, d5]) rfl ?_
          exact ⟨S7.out.bel, .inl ⟨HN.out, _, _, _, _, _, _, _, _, _, rfl⟩⟩
      · have HJ2 : Hid (joinR [] (ackM l v3.toNat v1 k3) = joinR (acc ++ [(least - v5 - 2 - v6, least - v5 - 2 + 1)]) (ackG l (v3.toNat - (j + 1)) (least - v5 - 2 - v6) k6)) := by show _ = _; rw [HJ.out]; exact HOK.out hs
        have hg : ¬ least < v5 + 2 := by omega
        have hsz4 : Hid (w.heap.size + 2 ≤ w7.heap.size) := by show _ ≤ _; have := S6.out.rdr.lt; omega
        have HN := Lib.hid (new_cells (E := EPr) w7 [(least - v5 - 2 - v6, least - v5 - 2 + 1)] 47)
        clear HOK HSH HJ
        go_wp2_with (at_builtin; refine wpList_appE (E := EPr) (w.heap.size + 2) _ rfl (.tmp 100) (.tmp 105) rfl _ acc rfl (OwnE.alloc C6.out _) ⟨w7.heap.size, 0, none⟩ 1 1 [(least - v5 - 2 - v6, least - v5 - 2 + 1)] rfl rfl (by exact HN.out) (by have := Hm.out; omega) (by have := hsz4.out; simp; omega) ?_; intro v7 w8 ho1 hg1 ha1 hb1 hn1; obtain ⟨g8, cap8, rfl, A8, A9, C9⟩ := S6.out.app Hm.out ho1 hb1; obtain ⟨⟨c0, c1, c2, c3, c4, c5⟩, f0, f1, f2, f3, f4, f5⟩ := A8.out.six; clear ho1 hg1 ha1 hb1 hn1)
        go_roundw
        case rel => exact ⟨j + 1, least - v5 - 2 - v6, k6, some ⟨g8, 0, none⟩, m + 1, cap8, _, by omega, by go_num, rfl, by omega, by omega, by show _ = _; simp [Hm.out], by omega, A9, C9, HJ2⟩
        case measure => simp [intOf]; omega
    · have hjv : Hid (v3.toNat - j = 0) := by show _ = _; omega
      have HP : Hid (ackP l = ecnP l acc v1 v2 k) := by show _ = _; rw [HE.out (some (acc, k)) (by rw [HJ.out, hjv.out]; exact ackG_zero l least k acc)]; rfl
      clear HJ HE
      have cx : wr.cell? ⟨b, o, none⟩ = some (.int .u8 3) := by
        obtain ⟨b', o', e, hc⟩ := SA.out.rd.2 (by rw [hn.out]; omega)
        obtain ⟨rfl, rfl⟩ : b = b' ∧ o = o' := by simpa using e
        have := hc 0 (by rw [hn.out]; omega)
        rwa [hx.out] at this
      go_wp2_with fail
      refine (SA.out.number2 SC.out hn hnc hc2).mono ?_
      rintro e w6 ⟨x0, k5, b5, rfl, -, -, -, N5, S5, C5⟩
      clear SA SC cx
      go_wp2_with fail
      refine (S5.out.number2 C5.out hn hnc hc2).mono ?_
      rintro e w7 ⟨x1, k6, b6, rfl, -, -, -, N6, S6, C6⟩
      clear S5 C5
      go_wp2_with fail
      refine (S6.out.number2 C6.out hn hnc hc2).mono ?_
      rintro e w8 ⟨x2, k7, b7, rfl, -, -, -, N7, S7, C7⟩
      clear S6 C6
      obtain ⟨⟨d0, d1, d2, d3, d4, d5⟩, h0, h2, h3, h4, h5, h6⟩ := S7.out.six
      have r2 := S7.out.rdr.cell2
      have S8 := Lib.hid (((S7.out.put 3 (.int .i64 x0) _ _ _ x0 _ _ rfl).put 4 (.int .i64 x1) _ _ _ _ x1 _ rfl).put 5 (.int .i64 x2) _ _ _ _ _ x2 rfl)
      have C8 := Lib.hid (((Acc.put C7.out 3 (.int .i64 x0)).put 4 (.int .i64 x1)).put 5 (.int .i64 x2))
      clear S7 C7
      rcases ecn3 acc v1 v2 hx.out N5.out N6.out N7.out with ⟨rfl, hno⟩ | ⟨rfl, hok⟩
      · have HN : Hid (ackP l = none) := by show _ = _; rw [HP.out]; exact hno
        have S9 := Lib.hid S8.out.again
        clear hno
        go_wp2_with fail
        obtain ⟨⟨d0, d1, d2, d3, d4, d5⟩, -⟩ := S8.out.six
        refine bodyPost_ret (v := .tuple #[.agg #[.slice A7 m c7, .int .i64 v1, .int .i64 v2, .int .i64 x0, .int .i64 x1, .int .i64 x2], .int .i64 0, .int .i64 1]) (by simp [results, Try.results38, go_sem, d0, d1, d2, d3, d4, d5]) rfl ?_
        exact ⟨S9.out.bel, .inl ⟨HN.out, _, _, _, _, _, _, _, _, _, rfl⟩⟩
      · have HP2 : Hid (ackP l = some ⟨acc, v1, v2, x0, x1, x2, k7⟩) := by show _ = _; rw [HP.out]; exact hok
        clear hok
        go_wp2_with fail
        obtain ⟨w9, hw9⟩ : ∃ w9, ((w8.setCell ⟨w.heap.size, 3, none⟩ (.int .i64 x0)).setCell ⟨w.heap.size, 4, none⟩ (.int .i64 x1)).setCell ⟨w.heap.size, 5, none⟩ (.int .i64 x2) = w9 := ⟨_, rfl⟩
        rw [hw9] at S8 C8 ⊢
        clear hw9 d0 d1 d2 d3 d4 d5 h0 h2 h3 h4 h5 h6 r2
        obtain ⟨⟨d0, d1, d2, d3, d4, d5⟩, h0, h2, h3, h4, h5, h6⟩ := S8.out.six
        have r1 := S8.out.rdr.cell1
        have S10 := Lib.hid (S8.out.again.drewN 1)
        have C10 : Hid (Acc w _ (.slice A7 m c7) acc) := OwnE.drewN ((((((Acc.put C8.out 0 (.slice A7 m c7)).put 1 (.int .i64 v1)).put 2 (.int .i64 v2)).put 3 (.int .i64 x0)).put 4 (.int .i64 x1)).put 5 (.int .i64 x2)) 1
        go_region
        go_wp2_with fail
        refine bodyPost_ret (v := .tuple #[.agg #[.slice A7 m c7, .int .i64 v1, .int .i64 v2, .int .i64 x0, .int .i64 x1, .int .i64 x2], .int .i64 (k7 : Nat), .int .i64 0]) (by simp [results, Try.results38, go_sem, d0, d1, d2, d3, d4, d5]) rfl ?_
        exact SAckEnd.mk_ S10.out.bel HP2.out Hm.out C10.out

end Go.Proofs.Ytdogepkfgobcfaa

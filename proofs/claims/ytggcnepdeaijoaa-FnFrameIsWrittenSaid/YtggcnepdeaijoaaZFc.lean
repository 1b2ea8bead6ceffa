/- Slices of numbers and of slices of bytes; ZZFrame's two closures. Conditions: the slices read as they are told. -/
import Derived.Test.YtggcnepdeaijoaaElt
import Derived.Test.YtggcnepdeaijoaaClone
import Derived.Test.YtggcnepdeaijoaaCells
import Derived.Deep.RegionLaw
import Derived.Deep.CutRange
namespace Go.Proofs.Ytggcnepdeaijoaa
open Go.RowKit
set_option linter.unusedVariables false

theorem info_i64 : (Try.prog.info? 2).map (fun i => (i.zero, i.size, i.bytes)) = some (some (.int .i64 0), 1, 8) := by kernel_rfl
theorem info_sl : (Try.prog.info? 22).map (fun i => (i.zero, i.size, i.bytes)) = some (some (.slice none 0 0), 1, 24) := by kernel_rfl
def EI : Elt Int where
  t := 23
  e := 2
  k := 1
  f := fun x => [.int .i64 x]
  len := fun _ => rfl
  one := fun a u hu => by
    simp at hu
    subst hu
    rfl
  pos := by decide
  und := Try.underlying23
  info := by
    obtain ⟨i, hi, h0, h1, h2⟩ := info_parts info_i64
    exact ⟨i, _, hi, h0, h1, rfl, by omega⟩
/-- A slice's address, length, capacity. -/
abbrev Tri := Option Addr × Nat × Nat
def triV (t : Tri) : Value := .slice t.1 t.2.1 t.2.2
def EB : Elt Tri where
  t := 24
  e := 22
  k := 1
  f := fun x => [triV x]
  len := fun _ => rfl
  one := fun a u hu => by
    simp at hu
    subst hu
    rfl
  pos := by decide
  und := Try.underlying24
  info := by
    obtain ⟨i, hi, h0, h1, h2⟩ := info_parts info_sl
    exact ⟨i, _, hi, h0, h1, rfl, by omega⟩

/-- The slice value at A reads as the elements l. -/
def RdE {α : Type} (E : Elt α) (w : World) (A : Option Addr) (l : List α) : Prop :=
  0 < l.length → ∃ b o, A = some ⟨b, o, none⟩ ∧ ∀ (i j : Nat) (v : Value) (hi : i < l.length), j < E.k → (E.f l[i])[j]? = some v → w.cell? ⟨b, o + (i * E.k + j), none⟩ = some v
section
variable {α : Type} {E : Elt α} {w w' : World} {A : Option Addr} {l : List α}
theorem RdE.keep (h : RdE E w A l) (hk : ∀ p : Addr, p.block < w.heap.size → w'.cell? p = w.cell? p) : RdE E w' A l := by
  intro hl
  obtain ⟨b, o, e, hc⟩ := h hl
  refine ⟨b, o, e, fun i j v hi hj hv => ?_⟩
  have := hc i j v hi hj hv
  rw [hk _ (World.block_lt_of_cell? _ _ this)]
  exact this
theorem RdE.below (h : RdE E w A l) (hb : Below w.heap.size w w') : RdE E w' A l := h.keep fun _ hp => hb.cell hp
theorem RdE.drewN (h : RdE E w A l) (n : Nat) : RdE E (w.drewN n) A l := h
theorem RdE.nil_ (E : Elt α) (w : World) (A : Option Addr) : RdE E w A [] := fun h => by simp at h
theorem OwnE.rdE {B : Nat} {n c : Nat} (h : OwnE E B w (.slice A n c) l) : RdE E w A l := by
  intro hl
  rcases h.form with ⟨_, e⟩ | ⟨g, c', e, _⟩
  · rw [e] at hl; cases hl
  · simp only [Value.slice.injEq] at e
    obtain ⟨rfl, rfl, rfl⟩ := e
    exact ⟨g, 0, rfl, fun i j v hi hj hv => by rw [Nat.zero_add]; exact h.cell i j v hi hj hv⟩
theorem OwnE.shape {B : Nat} {s : Value} (h : OwnE E B w s l) : ∃ A c, s = .slice A l.length c ∧ RdE E w A l ∧ l.length ≤ c ∧ c ≤ maxLen := by
  rcases h.form with ⟨rfl, rfl⟩ | ⟨g, c', rfl, h1, h2, h3, h4⟩
  · exact ⟨none, 0, rfl, RdE.nil_ _ _ _, by simp, by simp⟩
  · exact ⟨_, _, rfl, h.rdE, h3, h4⟩
/-- A new block of elements reads as them. -/
theorem RdE.new (w : World) (l : List α) (t : TypeId) : RdE E (w.alloc (.cells (flat E l).toArray t)) (some ⟨w.heap.size, 0, none⟩) l := fun _ => ⟨w.heap.size, 0, rfl, fun i j v hi hj hv => by
  have hu : (flat E l)[i * E.k + j]? = some v := (flat_get E l i j hi hj).trans hv
  have := new_cells (E := E) w l t (i * E.k + j) v hu
  rwa [Addr.add_lit] at this⟩
end
theorem RdE.at1 {E : Elt Int} {w : World} {b o : Nat} {l : List Int} (hE : E.f = fun x => [.int .i64 x]) (hk : E.k = 1) (h : ∀ (i j : Nat) (v : Value) (hi : i < l.length), j < E.k → (E.f l[i])[j]? = some v → w.cell? ⟨b, o + (i * E.k + j), none⟩ = some v) (i : Nat) (hi : i < l.length) : w.cell? ⟨b, o + i, none⟩ = some (.int .i64 l[i]) := by
  have := h i 0 (.int .i64 l[i]) hi (by omega) (by rw [hE]; rfl)
  rwa [hk, Nat.mul_one, Nat.add_zero] at this
theorem RdE.atB {w : World} {b o : Nat} {l : List Tri} (h : ∀ (i j : Nat) (v : Value) (hi : i < l.length), j < EB.k → (EB.f l[i])[j]? = some v → w.cell? ⟨b, o + (i * EB.k + j), none⟩ = some v) (i : Nat) (hi : i < l.length) : w.cell? ⟨b, o + i, none⟩ = some (.slice l[i].1 l[i].2.1 l[i].2.2) := by
  have := h i 0 (triV l[i]) hi (by decide) rfl
  rwa [show EB.k = 1 from rfl, Nat.mul_one, Nat.add_zero] at this

/-- A slice of bytes that reads as d. -/
def Rt (w : World) (t : Tri) (d : List Int) : Prop := Rd w t.1 d ∧ d.length = t.2.1 ∧ t.2.1 ≤ t.2.2 ∧ t.2.2 ≤ 9223372036854775807 ∧ (t.1 = none → t.2.2 = 0)
theorem Rt.below {w w' : World} {t : Tri} {d : List Int} (h : Rt w t d) (hb : Below w.heap.size w w') : Rt w' t d := ⟨h.1.below hb, h.2⟩
theorem Rt.drewN {w : World} {t : Tri} {d : List Int} (h : Rt w t d) (n : Nat) : Rt (w.drewN n) t d := h
/-- Slices of bytes that read as ds. -/
def Rts (w : World) (ts : List Tri) (ds : List (List Int)) : Prop := ts.length = ds.length ∧ ∀ (i : Nat) (t : Tri) (d : List Int), ts[i]? = some t → ds[i]? = some d → Rt w t d
theorem Rts.nil_ (w : World) : Rts w [] [] := ⟨rfl, fun i t d h => by simp at h⟩
theorem Rts.one {w : World} {t : Tri} {d : List Int} (h : Rt w t d) : Rts w [t] [d] := ⟨rfl, fun i t' d' h1 h2 => by
  match i with
  | 0 => simp at h1 h2; rw [← h1, ← h2]; exact h
  | i + 1 => simp at h1⟩
theorem Rts.two {w : World} {t t2 : Tri} {d d2 : List Int} (h : Rt w t d) (h' : Rt w t2 d2) : Rts w [t, t2] [d, d2] := ⟨rfl, fun i t' d' h1 h2 => by
  match i with
  | 0 => simp at h1 h2; rw [← h1, ← h2]; exact h
  | 1 => simp at h1 h2; rw [← h1, ← h2]; exact h'
  | i + 2 => simp at h1⟩
theorem Rts.below {w w' : World} {ts : List Tri} {ds : List (List Int)} (h : Rts w ts ds) (hb : Below w.heap.size w w') : Rts w' ts ds := ⟨h.1, fun i t d h1 h2 => (h.2 i t d h1 h2).below hb⟩
theorem Rts.drewN {w : World} {ts : List Tri} {ds : List (List Int)} (h : Rts w ts ds) (n : Nat) : Rts (w.drewN n) ts ds := ⟨h.1, fun i t d h1 h2 => (h.2 i t d h1 h2).drewN n⟩
theorem Rts.snoc {w : World} {ts : List Tri} {ds : List (List Int)} {t : Tri} {d : List Int} (h : Rts w ts ds) (ht : Rt w t d) : Rts w (ts ++ [t]) (ds ++ [d]) := by
  refine ⟨by simp [h.1], fun i t' d' h1 h2 => ?_⟩
  by_cases hlt : i < ts.length
  · rw [List.getElem?_append_left hlt] at h1
    rw [List.getElem?_append_left (by rw [← h.1]; exact hlt)] at h2
    exact h.2 i t' d' h1 h2
  · have hi : i = ts.length := by
      have := (List.getElem?_eq_some_iff.1 h1).1
      simp at this
      omega
    subst hi
    simp at h1
    rw [h.1] at h2
    simp at h2
    rw [← h1, ← h2]
    exact ht

/-- bytes.Clone of any slice. -/
theorem cln (A : Option Addr) (n c : Nat) (l : List Int) (w : World) (hr : Rd w A l) (hn : Hid (l.length = n)) (hz : Hid (A = none → c = 0)) (hnc : n ≤ c) (hb : n ≤ 140737488355328) :
    Calls Try.prog 18 #[.slice A n c] w fun e w' => ∃ A' c', e = .returned (.slice A' n c') ∧ Hid (Rt w' (A', n, c') l ∧ Below w.heap.size w w' ∧ ∀ a, A' = some a → w.heap.size ≤ a.block) := by
  cases A with
  | none =>
    have h0 := hz.out rfl
    subst h0
    obtain rfl : n = 0 := by omega
    refine (clone_nil 0 0 w).mono ?_
    rintro e w' ⟨rfl, rfl⟩
    exact ⟨none, 0, rfl, ⟨hr, hn.out, by omega, by simp, fun _ => rfl⟩, Below.refl _ _, fun a h => by cases h⟩
  | some ad =>
    refine (clone_some ad n c l w hr hn hb).mono ?_
    rintro e w' ⟨⟨g, cap, rfl, ho, h1, h2⟩, hb'⟩
    exact ⟨_, _, rfl, ⟨Rd.of_own ho, hn.out, h1, h2, fun h => by cases h⟩, hb', fun a h => by obtain rfl : (⟨g, 0, none⟩ : Addr) = a := (by simpa using h); exact (ho.lt g rfl).1⟩

set_option maxRecDepth 100000 in
set_option maxHeartbeats 1000000 in
/-- The closure of the values. -/
theorem zfv (h : Nat) (A : Option Addr) (n c : Nat) (V : Value) (w : World) (hv : w.heap[h]? = some (.cells #[V] 23 (0, 0))) :
    Calls Try.prog 16 #[.slice A n c, .pointer (some ⟨h, 0, none⟩)] w fun e w' => e = .returned (.tuple #[]) ∧ w' = w.setCell ⟨h, 0, none⟩ (.slice A n c) := by
  have c0 : w.cell? ⟨h, 0, none⟩ = some V := by rw [cell_of_row _ _ 0 _ _ (0, 0) hv]; rfl
  have f0 := cell_free 0 hv
  clear hv
  go_enter Try.func16, Try.ntmps16
  go_wp2_with fail
  go_end0
  exact ⟨rfl, rfl⟩

/-- What reads as bytes lies in no box of a slice. -/
theorem Rd.no_box {w : World} {A : Option Addr} {l : List Int} {q : Nat} {a : Option Addr} {n c : Nat} {t : TypeId} (h : Rd w A l) (hq : w.heap[q]? = some (.cells #[.slice a n c] t (0, 0))) : 0 < l.length → Sep A (some q) := fun hl ad ha e => by
  obtain ⟨b, o, e', hc⟩ := h.2 hl
  rw [ha] at e'
  obtain rfl : ad = ⟨b, o, none⟩ := by simpa using e'
  obtain rfl : q = b := by simpa using e
  have := hc 0 hl
  rw [cell_of_row _ _ _ _ _ (0, 0) hq] at this
  cases ho : (o + 0) with
  | zero => rw [ho] at this; simp at this
  | succ k => rw [ho] at this; simp at this

theorem Fo.of_below {B q : Nat} {w w' : World} (h : Below w.heap.size w w') (hB : B ≤ w.heap.size) (hq : q ≤ w.heap.size) : Fo B q w w' := ⟨fun j h1 _ => h.block j (by omega), h.mono hq, h.size⟩
theorem Fo.from_drew {B q : Nat} {w w' : World} (h : Fo B q w.drew w') : Fo B q w w' := ⟨h.blk, ⟨h.bel.os, h.bel.tape, h.bel.output, h.bel.size, h.bel.block⟩, h.size⟩

/-- The variable of the data in block q: its slice, made by the call, holds ts, which read as ds. -/
structure Dc (B q : Nat) (w : World) (D : Value) (ts : List Tri) (ds : List (List Int)) : Prop where
  bx : w.heap[q]? = some (.cells #[D] 24 (0, 0))
  own : OwnE EB B w D ts
  rts : Rts w ts ds
  sep : ∀ (i : Nat) (t : Tri) (d : List Int), ts[i]? = some t → ds[i]? = some d → 0 < d.length → Sep t.1 D.ownBlock
  lt : q < B
  le : B ≤ w.heap.size
section
variable {B q : Nat} {w w' w1 w2 : World} {D : Value} {ts : List Tri} {ds : List (List Int)}
theorem Dc.cell (h : Dc B q w D ts ds) : w.cell? ⟨q, 0, none⟩ = some D ∧ w.frozen? ⟨q, 0, none⟩ = false := by
  refine ⟨?_, cell_free 0 h.bx⟩
  rw [cell_of_row _ _ 0 _ _ (0, 0) h.bx]; rfl
theorem Dc.drewN (h : Dc B q w D ts ds) (n : Nat) : Dc B q (w.drewN n) D ts ds := ⟨h.bx, h.own.drewN n, h.rts.drewN n, h.sep, h.lt, h.le⟩
theorem Dc.below (h : Dc B q w D ts ds) (hb : Below w.heap.size w w') : Dc B q w' D ts ds := ⟨(hb.block q (Nat.lt_of_lt_of_le h.lt h.le)).trans h.bx, h.own.below hb, h.rts.below hb, h.sep, h.lt, Nat.le_trans h.le hb.size⟩
theorem Dc.off (h : Dc B q w D ts ds) : D.ownBlock ≠ some q := fun e => by have := (h.own.lt _ e).1; have := h.lt; omega
theorem Dc.new (w : World) (hq : w.heap[q]? = some (.cells #[.slice none 0 0] 24 (0, 0))) : Dc w.heap.size q w (.slice none 0 0) [] [] :=
  ⟨hq, OwnE.nil_ _ _, Rts.nil_ _, fun i t d h => by simp at h, cell_in hq, Nat.le_refl _⟩
theorem Dc.app {ob : Obj} {v2 : Value} {t : Tri} {d : List Int} (h : Dc B q w1 D ts ds) (ho : OwnE EB B w2 v2 (ts ++ [t])) (hg : (w1.alloc ob).grownBy w2 D.ownBlock) (ha : v2.ownBlock = D.ownBlock ∨ v2.ownBlock = some (w1.alloc ob).heap.size) (hb : Below B (w1.alloc ob) w2) (ht : Rt w1 t d) (hs : 0 < d.length → Sep t.1 D.ownBlock) (m : Nat) (hm : ts.length = m) :
    ∃ g c, v2 = .slice (some ⟨g, 0, none⟩) (m + 1) c ∧ w2.cell? ⟨q, 0, none⟩ = some D ∧ w2.frozen? ⟨q, 0, none⟩ = false ∧ Hid (Dc B q (w2.setCell ⟨q, 0, none⟩ (.slice (some ⟨g, 0, none⟩) (m + 1) c)) (.slice (some ⟨g, 0, none⟩) (m + 1) c) (ts ++ [t]) (ds ++ [d]) ∧ Fo B q w1 (w2.setCell ⟨q, 0, none⟩ (.slice (some ⟨g, 0, none⟩) (m + 1) c))) := by
  subst hm
  have hB := h.le
  have hlt := h.lt
  have hb2 : Below B w1 w2 := ((Below.refl _ _).alloc hB ob).trans hb
  have hq1 := (hb2.block q hlt).trans h.bx
  obtain ⟨g, c, e⟩ : ∃ g c, v2 = .slice (some ⟨g, 0, none⟩) (ts.length + 1) c := by
    rcases ho.form with ⟨_, e⟩ | ⟨g, c', e, _⟩
    · simp at e
    · exact ⟨g, c', by rw [e]; simp⟩
  subst e
  have hrt : ∀ (t' : Tri) (d' : List Int), Rt w1 t' d' → (0 < d'.length → Sep t'.1 D.ownBlock) → Rt (w2.setCell ⟨q, 0, none⟩ (.slice (some ⟨g, 0, none⟩) (ts.length + 1) c)) t' d' := fun t' d' h1 h2 => by
    have r1 : Rd w2 t'.1 d' := (h1.1.alloc ob).grown hg h2
    have hD : ∃ a n c0, D = .slice a n c0 := by
      rcases h.own.form with ⟨e, _⟩ | ⟨g', c', e, _⟩
      · exact ⟨_, _, _, e⟩
      · exact ⟨_, _, _, e⟩
    obtain ⟨a, n0, c0, hD⟩ := hD
    rw [hD] at hq1
    exact ⟨r1.grown (cgrown w2 q 0 _) (r1.no_box hq1), h1.2⟩
  refine ⟨g, c, rfl, by rw [cell_of_row w2 q 0 _ _ (0, 0) hq1]; rfl, cell_free _ hq1, ⟨cell_at 0 _ hq1 rfl, ?_, ?_, ?_, hlt, ?_⟩, ?_⟩
  · exact ho.kept (cgrown _ _ _ _) (.inr fun e => by have := (ho.lt _ e).1; omega)
  · have hl := h.rts.1
    exact Rts.snoc (⟨hl, fun i t' d' h1 h2 => hrt t' d' (h.rts.2 i t' d' h1 h2) (h.sep i t' d' h1 h2)⟩ : Rts _ ts ds) (hrt t d ht hs)
  · intro i t' d' h1 h2 hpos ad hat
    have hsz : ∀ (t'' : Tri) (d'' : List Int), Rt w1 t'' d'' → 0 < d''.length → t''.1 = some ad → ad.block < w1.heap.size := fun t'' d'' hr hp hx => by
      obtain ⟨b, o, e', hc⟩ := hr.1.2 hp
      rw [hx] at e'
      obtain rfl : ad = ⟨b, o, none⟩ := by simpa using e'
      exact World.block_lt_of_cell? _ _ (hc 0 hp)
    have key : Rt w1 t' d' ∧ Sep t'.1 D.ownBlock := by
      by_cases hi : i < ts.length
      · rw [List.getElem?_append_left hi] at h1
        rw [List.getElem?_append_left (by rw [← h.rts.1]; exact hi)] at h2
        exact ⟨h.rts.2 i t' d' h1 h2, h.sep i t' d' h1 h2 hpos⟩
      · have hi2 : i = ts.length := by
          have := (List.getElem?_eq_some_iff.1 h1).1
          simp at this
          omega
        subst hi2
        simp at h1
        rw [h.rts.1] at h2
        simp at h2
        rw [← h1, ← h2]
        rw [← h2] at hpos
        exact ⟨ht, hs hpos⟩
    rcases ha with e | e
    · rw [e]; exact key.2 ad hat
    · rw [e]
      intro e2
      have h3 := hsz t' d' key.1 hpos hat
      have : (w1.alloc ob).heap.size = ad.block := by simpa using e2
      simp at this
      omega
  · rw [size_cell]; exact Nat.le_trans hB hb2.size
  · exact Fo.set hb2 hlt hB _ _
end

set_option maxRecDepth 100000 in
set_option maxHeartbeats 2000000 in
/-- The closure of the data: clones of the slices that it is handed. -/
theorem zfd (q : Nat) (A : Option Addr) (n c : Nat) (us : List Tri) (xs : List (List Int)) (w : World) (hq : w.heap[q]? = some (.cells #[.slice none 0 0] 24 (0, 0))) (hr : RdE EB w A us) (hA : Hid (∀ a, A = some a → a.block ≠ q)) (hu : Hid (us.length = n)) (hx : Rts w us xs) (hn : n ≤ 1000) (hb : Hid (∀ x ∈ xs, x.length ≤ 140737488355328)) :
    Calls Try.prog 17 #[.slice A n c, .pointer (some ⟨q, 0, none⟩)] w fun e w' => ∃ D' ts, e = .returned (.tuple #[]) ∧ Hid (Dc w.heap.size q w' D' ts xs ∧ Fo w.heap.size q w w') := by
  have HD := Lib.hid (Dc.new w hq)
  have HQ := Lib.hid hq
  have HR := Lib.hid hr
  have HX := Lib.hid hx
  clear hr hx hq
  go_enter Try.func17, Try.ntmps17
  go_wp2_with fail
  go_loopw [7] (fun i wr => ∃ k : Nat, k ≤ n ∧ i = .int .i64 k ∧ Hid (∃ D' ts, Dc w.heap.size q wr D' ts (xs.take k)) ∧ Hid (Fo w.heap.size q w wr)) (fun i _ => n - (intOf i).toNat)
  case atStart => exact ⟨0, by omega, rfl, ⟨_, _, by rw [List.take_zero]; exact HD.out⟩, Fo.refl _ _ _⟩
  case round =>
    obtain ⟨k, hk, rfl, HS, HF⟩ := hrel
    by_cases hlt : k < n
    · have hku : k < us.length := by rw [hu.out]; exact hlt
      have hkx : k < xs.length := by rw [← HX.out.1]; exact hku
      obtain ⟨b, o, rfl, hc⟩ := HR.out (by omega)
      have a0 := RdE.atB hc k hku
      have hbb := World.block_lt_of_cell? _ _ a0
      have hbq := hA.out _ rfl
      rw [← World.cell?_of_block (a := ⟨b, o + k, none⟩) (HF.out.blk b hbb hbq)] at a0
      have ht : Rt w us[k] xs[k] := HX.out.2 k _ _ (List.getElem?_eq_getElem hku) (List.getElem?_eq_getElem hkx)
      have hxl := hb.out xs[k] (List.getElem_mem hkx)
      have htk := Lib.hid (List.take_succ_eq_append_getElem hkx)
      obtain ⟨⟨At, nt, ct⟩, hT⟩ : ∃ t, us[k] = t := ⟨_, rfl⟩
      obtain ⟨x, hX⟩ : ∃ x, xs[k] = x := ⟨_, rfl⟩
      rw [hT] at a0 ht
      rw [hX] at ht hxl htk
      obtain ⟨r1, r2, r3, r4, r5⟩ := ht
      have HR1 : Hid (Rd wr At x) := ⟨r1.1, fun hl => by
        obtain ⟨b', o', e', hc'⟩ := r1.2 hl
        refine ⟨b', o', e', fun i hi => ?_⟩
        have h1 := hc' i hi
        have h2 := World.block_lt_of_cell? _ _ h1
        have h3 : b' ≠ q := fun e => (r1.no_box HQ.out hl) _ e' (by rw [e])
        rw [World.cell?_of_block (HF.out.blk b' h2 h3)]
        exact h1⟩
      have hxn := Lib.hid r2
      have hz := Lib.hid r5
      simp only at r2 r3 r4 a0
      rw [r2] at hxl
      obtain ⟨D', ts, hDc⟩ := HS.out
      have HDc := Lib.hid (hDc.drewN 1)
      obtain ⟨c0, f0⟩ := hDc.cell
      have hkn : (k : Int) < (n : Int) := by omega
      have hsz : Hid (w.heap.size ≤ wr.heap.size) := HF.out.size
      obtain ⟨mm, hmm⟩ : ∃ mm, Hid (ts.length = mm) := ⟨_, Lib.hid rfl⟩
      have hml : mm ≤ 1000 := by rw [← hmm.out, hDc.rts.1, List.length_take]; omega
      clear r1 r2 r5 hc hT hX hku hkx hDc
      go_wp2_with fail
      go_region_law (first | (go_simp; go_at_call 18; refine (cln At nt ct x _ (by exact HR1.out) hxn hz r3 hxl).mono ?_; rintro e w1 ⟨A', c', rfl, H1⟩; have HD1 := Lib.hid (HDc.out.below H1.out.2.1); obtain ⟨c1, f1⟩ := HD1.out.cell; have c1' : (w1.alloc (.cells #[.slice A' nt c'] 22 (0, 0))).cell? ⟨q, 0, none⟩ = some D' := ((HD1.out.below ((Below.refl _ _).alloc (Nat.le_refl _) _)).cell).1) | (refine step_appE (E := EB) (by rfl) (.tmp 11) (.tmp 14) (by rfl) w.heap.size D' ts (by rfl) (HD1.out.own.alloc _) ⟨w1.heap.size, 0, none⟩ 1 1 [(A', nt, c')] (by rfl) (by rfl) (by exact new_cells (E := EB) w1 [(A', nt, c')] 22) (by rw [hmm.out]; omega) (by have := HD1.out.le; simp; omega) ?_; intro v2 w2 ho2 hg2 ha2 hb2; obtain ⟨g2, c2, rfl, k1, k2, k3⟩ := HD1.out.app ho2 hg2 ha2 hb2 H1.out.1 (fun _ a ha e => Nat.lt_irrefl _ (Nat.lt_of_lt_of_le (HDc.out.own.lt _ e).2 (H1.out.2.2 a ha))) mm hmm.out; clear ho2 hg2 ha2 hb2))
      all_goals
        clear c0 f0 k1 k2 c1 f1 c1'
        go_wp2_with fail
        go_roundw
        case rel => exact ⟨k + 1, by omega, by go_num, ⟨_, _, by rw [htk.out]; exact k3.out.1⟩, (HF.out.trans ((Fo.of_below H1.out.2.1 hsz.out (by have := HDc.out.lt; have := hsz.out; show q ≤ wr.heap.size; omega)).from_drew)).trans k3.out.2⟩
        case measure => simp [intOf]; omega
    · obtain rfl : k = n := by omega
      go_wp2_with fail
      go_end0
      obtain ⟨D', ts, hDc⟩ := HS.out
      rw [List.take_of_length_le (by rw [← HX.out.1, hu.out]; exact Nat.le_refl _)] at hDc
      exact ⟨D', ts, rfl, hDc, HF.out⟩

end Go.Proofs.Ytggcnepdeaijoaa
/- Kinds of elements: ops, pairs, numbers; contracts of laws.plain, impl.set's copy, ZZSet. Conditions: the slices read as ops. -/
import Derived.Test.YtdogepkfgobcfaaRangeSub
namespace Go.Proofs.Ytdogepkfgobcfaa
open Go.RowKit
set_option linter.unusedVariables false

/-- The slice value at A reads as the elements l. -/
def RdE {α : Type} (E : Elt α) (w : World) (A : Option Addr) (l : List α) : Prop :=
  0 < l.length → ∃ b o, A = some ⟨b, o, none⟩ ∧ ∀ (i j : Nat) (v : Value) (hi : i < l.length), j < E.k → (E.f l[i])[j]? = some v → w.cell? ⟨b, o + (i * E.k + j), none⟩ = some v
section
variable {α : Type} {E : Elt α} {w w' : World} {A : Option Addr} {l : List α}
theorem RdE.keep (h : RdE E w A l) (hk : ∀ p : Addr, p.block < w.heap.size → w'.cell? p = w.cell? p) : RdE E w' A l := by
  intro hl
  obtain ⟨b, o, e, hc⟩ := h hl
  refine ⟨b, o, e, fun i j v hi hj hv => ?_⟩
  have := hc i j v hi hj hv
  rw [hk _ (World.block_lt_of_cell? _ _ this)]
  exact this
theorem RdE.below (h : RdE E w A l) (hb : Below w.heap.size w w') : RdE E w' A l := h.keep fun _ hp => hb.cell hp
theorem RdE.below' (h : RdE E w A l) {B : Nat} (hB : w.heap.size ≤ B) {w'' : World} (hb : Below B w w'') : RdE E w'' A l := h.keep fun _ hp => hb.cell (Nat.lt_of_lt_of_le hp hB)
theorem RdE.drewN (h : RdE E w A l) (n : Nat) : RdE E (w.drewN n) A l := h
theorem RdE.nil_ (E : Elt α) (w : World) (A : Option Addr) : RdE E w A [] := fun h => by simp at h
theorem OwnE.rdE {B : Nat} {n c : Nat} (h : OwnE E B w (.slice A n c) l) : RdE E w A l := by
  intro hl
  rcases h.form with ⟨_, e⟩ | ⟨g, c', e, _⟩
  · rw [e] at hl; cases hl
  · simp only [Value.slice.injEq] at e
    obtain ⟨rfl, rfl, rfl⟩ := e
    exact ⟨g, 0, rfl, fun i j v hi hj hv => by rw [Nat.zero_add]; exact h.cell i j v hi hj hv⟩
theorem OwnE.shape {B : Nat} {s : Value} (h : OwnE E B w s l) : ∃ A c, s = .slice A l.length c ∧ RdE E w A l ∧ l.length ≤ c ∧ c ≤ maxLen := by
  rcases h.form with ⟨rfl, rfl⟩ | ⟨g, c', rfl, h1, h2, h3, h4⟩
  · exact ⟨none, 0, rfl, RdE.nil_ _ _ _, by simp, by simp⟩
  · exact ⟨_, _, rfl, h.rdE, h3, h4⟩
end
theorem map_snoc {α β : Type} (f : α → β) (l : List α) (k : Nat) (h : k < l.length) : (l.take (k + 1)).map f = (l.take k).map f ++ [f l[k]] := by
  rw [take_snoc h, List.map_append]; rfl

theorem new_cells2 {α : Type} (E : Elt α) (w : World) (o : Obj) (news : List α) (t : TypeId) (j : Nat) (u : Value) (h : (flat E news)[j]? = some u) : ((w.alloc o).alloc (.cells (flat E news).toArray t)).cell? ((⟨w.heap.size + 1, 0, none⟩ : Addr).add j) = some u := by
  have := new_cells (E := E) (w.alloc o) news t j u h
  rwa [show (w.alloc o).heap.size = w.heap.size + 1 by simp] at this

def opCells (o : Opr) : List Value := [.bool o.sub, .int .i64 o.st, .int .i64 o.en]
theorem info_op : (Try.prog.info? 41).map (fun i => (i.zero, i.size, i.bytes)) = some (some (.agg #[.bool false, .int .i64 0, .int .i64 0]), 3, 24) := by kernel_rfl
theorem info_zo : (Try.prog.info? 104).map (fun i => (i.zero, i.size, i.bytes)) = some (some (.agg #[.bool false, .int .i64 0, .int .i64 0]), 3, 24) := by kernel_rfl
theorem info_so : (Try.prog.info? 78).map (fun i => (i.zero, i.size, i.bytes)) = some (some (.agg #[.bool false, .int .i64 0, .int .i64 0]), 3, 24) := by kernel_rfl
theorem info_pr : (Try.prog.info? 47).map (fun i => (i.zero, i.size, i.bytes)) = some (some (.agg #[.int .i64 0, .int .i64 0]), 2, 16) := by kernel_rfl
theorem info_in : (Try.prog.info? 2).map (fun i => (i.zero, i.size, i.bytes)) = some (some (.int .i64 0), 1, 8) := by kernel_rfl
theorem op_one (o : Opr) : ∀ u ∈ opCells o, u.oneCell' = true := fun u hu => by
  simp [opCells] at hu
  rcases hu with rfl | rfl | rfl <;> rfl
theorem rg_one (o : Int × Int) : ∀ u ∈ rgCells o, u.oneCell' = true := fun u hu => by
  simp [rgCells] at hu
  rcases hu with rfl | rfl <;> rfl
def EOp : Elt Opr where
  t := 38
  e := 41
  k := 3
  f := opCells
  len := fun _ => rfl
  one := op_one
  pos := by decide
  und := Try.underlying38
  info := by
    obtain ⟨i, hi, h0, h1, h2⟩ := info_parts info_op
    exact ⟨i, _, hi, h0, h1, rfl, by omega⟩
def EZo : Elt Opr where
  t := 103
  e := 104
  k := 3
  f := opCells
  len := fun _ => rfl
  one := op_one
  pos := by decide
  und := Try.underlying103
  info := by
    obtain ⟨i, hi, h0, h1, h2⟩ := info_parts info_zo
    exact ⟨i, _, hi, h0, h1, rfl, by omega⟩
def ESo : Elt Opr where
  t := 42
  e := 78
  k := 3
  f := opCells
  len := fun _ => rfl
  one := op_one
  pos := by decide
  und := Try.underlying42
  info := by
    obtain ⟨i, hi, h0, h1, h2⟩ := info_parts info_so
    exact ⟨i, _, hi, h0, h1, rfl, by omega⟩
def EPr : Elt (Int × Int) where
  t := 45
  e := 47
  k := 2
  f := rgCells
  len := fun _ => rfl
  one := rg_one
  pos := by decide
  und := Try.underlying45
  info := by
    obtain ⟨i, hi, h0, h1, h2⟩ := info_parts info_pr
    exact ⟨i, _, hi, h0, h1, rfl, by omega⟩
def EIn : Elt Int where
  t := 85
  e := 2
  k := 1
  f := fun x => [.int .i64 x]
  len := fun _ => rfl
  one := fun a u hu => by
    simp at hu
    subst hu
    rfl
  pos := by decide
  und := Try.underlying85
  info := by
    obtain ⟨i, hi, h0, h1, h2⟩ := info_parts info_in
    exact ⟨i, _, hi, h0, h1, rfl, by omega⟩

/-- The three cells of an op. -/
theorem op_cells {E : Elt Opr} (hE : E.f = opCells) (hk : E.k = 3) {w : World} {b o : Nat} {l : List Opr} (h : ∀ (i j : Nat) (v : Value) (hi : i < l.length), j < E.k → (E.f l[i])[j]? = some v → w.cell? ⟨b, o + (i * E.k + j), none⟩ = some v) (i : Nat) (hi : i < l.length) :
    w.cell? ⟨b, o + i * 3, none⟩ = some (.bool l[i].sub) ∧ w.cell? ⟨b, o + i * 3 + 1, none⟩ = some (.int .i64 l[i].st) ∧ w.cell? ⟨b, o + i * 3 + 2, none⟩ = some (.int .i64 l[i].en) := by
  have a := h i 0 (.bool l[i].sub) hi (by omega) (by rw [hE]; rfl)
  have b := h i 1 (.int .i64 l[i].st) hi (by omega) (by rw [hE]; rfl)
  have c := h i 2 (.int .i64 l[i].en) hi (by omega) (by rw [hE]; rfl)
  rw [hk] at a b c
  exact ⟨a, by rw [Nat.add_assoc]; exact b, by rw [Nat.add_assoc]; exact c⟩

/-- The two cells of a pair. -/
theorem rg_cells {E : Elt (Int × Int)} (hE : E.f = rgCells) (hk : E.k = 2) {w : World} {b o : Nat} {l : Rgs} (h : ∀ (i j : Nat) (v : Value) (hi : i < l.length), j < E.k → (E.f l[i])[j]? = some v → w.cell? ⟨b, o + (i * E.k + j), none⟩ = some v) (i : Nat) (hi : i < l.length) :
    w.cell? ⟨b, o + i * 2, none⟩ = some (.int .i64 l[i].1) ∧ w.cell? ⟨b, o + i * 2 + 1, none⟩ = some (.int .i64 l[i].2) := by
  have a := h i 0 (.int .i64 l[i].1) hi (by omega) (by rw [hE]; rfl)
  have b := h i 1 (.int .i64 l[i].2) hi (by omega) (by rw [hE]; rfl)
  rw [hk] at a b
  exact ⟨a, by rw [Nat.add_assoc]; exact b⟩

/-- An op without an end ahead of its beginning. -/
def plainO (o : Opr) : Opr := ⟨o.sub, o.st, if o.en < o.st then o.st else o.en⟩
/-- The ops' numbers are numbers of 64 bits. -/
def OpsBd (l : List Opr) : Prop := ∀ o ∈ l, (-9223372036854775808 ≤ o.st ∧ o.st ≤ 9223372036854775807) ∧ (-9223372036854775808 ≤ o.en ∧ o.en ≤ 9223372036854775807)
/-- What a maker of a slice of elements returns. -/
def MadeE {α : Type} (E : Elt α) (w : World) (l : List α) (e : Ending) (w' : World) : Prop := ∃ s', e = .returned s' ∧ OwnE E w.heap.size w' s' l ∧ Below w.heap.size w w'

set_option maxRecDepth 100000 in
set_option maxHeartbeats 1000000 in
theorem pln (A : Option Addr) (n c : Nat) (l : List Opr) (w : World) (hr : RdE EOp w A l) (hn : Hid (l.length = n)) (hn2 : n ≤ 2147483647) :
    Calls Try.prog 25 #[.slice A n c] w fun e w' => MadeE EOp w (l.map plainO) e w' := by
  have HR := Lib.hid hr
  clear hr
  go_enter Try.func25, Try.ntmps25
  go_wp2_with fail
  go_loopw [3, 8] (fun s i wr => ∃ k : Nat, k ≤ n ∧ i = .int .i64 k ∧ Hid (OwnE EOp w.heap.size wr s ((l.take k).map plainO)) ∧ Hid (Below w.heap.size w wr)) (fun _ i _ => n - (intOf i).toNat)
  case atStart => exact ⟨0, by omega, rfl, OwnE.nil_ _ _, Below.refl _ _⟩
  case round =>
    obtain ⟨k, hk, rfl, HO, HB⟩ := hrel
    by_cases hlt : k < n
    · have hlt' : k < l.length := by rw [hn.out]; exact hlt
      obtain ⟨b, o, rfl, hc⟩ := (HR.out.below HB.out) (by omega)
      obtain ⟨c0, c1, c2⟩ := op_cells rfl rfl hc k hlt'
      have hm := Lib.hid (map_snoc plainO l k hlt')
      obtain ⟨q, hq⟩ : ∃ q, q = l[k] := ⟨_, rfl⟩
      rw [← hq] at c0 c1 c2 hm
      obtain ⟨x, y, z⟩ := q
      clear hc hq hlt'
      have hlen : Hid (((l.take k).map plainO).length + 1 ≤ 1000000000000) := by show _ ≤ _; simp; omega
      by_cases hyz : z < y
      · have hpl : Hid (plainO ⟨x, y, z⟩ = ⟨x, y, y⟩) := by show _ = _; unfold plainO; rw [if_pos hyz]
        rw [hpl.out] at hm
        have HN := Lib.hid (new_cells2 EOp wr (.cells #[.bool x, .int .i64 y, .int .i64 y] 41) [⟨x, y, y⟩] 41)
        go_wp2_with (at_builtin; refine wpList_appE (E := EOp) w.heap.size _ rfl (.tmp 20) (.tmp 22) rfl _ ((l.take k).map plainO) rfl ((HO.out.alloc _).alloc _) ⟨wr.heap.size + 1, 0, none⟩ 1 1 [⟨x, y, y⟩] rfl rfl (by exact HN.out) hlen.out (by have := HB.out.size; simp; omega) ?_; intro v1 w1 ho1 hg1 ha1 hb1 hn1; have HO1 := Lib.hid ho1; have HB1 := Lib.hid (((HB.out.alloc HB.out.size _).alloc (by have := HB.out.size; simp; omega) _).trans hb1); clear ho1 hg1 ha1 hb1 hn1)
        go_roundw
        case rel => exact ⟨k + 1, by omega, by go_num, by rw [hm.out]; exact HO1, HB1⟩
        case measure => simp [intOf]; omega
      · have hpl : Hid (plainO ⟨x, y, z⟩ = ⟨x, y, z⟩) := by show _ = _; unfold plainO; rw [if_neg hyz]
        rw [hpl.out] at hm
        have HN := Lib.hid (new_cells2 EOp wr (.cells #[.bool x, .int .i64 y, .int .i64 z] 41) [⟨x, y, z⟩] 41)
        go_wp2_with (at_builtin; refine wpList_appE (E := EOp) w.heap.size _ rfl (.tmp 20) (.tmp 22) rfl _ ((l.take k).map plainO) rfl ((HO.out.alloc _).alloc _) ⟨wr.heap.size + 1, 0, none⟩ 1 1 [⟨x, y, z⟩] rfl rfl (by exact HN.out) hlen.out (by have := HB.out.size; simp; omega) ?_; intro v1 w1 ho1 hg1 ha1 hb1 hn1; have HO1 := Lib.hid ho1; have HB1 := Lib.hid (((HB.out.alloc HB.out.size _).alloc (by have := HB.out.size; simp; omega) _).trans hb1); clear ho1 hg1 ha1 hb1 hn1)
        go_roundw
        case rel => exact ⟨k + 1, by omega, by go_num, by rw [hm.out]; exact HO1, HB1⟩
        case measure => simp [intOf]; omega
    · obtain rfl : k = n := by omega
      have he : Hid (l.take k = l) := List.take_of_length_le (by rw [hn.out]; exact Nat.le_refl _)
      rw [he.out] at HO
      go_wp2
      go_ret
      exact ⟨_, rfl, HO.out, HB.out⟩

/-- impl.set: the ops' slice of another type, then ZZSet. -/
def SetEnd (w : World) (L : Rgs) (e : Ending) (w' : World) : Prop := ∃ A c, e = .returned (.agg #[.slice A L.length c]) ∧ OwnE ER w.heap.size w' (.slice A L.length c) L ∧ Below w.heap.size w w'

set_option maxRecDepth 100000 in
set_option maxHeartbeats 1000000 in
theorem zset (A : Option Addr) (n c : Nat) (l : List Opr) (w : World) (hr : RdE EZo w A l) (hn : Hid (l.length = n)) (hn2 : n ≤ 200) (hok : Hid (OpsOk l)) :
    Calls Try.prog 78 #[.slice A n c] w fun e w' => SetEnd w (setP l) e w' := by
  have HR := Lib.hid hr
  clear hr
  go_enter Try.func78, Try.ntmps78
  go_wp2_with fail
  obtain ⟨w0, hw0⟩ : ∃ w0, (w.alloc (.cells #[.slice none 0 0] 82)).alloc (.cells #[.slice none 0 0] 80) = w0 := ⟨_, rfl⟩
  rw [hw0]
  have hsz : Hid (w0.heap.size = w.heap.size + 2) := by show _ = _; rw [← hw0]; simp
  have R0 : Hid (RS (w.heap.size + 1) w0 (w.heap.size + 1) none 0 []) := by
    show RS _ _ _ _ _ _
    rw [← hw0]
    refine ⟨?_, OwnE.nil_ _ _, Nat.le_refl _, fun a h => by cases h⟩
    have := heap_alloc_new (w.alloc (.cells #[.slice none 0 0] 82)) (.cells #[.slice none 0 0] 80)
    rwa [show (w.alloc (Obj.cells #[.slice none 0 0] 82)).heap.size = w.heap.size + 1 by simp] at this
  have hbl0 : Hid (w0.heap[w.heap.size]? = some (.cells #[.slice none 0 0] 82 (0, 0))) := by
    show _ = _
    rw [← hw0, heap_alloc_old _ _ (by simp)]
    exact heap_alloc_new w _
  have B0 : Hid (Below w.heap.size w w0) := by
    show Below _ _ _
    rw [← hw0]
    exact (((Below.refl _ _).alloc (Nat.le_refl _) _).alloc (by simp) _)
  clear hw0
  go_loopw [8] (fun i wr => ∃ (k : Nat), k ≤ n ∧ i = .int .i64 k ∧ Hid (∃ A cap, RS (w.heap.size + 1) wr (w.heap.size + 1) A cap (setP (l.take k))) ∧ Hid (Below (w.heap.size + 1) w0 wr)) (fun i _ => n - (intOf i).toNat)
  case atStart => exact ⟨0, by omega, rfl, ⟨none, 0, R0.out⟩, Below.refl _ _⟩
  case round =>
    obtain ⟨k, hk, rfl, HS, HB⟩ := hrel
    by_cases hlt : k < n
    · have hlt' : k < l.length := by rw [hn.out]; exact hlt
      have BW := Lib.hid (B0.out.trans (HB.out.mono (Nat.le_succ _)))
      obtain ⟨b, o, rfl, hc⟩ := (HR.out.below BW.out) (by omega)
      obtain ⟨c0, c1, c2⟩ := op_cells rfl rfl hc k hlt'
      have hm := Lib.hid (setP_take l k hlt')
      have hq1 := Lib.hid (hok.out _ (List.getElem_mem hlt'))
      obtain ⟨q, hq⟩ : ∃ q, q = l[k] := ⟨_, rfl⟩
      rw [← hq] at c0 c1 c2 hm hq1
      obtain ⟨x, y, z⟩ := q
      have hlen : Hid ((setP (l.take k)).length ≤ k) := setP_len l k (by omega)
      have hcan : Hid (Canon (setP (l.take k))) := (hok.out.take k).canon
      clear hc hq hlt'
      obtain ⟨L, hL⟩ : ∃ L, L = setP (l.take k) := ⟨_, rfl⟩
      rw [← hL] at hm HS hlen hcan
      obtain ⟨A1, cap1, R1⟩ := HS.out
      have HR1 := Lib.hid R1
      obtain ⟨m, hLm⟩ : ∃ m, Hid (L.length = m) := ⟨_, rfl⟩
      have hmk : m ≤ k := by rw [← hLm.out]; exact hlen.out
      clear R1 hL HS hlen
      cases x
      · go_wp2_with fail
        refine (add_ (w.heap.size + 1) (w.heap.size + 1) cap1 A1 L y z m _ (HR1.out.alloc _) hLm (by omega)).mono ?_
        rintro en w' ⟨rfl, hb, A2, cap2, hr⟩
        have HR2 : Hid (RS (w.heap.size + 1) w' (w.heap.size + 1) A2 cap2 (setP (l.take (k + 1)))) := by show RS _ _ _ _ _ _; rw [hm.out]; exact hr
        have HB2 := Lib.hid ((HB.out.alloc (Nat.le_trans (by have := hsz.out; omega) HB.out.size) _).trans hb)
        clear hb hr
        go_wp2_with fail
        go_roundw
        case rel => exact ⟨k + 1, by omega, by go_num, ⟨A2, cap2, HR2.out⟩, HB2⟩
        case measure => simp [intOf]; omega
      · go_wp2_with fail
        refine (sub_ (w.heap.size + 1) (w.heap.size + 1) cap1 A1 L y z m _ (HR1.out.alloc _) hcan.out (hq1.out.2 (by first | rfl | trivial)) hLm (by omega)).mono ?_
        rintro en w' ⟨rfl, hb, A2, cap2, hr⟩
        have HR2 : Hid (RS (w.heap.size + 1) w' (w.heap.size + 1) A2 cap2 (setP (l.take (k + 1)))) := by show RS _ _ _ _ _ _; rw [hm.out]; exact hr
        have HB2 := Lib.hid ((HB.out.alloc (Nat.le_trans (by have := hsz.out; omega) HB.out.size) _).trans hb)
        clear hb hr
        go_wp2_with fail
        go_roundw
        case rel => exact ⟨k + 1, by omega, by go_num, ⟨A2, cap2, HR2.out⟩, HB2⟩
        case measure => simp [intOf]; omega
    · obtain rfl : k = n := by omega
      have he : Hid (l.take k = l) := List.take_of_length_le (by rw [hn.out]; exact Nat.le_refl _)
      rw [he.out] at HS
      obtain ⟨A1, cap1, R1⟩ := HS.out
      have HR1 := Lib.hid R1
      obtain ⟨m, hLm⟩ : ∃ m, Hid (m = (setP l).length) := ⟨_, rfl⟩
      have c1 := R1.cell
      rw [← hLm.out] at c1
      have hbl : wr.heap[w.heap.size]? = some (.cells #[.slice none 0 0] 82 (0, 0)) := (HB.out.block _ (Nat.lt_succ_self _)).trans hbl0.out
      have d0 : wr.cell? ⟨w.heap.size, 0, none⟩ = some (.slice none 0 0) := by rw [cell_of_row wr _ 0 _ _ (0, 0) hbl]; rfl
      have f0 : wr.frozen? ⟨w.heap.size, 0, none⟩ = false := by simp [World.frozen?, hbl]
      have hne : A1 = none ∨ True := .inr trivial
      have HE : Hid (SetEnd w (setP l) (.returned (.agg #[.slice A1 m cap1])) (wr.setCell ⟨w.heap.size, 0, none⟩ (.slice A1 m cap1))) := by
        refine ⟨A1, cap1, by rw [hLm.out], ?_, ?_⟩
        · have := (R1.own.lower (Nat.le_succ _)).kept (gset wr w.heap.size 0 (.slice A1 m cap1)) (.inr (fun e => by have := (R1.own.lt _ e).1; omega))
          exact this
        · exact Below.set_ (B0.out.trans (HB.out.mono (Nat.le_succ _))) (Nat.le_trans B0.out.size HB.out.size) _ _ _ (Nat.le_refl _)
      clear R1 hbl hne
      go_wp2
      refine bodyPost_ret (v := .agg #[.slice A1 m cap1]) (by simp [results, Try.results78, go_sem, d0]) rfl ?_
      exact HE.out

set_option maxRecDepth 100000 in
set_option maxHeartbeats 1000000 in
theorem iset (A : Option Addr) (n c : Nat) (l : List Opr) (w : World) (hr : RdE EOp w A l) (hn : Hid (l.length = n)) (hn2 : n ≤ 200) (hok : Hid (OpsOk l)) :
    Calls Try.prog 56 #[.slice A n c] w fun e w' => SetEnd w (setP l) e w' := by
  have HR := Lib.hid hr
  clear hr
  go_enter Try.func56, Try.ntmps56
  go_wp2_with fail
  obtain ⟨w0, hw0⟩ : ∃ w0, w.alloc (.cells #[.slice none 0 0] 82) = w0 := ⟨_, rfl⟩
  rw [hw0]
  have hsz : Hid (w0.heap.size = w.heap.size + 1) := by show _ = _; rw [← hw0]; simp
  have hbl0 : Hid (w0.heap[w.heap.size]? = some (.cells #[.slice none 0 0] 82 (0, 0))) := by
    show _ = _
    rw [← hw0]
    exact heap_alloc_new w _
  have B0 : Hid (Below w.heap.size w w0) := by
    show Below _ _ _
    rw [← hw0]
    exact ((Below.refl _ _).alloc (Nat.le_refl _) _)
  clear hw0
  go_loopw [3, 8] (fun s i wr => ∃ (k : Nat), k ≤ n ∧ i = .int .i64 k ∧ Hid (OwnE EZo (w.heap.size + 1) wr s (l.take k)) ∧ Hid (Below (w.heap.size + 1) w0 wr)) (fun _ i _ => n - (intOf i).toNat)
  case atStart => exact ⟨0, by omega, rfl, OwnE.nil_ _ _, Below.refl _ _⟩
  case round =>
    obtain ⟨k, hk, rfl, HO, HB⟩ := hrel
    have hsz2 : Hid (w.heap.size + 1 ≤ wr.heap.size) := by show _ ≤ _; have := HB.out.size; have := hsz.out; omega
    by_cases hlt : k < n
    · have hlt' : k < l.length := by rw [hn.out]; exact hlt
      have BW := Lib.hid (B0.out.trans (HB.out.mono (Nat.le_succ _)))
      obtain ⟨b, o, rfl, hc⟩ := (HR.out.below BW.out) (by omega)
      obtain ⟨c0, c1, c2⟩ := op_cells rfl rfl hc k hlt'
      have hm := Lib.hid (take_snoc hlt')
      obtain ⟨q, hq⟩ : ∃ q, q = l[k] := ⟨_, rfl⟩
      rw [← hq] at c0 c1 c2 hm
      obtain ⟨x, y, z⟩ := q
      have hlen : Hid ((l.take k).length + 1 ≤ 1000000000000) := by show _ ≤ _; simp; omega
      have HN := Lib.hid (new_cells2 EZo wr (.cells #[.bool x, .int .i64 y, .int .i64 z] 41) [⟨x, y, z⟩] 104)
      clear hc hq hlt'
      go_wp2_with (at_builtin; refine wpList_appE (E := EZo) (w.heap.size + 1) _ rfl (.tmp 12) (.tmp 14) rfl _ (l.take k) rfl ((HO.out.alloc _).alloc _) ⟨wr.heap.size + 1, 0, none⟩ 1 1 [⟨x, y, z⟩] rfl rfl (by exact HN.out) hlen.out (by have := hsz2.out; simp; omega) ?_; intro v1 w1 ho1 hg1 ha1 hb1 hn1; have HO1 := Lib.hid ho1; have HB1 := Lib.hid (((HB.out.alloc hsz2.out _).alloc (by have := hsz2.out; simp; omega) _).trans hb1); clear ho1 hg1 ha1 hb1 hn1)
      go_roundw
      case rel => exact ⟨k + 1, by omega, by go_num, by rw [hm.out]; exact HO1, HB1⟩
      case measure => simp [intOf]; omega
    · obtain rfl : k = n := by omega
      have he : Hid (l.take k = l) := List.take_of_length_le (by rw [hn.out]; exact Nat.le_refl _)
      rw [he.out] at HO
      obtain ⟨A1, c1, hs, hr1, -, -⟩ := HO.out.shape
      rw [hn.out] at hs
      subst hs
      have HR1 := Lib.hid hr1
      clear hr1 HO
      go_wp2_with fail
      refine (zset A1 k c1 l _ HR1.out hn hn2 hok).mono ?_
      rintro e w1 ⟨A2, c2, rfl, ho2, hb2⟩
      obtain ⟨m, hLm⟩ : ∃ m, Hid (m = (setP l).length) := ⟨_, rfl⟩
      rw [← hLm.out] at ho2 ⊢
      have hbl : w1.heap[w.heap.size]? = some (.cells #[.slice none 0 0] 82 (0, 0)) := (hb2.block _ hsz2.out).trans ((HB.out.block _ (Nat.lt_succ_self _)).trans hbl0.out)
      have d0 : w1.cell? ⟨w.heap.size, 0, none⟩ = some (.slice none 0 0) := by rw [cell_of_row w1 _ 0 _ _ (0, 0) hbl]; rfl
      have f0 : w1.frozen? ⟨w.heap.size, 0, none⟩ = false := by simp [World.frozen?, hbl]
      have hB1 : Below w.heap.size w w1 := (B0.out.trans (HB.out.mono (Nat.le_succ _))).trans (hb2.mono (Nat.le_of_lt hsz2.out))
      have HE : Hid (SetEnd w (setP l) (.returned (.agg #[.slice A2 m c2])) (w1.setCell ⟨w.heap.size, 0, none⟩ (.slice A2 m c2))) := by
        refine ⟨A2, c2, by rw [hLm.out], ?_, Below.set_ hB1 hB1.size _ _ _ (Nat.le_refl _)⟩
        have := (ho2.lower (Nat.le_of_lt hsz2.out)).kept (gset w1 w.heap.size 0 (.slice A2 m c2)) (.inr (fun e => by have := (ho2.lt _ e).1; have := hsz2.out; omega))
        rw [← hLm.out]
        exact this
      clear hbl ho2 hb2 hB1
      go_wp2
      refine bodyPost_ret (v := .agg #[.slice A2 m c2]) (by simp [results, Try.results56, go_sem, d0]) rfl ?_
      exact HE.out

set_option maxRecDepth 100000 in
set_option maxHeartbeats 1000000 in
/-- All: the ranges as pairs. -/
theorem allr (A : Option Addr) (n c : Nat) (l : Rgs) (w : World) (hr : RdE ER w A l) (hn : Hid (l.length = n)) (hn2 : n ≤ 1000000) :
    Calls Try.prog 57 #[.agg #[.slice A n c]] w fun e w' => MadeE EPr w l e w' := by
  have HR := Lib.hid hr
  clear hr
  go_enter Try.func57, Try.ntmps57
  go_wp2_with fail
  go_loopw [3, 9] (fun s i wr => ∃ (k : Nat), k ≤ n ∧ i = .int .i64 k ∧ Hid (OwnE EPr w.heap.size wr s (l.take k)) ∧ Hid (Below w.heap.size w wr)) (fun _ i _ => n - (intOf i).toNat)
  case atStart => exact ⟨0, by omega, rfl, OwnE.nil_ _ _, (Below.refl _ _).alloc (Nat.le_refl _) _⟩
  case round =>
    obtain ⟨k, hk, rfl, HO, HB⟩ := hrel
    by_cases hlt : k < n
    · have hlt' : k < l.length := by rw [hn.out]; exact hlt
      obtain ⟨b, o, rfl, hc⟩ := (HR.out.below HB.out) (by omega)
      obtain ⟨c0, c1⟩ := rg_cells rfl rfl hc k hlt'
      have hm := Lib.hid (take_snoc hlt')
      obtain ⟨q, hq⟩ : ∃ q, q = l[k] := ⟨_, rfl⟩
      rw [← hq] at c0 c1 hm
      obtain ⟨x, y⟩ := q
      have hlen : Hid ((l.take k).length + 1 ≤ 1000000000000) := by show _ ≤ _; simp; omega
      have HN := Lib.hid (new_cells2 EPr wr (.cells #[.int .i64 x, .int .i64 y] 108) [(x, y)] 47)
      clear hc hq hlt'
      go_wp2_with (at_builtin; refine wpList_appE (E := EPr) w.heap.size _ rfl (.tmp 13) (.tmp 19) rfl _ (l.take k) rfl ((HO.out.alloc _).alloc _) ⟨wr.heap.size + 1, 0, none⟩ 1 1 [(x, y)] rfl rfl (by exact HN.out) hlen.out (by have := HB.out.size; simp; omega) ?_; intro v1 w1 ho1 hg1 ha1 hb1 hn1; have HO1 := Lib.hid ho1; have HB1 := Lib.hid (((HB.out.alloc HB.out.size _).alloc (by have := HB.out.size; simp; omega) _).trans hb1); clear ho1 hg1 ha1 hb1 hn1)
      go_roundw
      case rel => exact ⟨k + 1, by omega, by go_num, by rw [hm.out]; exact HO1, HB1⟩
      case measure => simp [intOf]; omega
    · obtain rfl : k = n := by omega
      have he : Hid (l.take k = l) := List.take_of_length_le (by rw [hn.out]; exact Nat.le_refl _)
      rw [he.out] at HO
      go_wp2
      go_ret
      exact ⟨_, rfl, HO.out, HB.out⟩

set_option maxRecDepth 100000 in
/-- impl.Ranges. -/
theorem irng (A : Option Addr) (n c : Nat) (l : List Opr) (w : World) (hr : RdE EOp w A l) (hn : Hid (l.length = n)) (hn2 : n ≤ 200) (hok : Hid (OpsOk l)) :
    Calls Try.prog 27 #[.slice A n c] w fun e w' => MadeE EPr w (setP l) e w' := by
  have HR := Lib.hid hr
  clear hr
  go_enter Try.func27, Try.ntmps27
  go_wp2_with fail
  refine (iset A n c l w HR.out hn hn2 hok).mono ?_
  rintro e w1 ⟨A1, c1, rfl, ho1, hb1⟩
  obtain ⟨m, hLm⟩ : ∃ m, Hid ((setP l).length = m) := ⟨_, rfl⟩
  have hm : m ≤ 200 := by
    have := setP_len l l.length (Nat.le_refl _)
    rw [List.take_of_length_le (Nat.le_refl _), hLm.out, hn.out] at this
    omega
  rw [hLm.out] at ho1 ⊢
  have HR1 := Lib.hid ho1.rdE
  have HB1 := Lib.hid hb1
  clear ho1 hb1
  go_wp2_with fail
  refine (allr A1 m c1 (setP l) w1 HR1.out hLm (by omega)).mono ?_
  rintro e w2 ⟨s2, rfl, ho2, hb2⟩
  have HO2 := Lib.hid (ho2.lower HB1.out.size)
  have HB2 := Lib.hid (HB1.out.trans (hb2.mono HB1.out.size))
  clear ho2 hb2
  go_wp2
  go_ret
  exact ⟨_, rfl, HO2.out, HB2.out⟩

end Go.Proofs.Ytdogepkfgobcfaa

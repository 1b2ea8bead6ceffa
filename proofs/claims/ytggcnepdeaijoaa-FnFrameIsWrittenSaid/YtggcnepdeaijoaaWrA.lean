/- Contracts of the sent packet and of the packet writer: newSentPacket, zzWriter, avail, payload, sent's appends. Contracts of newSentPacket, packetWriter's reset and zzWriter. Appends onto bytes of the call's own where there is room: the block and the capacity stay. AppendVarint, AppendVarintBytes, AppendUint8Bytes. The packet writer with room enough: what it is, what its appends leave alone; contracts of the sent packet's appends, of avail, zzWriter. Conditions: as each part says. -/
import Derived.Test.YtggcnepdeaijoaaCells
import Derived.Test.YtggcnepdeaijoaaAv
import Derived.BigRegion
import Derived.IntWalk
import Derived.OwnWalk
import Derived.Test.YtggcnepdeaijoaaReader
import Derived.Deep.DeepAppendRoom
namespace Go.Proofs.Ytggcnepdeaijoaa
section
open Go.RowKit
set_option linter.unusedVariables false

/-- The sent packet in block s: its bytes are the call's own, in a block from B on, at most N. -/
structure Ts (B : Nat) (w : World) (s N : Nat) : Prop where
  ex : ∃ a f T lt, w.heap[s]? = some (.cells #[.int .i64 0, .int .i64 0, .int .u8 0, .int .u8 0, .bool a, .bool f, T, .int .i64 0] 109 (0, 0)) ∧ Own B w T lt ∧ lt.length ≤ N
  lt : s < B
  le : B ≤ w.heap.size
theorem Ts.drewN {B s N : Nat} {w : World} (h : Ts B w s N) (n : Nat) : Ts B (w.drewN n) s N := ⟨h.ex, h.lt, h.le⟩

theorem ts_put {B s N : Nat} {w w1 : World} {a f : Bool} {T v1 : Value} {l1 : List Int} (hs : w.heap[s]? = some (.cells #[.int .i64 0, .int .i64 0, .int .u8 0, .int .u8 0, .bool a, .bool f, T, .int .i64 0] 109 (0, 0))) (hlt : s < B) (hle : B ≤ w.heap.size) (hb : Below B w w1) (ho : Own B w1 v1 l1) (hl : l1.length ≤ N) (hpos : 0 < l1.length) :
    ∃ g m c, v1 = .slice (some ⟨g, 0, none⟩) m c ∧ w1.cell? ⟨s, 6, none⟩ = some T ∧ w1.frozen? ⟨s, 6, none⟩ = false ∧ Hid (Ts B (w1.setCell ⟨s, 6, none⟩ (.slice (some ⟨g, 0, none⟩) m c)) s N ∧ Fo B s w (w1.setCell ⟨s, 6, none⟩ (.slice (some ⟨g, 0, none⟩) m c))) := by
  have h1 := (hb.block s hlt).trans hs
  obtain ⟨g, c, rfl⟩ := ho.nonempty hpos
  refine ⟨g, _, c, rfl, by rw [cell_of_row _ _ 6 _ _ (0, 0) h1]; rfl, cell_free _ h1, ⟨⟨a, f, _, l1, cell_at 6 _ h1 rfl, ?_, hl⟩, hlt, by rw [size_cell]; exact Nat.le_trans hle hb.size⟩, Fo.set hb hlt hle _ _⟩
  exact ho.kept (cgrown _ _ _ _) (.inr fun e => by have := (ho.lt _ e).1; omega)

set_option maxRecDepth 100000 in
set_option maxHeartbeats 1000000 in
theorem snt_int (B s N : Nat) (v : Int) (w : World) (h : Ts B w s N) (hN : N ≤ 1000000) (h0 : 0 ≤ v) (h1 : v ≤ 4611686018427387903) :
    Calls Try.prog 66 #[.pointer (some ⟨s, 0, none⟩), .int .u64 v] w fun e w' => e = .returned (.tuple #[]) ∧ Hid (Ts B w' s (N + 8) ∧ Fo B s w w') := by
  obtain ⟨⟨a, f, T, lt, hs, ho, hl⟩, hlt, hle⟩ := h
  have c6 : w.cell? ⟨s, 6, none⟩ = some T := by rw [cell_of_row _ _ 6 _ _ (0, 0) hs]; rfl
  have HS := Lib.hid hs
  have HO := Lib.hid ho
  have HL := Lib.hid hl
  clear hs ho hl
  go_enter Try.func66, Try.ntmps66
  go_wp2_with fail
  refine (av B T lt v w HO.out hle (by have := HL.out; omega) h0 h1).mono ?_
  rintro e w1 ⟨s', rfl, ho1, hg1, ha1, hb1, hn1⟩
  obtain ⟨g, m, c, rfl, k1, k2, k3⟩ := ts_put HS.out hlt hle hb1 ho1 (by have := HL.out; have := esz_bd v; simp [enc_length]; omega : (lt ++ enc v).length ≤ N + 8) (by have := esz_bd v; simp [enc_length]; omega)
  clear ho1 hg1 ha1 hb1 hn1
  go_wp2_with fail
  go_end0
  exact ⟨rfl, k3⟩

/-- The packet writer in block p, its sent packet in block s: it has the bytes l in the slice S; since the world w0, where its slice was S0, but these blocks and what is new nothing has changed. -/
structure Wr (w0 : World) (S0 : Value) (B p s : Nat) (lim : Int) (w : World) (S : Value) (l : List Int) : Prop where
  pc : ∃ dg, w.heap[p]? = some (.cells #[.int .i64 dg, .int .i64 lim, .int .i64 0, .int .i64 0, S, .pointer (some ⟨s, 0, none⟩)] 96 (0, 0))
  sc : w.heap[s]? = some (.cells #[.int .i64 0, .int .i64 0, .int .u8 0, .int .u8 0, .bool false, .bool false, .slice none 0 0, .int .i64 0] 109 (0, 0))
  own : Own B w S l
  sp : s < p
  pB : p < B
  le : B ≤ w.heap.size
  bel : Below s w0 w
  blk : ∀ j, j < w0.heap.size → j ≠ p → j ≠ s → S0.ownBlock ≠ some j → w.heap[j]? = w0.heap[j]?
  sb : S.ownBlock = S0.ownBlock ∨ ∃ g, S.ownBlock = some g ∧ w0.heap.size ≤ g
  size : w0.heap.size ≤ w.heap.size
section
variable {w0 w w1 : World} {S0 S S1 : Value} {B p s : Nat} {lim : Int} {l l1 : List Int}
theorem Wr.drewN (h : Wr w0 S0 B p s lim w S l) (n : Nat) : Wr w0 S0 B p s lim (w.drewN n) S l := ⟨h.pc, h.sc, h.own.drewN n, h.sp, h.pB, h.le, below_drewN h.bel n, h.blk, h.sb, h.size⟩
theorem Wr.alloc (h : Wr w0 S0 B p s lim w S l) (o : Obj) : Wr w0 S0 B p s lim (w.alloc o) S l := by
  obtain ⟨dg, hp⟩ := h.pc
  have hpi := cell_in hp
  have hsi := cell_in h.sc
  refine ⟨⟨dg, (heap_alloc_old w o hpi).trans hp⟩, (heap_alloc_old w o hsi).trans h.sc, h.own.alloc o, h.sp, h.pB, by simp; have := h.le; omega, h.bel.alloc (Nat.le_of_lt hsi) o, fun j h1 h2 h3 h4 => ?_, h.sb, by simp; have := h.size; omega⟩
  rw [heap_alloc_old w o (by have := h.size; omega)]
  exact h.blk j h1 h2 h3 h4
/-- The same, from the world at hand on. -/
theorem Wr.fresh (h : Wr w0 S0 B p s lim w S l) : Wr w S B p s lim w S l := ⟨h.pc, h.sc, h.own, h.sp, h.pB, h.le, Below.refl _ _, fun _ _ _ _ _ => rfl, .inl rfl, Nat.le_refl _⟩
theorem Wr.cells (h : Wr w0 S0 B p s lim w S l) : (w.cell? ⟨p, 1, none⟩ = some (.int .i64 lim) ∧ w.cell? ⟨p, 3, none⟩ = some (.int .i64 0) ∧ w.cell? ⟨p, 4, none⟩ = some S ∧ w.cell? ⟨p, 5, none⟩ = some (.pointer (some ⟨s, 0, none⟩))) ∧ w.frozen? ⟨p, 4, none⟩ = false := by
  obtain ⟨dg, hp⟩ := h.pc
  refine ⟨⟨?_, ?_, ?_, ?_⟩, cell_free _ hp⟩
  · rw [cell_of_row _ _ 1 _ _ (0, 0) hp]; rfl
  · rw [cell_of_row _ _ 3 _ _ (0, 0) hp]; rfl
  · rw [cell_of_row _ _ 4 _ _ (0, 0) hp]; rfl
  · rw [cell_of_row _ _ 5 _ _ (0, 0) hp]; rfl
theorem Wr.off (h : Wr w0 S0 B p s lim w S l) : S.ownBlock ≠ some p ∧ S.ownBlock ≠ some s := by
  have := h.sp
  have := h.pB
  refine ⟨fun e => ?_, fun e => ?_⟩ <;> (have := (h.own.lt _ e).1; omega)
/-- Bytes are appended: behind the call, and with the slice stored back. -/
theorem Wr.grow (h : Wr w0 S0 B p s lim w S l) (hg : w.grownBy w1 S.ownBlock) : (∃ dg, w1.heap[p]? = some (.cells #[.int .i64 dg, .int .i64 lim, .int .i64 0, .int .i64 0, S, .pointer (some ⟨s, 0, none⟩)] 96 (0, 0))) ∧
    w1.heap[s]? = some (.cells #[.int .i64 0, .int .i64 0, .int .u8 0, .int .u8 0, .bool false, .bool false, .slice none 0 0, .int .i64 0] 109 (0, 0)) ∧
    Below s w0 w1 ∧ (∀ j, j < w0.heap.size → j ≠ p → j ≠ s → S0.ownBlock ≠ some j → w1.heap[j]? = w0.heap[j]?) := by
  obtain ⟨dg, hp⟩ := h.pc
  obtain ⟨o1, o2⟩ := h.off
  refine ⟨⟨dg, (hg.block p (cell_in hp) (fun e => o1 e.symm)).trans hp⟩, (hg.block s (cell_in h.sc) (fun e => o2 e.symm)).trans h.sc, ?_, fun j h1 h2 h3 h4 => ?_⟩
  · exact h.bel.grown hg (Nat.le_of_lt (cell_in h.sc)) fun k hk => by have := (h.own.lt _ hk).1; have := h.sp; have := h.pB; omega
  · rw [hg.block j (by have := h.size; omega) ?_]
    · exact h.blk j h1 h2 h3 h4
    · intro e
      rcases h.sb with e2 | ⟨g, e2, hge⟩
      · exact h4 (e2.symm.trans e.symm)
      · have : j = g := by simpa using e.trans e2
        omega
theorem Wr.app {n1 : Nat} (h : Wr w0 S0 B p s lim w S l) (ho : Own B w1 S1 l1) (hg : w.grownBy w1 S.ownBlock) (ha : S1.ownBlock = S.ownBlock ∨ ∃ g, S1.ownBlock = some g ∧ w.heap.size ≤ g) (hn : Hid (l1.length = n1)) (hpos : 0 < n1) :
    ∃ g c, S1 = .slice (some ⟨g, 0, none⟩) n1 c ∧ w1.cell? ⟨p, 4, none⟩ = some S ∧ w1.frozen? ⟨p, 4, none⟩ = false ∧ Hid (Wr w0 S0 B p s lim (w1.setCell ⟨p, 4, none⟩ (.slice (some ⟨g, 0, none⟩) n1 c)) (.slice (some ⟨g, 0, none⟩) n1 c) l1) := by
  have hn := hn.out
  subst hn
  obtain ⟨g, c, rfl⟩ := ho.nonempty hpos
  obtain ⟨⟨dg, hp⟩, hs, hb, hk⟩ := h.grow hg
  have hsp := h.sp
  have hpB := h.pB
  refine ⟨g, c, rfl, by rw [cell_of_row _ _ 4 _ _ (0, 0) hp]; rfl, cell_free _ hp, ⟨dg, cell_at 4 _ hp rfl⟩, cell_off p 4 _ hs (by omega), ?_, hsp, hpB, ?_, ?_, fun j h1 h2 h3 h4 => ?_, ?_, ?_⟩
  · exact ho.kept (cgrown _ _ _ _) (.inr fun e => by have := (ho.lt _ e).1; omega)
  · rw [size_cell]; exact Nat.le_trans h.le hg.size
  · exact below_cell hb (Nat.le_of_lt (cell_in hs)) _ _ _ (Nat.le_of_lt hsp)
  · rw [(cgrown w1 p 4 _).block j (by have := h.size; have := hg.size; omega) (by simpa using h2)]
    exact hk j h1 h2 h3 h4
  · rcases ha with e | ⟨g, e, hge⟩
    · rw [e]; exact h.sb
    · exact .inr ⟨g, e, Nat.le_trans h.size hge⟩
  · rw [size_cell]; exact Nat.le_trans h.size hg.size
/-- .. by AppendVarint. -/
theorem Wr.appE {n1 : Nat} (h : Wr w0 S0 B p s lim w S l) {e : Ending} (hE : AppEnd B w S l1 e w1) (hn : Hid (l1.length = n1)) (hpos : 0 < n1) : ∃ g c, e = .returned (.slice (some ⟨g, 0, none⟩) n1 c) ∧ w1.cell? ⟨p, 4, none⟩ = some S ∧ w1.frozen? ⟨p, 4, none⟩ = false ∧ Hid (Wr w0 S0 B p s lim (w1.setCell ⟨p, 4, none⟩ (.slice (some ⟨g, 0, none⟩) n1 c)) (.slice (some ⟨g, 0, none⟩) n1 c) l1) := by
  obtain ⟨S1, rfl, ho, hg, ha, _, _⟩ := hE
  obtain ⟨g, c, rfl, a, b, k⟩ := h.app ho hg ha hn hpos
  exact ⟨g, c, rfl, a, b, k⟩
/-- One byte is set. -/
theorem Wr.set {g n c : Nat} (h : Wr w0 S0 B p s lim w (.slice (some ⟨g, 0, none⟩) n c) l) (i : Nat) (x : Int) (hi : i < l.length) (hx : 0 ≤ x ∧ x ≤ 255) :
    Wr w0 S0 B p s lim (w.setCell ⟨g, i, none⟩ (.int .u8 x)) (.slice (some ⟨g, 0, none⟩) n c) (l.set i x) := by
  have hg : w.grownBy (w.setCell ⟨g, i, none⟩ (.int .u8 x)) (Value.slice (some ⟨g, 0, none⟩) n c).ownBlock := cgrown _ _ _ _
  obtain ⟨hp, hs, hb, hk⟩ := h.grow hg
  exact ⟨hp, hs, h.own.set i x hi hx, h.sp, h.pB, by rw [size_cell]; exact h.le, hb, hk, h.sb, by rw [size_cell]; exact h.size⟩
/-- The sent packet, as its appends want it. -/
theorem Wr.ts (h : Wr w0 S0 B p s lim w S l) : Ts w.heap.size w s 0 := ⟨⟨false, false, _, [], h.sc, Own.nil_ _ _, by simp⟩, cell_in h.sc, Nat.le_refl _⟩
end

/-- The writer when its sent packet has been told. -/
structure Wd (w0 : World) (S0 : Value) (B p s : Nat) (w : World) (S : Value) (l : List Int) : Prop where
  c3 : w.cell? ⟨p, 3, none⟩ = some (.int .i64 0)
  c4 : w.cell? ⟨p, 4, none⟩ = some S
  c5 : w.cell? ⟨p, 5, none⟩ = some (.pointer (some ⟨s, 0, none⟩))
  own : Own B w S l
  bel : Below s w0 w
section
variable {w0 w w1 : World} {S0 S S1 : Value} {B p s : Nat} {lim : Int} {l l1 : List Int}
theorem Wr.done (h : Wr w0 S0 B p s lim w S l) (hf : Fo w.heap.size s w w1) : Wd w0 S0 B p s w1 S l := by
  obtain ⟨dg, hp⟩ := h.pc
  have hsp := h.sp
  have hp1 := (hf.blk p (cell_in hp) (by omega)).trans hp
  refine ⟨?_, ?_, ?_, ?_, h.bel.trans hf.bel⟩
  · rw [cell_of_row _ _ 3 _ _ (0, 0) hp1]; rfl
  · rw [cell_of_row _ _ 4 _ _ (0, 0) hp1]; rfl
  · rw [cell_of_row _ _ 5 _ _ (0, 0) hp1]; rfl
  · obtain ⟨hb, hn, ho⟩ := h.own
    refine ⟨hb, hn, ho.imp id fun ⟨g, cap, cur, e, hg, hh, rest⟩ => ⟨g, cap, cur, e, hg, ?_, rest⟩⟩
    rw [hf.blk g (cell_in hh) (by have := h.pB; omega)]
    exact hh
end

theorem Wd.back {w0 w00 w : World} {S0 S : Value} {B p s : Nat} {l : List Int} (h : Wd w0 S0 B p s w S l) (hb : Below s w00 w0) : Wd w00 S0 B p s w S l := ⟨h.c3, h.c4, h.c5, h.own, hb.trans h.bel⟩

set_option maxRecDepth 100000 in
set_option maxHeartbeats 1000000 in
theorem avail_ {w0 : World} {S0 : Value} {B p s : Nat} {lim : Int} (S : Value) (l : List Int) (w : World) (h : Wr w0 S0 B p s lim w S l) (n : Nat) (hn : Hid (l.length = n)) (hn2 : n ≤ 100000) (h0 : 0 ≤ lim) (h1 : lim ≤ 10000) :
    Calls Try.prog 62 #[.pointer (some ⟨p, 0, none⟩)] w fun e w' => e = .returned (.int .i64 (lim - n)) ∧ ∃ z, w' = w.drewN z := by
  obtain ⟨⟨c1, c3, c4, c5⟩, f4⟩ := h.cells
  obtain ⟨A, c, rfl, -, -⟩ := h.own.rd
  rw [hn.out] at c4
  clear h
  go_enter Try.func62, Try.ntmps62
  go_wp2_with fail
  go_quiet (fail)
  go_wp2_with fail
  go_ret
  exact ⟨rfl, _, rfl⟩

set_option maxRecDepth 100000 in
set_option maxHeartbeats 1000000 in
theorem payload_ {w0 : World} {S0 : Value} {B p s : Nat} (S : Value) (l : List Int) (w : World) (h : Wd w0 S0 B p s w S l) (n : Nat) (hn : Hid (l.length = n)) (hn2 : n ≤ 100000) :
    Calls Try.prog 56 #[.pointer (some ⟨p, 0, none⟩)] w fun e w' => ∃ A c, e = .returned (.slice A n c) ∧ Hid (Own B w' (.slice A n c) l) ∧ ∃ z, w' = w.drewN z := by
  have c3 := h.c3
  have c4 := h.c4
  rcases h.own.form with ⟨e, e2⟩ | ⟨g, c, e, hg, _, hc, hm⟩
  · subst e2
    obtain rfl : n = 0 := by rw [← hn.out]; rfl
    have HO := Lib.hid h.own
    rw [e] at c4 HO
    clear h e
    go_enter Try.func56, Try.ntmps56
    go_wp2_with fail
    go_quiet (fail)
    go_wp2_with fail
    go_ret
    exact ⟨none, 0, rfl, HO.out.drewN _, _, rfl⟩
  · have HO := Lib.hid h.own
    rw [e] at c4 HO
    rw [hn.out] at c4 HO
    rw [hn.out] at hc
    unfold maxLen at hm
    clear h e
    go_enter Try.func56, Try.ntmps56
    go_wp2_with fail
    go_quiet (fail)
    go_wp2_with fail
    go_ret
    exact ⟨some ⟨g, 0, none⟩, c, rfl, HO.out.drewN _, _, rfl⟩
end

section
open Go.RowKit
set_option linter.unusedVariables false

abbrev SP0 : Obj := .cells #[.int .i64 0, .int .i64 0, .int .u8 0, .int .u8 0, .bool false, .bool false, .slice none 0 0, .int .i64 0] 109 (0, 0)

set_option maxRecDepth 100000 in
set_option maxHeartbeats 1000000 in
theorem srst (s : Nat) (w : World) (hs : w.heap[s]? = some SP0) :
    Calls Try.prog 71 #[.pointer (some ⟨s, 0, none⟩)] w fun e w' => e = .returned (.tuple #[]) ∧ Hid (w'.heap[s]? = some SP0 ∧ Fo w.heap.size s w w') := by
  have c0 : w.cell? ⟨s, 0, none⟩ = some (.int .i64 0) := by rw [cell_of_row _ _ 0 _ _ (0, 0) hs]; rfl
  have c1 : w.cell? ⟨s, 1, none⟩ = some (.int .i64 0) := by rw [cell_of_row _ _ 1 _ _ (0, 0) hs]; rfl
  have c2 : w.cell? ⟨s, 2, none⟩ = some (.int .u8 0) := by rw [cell_of_row _ _ 2 _ _ (0, 0) hs]; rfl
  have c3 : w.cell? ⟨s, 3, none⟩ = some (.int .u8 0) := by rw [cell_of_row _ _ 3 _ _ (0, 0) hs]; rfl
  have c4 : w.cell? ⟨s, 4, none⟩ = some (.bool false) := by rw [cell_of_row _ _ 4 _ _ (0, 0) hs]; rfl
  have c5 : w.cell? ⟨s, 5, none⟩ = some (.bool false) := by rw [cell_of_row _ _ 5 _ _ (0, 0) hs]; rfl
  have c6 : w.cell? ⟨s, 6, none⟩ = some (.slice none 0 0) := by rw [cell_of_row _ _ 6 _ _ (0, 0) hs]; rfl
  have c7 : w.cell? ⟨s, 7, none⟩ = some (.int .i64 0) := by rw [cell_of_row _ _ 7 _ _ (0, 0) hs]; rfl
  have f0 := cell_free 0 hs
  have f1 := cell_free 1 hs
  have f2 := cell_free 2 hs
  have f3 := cell_free 3 hs
  have f4 := cell_free 4 hs
  have f5 := cell_free 5 hs
  have f6 := cell_free 6 hs
  have f7 := cell_free 7 hs
  have HS := Lib.hid hs
  clear hs
  go_enter Try.func71, Try.ntmps71
  go_wp2_with fail
  go_end0
  have k := cell_at 7 (.int .i64 0) (cell_at 6 (.slice none 0 0) (cell_at 5 (.bool false) (cell_at 4 (.bool false) (cell_at 3 (.int .u8 0) (cell_at 2 (.int .u8 0) (cell_at 1 (.int .i64 0) (cell_at 0 (.int .i64 0) HS.out rfl) rfl) rfl) rfl) rfl) rfl) rfl) rfl
  have hlt := cell_in HS.out
  exact ⟨rfl, k, ((((((((Fo.refl w.heap.size s w).setc hlt (Nat.le_refl _) _ _).setc hlt (Nat.le_refl _) _ _).setc hlt (Nat.le_refl _) _ _).setc hlt (Nat.le_refl _) _ _).setc hlt (Nat.le_refl _) _ _).setc hlt (Nat.le_refl _) _ _).setc hlt (Nat.le_refl _) _ _).setc hlt (Nat.le_refl _) _ _⟩

set_option maxRecDepth 100000 in
set_option maxHeartbeats 1000000 in
theorem snew (w : World) :
    Calls Try.prog 60 #[] w fun e w' => e = .returned (.pointer (some ⟨w.heap.size, 0, none⟩)) ∧ Hid (w'.heap[w.heap.size]? = some SP0 ∧ Below w.heap.size w w') := by
  go_enter Try.func60, Try.ntmps60
  go_wp2_with fail
  refine (srst w.heap.size _ (heap_alloc_new w _)).mono ?_
  rintro e w1 ⟨rfl, H⟩
  have HB : Hid (Below w.heap.size w w1) := ((Below.refl _ _).alloc (Nat.le_refl _) _).trans H.out.2.bel
  go_wp2_with fail
  go_ret
  exact ⟨rfl, H.out.1, HB.out⟩

/-- A new writer in block p. -/
abbrev PW (dg lim : Int) (S : Value) (s : Nat) : Obj := .cells #[.int .i64 dg, .int .i64 lim, .int .i64 0, .int .i64 0, S, .pointer (some ⟨s, 0, none⟩)] 96 (0, 0)

set_option maxRecDepth 100000 in
set_option maxHeartbeats 1000000 in
theorem wrst (p s n : Nat) (w : World) (hp : w.heap[p]? = some (PW 0 0 (.slice none 0 0) s)) (hsp : s < p) (hn : n ≤ 10000) :
    Calls Try.prog 61 #[.pointer (some ⟨p, 0, none⟩), .int .i64 n] w fun e w' => e = .returned (.tuple #[]) ∧ Hid (∃ S, w'.heap[p]? = some (PW n 0 S s) ∧ Own w.heap.size w' S [] ∧ Fo w.heap.size p w w') := by
  have c4 : w.cell? ⟨p, 4, none⟩ = some (.slice none 0 0) := by rw [cell_of_row _ _ 4 _ _ (0, 0) hp]; rfl
  have c0 : w.cell? ⟨p, 0, none⟩ = some (.int .i64 0) := by rw [cell_of_row _ _ 0 _ _ (0, 0) hp]; rfl
  have f0 := cell_free 0 hp
  have f4 := cell_free 4 hp
  have HS := Lib.hid hp
  have hlt := cell_in hp
  clear hp
  rcases Nat.eq_zero_or_pos n with rfl | hpos
  · go_enter Try.func61, Try.ntmps61
    go_wp2_with fail
    go_end0
    have k := cell_at 4 (.slice none 0 0) (cell_at 0 (.int .i64 0) HS.out rfl) rfl
    exact ⟨rfl, _, k, Own.nil_ _ _, ((Fo.refl w.heap.size p w).setc hlt (Nat.le_refl _) _ _).setc hlt (Nat.le_refl _) _ _⟩
  · obtain ⟨i0, hi, hz0, hz1, hz2⟩ := info_parts info_u8
    go_enter Try.func61, Try.ntmps61
    go_wp2_with (refine wpList_make_own _ rfl _ _ _ rfl w.heap.size _ i0 _ 1 Try.underlying22 hi hz0 hz1 _ _ _ n rfl rfl rfl (by rw [hz2]; omega) (by unfold maxLen; omega) (Nat.le_refl _) ?_; intro w1 ho1 hg1; have k1 := (hg1.block p hlt (by simp)).trans HS.out; have d4 : w1.cell? ⟨p, 4, none⟩ = some (.slice none 0 0) := (by rw [cell_of_row _ _ 4 _ _ (0, 0) k1]; rfl); have d0 : w1.cell? ⟨p, 0, none⟩ = some (.int .i64 0) := (by rw [cell_of_row _ _ 0 _ _ (0, 0) k1]; rfl); have e0 := cell_free 0 k1; have e4 := cell_free 4 k1; have K1 := Lib.hid k1; have HO := Lib.hid ho1; have HG := Lib.hid hg1; clear k1 ho1 hg1)
    go_end0
    have HB : Below w.heap.size w w1 := (Below.refl _ _).grown HG.out (Nat.le_refl _) fun k hk => by cases hk
    have k := cell_at 4 (.slice (some ⟨w.heap.size, 0, none⟩) 0 n) (cell_at 0 (.int .i64 n) (cell_at 4 (.slice (some ⟨w.heap.size, 0, none⟩) 0 n) K1.out rfl) rfl) rfl
    have HOw : Own w.heap.size w1 (.slice (some ⟨w.heap.size, 0, none⟩) 0 n) [] := ⟨Bs.nil, HO.out⟩
    have st : ∀ (W : World) (i : Nat) (v : Value), Own w.heap.size W (.slice (some ⟨w.heap.size, 0, none⟩) 0 n) [] → Own w.heap.size (W.setCell ⟨p, i, none⟩ v) (.slice (some ⟨w.heap.size, 0, none⟩) 0 n) [] := fun W i v ho => ho.kept (cgrown _ _ _ _) (.inr fun e => by have := (ho.lt _ e).1; omega)
    exact ⟨rfl, _, k, st _ _ _ (st _ _ _ (st _ _ _ HOw)), ((Fo.set HB hlt (Nat.le_refl _) _ _).setc hlt (Nat.le_refl _) _ _).setc hlt (Nat.le_refl _) _ _⟩

set_option maxRecDepth 100000 in
set_option maxHeartbeats 1000000 in
theorem zzw (n : Nat) (w : World) (hn : n ≤ 10000) :
    Calls Try.prog 36 #[.int .i64 n] w fun e w' => ∃ p S, e = .returned (.pointer (some ⟨p, 0, none⟩)) ∧ Hid (Wr w' S (p + 1) p w.heap.size n w' S [] ∧ Below w.heap.size w w') := by
  go_enter Try.func36, Try.ntmps36
  go_wp2_with fail
  refine (snew w).mono ?_
  rintro e w1 ⟨rfl, H1⟩
  have q0 := heap_alloc_new w1 (PW 0 0 (.slice none 0 0) w.heap.size)
  have hsw : w.heap.size < w1.heap.size := cell_in H1.out.1
  have Q0 := Lib.hid q0
  clear q0
  go_wp2_with fail
  refine (wrst w1.heap.size w.heap.size n _ Q0.out hsw hn).mono ?_
  rintro e w2 ⟨rfl, H2⟩
  obtain ⟨S, k2, ho2, hf2⟩ := H2.out
  have d1 : w2.cell? ⟨w1.heap.size, 1, none⟩ = some (.int .i64 0) := by rw [cell_of_row _ _ 1 _ _ (0, 0) k2]; rfl
  have f1 := cell_free 1 k2
  have HW : Hid (Wr (w2.setCell ⟨w1.heap.size, 1, none⟩ (.int .i64 n)) S (w1.heap.size + 1) w1.heap.size w.heap.size n (w2.setCell ⟨w1.heap.size, 1, none⟩ (.int .i64 n)) S [] ∧ Below w.heap.size w (w2.setCell ⟨w1.heap.size, 1, none⟩ (.int .i64 n))) := by
    have hs1 : (w1.alloc (PW 0 0 (.slice none 0 0) w.heap.size)).heap.size = w1.heap.size + 1 := by simp
    have hb2 := hf2.bel
    have hsz := hf2.size
    rw [hs1] at ho2 hsz
    have hsc := (hf2.blk w.heap.size (by rw [hs1]; omega) (by omega)).trans ((heap_alloc_old w1 _ hsw).trans H1.out.1)
    refine ⟨⟨⟨n, cell_at 1 _ k2 rfl⟩, cell_off _ 1 _ hsc (by omega), ho2.kept (cgrown _ _ _ _) (.inr fun e => by have := (ho2.lt _ e).1; omega), hsw, by omega, by rw [size_cell]; exact hsz, Below.refl _ _, fun _ _ _ _ _ => rfl, .inl rfl, Nat.le_refl _⟩, ?_⟩
    exact below_cell ((H1.out.2.alloc H1.out.2.size _).trans (hb2.mono (Nat.le_of_lt hsw))) (by omega) _ _ _ (Nat.le_of_lt hsw)
  clear k2 ho2 hf2 H2
  go_wp2_with fail
  go_ret
  exact ⟨_, S, rfl, HW⟩
end

section
open Go.RowKit
set_option linter.unusedVariables false

theorem eszk (v : Int) : ∃ k, Hid (esz v = k) ∧ 1 ≤ k ∧ k ≤ 8 := ⟨_, Lib.hid rfl, esz_bd v⟩
theorem svk (v : Int) (k : Nat) (w : World) (hk : Hid (esz v = k)) (h0 : 0 ≤ v) (h1 : v ≤ 4611686018427387903) :
    Calls Try.prog 63 #[.int .u64 v] w fun e w' => e = .returned (.int .i64 k) ∧ w = w' := by
  have := hk.out
  subst this
  exact sv v w h0 h1

/-- append where there is room, whatever the source. -/
theorem wpList_appR {ops : Array Oper} {rest : List Oper} {o : Oper} {a : Act} {Q : Exit → Act → World → Prop} (B : Nat) (w : World) (hgd : o.guard = none) (s x : Operand)
    (ho : o.op = .call { callee := .builtin .append, args := #[s, x], argTypes := #[22, 22] })
    (g n c : Nat) (l : List Int) (hs : a.eval s = .slice (some ⟨g, 0, none⟩) n c) (hown : Own B w (.slice (some ⟨g, 0, none⟩) n c) l) (hn : Hid (l.length = n)) (A : Option Addr) (m c' : Nat) (news : List Int) (hx : a.eval x = .slice A m c') (hm : Hid (news.length = m)) (hr : Rd w A news) (hnil : Hid (A = none → c' = 0))
    (hroom : n + m ≤ c)
    (h : ∀ w', Hid (Own B w' (.slice (some ⟨g, 0, none⟩) (n + m) c) (l ++ news)) → Hid (w.grownBy w' (some g)) → wpList Try.prog ops Q rest (a.put o.dst (.slice (some ⟨g, 0, none⟩) (n + m) c)) w') : wpList Try.prog ops Q (o :: rest) a w := by
  obtain ⟨i0, hi, hz0, hz1, hz2⟩ := info_parts info_u8
  have hn' := hn.out
  have hm' := hm.out
  have hbs := hown.1.append hr.1
  have fin : ∀ {w' : World}, w'.ownsRow B 5 1 (.slice (some ⟨g, 0, none⟩) (n + m) c) (n + m) (vals l ++ vals news) → Own B w' (.slice (some ⟨g, 0, none⟩) (n + m) c) (l ++ news) := fun {w'} h => by
    refine ⟨hbs, ?_⟩
    rw [List.length_append, hm', hn', vals_append]
    exact h
  have hrow : w.ownsRow B 5 1 (.slice (some ⟨g, 0, none⟩) n c) n (vals l) := by
    have := hown.2
    rwa [hn'] at this
  cases A with
  | none =>
    have hne : news = [] := by
      rcases Nat.eq_zero_or_pos news.length with h0 | h0
      · exact List.eq_nil_of_length_eq_zero h0
      · obtain ⟨b, o, e, _⟩ := hr.2 h0
        cases e
    subst hne
    obtain rfl : m = 0 := by simpa using hm'.symm
    obtain rfl := hnil.out rfl
    refine wpList_plain hgd fun K hK => ?_
    unfold Oper.wp execOp
    simp only [ho, resolve, invoke, builtin, Sem.run_bind, Sem.run_pure, Result.andThen_ok, List.map_toArray, List.map_cons, List.map_nil, hs, hx, run_append_owned_none (P := Try.prog) w B _ o.type _ i0 1 Try.underlying22 hi _ n (vals l) hrow]
    exact hK _ _ (h w (fin (by simpa [vals] using hrow)) (World.grownBy.refl _ _))
  | some ad =>
    have hcells : ∀ j u, (vals news)[j]? = some u → w.cell? (ad.add j) = some u := by
      intro j u hu
      obtain ⟨hj, rfl⟩ := vals_get? news j u hu
      obtain ⟨b, o, e, hc⟩ := hr.2 (by omega)
      obtain rfl : ad = ⟨b, o, none⟩ := by simpa using e
      rw [Addr.add_lit]
      exact hc j hj
    exact wpList_append_own_spare w hgd s x 22 ho B 5 i0 1 Try.underlying22 hi hz1 g n c (vals l) hs hrow ad m c' (vals news) hx (by rw [vals_length]; omega) hcells (vals_one _) hroom fun w' h2 h3 => h w' (fin h2) h3

theorem wrap_u8r (x : Int) : IntKind.u8.wrap x = x % 256 := by rw [IntKind.wrap_u8]
set_option maxHeartbeats 1000000 in
theorem avr_1 (B g n c : Nat) (l : List Int) (v : Int) (w : World) (hown : Own B w (.slice (some ⟨g, 0, none⟩) n c) l) (hn : Hid (l.length = n)) (hroom : n + 1 ≤ c) (hc : c ≤ 9223372036854775807) (hlo : 0 ≤ v) (hhi : v ≤ 63) :
    Calls Try.prog 64 #[.slice (some ⟨g, 0, none⟩) n c, .int .u64 v] w fun e w' => e = .returned (.slice (some ⟨g, 0, none⟩) (n + 1) c) ∧ Hid (Own B w' (.slice (some ⟨g, 0, none⟩) (n + 1) c) (l ++ enc v) ∧ w.grownBy w' (some g)) := by
  have hbs := enc_Bs (by omega : 0 ≤ v) (by omega : v ≤ 4611686018427387903)
  have he : enc v = [v] := by rw [enc, if_pos hhi]
  rw [he] at hbs ⊢
  have hrd := Rd.new w _ hbs 5
  have HR := Lib.hid hrd
  have HO := Lib.hid hown
  have HM : Hid (List.length [v] = 1) := rfl
  have HZ : Hid ((some ⟨w.heap.size, 0, none⟩ : Option Addr) = none → 1 = 0) := fun h => by cases h
  clear he hbs hrd hown
  go_enter Try.func64, Try.ntmps64
  go_wp2_with (at_builtin; refine wpList_appR B _ rfl _ _ rfl g n c l rfl (HO.out.alloc _) hn (some ⟨w.heap.size, 0, none⟩) 1 1 [v] rfl HM (by exact HR.out) HZ hroom ?_; intro w1 hown1 hgrow1)
  go_ret
  exact ⟨rfl, hown1.out, grownBy_alloc_left hgrow1.out⟩

set_option maxHeartbeats 1000000 in
theorem avr_2 (B g n c : Nat) (l : List Int) (v : Int) (w : World) (hown : Own B w (.slice (some ⟨g, 0, none⟩) n c) l) (hn : Hid (l.length = n)) (hroom : n + 2 ≤ c) (hc : c ≤ 9223372036854775807) (hlo : 63 < v) (hhi : v ≤ 16383) :
    Calls Try.prog 64 #[.slice (some ⟨g, 0, none⟩) n c, .int .u64 v] w fun e w' => e = .returned (.slice (some ⟨g, 0, none⟩) (n + 2) c) ∧ Hid (Own B w' (.slice (some ⟨g, 0, none⟩) (n + 2) c) (l ++ enc v) ∧ w.grownBy w' (some g)) := by
  have hbs := enc_Bs (by omega : 0 ≤ v) (by omega : v ≤ 4611686018427387903)
  have he : enc v = [64 + v / 256, v % 256] := by rw [enc, if_neg (by omega), if_pos hhi]
  rw [he] at hbs ⊢
  have hrd := Rd.new w _ hbs 5
  have HR := Lib.hid hrd
  have HO := Lib.hid hown
  have HM : Hid (List.length [64 + v / 256, v % 256] = 2) := rfl
  have HZ : Hid ((some ⟨w.heap.size, 0, none⟩ : Option Addr) = none → 2 = 0) := fun h => by cases h
  clear he hbs hrd hown
  have ho : bits .or .u8 64 (v / 256) = 64 + v / 256 := or_u8 6 _ _ (by omega) (by omega) (by omega) (by decide) (by omega) (by omega)
  have hw0 : IntKind.u8.wrap (v) = v % 256 := wrap_u8r _
  go_enter Try.func64, Try.ntmps64
  go_wp2_with (at_builtin; refine wpList_appR B _ rfl _ _ rfl g n c l rfl (HO.out.alloc _) hn (some ⟨w.heap.size, 0, none⟩) 2 2 [64 + v / 256, v % 256] rfl HM (by exact HR.out) HZ hroom ?_; intro w1 hown1 hgrow1)
  go_ret
  exact ⟨rfl, hown1.out, grownBy_alloc_left hgrow1.out⟩

set_option maxHeartbeats 1000000 in
theorem avr_4 (B g n c : Nat) (l : List Int) (v : Int) (w : World) (hown : Own B w (.slice (some ⟨g, 0, none⟩) n c) l) (hn : Hid (l.length = n)) (hroom : n + 4 ≤ c) (hc : c ≤ 9223372036854775807) (hlo : 16383 < v) (hhi : v ≤ 1073741823) :
    Calls Try.prog 64 #[.slice (some ⟨g, 0, none⟩) n c, .int .u64 v] w fun e w' => e = .returned (.slice (some ⟨g, 0, none⟩) (n + 4) c) ∧ Hid (Own B w' (.slice (some ⟨g, 0, none⟩) (n + 4) c) (l ++ enc v) ∧ w.grownBy w' (some g)) := by
  have hbs := enc_Bs (by omega : 0 ≤ v) (by omega : v ≤ 4611686018427387903)
  have he : enc v = [128 + v / 16777216, v / 65536 % 256, v / 256 % 256, v % 256] := by rw [enc, if_neg (by omega), if_neg (by omega), if_pos hhi]
  rw [he] at hbs ⊢
  have hrd := Rd.new w _ hbs 5
  have HR := Lib.hid hrd
  have HO := Lib.hid hown
  have HM : Hid (List.length [128 + v / 16777216, v / 65536 % 256, v / 256 % 256, v % 256] = 4) := rfl
  have HZ : Hid ((some ⟨w.heap.size, 0, none⟩ : Option Addr) = none → 4 = 0) := fun h => by cases h
  clear he hbs hrd hown
  have ho : bits .or .u8 128 (v / 16777216) = 128 + v / 16777216 := or_u8 6 _ _ (by omega) (by omega) (by omega) (by decide) (by omega) (by omega)
  have hw0 : IntKind.u8.wrap (v) = v % 256 := wrap_u8r _
  have hw8 : IntKind.u8.wrap (v / 256) = v / 256 % 256 := wrap_u8r _
  have hw16 : IntKind.u8.wrap (v / 65536) = v / 65536 % 256 := wrap_u8r _
  go_enter Try.func64, Try.ntmps64
  go_wp2_with (at_builtin; refine wpList_appR B _ rfl _ _ rfl g n c l rfl (HO.out.alloc _) hn (some ⟨w.heap.size, 0, none⟩) 4 4 [128 + v / 16777216, v / 65536 % 256, v / 256 % 256, v % 256] rfl HM (by exact HR.out) HZ hroom ?_; intro w1 hown1 hgrow1)
  go_ret
  exact ⟨rfl, hown1.out, grownBy_alloc_left hgrow1.out⟩

set_option maxHeartbeats 1000000 in
theorem avr_8 (B g n c : Nat) (l : List Int) (v : Int) (w : World) (hown : Own B w (.slice (some ⟨g, 0, none⟩) n c) l) (hn : Hid (l.length = n)) (hroom : n + 8 ≤ c) (hc : c ≤ 9223372036854775807) (hlo : 1073741823 < v) (hhi : v ≤ 4611686018427387903) :
    Calls Try.prog 64 #[.slice (some ⟨g, 0, none⟩) n c, .int .u64 v] w fun e w' => e = .returned (.slice (some ⟨g, 0, none⟩) (n + 8) c) ∧ Hid (Own B w' (.slice (some ⟨g, 0, none⟩) (n + 8) c) (l ++ enc v) ∧ w.grownBy w' (some g)) := by
  have hbs := enc_Bs (by omega : 0 ≤ v) (by omega : v ≤ 4611686018427387903)
  have he : enc v = [192 + v / 72057594037927936, v / 281474976710656 % 256, v / 1099511627776 % 256, v / 4294967296 % 256, v / 16777216 % 256, v / 65536 % 256, v / 256 % 256, v % 256] := by rw [enc, if_neg (by omega), if_neg (by omega), if_neg (by omega)]
  rw [he] at hbs ⊢
  have hrd := Rd.new w _ hbs 5
  have HR := Lib.hid hrd
  have HO := Lib.hid hown
  have HM : Hid (List.length [192 + v / 72057594037927936, v / 281474976710656 % 256, v / 1099511627776 % 256, v / 4294967296 % 256, v / 16777216 % 256, v / 65536 % 256, v / 256 % 256, v % 256] = 8) := rfl
  have HZ : Hid ((some ⟨w.heap.size, 0, none⟩ : Option Addr) = none → 8 = 0) := fun h => by cases h
  clear he hbs hrd hown
  have ho : bits .or .u8 192 (v / 72057594037927936) = 192 + v / 72057594037927936 := or_u8 6 _ _ (by omega) (by omega) (by omega) (by decide) (by omega) (by omega)
  have hw0 : IntKind.u8.wrap (v) = v % 256 := wrap_u8r _
  have hw8 : IntKind.u8.wrap (v / 256) = v / 256 % 256 := wrap_u8r _
  have hw16 : IntKind.u8.wrap (v / 65536) = v / 65536 % 256 := wrap_u8r _
  have hw24 : IntKind.u8.wrap (v / 16777216) = v / 16777216 % 256 := wrap_u8r _
  have hw32 : IntKind.u8.wrap (v / 4294967296) = v / 4294967296 % 256 := wrap_u8r _
  have hw40 : IntKind.u8.wrap (v / 1099511627776) = v / 1099511627776 % 256 := wrap_u8r _
  have hw48 : IntKind.u8.wrap (v / 281474976710656) = v / 281474976710656 % 256 := wrap_u8r _
  go_enter Try.func64, Try.ntmps64
  go_wp2_with (at_builtin; refine wpList_appR B _ rfl _ _ rfl g n c l rfl (HO.out.alloc _) hn (some ⟨w.heap.size, 0, none⟩) 8 8 [192 + v / 72057594037927936, v / 281474976710656 % 256, v / 1099511627776 % 256, v / 4294967296 % 256, v / 16777216 % 256, v / 65536 % 256, v / 256 % 256, v % 256] rfl HM (by exact HR.out) HZ hroom ?_; intro w1 hown1 hgrow1)
  go_ret
  exact ⟨rfl, hown1.out, grownBy_alloc_left hgrow1.out⟩

/-- AppendVarint where there is room. -/
theorem avr (B g n c n1 : Nat) (l : List Int) (v : Int) (w : World) (hown : Own B w (.slice (some ⟨g, 0, none⟩) n c) l) (hn : Hid (l.length = n)) (hn1 : Hid (n + esz v = n1)) (hroom : n1 ≤ c) (hc : c ≤ 9223372036854775807) (h0 : 0 ≤ v) (h1 : v ≤ 4611686018427387903) :
    Calls Try.prog 64 #[.slice (some ⟨g, 0, none⟩) n c, .int .u64 v] w fun e w' => e = .returned (.slice (some ⟨g, 0, none⟩) n1 c) ∧ Hid (Own B w' (.slice (some ⟨g, 0, none⟩) n1 c) (l ++ enc v) ∧ w.grownBy w' (some g)) := by
  have e := hn1.out
  by_cases a : v ≤ 63
  · obtain rfl : n + 1 = n1 := by rw [← e, esz, if_pos a]
    exact avr_1 B g n c l v w hown hn hroom hc h0 a
  by_cases b : v ≤ 16383
  · obtain rfl : n + 2 = n1 := by rw [← e, esz, if_neg a, if_pos b]
    exact avr_2 B g n c l v w hown hn hroom hc (by omega) b
  by_cases d : v ≤ 1073741823
  · obtain rfl : n + 4 = n1 := by rw [← e, esz, if_neg a, if_neg b, if_pos d]
    exact avr_4 B g n c l v w hown hn hroom hc (by omega) d
  · obtain rfl : n + 8 = n1 := by rw [← e, esz, if_neg a, if_neg b, if_neg d]
    exact avr_8 B g n c l v w hown hn hroom hc (by omega) h1

set_option maxHeartbeats 1000000 in
/-- AppendVarintBytes where there is room. -/
theorem avbr (B g n c n2 : Nat) (l : List Int) (A : Option Addr) (m c' : Nat) (d : List Int) (w : World) (hown : Own B w (.slice (some ⟨g, 0, none⟩) n c) l) (hn : Hid (l.length = n)) (hr : Rd w A d) (hm : Hid (d.length = m)) (hz : Hid (A = none → c' = 0)) (hsep : Hid (0 < d.length → Sep A (some g))) (hm2 : m ≤ 100000) (hn2 : Hid (n + esz m + m = n2)) (hroom : n2 ≤ c) (hc : c ≤ 9223372036854775807) :
    Calls Try.prog 68 #[.slice (some ⟨g, 0, none⟩) n c, .slice A m c'] w fun e w' => e = .returned (.slice (some ⟨g, 0, none⟩) n2 c) ∧ Hid (Own B w' (.slice (some ⟨g, 0, none⟩) n2 c) (l ++ enc m ++ d) ∧ w.grownBy w' (some g)) := by
  obtain ⟨n1, h1⟩ : ∃ n1, Hid (n + esz m = n1) := ⟨_, Lib.hid rfl⟩
  have h2 : n1 + m = n2 := by rw [← h1.out]; exact hn2.out
  subst h2
  have HR := Lib.hid hr
  have HO := Lib.hid hown
  have hl1 : Hid ((l ++ enc (m : Int)).length = n1) := by show _ = _; rw [List.length_append, enc_length, hn.out]; exact h1.out
  clear hr hown hn2
  go_enter Try.func68, Try.ntmps68
  go_wp2_with fail
  refine (avr B g n c n1 l m _ HO.out hn h1 (by omega) hc (by omega) (by omega)).mono ?_
  rintro e w1 ⟨rfl, H1⟩
  have HR1 := Lib.hid (HR.out.grown H1.out.2 hsep.out)
  go_wp2_with (at_builtin; refine wpList_appR B _ rfl _ _ rfl g n1 c _ rfl H1.out.1 hl1 A m c' d rfl hm (by exact HR1.out) hz hroom ?_; intro w2 hown2 hgrow2)
  go_ret
  exact ⟨rfl, hown2.out, grownBy_trans H1.out.2 hgrow2.out (.inl rfl)⟩

set_option maxHeartbeats 1000000 in
/-- AppendUint8Bytes where there is room. -/
theorem a8br (B g n c n2 : Nat) (l : List Int) (A : Option Addr) (m c' : Nat) (d : List Int) (w : World) (hown : Own B w (.slice (some ⟨g, 0, none⟩) n c) l) (hn : Hid (l.length = n)) (hr : Rd w A d) (hm : Hid (d.length = m)) (hz : Hid (A = none → c' = 0)) (hsep : Hid (0 < d.length → Sep A (some g))) (hm2 : m ≤ 255) (hn2 : Hid (n + 1 + m = n2)) (hroom : n2 ≤ c) (hc : c ≤ 9223372036854775807) :
    Calls Try.prog 69 #[.slice (some ⟨g, 0, none⟩) n c, .slice A m c'] w fun e w' => e = .returned (.slice (some ⟨g, 0, none⟩) n2 c) ∧ Hid (Own B w' (.slice (some ⟨g, 0, none⟩) n2 c) (l ++ [(m : Int)] ++ d) ∧ w.grownBy w' (some g)) := by
  obtain ⟨n1, h1⟩ : ∃ n1, Hid (n + 1 = n1) := ⟨_, Lib.hid rfl⟩
  have h1' := h1.out
  have h2 : n1 + m = n2 := by rw [← h1']; exact hn2.out
  subst h2
  have HR := Lib.hid (hr.alloc (.cells #[.int .u8 (m : Int)] 5 (0, 0)))
  have HO := Lib.hid (hown.alloc (.cells #[.int .u8 (m : Int)] 5 (0, 0)))
  have HRN := Lib.hid (Rd.new w [(m : Int)] (Bs.cons (by omega) Bs.nil) 5)
  have HM : Hid (List.length [(m : Int)] = 1) := rfl
  have HZ : Hid ((some ⟨w.heap.size, 0, none⟩ : Option Addr) = none → 1 = 0) := fun h => by cases h
  have hl1 : Hid ((l ++ [(m : Int)]).length = n1) := by show _ = _; rw [List.length_append, hn.out]; exact h1'
  subst h1'
  clear hr hown hn2 h1
  go_enter Try.func69, Try.ntmps69
  go_wp2_with (first
    | (at_builtin; refine wpList_appR B _ rfl (.tmp 9) (.tmp 13) rfl g n c l rfl HO.out hn (some ⟨w.heap.size, 0, none⟩) 1 1 [(m : Int)] rfl HM (by exact HRN.out) HZ (by omega) ?_; intro w1 ho1 hg1; have HR1 := Lib.hid (HR.out.grown hg1.out hsep.out))
    | (at_builtin; refine wpList_appR B _ rfl (.tmp 15) (.tmp 16) rfl g (n + 1) c _ rfl ho1.out hl1 A m c' d rfl hm (by exact HR1.out) hz hroom ?_; intro w2 hown2 hgrow2))
  go_ret
  exact ⟨rfl, hown2.out, grownBy_alloc_left (grownBy_trans hg1.out hgrow2.out (.inl rfl))⟩
end

section
open Go.RowKit
set_option linter.unusedVariables false

/-- The same as ts_put, with what the slice holds. -/
theorem ts_putx {B s N : Nat} {w w1 : World} {a f : Bool} {T v1 : Value} {l1 : List Int} (hs : w.heap[s]? = some (.cells #[.int .i64 0, .int .i64 0, .int .u8 0, .int .u8 0, .bool a, .bool f, T, .int .i64 0] 109 (0, 0))) (hlt : s < B) (hle : B ≤ w.heap.size) (hb : Below B w w1) (ho : Own B w1 v1 l1) (hl : l1.length ≤ N) (hpos : 0 < l1.length) :
    ∃ g m c, v1 = .slice (some ⟨g, 0, none⟩) m c ∧ w1.cell? ⟨s, 6, none⟩ = some T ∧ w1.frozen? ⟨s, 6, none⟩ = false ∧ Hid (Ts B (w1.setCell ⟨s, 6, none⟩ (.slice (some ⟨g, 0, none⟩) m c)) s N ∧ Fo B s w (w1.setCell ⟨s, 6, none⟩ (.slice (some ⟨g, 0, none⟩) m c))) ∧
      Hid ((w1.setCell ⟨s, 6, none⟩ (.slice (some ⟨g, 0, none⟩) m c)).cell? ⟨s, 6, none⟩ = some (.slice (some ⟨g, 0, none⟩) m c) ∧
        (w1.setCell ⟨s, 6, none⟩ (.slice (some ⟨g, 0, none⟩) m c)).heap[s]? = some (.cells #[.int .i64 0, .int .i64 0, .int .u8 0, .int .u8 0, .bool a, .bool f, .slice (some ⟨g, 0, none⟩) m c, .int .i64 0] 109 (0, 0)) ∧ Own B (w1.setCell ⟨s, 6, none⟩ (.slice (some ⟨g, 0, none⟩) m c)) (.slice (some ⟨g, 0, none⟩) m c) l1) := by
  have h1 := (hb.block s hlt).trans hs
  obtain ⟨g, c, rfl⟩ := ho.nonempty hpos
  have h2 := cell_at 6 (.slice (some ⟨g, 0, none⟩) l1.length c) h1 rfl
  have h3 : Own B (w1.setCell ⟨s, 6, none⟩ (.slice (some ⟨g, 0, none⟩) l1.length c)) (.slice (some ⟨g, 0, none⟩) l1.length c) l1 := ho.kept (cgrown _ _ _ _) (.inr fun e => by have := (ho.lt _ e).1; omega)
  refine ⟨g, _, c, rfl, by rw [cell_of_row _ _ 6 _ _ (0, 0) h1]; rfl, cell_free _ h1, ⟨⟨⟨a, f, _, l1, h2, h3, hl⟩, hlt, by rw [size_cell]; exact Nat.le_trans hle hb.size⟩, Fo.set hb hlt hle _ _⟩, ?_, h2, h3⟩
  rw [cell_of_row _ _ 6 _ _ (0, 0) h2]
  rfl

set_option maxRecDepth 100000 in
set_option maxHeartbeats 2000000 in
theorem snt_ack (B s N : Nat) (x : Int) (w : World) (h : Ts B w s N) (hN : N ≤ 1000000) (hx : 0 ≤ x ∧ x ≤ 255) :
    Calls Try.prog 65 #[.pointer (some ⟨s, 0, none⟩), .int .u8 x] w fun e w' => e = .returned (.tuple #[]) ∧ Hid (Ts B w' s (N + 1) ∧ Fo B s w w') := by
  obtain ⟨⟨a, f, T, lt, hs, ho, hl⟩, hlt, hle⟩ := h
  have b4 : w.cell? ⟨s, 4, none⟩ = some (.bool a) := by rw [cell_of_row _ _ 4 _ _ (0, 0) hs]; rfl
  have b5 : w.cell? ⟨s, 5, none⟩ = some (.bool f) := by rw [cell_of_row _ _ 5 _ _ (0, 0) hs]; rfl
  have f4 := cell_free 4 hs
  have f5 := cell_free 5 hs
  have hs1 : (w.setCell ⟨s, 4, none⟩ (.bool true)).heap[s]? = some (.cells #[.int .i64 0, .int .i64 0, .int .u8 0, .int .u8 0, .bool true, .bool f, T, .int .i64 0] 109 (0, 0)) := cell_at 4 (.bool true) hs rfl
  have b5' : (w.setCell ⟨s, 4, none⟩ (.bool true)).cell? ⟨s, 5, none⟩ = some (.bool f) := by rw [cell_of_row _ _ 5 _ _ (0, 0) hs1]; rfl
  have f5' := cell_free 5 hs1
  have hs2 : ((w.setCell ⟨s, 4, none⟩ (.bool true)).setCell ⟨s, 5, none⟩ (.bool true)).heap[s]? = some (.cells #[.int .i64 0, .int .i64 0, .int .u8 0, .int .u8 0, .bool true, .bool true, T, .int .i64 0] 109 (0, 0)) := cell_at 5 (.bool true) hs1 rfl
  obtain ⟨W, hW⟩ : ∃ W, Hid ((w.setCell ⟨s, 4, none⟩ (.bool true)).setCell ⟨s, 5, none⟩ (.bool true) = W) := ⟨_, Lib.hid rfl⟩
  have hF : Fo B s w W := by rw [← hW.out]; exact ((Fo.refl _ _ _).setc hlt hle 4 _).setc hlt hle 5 _
  have HF := Lib.hid hF
  have c6' : ((w.setCell ⟨s, 4, none⟩ (.bool true)).setCell ⟨s, 5, none⟩ (.bool true)).cell? ⟨s, 6, none⟩ = some T := by rw [cell_of_row _ _ 6 _ _ (0, 0) hs2]; rfl
  have hsz : W.heap.size = w.heap.size := by rw [← hW.out, size_cell, size_cell]
  rw [hW.out] at hs2
  have hoW : Own B W T lt := by
    rw [← hW.out]
    have q : ∀ k, T.ownBlock = some k → k ≠ s := fun k e => by have := (ho.lt k e).1; omega
    exact (ho.kept (cgrown _ _ _ _) (.inr fun e => q s e rfl)).kept (cgrown _ _ _ _) (.inr fun e => q s e rfl)
  have hleW : B ≤ W.heap.size := by omega
  have HS := Lib.hid hs2
  have HO := Lib.hid (hoW.alloc (.cells #[.int .u8 x] 5 (0, 0)))
  have HL := Lib.hid hl
  have hR := Rd.new W [x] (Bs.nil.cons hx) 5
  rw [hsz] at hR
  have HR := Lib.hid hR
  clear hR
  have HX := Lib.hid (heap_alloc_old W (.cells #[.int .u8 x] 5 (0, 0)) (cell_in hs2))
  have hln : lt.length ≤ 1000000 := by omega
  have c6 : W.cell? ⟨s, 6, none⟩ = some T := by rw [← hW.out]; exact c6'
  clear hs hs1 hs2 ho hl hx hF hoW hsz
  go_enter Try.func65, Try.ntmps65
  go_wp2_with (at_builtin; rw [hW.out]; refine wpList_app B _ rfl (.tmp 14) (.tmp 16) rfl _ lt rfl HO.out (some ⟨w.heap.size, 0, none⟩) 1 1 [x] rfl rfl (by exact HR.out) (by simp) (by omega) (by simp; omega) ?_; intro v1 w1 ho1 hg1 ha1 hb1 hn1; obtain ⟨g, m, c, rfl, k1, k2, k3⟩ := ts_put (HX.out.trans HS.out) hlt (by simp; omega) hb1 ho1 (by simp; have := HL.out; omega : (lt ++ [x]).length ≤ N + 1) (by simp); have HB := Lib.hid hb1; clear ho1 hg1 ha1 hb1 hn1)
  go_end0
  refine ⟨rfl, k3.out.1, HF.out.trans ⟨fun j h1 h2 => ?_, ?_, ?_⟩⟩
  · exact (k3.out.2.blk j h1 h2).trans (heap_alloc_old W _ (by omega))
  · exact ((Below.refl _ _).alloc (by omega) _).trans k3.out.2.bel
  · have := k3.out.2.size
    simp at this ⊢
    omega

set_option maxRecDepth 100000 in
set_option maxHeartbeats 1000000 in
theorem snt_mark (B s N : Nat) (w : World) (h : Ts B w s N) :
    Calls Try.prog 70 #[.pointer (some ⟨s, 0, none⟩)] w fun e w' => e = .returned (.tuple #[]) ∧ Hid (Fo B s w w') := by
  obtain ⟨⟨a, f, T, lt, hs, ho, hl⟩, hlt, hle⟩ := h
  have b4 : w.cell? ⟨s, 4, none⟩ = some (.bool a) := by rw [cell_of_row _ _ 4 _ _ (0, 0) hs]; rfl
  have b5 : w.cell? ⟨s, 5, none⟩ = some (.bool f) := by rw [cell_of_row _ _ 5 _ _ (0, 0) hs]; rfl
  have f4 := cell_free 4 hs
  have f5 := cell_free 5 hs
  have hs1 := cell_at 4 (.bool true) hs rfl
  have b5' : (w.setCell ⟨s, 4, none⟩ (.bool true)).cell? ⟨s, 5, none⟩ = some (.bool f) := by rw [cell_of_row _ _ 5 _ _ (0, 0) hs1]; rfl
  have f5' := cell_free 5 hs1
  clear hs hs1 ho hl
  go_enter Try.func70, Try.ntmps70
  go_wp2_with fail
  go_end0
  exact ⟨rfl, ((Fo.refl _ _ _).setc hlt hle 4 _).setc hlt hle 5 _⟩

set_option maxRecDepth 100000 in
set_option maxHeartbeats 1000000 in
theorem snt_off (B s N : Nat) (v u : Int) (w : World) (h : Ts B w s N) (hN : N ≤ 100000) (h0 : 0 ≤ v) (h1 : v ≤ 4611686018427387903) (u0 : 0 ≤ u) (u1 : u ≤ 4611686018427387903) :
    Calls Try.prog 67 #[.pointer (some ⟨s, 0, none⟩), .int .i64 v, .int .i64 u] w fun e w' => e = .returned (.tuple #[]) ∧ Hid (Ts B w' s (N + 16) ∧ Fo B s w w') := by
  obtain ⟨⟨a, f, T, lt, hs, ho, hl⟩, hlt, hle⟩ := h
  have c6 : w.cell? ⟨s, 6, none⟩ = some T := by rw [cell_of_row _ _ 6 _ _ (0, 0) hs]; rfl
  have HS := Lib.hid hs
  have HO := Lib.hid ho
  have HL := Lib.hid hl
  clear hs ho hl
  go_enter Try.func67, Try.ntmps67
  go_wp2_with fail
  refine (av B T lt v w HO.out hle (by have := HL.out; omega) h0 h1).mono ?_
  rintro e w1 ⟨s', rfl, ho1, hg1, ha1, hb1, hn1⟩
  obtain ⟨g, m, c, rfl, k1, k2, k3, k4⟩ := ts_putx HS.out hlt hle hb1 ho1 (by have := HL.out; have := esz_bd v; simp [enc_length]; omega : (lt ++ enc v).length ≤ N + 8) (by have := esz_bd v; simp [enc_length]; omega)
  clear ho1 hg1 ha1 hb1 hn1 c6
  have d6 : (w1.setCell ⟨s, 6, none⟩ (.slice (some ⟨g, 0, none⟩) m c)).cell? ⟨s, 6, none⟩ = some (.slice (some ⟨g, 0, none⟩) m c) := k4.out.1
  go_wp2_with fail
  refine (av B (.slice (some ⟨g, 0, none⟩) m c) (lt ++ enc v) u _ k4.out.2.2 k3.out.1.le (by have := HL.out; have := esz_bd v; simp [enc_length]; omega) u0 u1).mono ?_
  rintro e w2 ⟨s', rfl, ho1, hg1, ha1, hb1, hn1⟩
  obtain ⟨g2, m2, c2, rfl, j1, j2, j3, j4⟩ := ts_putx k4.out.2.1 hlt k3.out.1.le hb1 ho1 (by have := HL.out; have := esz_bd v; have := esz_bd u; simp [enc_length]; omega : (lt ++ enc v ++ enc u).length ≤ N + 16) (by have := esz_bd v; simp [enc_length]; omega)
  clear ho1 hg1 ha1 hb1 hn1 d6
  go_wp2_with fail
  go_end0
  exact ⟨rfl, j3.out.1, k3.out.2.trans j3.out.2⟩

/-- What may change: blocks p, s, g of what there is. -/
structure Ch (p s g : Nat) (w w' : World) : Prop where
  bel : Below 0 w w'
  blk : ∀ j, j < w.heap.size → j ≠ p → j ≠ s → j ≠ g → w'.heap[j]? = w.heap[j]?
section
variable {p s g B : Nat} {a b d : World}
theorem Ch.refl (p s g : Nat) (w : World) : Ch p s g w w := ⟨Below.refl _ _, fun _ _ _ _ _ => rfl⟩
theorem Ch.trans (h : Ch p s g a b) (k : Ch p s g b d) : Ch p s g a d := ⟨h.bel.trans k.bel, fun j h1 h2 h3 h4 => (k.blk j (Nat.lt_of_lt_of_le h1 h.bel.size) h2 h3 h4).trans (h.blk j h1 h2 h3 h4)⟩
theorem Ch.of_grown {q : Nat} (h : a.grownBy b (some q)) (hq : q = p ∨ q = s ∨ q = g) : Ch p s g a b :=
  ⟨⟨h.os, h.tape, h.output, h.size, fun j hj => absurd hj (Nat.not_lt_zero _)⟩, fun j h1 h2 h3 h4 => h.block j h1 (by simp; omega)⟩
theorem Ch.of_fo (h : Fo a.heap.size s a b) : Ch p s g a b := ⟨h.bel.mono (Nat.zero_le _), fun j h1 _ h3 _ => h.blk j h1 h3⟩
theorem Ch.of_below (h : Below a.heap.size a b) : Ch p s g a b := ⟨h.mono (Nat.zero_le _), fun j h1 _ _ _ => h.block j h1⟩
theorem Ch.drewN (h : Ch p s g a b) (n : Nat) : Ch p s g a (b.drewN n) := ⟨below_drewN h.bel n, h.blk⟩
theorem Ch.below (h : Ch p s g a b) (hB : B ≤ a.heap.size) (hp : B ≤ p) (hs : B ≤ s) (hg : B ≤ g) : Below B a b :=
  ⟨h.bel.os, h.bel.tape, h.bel.output, h.bel.size, fun j hj => h.blk j (by omega) (by omega) (by omega) (by omega)⟩
theorem Ch.rd (h : Ch p s g a b) {A : Option Addr} {l : List Int} (hr : Rd a A l) (hA : ∀ x, A = some x → x.block ≠ p ∧ x.block ≠ s ∧ x.block ≠ g) : Rd b A l := by
  refine ⟨hr.1, fun hl => ?_⟩
  obtain ⟨q, o, e, hc⟩ := hr.2 hl
  refine ⟨q, o, e, fun i hi => ?_⟩
  have hq := World.block_lt_of_cell? _ _ (hc i hi)
  obtain ⟨h1, h2, h3⟩ := hA _ e
  rw [World.cell?_of_block (h.blk q hq h1 h2 h3)]
  exact hc i hi
end

/-- The packet writer in block p, its sent packet in block s, its bytes in block g, of capacity c: it has the bytes l; there is room for 10000. -/
structure Wq (p s g c : Nat) (w : World) (n : Nat) (l : List Int) : Prop where
  pc : ∃ dg, w.heap[p]? = some (PW dg 10000 (.slice (some ⟨g, 0, none⟩) n c) s)
  sc : w.heap[s]? = some SP0
  own : Own (p + 1) w (.slice (some ⟨g, 0, none⟩) n c) l
  ln : l.length = n
  sp : s < p
  cc : 10000 ≤ c ∧ c ≤ 9223372036854775807
section
variable {p s g c n n1 : Nat} {w w1 : World} {l l1 : List Int}
theorem Wq.drewN (h : Wq p s g c w n l) (k : Nat) : Wq p s g c (w.drewN k) n l := ⟨h.pc, h.sc, h.own.drewN k, h.ln, h.sp, h.cc⟩
theorem Wq.below (h : Wq p s g c w n l) (hb : Below w.heap.size w w1) : Wq p s g c w1 n l := by
  obtain ⟨dg, hp⟩ := h.pc
  exact ⟨⟨dg, (hb.block p (cell_in hp)).trans hp⟩, (hb.block s (cell_in h.sc)).trans h.sc, h.own.below hb, h.ln, h.sp, h.cc⟩
theorem Wq.alloc (h : Wq p s g c w n l) (o : Obj) : Wq p s g c (w.alloc o) n l := h.below ((Below.refl _ _).alloc (Nat.le_refl _) _)
theorem Wq.gp (h : Wq p s g c w n l) : p < g ∧ g < w.heap.size ∧ p < w.heap.size := by
  have h1 := h.own.lt g rfl
  obtain ⟨dg, hp⟩ := h.pc
  exact ⟨by omega, h1.2, cell_in hp⟩
theorem Wq.cells (h : Wq p s g c w n l) : (w.cell? ⟨p, 1, none⟩ = some (.int .i64 10000) ∧ w.cell? ⟨p, 3, none⟩ = some (.int .i64 0) ∧ w.cell? ⟨p, 4, none⟩ = some (.slice (some ⟨g, 0, none⟩) n c) ∧ w.cell? ⟨p, 5, none⟩ = some (.pointer (some ⟨s, 0, none⟩))) ∧ w.frozen? ⟨p, 4, none⟩ = false := by
  obtain ⟨dg, hp⟩ := h.pc
  refine ⟨⟨?_, ?_, ?_, ?_⟩, cell_free _ hp⟩
  · rw [cell_of_row _ _ 1 _ _ (0, 0) hp]; rfl
  · rw [cell_of_row _ _ 3 _ _ (0, 0) hp]; rfl
  · rw [cell_of_row _ _ 4 _ _ (0, 0) hp]; rfl
  · rw [cell_of_row _ _ 5 _ _ (0, 0) hp]; rfl
theorem Wq.app (h : Wq p s g c w n l) (ho : Own (p + 1) w1 (.slice (some ⟨g, 0, none⟩) n1 c) l1) (hg : w.grownBy w1 (some g)) (hn : Hid (l1.length = n1)) :
    w1.cell? ⟨p, 4, none⟩ = some (.slice (some ⟨g, 0, none⟩) n c) ∧ w1.frozen? ⟨p, 4, none⟩ = false ∧ Hid (Wq p s g c (w1.setCell ⟨p, 4, none⟩ (.slice (some ⟨g, 0, none⟩) n1 c)) n1 l1 ∧ Ch p s g w (w1.setCell ⟨p, 4, none⟩ (.slice (some ⟨g, 0, none⟩) n1 c))) := by
  obtain ⟨dg, hp⟩ := h.pc
  obtain ⟨h1, h2, h3⟩ := h.gp
  have hsp := h.sp
  have hp1 := (hg.block p h3 (by simp; omega)).trans hp
  have hs1 := (hg.block s (cell_in h.sc) (by simp; omega)).trans h.sc
  refine ⟨by rw [cell_of_row _ _ 4 _ _ (0, 0) hp1]; rfl, cell_free _ hp1, ⟨⟨dg, cell_at 4 _ hp1 rfl⟩, cell_off p 4 _ hs1 (by omega), ?_, hn.out, hsp, h.cc⟩, ?_⟩
  · exact ho.kept (cgrown _ _ _ _) (.inr fun e => by have := (ho.lt _ e).1; omega)
  · exact (Ch.of_grown hg (.inr (.inr rfl))).trans (Ch.of_grown (cgrown _ _ _ _) (.inl rfl))
theorem Wq.ts (h : Wq p s g c w n l) : Ts w.heap.size w s 0 := ⟨⟨false, false, _, [], h.sc, Own.nil_ _ _, by simp⟩, cell_in h.sc, Nat.le_refl _⟩
theorem Wq.done (h : Wq p s g c w n l) (hf : Fo w.heap.size s w w1) : Wd w (.slice none 0 0) (p + 1) p s w1 (.slice (some ⟨g, 0, none⟩) n c) l := by
  obtain ⟨dg, hp⟩ := h.pc
  obtain ⟨g1, g2, g3⟩ := h.gp
  have hsp := h.sp
  have hp1 := (hf.blk p (cell_in hp) (by omega)).trans hp
  refine ⟨?_, ?_, ?_, ?_, hf.bel⟩
  · rw [cell_of_row _ _ 3 _ _ (0, 0) hp1]; rfl
  · rw [cell_of_row _ _ 4 _ _ (0, 0) hp1]; rfl
  · rw [cell_of_row _ _ 5 _ _ (0, 0) hp1]; rfl
  · obtain ⟨hb, hn, ho⟩ := h.own
    refine ⟨hb, hn, ho.imp id fun ⟨q, cap, cur, e, hq, hh, rest⟩ => ⟨q, cap, cur, e, hq, ?_, rest⟩⟩
    rw [hf.blk q (cell_in hh) (by omega)]
    exact hh
/-- The cells that the walk reads behind the sent packet's appends. -/
theorem Wq.fo (h : Wq p s g c w n l) (hf : Fo w.heap.size s w w1) : w1.cell? ⟨p, 5, none⟩ = some (.pointer (some ⟨s, 0, none⟩)) ∧ w1.cell? ⟨p, 4, none⟩ = some (.slice (some ⟨g, 0, none⟩) n c) := by
  have := h.done hf
  exact ⟨this.c5, this.c4⟩
end

set_option maxRecDepth 100000 in
set_option maxHeartbeats 1000000 in
theorem avq {p s g c : Nat} (w : World) (h : Wq p s g c w 0 []) :
    Calls Try.prog 62 #[.pointer (some ⟨p, 0, none⟩)] w fun e w' => e = .returned (.int .i64 10000) ∧ Hid (Wq p s g c w' 0 [] ∧ ∃ z, w' = w.drewN z) := by
  have H := Lib.hid h
  obtain ⟨⟨c1, c3, c4, c5⟩, f4⟩ := h.cells
  clear h
  go_enter Try.func62, Try.ntmps62
  go_wp2_with fail
  go_quiet (fail)
  go_wp2_with fail
  go_ret
  exact ⟨rfl, H.out.drewN _, _, rfl⟩

/-- What an append of a frame leaves. -/
def PEnd (p s g c : Nat) (w : World) (l : List Int) (e : Ending) (w' : World) : Prop :=
  e = .returned (.bool true) ∧ Hid (Wd w (.slice none 0 0) (p + 1) p s w' (.slice (some ⟨g, 0, none⟩) l.length c) l ∧ Ch p s g w w')

set_option maxRecDepth 100000 in
set_option maxHeartbeats 1000000 in
theorem wrstq (p s n : Nat) (w : World) (hp : w.heap[p]? = some (PW 0 0 (.slice none 0 0) s)) (hsp : s < p) (hn : n ≤ 10000) (hpos : 0 < n) :
    Calls Try.prog 61 #[.pointer (some ⟨p, 0, none⟩), .int .i64 n] w fun e w' => e = .returned (.tuple #[]) ∧ Hid (∃ g, w'.heap[p]? = some (PW n 0 (.slice (some ⟨g, 0, none⟩) 0 n) s) ∧ Own w.heap.size w' (.slice (some ⟨g, 0, none⟩) 0 n) [] ∧ Fo w.heap.size p w w') := by
  have c4 : w.cell? ⟨p, 4, none⟩ = some (.slice none 0 0) := by rw [cell_of_row _ _ 4 _ _ (0, 0) hp]; rfl
  have c0 : w.cell? ⟨p, 0, none⟩ = some (.int .i64 0) := by rw [cell_of_row _ _ 0 _ _ (0, 0) hp]; rfl
  have f0 := cell_free 0 hp
  have f4 := cell_free 4 hp
  have HS := Lib.hid hp
  have hlt := cell_in hp
  clear hp
  obtain ⟨i0, hi, hz0, hz1, hz2⟩ := info_parts info_u8
  go_enter Try.func61, Try.ntmps61
  go_wp2_with (refine wpList_make_own _ rfl _ _ _ rfl w.heap.size _ i0 _ 1 Try.underlying22 hi hz0 hz1 _ _ _ n rfl rfl rfl (by rw [hz2]; omega) (by unfold maxLen; omega) (Nat.le_refl _) ?_; intro w1 ho1 hg1; have k1 := (hg1.block p hlt (by simp)).trans HS.out; have d4 : w1.cell? ⟨p, 4, none⟩ = some (.slice none 0 0) := (by rw [cell_of_row _ _ 4 _ _ (0, 0) k1]; rfl); have d0 : w1.cell? ⟨p, 0, none⟩ = some (.int .i64 0) := (by rw [cell_of_row _ _ 0 _ _ (0, 0) k1]; rfl); have e0 := cell_free 0 k1; have e4 := cell_free 4 k1; have K1 := Lib.hid k1; have HO := Lib.hid ho1; have HG := Lib.hid hg1; clear k1 ho1 hg1)
  go_end0
  have HB : Below w.heap.size w w1 := (Below.refl _ _).grown HG.out (Nat.le_refl _) fun k hk => by cases hk
  have k := cell_at 4 (.slice (some ⟨w.heap.size, 0, none⟩) 0 n) (cell_at 0 (.int .i64 n) (cell_at 4 (.slice (some ⟨w.heap.size, 0, none⟩) 0 n) K1.out rfl) rfl) rfl
  have HOw : Own w.heap.size w1 (.slice (some ⟨w.heap.size, 0, none⟩) 0 n) [] := ⟨Bs.nil, HO.out⟩
  have st : ∀ (W : World) (i : Nat) (v : Value), Own w.heap.size W (.slice (some ⟨w.heap.size, 0, none⟩) 0 n) [] → Own w.heap.size (W.setCell ⟨p, i, none⟩ v) (.slice (some ⟨w.heap.size, 0, none⟩) 0 n) [] := fun W i v ho => ho.kept (cgrown _ _ _ _) (.inr fun e => by have := (ho.lt _ e).1; omega)
  exact ⟨rfl, _, k, st _ _ _ (st _ _ _ (st _ _ _ HOw)), ((Fo.set HB hlt (Nat.le_refl _) _ _).setc hlt (Nat.le_refl _) _ _).setc hlt (Nat.le_refl _) _ _⟩

set_option maxRecDepth 100000 in
set_option maxHeartbeats 1000000 in
theorem zzq (w : World) :
    Calls Try.prog 36 #[.int .i64 10000] w fun e w' => ∃ p g, e = .returned (.pointer (some ⟨p, 0, none⟩)) ∧ Hid (Wq p w.heap.size g 10000 w' 0 [] ∧ Below w.heap.size w w') := by
  go_enter Try.func36, Try.ntmps36
  go_wp2_with fail
  refine (snew w).mono ?_
  rintro e w1 ⟨rfl, H1⟩
  have q0 := heap_alloc_new w1 (PW 0 0 (.slice none 0 0) w.heap.size)
  have hsw : w.heap.size < w1.heap.size := cell_in H1.out.1
  have Q0 := Lib.hid q0
  clear q0
  go_wp2_with fail
  refine (wrstq w1.heap.size w.heap.size 10000 _ Q0.out hsw (by omega) (by omega)).mono ?_
  rintro e w2 ⟨rfl, H2⟩
  obtain ⟨g, k2, ho2, hf2⟩ := H2.out
  have d1 : w2.cell? ⟨w1.heap.size, 1, none⟩ = some (.int .i64 0) := by rw [cell_of_row _ _ 1 _ _ (0, 0) k2]; rfl
  have f1 := cell_free 1 k2
  have HW : Hid (Wq w1.heap.size w.heap.size g 10000 (w2.setCell ⟨w1.heap.size, 1, none⟩ (.int .i64 10000)) 0 [] ∧ Below w.heap.size w (w2.setCell ⟨w1.heap.size, 1, none⟩ (.int .i64 10000))) := by
    have hs1 : (w1.alloc (PW 0 0 (.slice none 0 0) w.heap.size)).heap.size = w1.heap.size + 1 := by simp
    have hb2 := hf2.bel
    have hsz := hf2.size
    rw [hs1] at ho2 hsz
    have hsc := (hf2.blk w.heap.size (by rw [hs1]; omega) (by omega)).trans ((heap_alloc_old w1 _ hsw).trans H1.out.1)
    refine ⟨⟨⟨_, cell_at 1 _ k2 rfl⟩, cell_off _ 1 _ hsc (by omega), ho2.kept (cgrown _ _ _ _) (.inr fun e => by have := (ho2.lt _ e).1; omega), rfl, hsw, by omega, by omega⟩, ?_⟩
    exact below_cell ((H1.out.2.alloc H1.out.2.size _).trans (hb2.mono (Nat.le_of_lt hsw))) (by omega) _ _ _ (Nat.le_of_lt hsw)
  clear k2 ho2 hf2 H2
  go_wp2_with fail
  go_ret
  exact ⟨_, g, rfl, HW⟩
end

end Go.Proofs.Ytggcnepdeaijoaa

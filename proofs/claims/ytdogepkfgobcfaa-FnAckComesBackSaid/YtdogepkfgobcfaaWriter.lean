/- Contracts of the sent packet and of the packet writer: newSentPacket, zzWriter, avail, payload, sent's appends. Conditions: the writer was made by the call itself. -/
import Derived.Test.YtdogepkfgobcfaaCells
import Derived.Test.YtdogepkfgobcfaaAv
import Derived.BigRegion
import Derived.IntWalk
namespace Go.Proofs.Ytdogepkfgobcfaa
open Go.RowKit
set_option linter.unusedVariables false

/-- The sent packet in block s: its bytes are the call's own, in a block from B on, at most N. -/
structure Ts (B : Nat) (w : World) (s N : Nat) : Prop where
  ex : ∃ a f T lt, w.heap[s]? = some (.cells #[.int .i64 0, .int .i64 0, .int .u8 0, .int .u8 0, .bool a, .bool f, T, .int .i64 0] 147 (0, 0)) ∧ Own B w T lt ∧ lt.length ≤ N
  lt : s < B
  le : B ≤ w.heap.size
theorem Ts.drewN {B s N : Nat} {w : World} (h : Ts B w s N) (n : Nat) : Ts B (w.drewN n) s N := ⟨h.ex, h.lt, h.le⟩

theorem ts_put {B s N : Nat} {w w1 : World} {a f : Bool} {T v1 : Value} {l1 : List Int} (hs : w.heap[s]? = some (.cells #[.int .i64 0, .int .i64 0, .int .u8 0, .int .u8 0, .bool a, .bool f, T, .int .i64 0] 147 (0, 0))) (hlt : s < B) (hle : B ≤ w.heap.size) (hb : Below B w w1) (ho : Own B w1 v1 l1) (hl : l1.length ≤ N) (hpos : 0 < l1.length) :
    ∃ g m c, v1 = .slice (some ⟨g, 0, none⟩) m c ∧ w1.cell? ⟨s, 6, none⟩ = some T ∧ w1.frozen? ⟨s, 6, none⟩ = false ∧ Hid (Ts B (w1.setCell ⟨s, 6, none⟩ (.slice (some ⟨g, 0, none⟩) m c)) s N ∧ Fo B s w (w1.setCell ⟨s, 6, none⟩ (.slice (some ⟨g, 0, none⟩) m c))) := by
  have h1 := (hb.block s hlt).trans hs
  obtain ⟨g, c, rfl⟩ := ho.nonempty hpos
  refine ⟨g, _, c, rfl, by rw [cell_of_row _ _ 6 _ _ (0, 0) h1]; rfl, cell_free _ h1, ⟨⟨a, f, _, l1, cell_at 6 _ h1 rfl, ?_, hl⟩, hlt, by rw [size_cell]; exact Nat.le_trans hle hb.size⟩, Fo.set hb hlt hle _ _⟩
  exact ho.kept (cgrown _ _ _ _) (.inr fun e => by have := (ho.lt _ e).1; omega)

set_option maxRecDepth 100000 in
set_option maxHeartbeats 1000000 in
theorem snt_typ (B s N : Nat) (x : Int) (w : World) (h : Ts B w s N) (hN : N ≤ 1000000) (hx : 0 ≤ x ∧ x ≤ 255) :
    Calls Try.prog 110 #[.pointer (some ⟨s, 0, none⟩), .int .u8 x] w fun e w' => e = .returned (.tuple #[]) ∧ Hid (Ts B w' s (N + 1) ∧ Fo B s w w') := by
  obtain ⟨⟨a, f, T, lt, hs, ho, hl⟩, hlt, hle⟩ := h
  have c6 : w.cell? ⟨s, 6, none⟩ = some T := by rw [cell_of_row _ _ 6 _ _ (0, 0) hs]; rfl
  have HS := Lib.hid hs
  have HO := Lib.hid (ho.alloc (.cells #[.int .u8 x] 5 (0, 0)))
  have HL := Lib.hid hl
  have HR := Lib.hid (Rd.new w [x] (Bs.nil.cons hx) 5)
  have HX := Lib.hid (heap_alloc_old w (.cells #[.int .u8 x] 5 (0, 0)) (cell_in hs))
  have hsz : lt.length ≤ 1000000 := by omega
  clear hs ho hl hx
  go_enter Try.func110, Try.ntmps110
  go_wp2_with (at_builtin; refine wpList_app B _ rfl (.tmp 8) (.tmp 10) rfl _ lt rfl HO.out (some ⟨w.heap.size, 0, none⟩) 1 1 [x] rfl rfl (by exact HR.out) (by simp) (by omega) (by simp; omega) ?_; intro v1 w1 ho1 hg1 ha1 hb1 hn1; obtain ⟨g, m, c, rfl, k1, k2, k3⟩ := ts_put (HX.out.trans HS.out) hlt (by simp; omega) hb1 ho1 (by simp; have := HL.out; omega : (lt ++ [x]).length ≤ N + 1) (by simp); have HB := Lib.hid hb1; clear ho1 hg1 ha1 hb1 hn1)
  go_end0
  refine ⟨rfl, k3.out.1, ⟨fun j h1 h2 => ?_, ?_, ?_⟩⟩
  · exact (k3.out.2.blk j h1 h2).trans (heap_alloc_old w _ (by omega))
  · exact ((Below.refl _ _).alloc (by omega) _).trans k3.out.2.bel
  · have := k3.out.2.size
    simp at this ⊢
    omega

set_option maxRecDepth 100000 in
set_option maxHeartbeats 1000000 in
theorem snt_int (B s N : Nat) (v : Int) (w : World) (h : Ts B w s N) (hN : N ≤ 1000000) (h0 : 0 ≤ v) (h1 : v ≤ 4611686018427387903) :
    Calls Try.prog 111 #[.pointer (some ⟨s, 0, none⟩), .int .u64 v] w fun e w' => e = .returned (.tuple #[]) ∧ Hid (Ts B w' s (N + 8) ∧ Fo B s w w') := by
  obtain ⟨⟨a, f, T, lt, hs, ho, hl⟩, hlt, hle⟩ := h
  have c6 : w.cell? ⟨s, 6, none⟩ = some T := by rw [cell_of_row _ _ 6 _ _ (0, 0) hs]; rfl
  have HS := Lib.hid hs
  have HO := Lib.hid ho
  have HL := Lib.hid hl
  clear hs ho hl
  go_enter Try.func111, Try.ntmps111
  go_wp2_with fail
  refine (av B T lt v w HO.out hle (by have := HL.out; omega) h0 h1).mono ?_
  rintro e w1 ⟨s', rfl, ho1, hg1, ha1, hb1, hn1⟩
  obtain ⟨g, m, c, rfl, k1, k2, k3⟩ := ts_put HS.out hlt hle hb1 ho1 (by have := HL.out; have := esz_bd v; simp [enc_length]; omega : (lt ++ enc v).length ≤ N + 8) (by have := esz_bd v; simp [enc_length]; omega)
  clear ho1 hg1 ha1 hb1 hn1
  go_wp2_with fail
  go_end0
  exact ⟨rfl, k3⟩

/-- The packet writer in block p, its sent packet in block s: it has the bytes l in the slice S; since the world w0, where its slice was S0, but these blocks and what is new nothing has changed. -/
structure Wr (w0 : World) (S0 : Value) (B p s : Nat) (lim : Int) (w : World) (S : Value) (l : List Int) : Prop where
  pc : ∃ dg, w.heap[p]? = some (.cells #[.int .i64 dg, .int .i64 lim, .int .i64 0, .int .i64 0, S, .pointer (some ⟨s, 0, none⟩)] 135 (0, 0))
  sc : w.heap[s]? = some (.cells #[.int .i64 0, .int .i64 0, .int .u8 0, .int .u8 0, .bool false, .bool false, .slice none 0 0, .int .i64 0] 147 (0, 0))
  own : Own B w S l
  sp : s < p
  pB : p < B
  le : B ≤ w.heap.size
  bel : Below s w0 w
  blk : ∀ j, j < w0.heap.size → j ≠ p → j ≠ s → S0.ownBlock ≠ some j → w.heap[j]? = w0.heap[j]?
  sb : S.ownBlock = S0.ownBlock ∨ ∃ g, S.ownBlock = some g ∧ w0.heap.size ≤ g
  size : w0.heap.size ≤ w.heap.size
section
variable {w0 w w1 : World} {S0 S S1 : Value} {B p s : Nat} {lim : Int} {l l1 : List Int}
theorem Wr.drewN (h : Wr w0 S0 B p s lim w S l) (n : Nat) : Wr w0 S0 B p s lim (w.drewN n) S l := ⟨h.pc, h.sc, h.own.drewN n, h.sp, h.pB, h.le, below_drewN h.bel n, h.blk, h.sb, h.size⟩
theorem Wr.alloc (h : Wr w0 S0 B p s lim w S l) (o : Obj) : Wr w0 S0 B p s lim (w.alloc o) S l := by
  obtain ⟨dg, hp⟩ := h.pc
  have hpi := cell_in hp
  have hsi := cell_in h.sc
  refine ⟨⟨dg, (heap_alloc_old w o hpi).trans hp⟩, (heap_alloc_old w o hsi).trans h.sc, h.own.alloc o, h.sp, h.pB, by simp; have := h.le; omega, h.bel.alloc (Nat.le_of_lt hsi) o, fun j h1 h2 h3 h4 => ?_, h.sb, by simp; have := h.size; omega⟩
  rw [heap_alloc_old w o (by have := h.size; omega)]
  exact h.blk j h1 h2 h3 h4
/-- The same, from the world at hand on. -/
theorem Wr.fresh (h : Wr w0 S0 B p s lim w S l) : Wr w S B p s lim w S l := ⟨h.pc, h.sc, h.own, h.sp, h.pB, h.le, Below.refl _ _, fun _ _ _ _ _ => rfl, .inl rfl, Nat.le_refl _⟩
theorem Wr.cells (h : Wr w0 S0 B p s lim w S l) : (w.cell? ⟨p, 1, none⟩ = some (.int .i64 lim) ∧ w.cell? ⟨p, 3, none⟩ = some (.int .i64 0) ∧ w.cell? ⟨p, 4, none⟩ = some S ∧ w.cell? ⟨p, 5, none⟩ = some (.pointer (some ⟨s, 0, none⟩))) ∧ w.frozen? ⟨p, 4, none⟩ = false := by
  obtain ⟨dg, hp⟩ := h.pc
  refine ⟨⟨?_, ?_, ?_, ?_⟩, cell_free _ hp⟩
  · rw [cell_of_row _ _ 1 _ _ (0, 0) hp]; rfl
  · rw [cell_of_row _ _ 3 _ _ (0, 0) hp]; rfl
  · rw [cell_of_row _ _ 4 _ _ (0, 0) hp]; rfl
  · rw [cell_of_row _ _ 5 _ _ (0, 0) hp]; rfl
theorem Wr.off (h : Wr w0 S0 B p s lim w S l) : S.ownBlock ≠ some p ∧ S.ownBlock ≠ some s := by
  have := h.sp
  have := h.pB
  refine ⟨fun e => ?_, fun e => ?_⟩ <;> (have := (h.own.lt _ e).1; omega)
/-- Bytes are appended: behind the call, and with the slice stored back. -/
theorem Wr.grow (h : Wr w0 S0 B p s lim w S l) (hg : w.grownBy w1 S.ownBlock) : (∃ dg, w1.heap[p]? = some (.cells #[.int .i64 dg, .int .i64 lim, .int .i64 0, .int .i64 0, S, .pointer (some ⟨s, 0, none⟩)] 135 (0, 0))) ∧
    w1.heap[s]? = some (.cells #[.int .i64 0, .int .i64 0, .int .u8 0, .int .u8 0, .bool false, .bool false, .slice none 0 0, .int .i64 0] 147 (0, 0)) ∧
    Below s w0 w1 ∧ (∀ j, j < w0.heap.size → j ≠ p → j ≠ s → S0.ownBlock ≠ some j → w1.heap[j]? = w0.heap[j]?) := by
  obtain ⟨dg, hp⟩ := h.pc
  obtain ⟨o1, o2⟩ := h.off
  refine ⟨⟨dg, (hg.block p (cell_in hp) (fun e => o1 e.symm)).trans hp⟩, (hg.block s (cell_in h.sc) (fun e => o2 e.symm)).trans h.sc, ?_, fun j h1 h2 h3 h4 => ?_⟩
  · exact h.bel.grown hg (Nat.le_of_lt (cell_in h.sc)) fun k hk => by have := (h.own.lt _ hk).1; have := h.sp; have := h.pB; omega
  · rw [hg.block j (by have := h.size; omega) ?_]
    · exact h.blk j h1 h2 h3 h4
    · intro e
      rcases h.sb with e2 | ⟨g, e2, hge⟩
      · exact h4 (e2.symm.trans e.symm)
      · have : j = g := by simpa using e.trans e2
        omega
theorem Wr.app {n1 : Nat} (h : Wr w0 S0 B p s lim w S l) (ho : Own B w1 S1 l1) (hg : w.grownBy w1 S.ownBlock) (ha : S1.ownBlock = S.ownBlock ∨ ∃ g, S1.ownBlock = some g ∧ w.heap.size ≤ g) (hn : Hid (l1.length = n1)) (hpos : 0 < n1) :
    ∃ g c, S1 = .slice (some ⟨g, 0, none⟩) n1 c ∧ w1.cell? ⟨p, 4, none⟩ = some S ∧ w1.frozen? ⟨p, 4, none⟩ = false ∧ Hid (Wr w0 S0 B p s lim (w1.setCell ⟨p, 4, none⟩ (.slice (some ⟨g, 0, none⟩) n1 c)) (.slice (some ⟨g, 0, none⟩) n1 c) l1) := by
  have hn := hn.out
  subst hn
  obtain ⟨g, c, rfl⟩ := ho.nonempty hpos
  obtain ⟨⟨dg, hp⟩, hs, hb, hk⟩ := h.grow hg
  have hsp := h.sp
  have hpB := h.pB
  refine ⟨g, c, rfl, by rw [cell_of_row _ _ 4 _ _ (0, 0) hp]; rfl, cell_free _ hp, ⟨dg, cell_at 4 _ hp rfl⟩, cell_off p 4 _ hs (by omega), ?_, hsp, hpB, ?_, ?_, fun j h1 h2 h3 h4 => ?_, ?_, ?_⟩
  · exact ho.kept (cgrown _ _ _ _) (.inr fun e => by have := (ho.lt _ e).1; omega)
  · rw [size_cell]; exact Nat.le_trans h.le hg.size
  · exact below_cell hb (Nat.le_of_lt (cell_in hs)) _ _ _ (Nat.le_of_lt hsp)
  · rw [(cgrown w1 p 4 _).block j (by have := h.size; have := hg.size; omega) (by simpa using h2)]
    exact hk j h1 h2 h3 h4
  · rcases ha with e | ⟨g, e, hge⟩
    · rw [e]; exact h.sb
    · exact .inr ⟨g, e, Nat.le_trans h.size hge⟩
  · rw [size_cell]; exact Nat.le_trans h.size hg.size
/-- .. by AppendVarint. -/
theorem Wr.appE {n1 : Nat} (h : Wr w0 S0 B p s lim w S l) {e : Ending} (hE : AppEnd B w S l1 e w1) (hn : Hid (l1.length = n1)) (hpos : 0 < n1) : ∃ g c, e = .returned (.slice (some ⟨g, 0, none⟩) n1 c) ∧ w1.cell? ⟨p, 4, none⟩ = some S ∧ w1.frozen? ⟨p, 4, none⟩ = false ∧ Hid (Wr w0 S0 B p s lim (w1.setCell ⟨p, 4, none⟩ (.slice (some ⟨g, 0, none⟩) n1 c)) (.slice (some ⟨g, 0, none⟩) n1 c) l1) := by
  obtain ⟨S1, rfl, ho, hg, ha, _, _⟩ := hE
  obtain ⟨g, c, rfl, a, b, k⟩ := h.app ho hg ha hn hpos
  exact ⟨g, c, rfl, a, b, k⟩
/-- One byte is set. -/
theorem Wr.set {g n c : Nat} (h : Wr w0 S0 B p s lim w (.slice (some ⟨g, 0, none⟩) n c) l) (i : Nat) (x : Int) (hi : i < l.length) (hx : 0 ≤ x ∧ x ≤ 255) :
    Wr w0 S0 B p s lim (w.setCell ⟨g, i, none⟩ (.int .u8 x)) (.slice (some ⟨g, 0, none⟩) n c) (l.set i x) := by
  have hg : w.grownBy (w.setCell ⟨g, i, none⟩ (.int .u8 x)) (Value.slice (some ⟨g, 0, none⟩) n c).ownBlock := cgrown _ _ _ _
  obtain ⟨hp, hs, hb, hk⟩ := h.grow hg
  exact ⟨hp, hs, h.own.set i x hi hx, h.sp, h.pB, by rw [size_cell]; exact h.le, hb, hk, h.sb, by rw [size_cell]; exact h.size⟩
/-- The sent packet, as its appends want it. -/
theorem Wr.ts (h : Wr w0 S0 B p s lim w S l) : Ts w.heap.size w s 0 := ⟨⟨false, false, _, [], h.sc, Own.nil_ _ _, by simp⟩, cell_in h.sc, Nat.le_refl _⟩
end

/-- The writer when its sent packet has been told. -/
structure Wd (w0 : World) (S0 : Value) (B p s : Nat) (w : World) (S : Value) (l : List Int) : Prop where
  c3 : w.cell? ⟨p, 3, none⟩ = some (.int .i64 0)
  c4 : w.cell? ⟨p, 4, none⟩ = some S
  c5 : w.cell? ⟨p, 5, none⟩ = some (.pointer (some ⟨s, 0, none⟩))
  own : Own B w S l
  bel : Below s w0 w
section
variable {w0 w w1 : World} {S0 S S1 : Value} {B p s : Nat} {lim : Int} {l l1 : List Int}
theorem Wr.done (h : Wr w0 S0 B p s lim w S l) (hf : Fo w.heap.size s w w1) : Wd w0 S0 B p s w1 S l := by
  obtain ⟨dg, hp⟩ := h.pc
  have hsp := h.sp
  have hp1 := (hf.blk p (cell_in hp) (by omega)).trans hp
  refine ⟨?_, ?_, ?_, ?_, h.bel.trans hf.bel⟩
  · rw [cell_of_row _ _ 3 _ _ (0, 0) hp1]; rfl
  · rw [cell_of_row _ _ 4 _ _ (0, 0) hp1]; rfl
  · rw [cell_of_row _ _ 5 _ _ (0, 0) hp1]; rfl
  · obtain ⟨hb, hn, ho⟩ := h.own
    refine ⟨hb, hn, ho.imp id fun ⟨g, cap, cur, e, hg, hh, rest⟩ => ⟨g, cap, cur, e, hg, ?_, rest⟩⟩
    rw [hf.blk g (cell_in hh) (by have := h.pB; omega)]
    exact hh
end

theorem Wd.back {w0 w00 w : World} {S0 S : Value} {B p s : Nat} {l : List Int} (h : Wd w0 S0 B p s w S l) (hb : Below s w00 w0) : Wd w00 S0 B p s w S l := ⟨h.c3, h.c4, h.c5, h.own, hb.trans h.bel⟩

set_option maxRecDepth 100000 in
set_option maxHeartbeats 1000000 in
theorem avail_ {w0 : World} {S0 : Value} {B p s : Nat} {lim : Int} (S : Value) (l : List Int) (w : World) (h : Wr w0 S0 B p s lim w S l) (n : Nat) (hn : Hid (l.length = n)) (hn2 : n ≤ 100000) (h0 : 0 ≤ lim) (h1 : lim ≤ 10000) :
    Calls Try.prog 108 #[.pointer (some ⟨p, 0, none⟩)] w fun e w' => e = .returned (.int .i64 (lim - n)) ∧ ∃ z, w' = w.drewN z := by
  obtain ⟨⟨c1, c3, c4, c5⟩, f4⟩ := h.cells
  obtain ⟨A, c, rfl, -, -⟩ := h.own.rd
  rw [hn.out] at c4
  clear h
  go_enter Try.func108, Try.ntmps108
  go_wp2_with fail
  go_quiet (fail)
  go_wp2_with fail
  go_ret
  exact ⟨rfl, _, rfl⟩

set_option maxRecDepth 100000 in
set_option maxHeartbeats 1000000 in
theorem payload_ {w0 : World} {S0 : Value} {B p s : Nat} (S : Value) (l : List Int) (w : World) (h : Wd w0 S0 B p s w S l) (n : Nat) (hn : Hid (l.length = n)) (hn2 : n ≤ 100000) :
    Calls Try.prog 92 #[.pointer (some ⟨p, 0, none⟩)] w fun e w' => ∃ A c, e = .returned (.slice A n c) ∧ Hid (Own B w' (.slice A n c) l) ∧ ∃ z, w' = w.drewN z := by
  have c3 := h.c3
  have c4 := h.c4
  rcases h.own.form with ⟨e, e2⟩ | ⟨g, c, e, hg, _, hc, hm⟩
  · subst e2
    obtain rfl : n = 0 := by rw [← hn.out]; rfl
    have HO := Lib.hid h.own
    rw [e] at c4 HO
    clear h e
    go_enter Try.func92, Try.ntmps92
    go_wp2_with fail
    go_quiet (fail)
    go_wp2_with fail
    go_ret
    exact ⟨none, 0, rfl, HO.out.drewN _, _, rfl⟩
  · have HO := Lib.hid h.own
    rw [e] at c4 HO
    rw [hn.out] at c4 HO
    rw [hn.out] at hc
    unfold maxLen at hm
    clear h e
    go_enter Try.func92, Try.ntmps92
    go_wp2_with fail
    go_quiet (fail)
    go_wp2_with fail
    go_ret
    exact ⟨some ⟨g, 0, none⟩, c, rfl, HO.out.drewN _, _, rfl⟩

end Go.Proofs.Ytdogepkfgobcfaa

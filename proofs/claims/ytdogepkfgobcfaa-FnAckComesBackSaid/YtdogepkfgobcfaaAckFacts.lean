/- What appendAckFrame leans on: the frame's bytes so far, what it reads, the callees' contracts in its own words. Conditions: none. -/
import Derived.Test.YtdogepkfgobcfaaWriterNew
import Derived.Test.YtdogepkfgobcfaaAckPut
import Derived.Test.YtdogepkfgobcfaaMeas
import Derived.Test.YtdogepkfgobcfaaArr
namespace Go.Proofs.Ytdogepkfgobcfaa
open Go.RowKit
set_option linter.unusedVariables false

set_option maxRecDepth 100000 in
theorem run_neq_ecn (x y z : Int) (h : ¬ (x = 0 ∧ y = 0 ∧ z = 0)) (w : World) : (binOp .neq 115 (.agg #[.int .i64 x, .int .i64 y, .int .i64 z]) (.agg #[.int .i64 0, .int .i64 0, .int .i64 0])).run Try.prog w = .ok (.bool true) w := by
  have hb : ((x == 0) && ((y == 0) && (z == 0))) = false := by
    rw [Bool.eq_false_iff]
    simpa using h
  go_simp
  cases hx : (x == 0) <;> cases hy : (y == 0) <;> cases hz : (z == 0) <;> simp_all
set_option maxRecDepth 100000 in
theorem run_neq_ecn0 (w : World) : (binOp .neq 115 (.agg #[.int .i64 0, .int .i64 0, .int .i64 0]) (.agg #[.int .i64 0, .int .i64 0, .int .i64 0])).run Try.prog w = .ok (.bool false) w := by
  go_simp

set_option maxRecDepth 100000 in
set_option maxHeartbeats 1000000 in
/-- How many numbers a range has. -/
theorem rgsz (x y : Int) (w : World) (h0 : 0 ≤ x) (h1 : x < y) (h2 : y ≤ 4611686018427387903) :
    Calls Try.prog 100 #[.agg #[.int .i64 x, .int .i64 y]] w fun e w' => e = .returned (.int .i64 (y - x)) ∧ ∃ ob z, w' = (w.alloc ob).drewN z := by
  go_enter Try.func100, Try.ntmps100
  go_wp2
  go_ret
  exact ⟨rfl, _, 0, rfl⟩

set_option maxRecDepth 100000 in
theorem rgsz' (x y z : Int) (w : World) (h0 : 0 ≤ x) (h1 : x < y) (h2 : y ≤ 4611686018427387903) (hz : Hid (y - x = z)) :
    Calls Try.prog 100 #[.agg #[.int .i64 x, .int .i64 y]] w fun e w' => e = .returned (.int .i64 z) ∧ Hid (∃ ob z, w' = (w.alloc ob).drewN z) := by
  have := hz.out
  subst this
  exact (rgsz x y w h0 h1 h2).mono fun e w' h => h
theorem amax (g n c : Nat) (x M : Int) (w : World) (hn : 1 ≤ n) (hn2 : n ≤ 1000) (hx : w.cell? ⟨g, (n - 1) * 2 + 1, none⟩ = some (.int .i64 x)) (hM : Hid (x - 1 = M)) (h0 : 0 ≤ M) (h1 : M ≤ 4611686018427387903) :
    Calls Try.prog 85 #[.slice (some ⟨g, 0, none⟩) n c] w fun en w' => en = .returned (.int .i64 M) ∧ w = w' := by
  have e : wrap64 (x - 1) = M := by
    rw [hM.out]
    exact IntWalk.wrap64_in M (by omega)
  have := rmax g 0 n c x w hn hn2 (by simpa using hx)
  rw [e] at this
  exact this
theorem svk (v : Int) (k : Nat) (w : World) (hk : Hid (esz v = k)) (h0 : 0 ≤ v) (h1 : v ≤ 4611686018427387903) :
    Calls Try.prog 107 #[.int .u64 v] w fun e w' => e = .returned (.int .i64 k) ∧ w = w' := by
  have := hk.out
  subst this
  exact sv v w h0 h1
theorem availV {w0 : World} {S0 : Value} {B p s : Nat} {lim : Int} (S : Value) (l : List Int) (w : World) (h : Wr w0 S0 B p s lim w S l) (n : Nat) (V : Int) (hn : Hid (l.length = n)) (hn2 : n ≤ 100000) (h0 : 0 ≤ lim) (h1 : lim ≤ 10000) (hV : Hid (lim - n = V)) :
    Calls Try.prog 108 #[.pointer (some ⟨p, 0, none⟩)] w fun e w' => e = .returned (.int .i64 V) ∧ Hid (Wr w0 S0 B p s lim w' S l) := by
  have := hV.out
  subst this
  refine (avail_ S l w h n hn hn2 h0 h1).mono ?_
  rintro e w' ⟨rfl, z, rfl⟩
  exact ⟨rfl, h.drewN z⟩
theorem eszk (v : Int) : ∃ k, Hid (esz v = k) ∧ 1 ≤ k ∧ k ≤ 8 := ⟨_, Lib.hid rfl, esz_bd v⟩

/-- What appendAckFrame reads: the counts in block q, the ranges in block g. -/
structure AF (W0 : World) (S0 : Value) (p s q g : Nat) (L : Rgs) (e0 e1 e2 : Int) : Prop where
  qe : W0.heap[q]? = some (.cells #[.int .i64 e0, .int .i64 e1, .int .i64 e2] 115 (0, 0))
  qn : q ≠ p ∧ q ≠ s ∧ S0.ownBlock ≠ some q
  gr : RdE ER W0 (some ⟨g, 0, none⟩) L
  gn : g ≠ p ∧ g ≠ s ∧ S0.ownBlock ≠ some g ∧ g < W0.heap.size
section
variable {W0 w : World} {S0 S : Value} {B p s q g : Nat} {lim : Int} {l : List Int} {L : Rgs} {e0 e1 e2 : Int}
theorem AF.ecn (f : AF W0 S0 p s q g L e0 e1 e2) (h : Wr W0 S0 B p s lim w S l) : (w.cell? ⟨q, 0, none⟩ = some (.int .i64 e0) ∧ w.cell? ⟨q, 1, none⟩ = some (.int .i64 e1) ∧ w.cell? ⟨q, 2, none⟩ = some (.int .i64 e2)) := by
  have k := (h.blk q (cell_in f.qe) f.qn.1 f.qn.2.1 f.qn.2.2).trans f.qe
  refine ⟨?_, ?_, ?_⟩
  · rw [cell_of_row _ _ 0 _ _ (0, 0) k]; rfl
  · rw [cell_of_row _ _ 1 _ _ (0, 0) k]; rfl
  · rw [cell_of_row _ _ 2 _ _ (0, 0) k]; rfl
/-- .. and when bytes have been appended, the slice not yet stored. -/
theorem AF.mid (f : AF W0 S0 p s q g L e0 e1 e2) (h : Wr W0 S0 B p s lim w S l) {e : Ending} {l1 : List Int} {w1 : World} (hE : AppEnd B w S l1 e w1) : (w1.cell? ⟨q, 0, none⟩ = some (.int .i64 e0) ∧ w1.cell? ⟨q, 1, none⟩ = some (.int .i64 e1) ∧ w1.cell? ⟨q, 2, none⟩ = some (.int .i64 e2)) := by
  obtain ⟨S1, rfl, ho, hg, ha, _, _⟩ := hE
  have k := ((h.grow hg).2.2.2 q (cell_in f.qe) f.qn.1 f.qn.2.1 f.qn.2.2).trans f.qe
  refine ⟨?_, ?_, ?_⟩
  · rw [cell_of_row _ _ 0 _ _ (0, 0) k]; rfl
  · rw [cell_of_row _ _ 1 _ _ (0, 0) k]; rfl
  · rw [cell_of_row _ _ 2 _ _ (0, 0) k]; rfl
theorem AF.at_ (f : AF W0 S0 p s q g L e0 e1 e2) (h : Wr W0 S0 B p s lim w S l) (i : Nat) (hi : i < L.length) : w.cell? ⟨g, i * 2, none⟩ = some (.int .i64 (L.getD i (0, 0)).1) ∧ w.cell? ⟨g, i * 2 + 1, none⟩ = some (.int .i64 (L.getD i (0, 0)).2) := by
  have k := h.blk g f.gn.2.2.2 f.gn.1 f.gn.2.1 f.gn.2.2.1
  obtain ⟨a, b⟩ := RdE.at0 f.gr i hi
  rw [Nat.zero_add] at a b
  rw [World.cell?_of_block (a := ⟨g, i * 2, none⟩) k, World.cell?_of_block (a := ⟨g, i * 2 + 1, none⟩) k, a, b]
  simp [List.getD, List.getElem?_eq_getElem hi]
end

/-- The greatest range. -/
def topR (L : Rgs) : Int × Int := L.getD (L.length - 1) (0, 0)
theorem topR_eq {L : Rgs} (h : 0 < L.length) : topR L = L[L.length - 1]'(by omega) := by simp [topR, List.getD, List.getElem?_eq_getElem (show L.length - 1 < L.length by omega)]
theorem top_facts {L : Rgs} (h : 0 < L.length) (ha : AscI (-1) L) : 0 ≤ (topR L).1 ∧ (topR L).1 < (topR L).2 ∧ (topR L).2 ≤ 4611686018427387903 ∧ Desc (topR L).1 (below_ L) := by
  rw [topR_eq h]
  exact asc_below h ha
theorem AscI.at_ : ∀ {L : Rgs} {m : Int}, AscI m L → ∀ i, i + 1 < L.length → (L.getD i (0, 0)).2 < (L.getD (i + 1) (0, 0)).1
  | [], _, _, i, hi => by simp at hi
  | [p], _, _, i, hi => by simp at hi
  | p :: r :: t, m, ⟨_, _, _, h⟩, 0, _ => by simpa using h.1
  | p :: r :: t, m, ⟨_, _, _, h⟩, i + 1, hi => by
    have := AscI.at_ h i (by simpa using hi)
    simpa using this
theorem AscI.bd : ∀ {L : Rgs} {m : Int}, 0 ≤ m + 1 → AscI m L → ∀ i, i < L.length → 0 ≤ (L.getD i (0, 0)).1 ∧ (L.getD i (0, 0)).1 < (L.getD i (0, 0)).2 ∧ (L.getD i (0, 0)).2 ≤ 4611686018427387903
  | [], _, _, _, i, hi => by simp at hi
  | p :: t, m, hm, ⟨a, b, c, _⟩, 0, _ => by simp; omega
  | p :: t, m, hm, ⟨a, b, c, h⟩, i + 1, hi => by
    have := AscI.bd (by omega) h i (by simpa using hi)
    simpa using this

/-- What appendAckFrame answers. -/
def ApEnd (w : World) (S0 : Value) (B p s : Nat) (lim : Int) (L : Rgs) (d e0 e1 e2 : Int) (e : Ending) (w' : World) : Prop :=
  (lim < 100 ∧ e = .returned (.bool false) ∧ Wd w S0 B p s w' S0 []) ∨
  ∃ k S, k + 1 ≤ L.length ∧ e = .returned (.bool true) ∧ Wd w S0 B p s w' S (ackW (topR L) ((below_ L).take k) d e0 e1 e2) ∧ ((ackW (topR L) ((below_ L).take k) d e0 e1 e2).length : Int) ≤ lim ∧ (10000 ≤ lim → k + 1 = L.length)

/-- The bytes while the ranges are written, the count not yet told. -/
def ackH (L : Rgs) (t d : Int) (k : Nat) : List Int := [t] ++ enc ((topR L).2 - 1) ++ enc d ++ [0] ++ enc ((topR L).2 - (topR L).1 - 1) ++ gapsW (topR L).1 ((below_ L).take k)
theorem ackH_succ (L : Rgs) (t d : Int) (k : Nat) (h : k + 1 < L.length) : ackH L t d (k + 1) = ackH L t d k ++ enc ((L.getD (L.length - 1 - k) (0, 0)).1 - (L.getD (L.length - 2 - k) (0, 0)).2 - 1) ++ enc ((L.getD (L.length - 2 - k) (0, 0)).2 - (L.getD (L.length - 2 - k) (0, 0)).1 - 1) := by
  have hp := below_pv L k (by omega)
  rw [← topR_eq (by omega)] at hp
  have hq := below_get L k h
  unfold ackH
  rw [gaps_take _ _ k (by rw [below_len]; omega), hp, hq]
  have a : L.getD (L.length - 1 - k) (0, 0) = L[L.length - 1 - k]'(by omega) := by simp [List.getD, List.getElem?_eq_getElem (show L.length - 1 - k < L.length by omega)]
  have b : L.getD (L.length - 2 - k) (0, 0) = L[L.length - 2 - k]'(by omega) := by simp [List.getD, List.getElem?_eq_getElem (show L.length - 2 - k < L.length by omega)]
  rw [a, b]
  simp only [List.append_assoc]
theorem set_mid (X Y : List Int) (x y : Int) (n : Nat) (h : X.length = n) : (X ++ [x] ++ Y).set n y = X ++ [y] ++ Y := by
  subst h
  simp
theorem ackH_set (L : Rgs) (t d : Int) (k n : Nat) (hn : 1 + esz ((topR L).2 - 1) + esz d = n) (hk : k + 1 ≤ L.length) (e0 e1 e2 : Int) (ht : ecnT e0 e1 e2 = t) : (ackH L t d k).set n (k : Int) ++ ecnW e0 e1 e2 = ackW (topR L) ((below_ L).take k) d e0 e1 e2 := by
  have hl : ((below_ L).take k).length = k := by rw [List.length_take, below_len]; omega
  unfold ackH ackW
  rw [List.append_assoc _ _ (gapsW (topR L).1 ((below_ L).take k)), set_mid _ _ _ _ n (by simp [enc_length]; omega), ht, hl]
  simp only [List.append_assoc]
theorem ackH_len (L : Rgs) (t d : Int) (k : Nat) : (ackH L t d k).length ≤ 2 + 24 + 16 * k := by
  have := gaps_len ((below_ L).take k) (topR L).1
  have h2 : ((below_ L).take k).length ≤ k := by rw [List.length_take]; omega
  have a := esz_bd ((topR L).2 - 1)
  have b := esz_bd d
  have c := esz_bd ((topR L).2 - (topR L).1 - 1)
  simp only [ackH, List.length_append, enc_length, List.length_cons, List.length_nil]
  omega
/-- The writer, its slice's address and capacity left open. -/
def AtE (W0 : World) (S0 : Value) (B p s : Nat) (lim : Int) (m : Nat) (l : List Int) (wx : World) : Prop := ∃ g c, Wr W0 S0 B p s lim wx (.slice (some ⟨g, 0, none⟩) m c) l

end Go.Proofs.Ytdogepkfgobcfaa

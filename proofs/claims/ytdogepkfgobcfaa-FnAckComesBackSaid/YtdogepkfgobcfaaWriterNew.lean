/- Contracts of newSentPacket, packetWriter's reset and zzWriter. Conditions: the limit is at most 10000. -/
import Derived.Test.YtdogepkfgobcfaaWriter
import Derived.OwnWalk
namespace Go.Proofs.Ytdogepkfgobcfaa
open Go.RowKit
set_option linter.unusedVariables false

abbrev SP0 : Obj := .cells #[.int .i64 0, .int .i64 0, .int .u8 0, .int .u8 0, .bool false, .bool false, .slice none 0 0, .int .i64 0] 147 (0, 0)

set_option maxRecDepth 100000 in
set_option maxHeartbeats 1000000 in
theorem srst (s : Nat) (w : World) (hs : w.heap[s]? = some SP0) :
    Calls Try.prog 113 #[.pointer (some ⟨s, 0, none⟩)] w fun e w' => e = .returned (.tuple #[]) ∧ Hid (w'.heap[s]? = some SP0 ∧ Fo w.heap.size s w w') := by
  have c0 : w.cell? ⟨s, 0, none⟩ = some (.int .i64 0) := by rw [cell_of_row _ _ 0 _ _ (0, 0) hs]; rfl
  have c1 : w.cell? ⟨s, 1, none⟩ = some (.int .i64 0) := by rw [cell_of_row _ _ 1 _ _ (0, 0) hs]; rfl
  have c2 : w.cell? ⟨s, 2, none⟩ = some (.int .u8 0) := by rw [cell_of_row _ _ 2 _ _ (0, 0) hs]; rfl
  have c3 : w.cell? ⟨s, 3, none⟩ = some (.int .u8 0) := by rw [cell_of_row _ _ 3 _ _ (0, 0) hs]; rfl
  have c4 : w.cell? ⟨s, 4, none⟩ = some (.bool false) := by rw [cell_of_row _ _ 4 _ _ (0, 0) hs]; rfl
  have c5 : w.cell? ⟨s, 5, none⟩ = some (.bool false) := by rw [cell_of_row _ _ 5 _ _ (0, 0) hs]; rfl
  have c6 : w.cell? ⟨s, 6, none⟩ = some (.slice none 0 0) := by rw [cell_of_row _ _ 6 _ _ (0, 0) hs]; rfl
  have c7 : w.cell? ⟨s, 7, none⟩ = some (.int .i64 0) := by rw [cell_of_row _ _ 7 _ _ (0, 0) hs]; rfl
  have f0 := cell_free 0 hs
  have f1 := cell_free 1 hs
  have f2 := cell_free 2 hs
  have f3 := cell_free 3 hs
  have f4 := cell_free 4 hs
  have f5 := cell_free 5 hs
  have f6 := cell_free 6 hs
  have f7 := cell_free 7 hs
  have HS := Lib.hid hs
  clear hs
  go_enter Try.func113, Try.ntmps113
  go_wp2_with fail
  go_end0
  have k := cell_at 7 (.int .i64 0) (cell_at 6 (.slice none 0 0) (cell_at 5 (.bool false) (cell_at 4 (.bool false) (cell_at 3 (.int .u8 0) (cell_at 2 (.int .u8 0) (cell_at 1 (.int .i64 0) (cell_at 0 (.int .i64 0) HS.out rfl) rfl) rfl) rfl) rfl) rfl) rfl) rfl
  have hlt := cell_in HS.out
  exact ⟨rfl, k, ((((((((Fo.refl w.heap.size s w).setc hlt (Nat.le_refl _) _ _).setc hlt (Nat.le_refl _) _ _).setc hlt (Nat.le_refl _) _ _).setc hlt (Nat.le_refl _) _ _).setc hlt (Nat.le_refl _) _ _).setc hlt (Nat.le_refl _) _ _).setc hlt (Nat.le_refl _) _ _).setc hlt (Nat.le_refl _) _ _⟩

set_option maxRecDepth 100000 in
set_option maxHeartbeats 1000000 in
theorem snew (w : World) :
    Calls Try.prog 103 #[] w fun e w' => e = .returned (.pointer (some ⟨w.heap.size, 0, none⟩)) ∧ Hid (w'.heap[w.heap.size]? = some SP0 ∧ Below w.heap.size w w') := by
  go_enter Try.func103, Try.ntmps103
  go_wp2_with fail
  refine (srst w.heap.size _ (heap_alloc_new w _)).mono ?_
  rintro e w1 ⟨rfl, H⟩
  have HB : Hid (Below w.heap.size w w1) := ((Below.refl _ _).alloc (Nat.le_refl _) _).trans H.out.2.bel
  go_wp2_with fail
  go_ret
  exact ⟨rfl, H.out.1, HB.out⟩

/-- A new writer in block p. -/
abbrev PW (dg lim : Int) (S : Value) (s : Nat) : Obj := .cells #[.int .i64 dg, .int .i64 lim, .int .i64 0, .int .i64 0, S, .pointer (some ⟨s, 0, none⟩)] 135 (0, 0)

set_option maxRecDepth 100000 in
set_option maxHeartbeats 1000000 in
theorem wrst (p s n : Nat) (w : World) (hp : w.heap[p]? = some (PW 0 0 (.slice none 0 0) s)) (hsp : s < p) (hn : n ≤ 10000) :
    Calls Try.prog 104 #[.pointer (some ⟨p, 0, none⟩), .int .i64 n] w fun e w' => e = .returned (.tuple #[]) ∧ Hid (∃ S, w'.heap[p]? = some (PW n 0 S s) ∧ Own w.heap.size w' S [] ∧ Fo w.heap.size p w w') := by
  have c4 : w.cell? ⟨p, 4, none⟩ = some (.slice none 0 0) := by rw [cell_of_row _ _ 4 _ _ (0, 0) hp]; rfl
  have c0 : w.cell? ⟨p, 0, none⟩ = some (.int .i64 0) := by rw [cell_of_row _ _ 0 _ _ (0, 0) hp]; rfl
  have f0 := cell_free 0 hp
  have f4 := cell_free 4 hp
  have HS := Lib.hid hp
  have hlt := cell_in hp
  clear hp
  rcases Nat.eq_zero_or_pos n with rfl | hpos
  · go_enter Try.func104, Try.ntmps104
    go_wp2_with fail
    go_end0
    have k := cell_at 4 (.slice none 0 0) (cell_at 0 (.int .i64 0) HS.out rfl) rfl
    exact ⟨rfl, _, k, Own.nil_ _ _, ((Fo.refl w.heap.size p w).setc hlt (Nat.le_refl _) _ _).setc hlt (Nat.le_refl _) _ _⟩
  · obtain ⟨i0, hi, hz0, hz1, hz2⟩ := info_parts info_u8
    go_enter Try.func104, Try.ntmps104
    go_wp2_with (refine wpList_make_own _ rfl _ _ _ rfl w.heap.size _ i0 _ 1 Try.underlying22 hi hz0 hz1 _ _ _ n rfl rfl rfl (by rw [hz2]; omega) (by unfold maxLen; omega) (Nat.le_refl _) ?_; intro w1 ho1 hg1; have k1 := (hg1.block p hlt (by simp)).trans HS.out; have d4 : w1.cell? ⟨p, 4, none⟩ = some (.slice none 0 0) := (by rw [cell_of_row _ _ 4 _ _ (0, 0) k1]; rfl); have d0 : w1.cell? ⟨p, 0, none⟩ = some (.int .i64 0) := (by rw [cell_of_row _ _ 0 _ _ (0, 0) k1]; rfl); have e0 := cell_free 0 k1; have e4 := cell_free 4 k1; have K1 := Lib.hid k1; have HO := Lib.hid ho1; have HG := Lib.hid hg1; clear k1 ho1 hg1)
    go_end0
    have HB : Below w.heap.size w w1 := (Below.refl _ _).grown HG.out (Nat.le_refl _) fun k hk => by cases hk
    have k := cell_at 4 (.slice (some ⟨w.heap.size, 0, none⟩) 0 n) (cell_at 0 (.int .i64 n) (cell_at 4 (.slice (some ⟨w.heap.size, 0, none⟩) 0 n) K1.out rfl) rfl) rfl
    have HOw : Own w.heap.size w1 (.slice (some ⟨w.heap.size, 0, none⟩) 0 n) [] := ⟨Bs.nil, HO.out⟩
    have st : ∀ (W : World) (i : Nat) (v : Value), Own w.heap.size W (.slice (some ⟨w.heap.size, 0, none⟩) 0 n) [] → Own w.heap.size (W.setCell ⟨p, i, none⟩ v) (.slice (some ⟨w.heap.size, 0, none⟩) 0 n) [] := fun W i v ho => ho.kept (cgrown _ _ _ _) (.inr fun e => by have := (ho.lt _ e).1; omega)
    exact ⟨rfl, _, k, st _ _ _ (st _ _ _ (st _ _ _ HOw)), ((Fo.set HB hlt (Nat.le_refl _) _ _).setc hlt (Nat.le_refl _) _ _).setc hlt (Nat.le_refl _) _ _⟩

set_option maxRecDepth 100000 in
set_option maxHeartbeats 1000000 in
theorem zzw (n : Nat) (w : World) (hn : n ≤ 10000) :
    Calls Try.prog 89 #[.int .i64 n] w fun e w' => ∃ p S, e = .returned (.pointer (some ⟨p, 0, none⟩)) ∧ Hid (Wr w' S (p + 1) p w.heap.size n w' S [] ∧ Below w.heap.size w w') := by
  go_enter Try.func89, Try.ntmps89
  go_wp2_with fail
  refine (snew w).mono ?_
  rintro e w1 ⟨rfl, H1⟩
  have q0 := heap_alloc_new w1 (PW 0 0 (.slice none 0 0) w.heap.size)
  have hsw : w.heap.size < w1.heap.size := cell_in H1.out.1
  have Q0 := Lib.hid q0
  clear q0
  go_wp2_with fail
  refine (wrst w1.heap.size w.heap.size n _ Q0.out hsw hn).mono ?_
  rintro e w2 ⟨rfl, H2⟩
  obtain ⟨S, k2, ho2, hf2⟩ := H2.out
  have d1 : w2.cell? ⟨w1.heap.size, 1, none⟩ = some (.int .i64 0) := by rw [cell_of_row _ _ 1 _ _ (0, 0) k2]; rfl
  have f1 := cell_free 1 k2
  have HW : Hid (Wr (w2.setCell ⟨w1.heap.size, 1, none⟩ (.int .i64 n)) S (w1.heap.size + 1) w1.heap.size w.heap.size n (w2.setCell ⟨w1.heap.size, 1, none⟩ (.int .i64 n)) S [] ∧ Below w.heap.size w (w2.setCell ⟨w1.heap.size, 1, none⟩ (.int .i64 n))) := by
    have hs1 : (w1.alloc (PW 0 0 (.slice none 0 0) w.heap.size)).heap.size = w1.heap.size + 1 := by simp
    have hb2 := hf2.bel
    have hsz := hf2.size
    rw [hs1] at ho2 hsz
    have hsc := (hf2.blk w.heap.size (by rw [hs1]; omega) (by omega)).trans ((heap_alloc_old w1 _ hsw).trans H1.out.1)
    refine ⟨⟨⟨n, cell_at 1 _ k2 rfl⟩, cell_off _ 1 _ hsc (by omega), ho2.kept (cgrown _ _ _ _) (.inr fun e => by have := (ho2.lt _ e).1; omega), hsw, by omega, by rw [size_cell]; exact hsz, Below.refl _ _, fun _ _ _ _ _ => rfl, .inl rfl, Nat.le_refl _⟩, ?_⟩
    exact below_cell ((H1.out.2.alloc H1.out.2.size _).trans (hb2.mono (Nat.le_of_lt hsw))) (by omega) _ _ _ (Nat.le_of_lt hsw)
  clear k2 ho2 hf2 H2
  go_wp2_with fail
  go_ret
  exact ⟨_, S, rfl, HW⟩

end Go.Proofs.Ytdogepkfgobcfaa

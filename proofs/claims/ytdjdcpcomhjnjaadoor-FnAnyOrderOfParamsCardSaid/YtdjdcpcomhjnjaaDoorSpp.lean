/- The reference's reading of a preferred address. Conditions: none. -/
import Derived.Test.YtdjdcpcomhjnjaaDoorSp
import Derived.Deep.RegionHeld3
namespace Go.Proofs.YtdjdcpcomhjnjaaDoor
open Go.RowKit
set_option linter.unusedVariables false
set_option linter.unusedSimpArgs false
theorem cell_grown {w w' : World} {P b o : Nat} {v : Value} (hg : w.grownBy w' (some P)) (h : w.cell? ⟨b, o, none⟩ = some v) (hbP : b ≠ P) : w'.cell? ⟨b, o, none⟩ = some v :=
  (World.cell?_of_block (hg.block b (World.block_lt_of_cell? _ _ h) (fun e => hbP (by simpa using e)))).trans h
theorem grown_trans {a b c : World} {r : Option Nat} (h1 : a.grownBy b r) (h2 : b.grownBy c r) : a.grownBy c r :=
  ⟨h2.os.trans h1.os, h2.tape.trans h1.tape, h2.output.trans h1.output, Nat.le_trans h1.size h2.size, fun j hj hne => (h2.block j (Nat.lt_of_lt_of_le hj h1.size) hne).trans (h1.block j hj hne)⟩
theorem grown_drew {a b : World} {r : Option Nat} (h : a.grownBy b r) : a.grownBy b.drew r := ⟨h.os, h.tape, h.output, h.size, h.block⟩
structure Pf (a : Act) (P : Nat) (x1 : Value) : Prop where
  sz : a.tmps.size = 69
  df : a.defers = []
  t0 : a.tmps[0]? = some (.pointer (some ⟨P, 0, none⟩))
  t1 : a.tmps[1]? = some x1
noncomputable def pf3 : Code := cl (cr (cr (Tryd.f18.body.getD .skip)))
set_option maxRecDepth 1000000 in
set_option maxHeartbeats 8000000 in
theorem pf3_wp {w : World} {P b o n c : Nat} {Q : QP} {y4 y5 p : Int} (hp : w.heap[P]? = some (.cells Q.cells 24 (0, 0))) (hn : 25 ≤ n) (hnc : n ≤ c) (hc2 : c ≤ 9223372036854775807) (hy4 : 0 ≤ y4 ∧ y4 ≤ 255) (hy5 : 0 ≤ y5 ∧ y5 ≤ 255) (hpp : y4 * 256 + y5 = p) (hbP : b ≠ P)
   (c4 : w.cell? ⟨b, o + 4, none⟩ = some (.int .u8 y4)) (c5 : w.cell? ⟨b, o + 5, none⟩ = some (.int .u8 y5)) (f : Nat → Value)
   {K E : Act → World → Prop} (hK : ∀ (a' : Act) (w' : World), Pf a' P (.slice (some ⟨b, o, none⟩) n c) → w.grownBy w' (some P) → w'.heap[P]? = some (.cells { Q with v4 := (some ⟨b, o, none⟩, 4, c), p4 := p }.cells 24 (0, 0)) → K a' w') :
   Code.wp Tryd.prog pf3 (Exit.then K (Qr E)) ⟨#[.pointer (some ⟨P, 0, none⟩), .slice (some ⟨b, o, none⟩) n c, f 2, f 3, f 4, f 5, f 6, f 7, f 8, f 9, f 10, f 11, f 12, f 13, f 14, f 15, f 16, f 17, f 18, f 19, f 20, f 21, f 22, f 23, f 24, f 25, f 26, f 27, f 28, f 29, f 30, f 31, f 32, f 33, f 34, f 35, f 36, f 37, f 38, f 39, f 40, f 41, f 42, f 43, f 44, f 45, f 46, f 47, f 48, f 49, f 50, f 51, f 52, f 53, f 54, f 55, f 56, f 57, f 58, f 59, f 60, f 61, f 62, f 63, f 64, f 65, f 66, f 67, f 68], []⟩ w := by
  have hci : (4 : Int) ≤ (c : Int) := by omega
  have hni : (4 : Int) ≤ (n : Int) := by omega
  have hn4 : (4 : Int) < (n : Int) := by omega
  have hn5 : (5 : Int) < (n : Int) := by omega
  have HK := Lib.hid hK
  clear hK
  have hw4 : IntKind.i64.wrap y4 = y4 := IntWalk.i64_in _ (by omega)
  have hw5 : IntKind.i64.wrap y5 = y5 := IntWalk.i64_in _ (by omega)
  have hws : IntKind.i64.wrap (y4 * 256) = y4 * 256 := IntWalk.i64_in _ (by omega)
  have hor : bits .or .i64 (y4 * 256) y5 = p := by rw [or_i64 8 _ _ (by omega) hy5.1 (by omega) (by omega) (by omega), hpp]
  conv => arg 2; whnf
  refine wp_region_held_drew (S := fun wx => wx.cell? ⟨b, o + 4, none⟩ = some (.int .u8 y4) ∧ wx.cell? ⟨b, o + 5, none⟩ = some (.int .u8 y5)) (by kernel_rfl) ⟨c4, c5⟩ (fun hHeld => ?_)
  refine wpAnyH_take (i := 0) (v := ?v0) rfl (by kernel_rfl) (by kernel_rfl) (by kernel_rfl) (fun _ _ _ h => h) (Or.inl ⟨by rfl, ?hy0⟩) (by assumption) ?rest0
  case hy0 => (intro wq hSw; (try obtain ⟨s1, s2⟩ := hSw); go_simp; (try simp only [hw4, hw5, hws, hor]); try with_reducible rfl)
  try simp only [Act.put, List.setIfInBounds_toArray, List.set_cons_zero, List.set_cons_succ]
  refine wpAnyH_take (i := 1) (v := ?v1) rfl (by kernel_rfl) (by kernel_rfl) (by kernel_rfl) (fun _ _ _ h => h) (Or.inl ⟨by rfl, ?hy1⟩) (by assumption) ?rest1
  case hy1 => (intro wq hSw; (try obtain ⟨s1, s2⟩ := hSw); go_simp; (try simp only [hw4, hw5, hws, hor]); try with_reducible rfl)
  try simp only [Act.put, List.setIfInBounds_toArray, List.set_cons_zero, List.set_cons_succ]
  refine wpAnyH_take (i := 2) (v := ?v2) rfl (by kernel_rfl) (by kernel_rfl) (by kernel_rfl) (fun _ _ _ h => h) (Or.inl ⟨by rfl, ?hy2⟩) (by assumption) ?rest2
  case hy2 => (intro wq hSw; (try obtain ⟨s1, s2⟩ := hSw); go_simp; (try simp only [hw4, hw5, hws, hor]); try with_reducible rfl)
  try simp only [Act.put, List.setIfInBounds_toArray, List.set_cons_zero, List.set_cons_succ]
  refine wpAnyH_take (i := 3) (v := ?v3) rfl (by kernel_rfl) (by kernel_rfl) (by kernel_rfl) (fun _ _ _ h => h) (Or.inl ⟨by rfl, ?hy3⟩) (by assumption) ?rest3
  case hy3 => (intro wq hSw; (try obtain ⟨s1, s2⟩ := hSw); go_simp; (try simp only [hw4, hw5, hws, hor]); try with_reducible rfl)
  try simp only [Act.put, List.setIfInBounds_toArray, List.set_cons_zero, List.set_cons_succ]
  refine wpAnyH_take (i := 4) (v := ?v4) rfl (by kernel_rfl) (by kernel_rfl) (by kernel_rfl) (fun _ _ _ h => h) (Or.inl ⟨by rfl, ?hy4⟩) (by assumption) ?rest4
  case hy4 => (intro wq hSw; (try obtain ⟨s1, s2⟩ := hSw); go_simp; (try simp only [hw4, hw5, hws, hor]); try with_reducible rfl)
  try simp only [Act.put, List.setIfInBounds_toArray, List.set_cons_zero, List.set_cons_succ]
  refine wpAnyH_take (i := 5) (v := ?v5) rfl (by kernel_rfl) (by kernel_rfl) (by kernel_rfl) (fun _ _ _ h => h) (Or.inl ⟨by rfl, ?hy5⟩) (by assumption) ?rest5
  case hy5 => (intro wq hSw; (try obtain ⟨s1, s2⟩ := hSw); go_simp; (try simp only [hw4, hw5, hws, hor]); try with_reducible rfl)
  try simp only [Act.put, List.setIfInBounds_toArray, List.set_cons_zero, List.set_cons_succ]
  refine wpAnyH_take (i := 6) (v := ?v6) rfl (by kernel_rfl) (by kernel_rfl) (by kernel_rfl) (fun _ _ _ h => h) (Or.inl ⟨by rfl, ?hy6⟩) (by assumption) ?rest6
  case hy6 => (intro wq hSw; (try obtain ⟨s1, s2⟩ := hSw); go_simp; (try simp only [hw4, hw5, hws, hor]); try with_reducible rfl)
  try simp only [Act.put, List.setIfInBounds_toArray, List.set_cons_zero, List.set_cons_succ]
  refine wpAnyH_take (i := 7) (v := ?v7) rfl (by kernel_rfl) (by kernel_rfl) (by kernel_rfl) (fun _ _ _ h => h) (Or.inl ⟨by rfl, ?hy7⟩) (by assumption) ?rest7
  case hy7 => (intro wq hSw; (try obtain ⟨s1, s2⟩ := hSw); go_simp; (try simp only [hw4, hw5, hws, hor]); try with_reducible rfl)
  try simp only [Act.put, List.setIfInBounds_toArray, List.set_cons_zero, List.set_cons_succ]
  refine wpAnyH_take (i := 8) (v := ?v8) rfl (by kernel_rfl) (by kernel_rfl) (by kernel_rfl) (fun _ _ _ h => h) (Or.inl ⟨by rfl, ?hy8⟩) (by assumption) ?rest8
  case hy8 => (intro wq hSw; (try obtain ⟨s1, s2⟩ := hSw); go_simp; (try simp only [hw4, hw5, hws, hor]); try with_reducible rfl)
  try simp only [Act.put, List.setIfInBounds_toArray, List.set_cons_zero, List.set_cons_succ]
  refine wpAnyH_take (i := 9) (v := ?v9) rfl (by kernel_rfl) (by kernel_rfl) (by kernel_rfl) (fun _ _ _ h => h) (Or.inl ⟨by rfl, ?hy9⟩) (by assumption) ?rest9
  case hy9 => (intro wq hSw; (try obtain ⟨s1, s2⟩ := hSw); go_simp; (try simp only [hw4, hw5, hws, hor]); try with_reducible rfl)
  try simp only [Act.put, List.setIfInBounds_toArray, List.set_cons_zero, List.set_cons_succ]
  refine wpAnyH_take (i := 10) (v := ?v10) rfl (by kernel_rfl) (by kernel_rfl) (by kernel_rfl) (fun _ _ _ h => h) (Or.inl ⟨by rfl, ?hy10⟩) (by assumption) ?rest10
  case hy10 => (intro wq hSw; (try obtain ⟨s1, s2⟩ := hSw); go_simp; (try simp only [hw4, hw5, hws, hor]); try with_reducible rfl)
  try simp only [Act.put, List.setIfInBounds_toArray, List.set_cons_zero, List.set_cons_succ]
  refine wpAnyH_take (i := 11) (v := ?v11) rfl (by kernel_rfl) (by kernel_rfl) (by kernel_rfl) (fun _ _ _ h => h) (Or.inl ⟨by rfl, ?hy11⟩) (by assumption) ?rest11
  case hy11 => (intro wq hSw; (try obtain ⟨s1, s2⟩ := hSw); go_simp; (try simp only [hw4, hw5, hws, hor]); try with_reducible rfl)
  try simp only [Act.put, List.setIfInBounds_toArray, List.set_cons_zero, List.set_cons_succ]
  refine wpAnyH_take (i := 12) (v := ?v12) rfl (by kernel_rfl) (by kernel_rfl) (by kernel_rfl) (fun _ _ _ h => h) (Or.inl ⟨by rfl, ?hy12⟩) (by assumption) ?rest12
  case hy12 => (intro wq hSw; (try obtain ⟨s1, s2⟩ := hSw); go_simp; (try simp only [hw4, hw5, hws, hor]); try with_reducible rfl)
  try simp only [Act.put, List.setIfInBounds_toArray, List.set_cons_zero, List.set_cons_succ]
  refine wpAnyH_take (i := 13) (v := ?v13) rfl (by kernel_rfl) (by kernel_rfl) (by kernel_rfl) (fun _ _ _ h => h) (Or.inl ⟨by rfl, ?hy13⟩) (by assumption) ?rest13
  case hy13 => (intro wq hSw; (try obtain ⟨s1, s2⟩ := hSw); go_simp; (try simp only [hw4, hw5, hws, hor]); try with_reducible rfl)
  try simp only [Act.put, List.setIfInBounds_toArray, List.set_cons_zero, List.set_cons_succ]
  refine wpAnyH_take (i := 14) (v := ?v14) rfl (by kernel_rfl) (by kernel_rfl) (by kernel_rfl) (fun _ _ _ h => h) (Or.inl ⟨by rfl, ?hy14⟩) (by assumption) ?rest14
  case hy14 => (intro wq hSw; (try obtain ⟨s1, s2⟩ := hSw); go_simp; (try simp only [hw4, hw5, hws, hor]); try with_reducible rfl)
  try simp only [Act.put, List.setIfInBounds_toArray, List.set_cons_zero, List.set_cons_succ]
  refine wpAnyH_take (i := 15) (v := ?v15) rfl (by kernel_rfl) (by kernel_rfl) (by kernel_rfl) (fun _ _ _ h => h) (Or.inl ⟨by rfl, ?hy15⟩) (by assumption) ?rest15
  case hy15 => (intro wq hSw; (try obtain ⟨s1, s2⟩ := hSw); go_simp; (try simp only [hw4, hw5, hws, hor]); try with_reducible rfl)
  try simp only [Act.put, List.setIfInBounds_toArray, List.set_cons_zero, List.set_cons_succ]
  refine wpAnyH_ready (rs := [16]) (by kernel_rfl) (by simp) (AllReadyH.cons rfl (fun K hK => ?_) AllReadyH.nil)
  have u15 : w.drew.cell? ⟨P, 15, none⟩ = some (triV Q.v4) := (cell_of_row w.drew P 15 _ _ (0, 0) hp).trans rfl
  have f15 : w.drew.frozen? ⟨P, 15, none⟩ = false := by have := cell_free 15 hp; exact this
  go_simp
  have k4 := cell_grown (grownBy_set w P 15 (.slice (some ⟨b, o, none⟩) 4 c)) c4 hbP
  have k5 := cell_grown (grownBy_set w P 15 (.slice (some ⟨b, o, none⟩) 4 c)) c5 hbP
  refine hK.out _ _ (by exact ⟨k4, k5⟩) (fun hHeld => ?_)
  clear k4 k5
  clear hK K
  have h1 := cell_at 15 (.slice (some ⟨b, o, none⟩) 4 c) hp (r' := { Q with v4 := (some ⟨b, o, none⟩, 4, c) }.cells) rfl
  have g1 := grownBy_set w P 15 (.slice (some ⟨b, o, none⟩) 4 c)
  clear u15 f15
  obtain ⟨w1, hw1⟩ : ∃ w1, (w.setCell ⟨P, 15, none⟩ (.slice (some ⟨b, o, none⟩) 4 c)) = w1 := ⟨_, rfl⟩
  change wpAnyH _ _ _ _ _ _ _ _ (w.setCell ⟨P, 15, none⟩ (.slice (some ⟨b, o, none⟩) 4 c)).drew
  rw [hw1] at h1 g1 hHeld ⊢
  clear hw1
  refine wpAnyH_take (i := 17) (v := ?v17) rfl (by kernel_rfl) (by kernel_rfl) (by kernel_rfl) (fun _ _ _ h => h) (Or.inl ⟨by rfl, ?hy17⟩) (by assumption) ?rest17
  case hy17 => (intro wq hSw; (try obtain ⟨s1, s2⟩ := hSw); go_simp; skip; try with_reducible rfl)
  try simp only [Act.put, List.setIfInBounds_toArray, List.set_cons_zero, List.set_cons_succ]
  refine wpAnyH_take (i := 18) (v := ?v18) rfl (by kernel_rfl) (by kernel_rfl) (by kernel_rfl) (fun _ _ _ h => h) (Or.inl ⟨by rfl, ?hy18⟩) (by assumption) ?rest18
  case hy18 => (intro wq hSw; (try obtain ⟨s1, s2⟩ := hSw); go_simp; skip; try with_reducible rfl)
  try simp only [Act.put, List.setIfInBounds_toArray, List.set_cons_zero, List.set_cons_succ]
  refine wpAnyH_ready (rs := [19]) (by kernel_rfl) (by simp) (AllReadyH.cons rfl (fun K hK => ?_) AllReadyH.nil)
  have u17 : w1.drew.cell? ⟨P, 17, none⟩ = some (.int .i64 Q.p4) := (cell_of_row w1.drew P 17 _ _ (0, 0) h1).trans rfl
  have f17 : w1.drew.frozen? ⟨P, 17, none⟩ = false := by have := cell_free 17 h1; exact this
  go_simp
  have k4 := cell_grown (grown_trans g1 (grownBy_set w1 P 17 (.int .i64 p))) c4 hbP
  have k5 := cell_grown (grown_trans g1 (grownBy_set w1 P 17 (.int .i64 p))) c5 hbP
  refine hK.out _ _ (by exact ⟨k4, k5⟩) (fun hHeld => ?_)
  clear hK K
  refine wpAnyH_done (by kernel_rfl) ?_ _
  exact HK.out _ _ ⟨rfl, rfl, rfl, rfl⟩ (grown_trans g1 (grown_drew (grownBy_set w1 P 17 _))) (cell_at 17 (.int .i64 p) h1 rfl)

noncomputable def pf4 : Code := cl (cr (cr (cr (Tryd.f18.body.getD .skip))))
set_option maxRecDepth 1000000 in
set_option maxHeartbeats 8000000 in
theorem pf4_wp {w : World} {P b o n c : Nat} {Q : QP} {y4 y5 p : Int} (hp : w.heap[P]? = some (.cells Q.cells 24 (0, 0))) (hn : 25 ≤ n) (hnc : n ≤ c) (hc2 : c ≤ 9223372036854775807) (hy4 : 0 ≤ y4 ∧ y4 ≤ 255) (hy5 : 0 ≤ y5 ∧ y5 ≤ 255) (hpp : y4 * 256 + y5 = p) (hbP : b ≠ P)
   (c4 : w.cell? ⟨b, o + 22, none⟩ = some (.int .u8 y4)) (c5 : w.cell? ⟨b, o + 23, none⟩ = some (.int .u8 y5)) (f : Nat → Value)
   {K E : Act → World → Prop} (hK : ∀ (a' : Act) (w' : World), Pf a' P (.slice (some ⟨b, o, none⟩) n c) → w.grownBy w' (some P) → w'.heap[P]? = some (.cells { Q with v6 := (some ⟨b, o + 6, none⟩, 16, c - 6), p6 := p }.cells 24 (0, 0)) → K a' w') :
   Code.wp Tryd.prog pf4 (Exit.then K (Qr E)) ⟨#[.pointer (some ⟨P, 0, none⟩), .slice (some ⟨b, o, none⟩) n c, f 2, f 3, f 4, f 5, f 6, f 7, f 8, f 9, f 10, f 11, f 12, f 13, f 14, f 15, f 16, f 17, f 18, f 19, f 20, f 21, f 22, f 23, f 24, f 25, f 26, f 27, f 28, f 29, f 30, f 31, f 32, f 33, f 34, f 35, f 36, f 37, f 38, f 39, f 40, f 41, f 42, f 43, f 44, f 45, f 46, f 47, f 48, f 49, f 50, f 51, f 52, f 53, f 54, f 55, f 56, f 57, f 58, f 59, f 60, f 61, f 62, f 63, f 64, f 65, f 66, f 67, f 68], []⟩ w := by
  have hci : (22 : Int) ≤ (c : Int) := by omega
  have hni : (22 : Int) ≤ (n : Int) := by omega
  have hc6 : c ≠ 6 := by omega
  have hn4 : (22 : Int) < (n : Int) := by omega
  have hn5 : (23 : Int) < (n : Int) := by omega
  have HK := Lib.hid hK
  clear hK
  have hw4 : IntKind.i64.wrap y4 = y4 := IntWalk.i64_in _ (by omega)
  have hw5 : IntKind.i64.wrap y5 = y5 := IntWalk.i64_in _ (by omega)
  have hws : IntKind.i64.wrap (y4 * 256) = y4 * 256 := IntWalk.i64_in _ (by omega)
  have hor : bits .or .i64 (y4 * 256) y5 = p := by rw [or_i64 8 _ _ (by omega) hy5.1 (by omega) (by omega) (by omega), hpp]
  conv => arg 2; whnf
  refine wp_region_held_drew (S := fun wx => wx.cell? ⟨b, o + 22, none⟩ = some (.int .u8 y4) ∧ wx.cell? ⟨b, o + 23, none⟩ = some (.int .u8 y5)) (by kernel_rfl) ⟨c4, c5⟩ (fun hHeld => ?_)
  refine wpAnyH_take (i := 0) (v := ?v0) rfl (by kernel_rfl) (by kernel_rfl) (by kernel_rfl) (fun _ _ _ h => h) (Or.inl ⟨by rfl, ?hy0⟩) (by assumption) ?rest0
  case hy0 => (intro wq hSw; (try obtain ⟨s1, s2⟩ := hSw); go_simp; (try simp only [hw4, hw5, hws, hor]); try with_reducible rfl)
  try simp only [Act.put, List.setIfInBounds_toArray, List.set_cons_zero, List.set_cons_succ]
  refine wpAnyH_take (i := 1) (v := ?v1) rfl (by kernel_rfl) (by kernel_rfl) (by kernel_rfl) (fun _ _ _ h => h) (Or.inl ⟨by rfl, ?hy1⟩) (by assumption) ?rest1
  case hy1 => (intro wq hSw; (try obtain ⟨s1, s2⟩ := hSw); go_simp; (try simp only [hw4, hw5, hws, hor]); try with_reducible rfl)
  try simp only [Act.put, List.setIfInBounds_toArray, List.set_cons_zero, List.set_cons_succ]
  refine wpAnyH_take (i := 2) (v := ?v2) rfl (by kernel_rfl) (by kernel_rfl) (by kernel_rfl) (fun _ _ _ h => h) (Or.inl ⟨by rfl, ?hy2⟩) (by assumption) ?rest2
  case hy2 => (intro wq hSw; (try obtain ⟨s1, s2⟩ := hSw); go_simp; (try simp only [hw4, hw5, hws, hor]); try with_reducible rfl)
  try simp only [Act.put, List.setIfInBounds_toArray, List.set_cons_zero, List.set_cons_succ]
  refine wpAnyH_take (i := 3) (v := ?v3) rfl (by kernel_rfl) (by kernel_rfl) (by kernel_rfl) (fun _ _ _ h => h) (Or.inl ⟨by rfl, ?hy3⟩) (by assumption) ?rest3
  case hy3 => (intro wq hSw; (try obtain ⟨s1, s2⟩ := hSw); go_simp; (try simp only [hw4, hw5, hws, hor]); try with_reducible rfl)
  try simp only [Act.put, List.setIfInBounds_toArray, List.set_cons_zero, List.set_cons_succ]
  refine wpAnyH_take (i := 4) (v := ?v4) rfl (by kernel_rfl) (by kernel_rfl) (by kernel_rfl) (fun _ _ _ h => h) (Or.inl ⟨by rfl, ?hy4⟩) (by assumption) ?rest4
  case hy4 => (intro wq hSw; (try obtain ⟨s1, s2⟩ := hSw); go_simp; (try simp only [hw4, hw5, hws, hor]); try with_reducible rfl)
  try simp only [Act.put, List.setIfInBounds_toArray, List.set_cons_zero, List.set_cons_succ]
  refine wpAnyH_take (i := 5) (v := ?v5) rfl (by kernel_rfl) (by kernel_rfl) (by kernel_rfl) (fun _ _ _ h => h) (Or.inl ⟨by rfl, ?hy5⟩) (by assumption) ?rest5
  case hy5 => (intro wq hSw; (try obtain ⟨s1, s2⟩ := hSw); go_simp; (try simp only [hw4, hw5, hws, hor]); try with_reducible rfl)
  try simp only [Act.put, List.setIfInBounds_toArray, List.set_cons_zero, List.set_cons_succ]
  refine wpAnyH_take (i := 6) (v := ?v6) rfl (by kernel_rfl) (by kernel_rfl) (by kernel_rfl) (fun _ _ _ h => h) (Or.inl ⟨by rfl, ?hy6⟩) (by assumption) ?rest6
  case hy6 => (intro wq hSw; (try obtain ⟨s1, s2⟩ := hSw); go_simp; (try simp only [hw4, hw5, hws, hor]); try with_reducible rfl)
  try simp only [Act.put, List.setIfInBounds_toArray, List.set_cons_zero, List.set_cons_succ]
  refine wpAnyH_take (i := 7) (v := ?v7) rfl (by kernel_rfl) (by kernel_rfl) (by kernel_rfl) (fun _ _ _ h => h) (Or.inl ⟨by rfl, ?hy7⟩) (by assumption) ?rest7
  case hy7 => (intro wq hSw; (try obtain ⟨s1, s2⟩ := hSw); go_simp; (try simp only [hw4, hw5, hws, hor]); try with_reducible rfl)
  try simp only [Act.put, List.setIfInBounds_toArray, List.set_cons_zero, List.set_cons_succ]
  refine wpAnyH_take (i := 8) (v := ?v8) rfl (by kernel_rfl) (by kernel_rfl) (by kernel_rfl) (fun _ _ _ h => h) (Or.inl ⟨by rfl, ?hy8⟩) (by assumption) ?rest8
  case hy8 => (intro wq hSw; (try obtain ⟨s1, s2⟩ := hSw); go_simp; (try simp only [hw4, hw5, hws, hor]); try with_reducible rfl)
  try simp only [Act.put, List.setIfInBounds_toArray, List.set_cons_zero, List.set_cons_succ]
  refine wpAnyH_take (i := 9) (v := ?v9) rfl (by kernel_rfl) (by kernel_rfl) (by kernel_rfl) (fun _ _ _ h => h) (Or.inl ⟨by rfl, ?hy9⟩) (by assumption) ?rest9
  case hy9 => (intro wq hSw; (try obtain ⟨s1, s2⟩ := hSw); go_simp; (try simp only [hw4, hw5, hws, hor]); try with_reducible rfl)
  try simp only [Act.put, List.setIfInBounds_toArray, List.set_cons_zero, List.set_cons_succ]
  refine wpAnyH_take (i := 10) (v := ?v10) rfl (by kernel_rfl) (by kernel_rfl) (by kernel_rfl) (fun _ _ _ h => h) (Or.inl ⟨by rfl, ?hy10⟩) (by assumption) ?rest10
  case hy10 => (intro wq hSw; (try obtain ⟨s1, s2⟩ := hSw); go_simp; (try simp only [hw4, hw5, hws, hor]); try with_reducible rfl)
  try simp only [Act.put, List.setIfInBounds_toArray, List.set_cons_zero, List.set_cons_succ]
  refine wpAnyH_take (i := 11) (v := ?v11) rfl (by kernel_rfl) (by kernel_rfl) (by kernel_rfl) (fun _ _ _ h => h) (Or.inl ⟨by rfl, ?hy11⟩) (by assumption) ?rest11
  case hy11 => (intro wq hSw; (try obtain ⟨s1, s2⟩ := hSw); go_simp; (try simp only [hw4, hw5, hws, hor]); try with_reducible rfl)
  try simp only [Act.put, List.setIfInBounds_toArray, List.set_cons_zero, List.set_cons_succ]
  refine wpAnyH_take (i := 12) (v := ?v12) rfl (by kernel_rfl) (by kernel_rfl) (by kernel_rfl) (fun _ _ _ h => h) (Or.inl ⟨by rfl, ?hy12⟩) (by assumption) ?rest12
  case hy12 => (intro wq hSw; (try obtain ⟨s1, s2⟩ := hSw); go_simp; (try simp only [hw4, hw5, hws, hor]); try with_reducible rfl)
  try simp only [Act.put, List.setIfInBounds_toArray, List.set_cons_zero, List.set_cons_succ]
  refine wpAnyH_take (i := 13) (v := ?v13) rfl (by kernel_rfl) (by kernel_rfl) (by kernel_rfl) (fun _ _ _ h => h) (Or.inl ⟨by rfl, ?hy13⟩) (by assumption) ?rest13
  case hy13 => (intro wq hSw; (try obtain ⟨s1, s2⟩ := hSw); go_simp; (try simp only [hw4, hw5, hws, hor]); try with_reducible rfl)
  try simp only [Act.put, List.setIfInBounds_toArray, List.set_cons_zero, List.set_cons_succ]
  refine wpAnyH_take (i := 14) (v := ?v14) rfl (by kernel_rfl) (by kernel_rfl) (by kernel_rfl) (fun _ _ _ h => h) (Or.inl ⟨by rfl, ?hy14⟩) (by assumption) ?rest14
  case hy14 => (intro wq hSw; (try obtain ⟨s1, s2⟩ := hSw); go_simp; (try simp only [hw4, hw5, hws, hor]); try with_reducible rfl)
  try simp only [Act.put, List.setIfInBounds_toArray, List.set_cons_zero, List.set_cons_succ]
  refine wpAnyH_take (i := 15) (v := ?v15) rfl (by kernel_rfl) (by kernel_rfl) (by kernel_rfl) (fun _ _ _ h => h) (Or.inl ⟨by rfl, ?hy15⟩) (by assumption) ?rest15
  case hy15 => (intro wq hSw; (try obtain ⟨s1, s2⟩ := hSw); go_simp; (try simp only [hw4, hw5, hws, hor]); try with_reducible rfl)
  try simp only [Act.put, List.setIfInBounds_toArray, List.set_cons_zero, List.set_cons_succ]
  refine wpAnyH_ready (rs := [16]) (by kernel_rfl) (by simp) (AllReadyH.cons rfl (fun K hK => ?_) AllReadyH.nil)
  have u16 : w.drew.cell? ⟨P, 16, none⟩ = some (triV Q.v6) := (cell_of_row w.drew P 16 _ _ (0, 0) hp).trans rfl
  have f16 : w.drew.frozen? ⟨P, 16, none⟩ = false := by have := cell_free 16 hp; exact this
  go_simp
  have k4 := cell_grown (grownBy_set w P 16 (.slice (some ⟨b, o + 6, none⟩) 16 (c - 6))) c4 hbP
  have k5 := cell_grown (grownBy_set w P 16 (.slice (some ⟨b, o + 6, none⟩) 16 (c - 6))) c5 hbP
  refine hK.out _ _ (by exact ⟨k4, k5⟩) (fun hHeld => ?_)
  clear k4 k5
  clear hK K
  have h1 := cell_at 16 (.slice (some ⟨b, o + 6, none⟩) 16 (c - 6)) hp (r' := { Q with v6 := (some ⟨b, o + 6, none⟩, 16, c - 6) }.cells) rfl
  have g1 := grownBy_set w P 16 (.slice (some ⟨b, o + 6, none⟩) 16 (c - 6))
  clear u16 f16
  obtain ⟨w1, hw1⟩ : ∃ w1, (w.setCell ⟨P, 16, none⟩ (.slice (some ⟨b, o + 6, none⟩) 16 (c - 6))) = w1 := ⟨_, rfl⟩
  change wpAnyH _ _ _ _ _ _ _ _ (w.setCell ⟨P, 16, none⟩ (.slice (some ⟨b, o + 6, none⟩) 16 (c - 6))).drew
  rw [hw1] at h1 g1 hHeld ⊢
  clear hw1
  refine wpAnyH_take (i := 17) (v := ?v17) rfl (by kernel_rfl) (by kernel_rfl) (by kernel_rfl) (fun _ _ _ h => h) (Or.inl ⟨by rfl, ?hy17⟩) (by assumption) ?rest17
  case hy17 => (intro wq hSw; (try obtain ⟨s1, s2⟩ := hSw); go_simp; skip; try with_reducible rfl)
  try simp only [Act.put, List.setIfInBounds_toArray, List.set_cons_zero, List.set_cons_succ]
  refine wpAnyH_take (i := 18) (v := ?v18) rfl (by kernel_rfl) (by kernel_rfl) (by kernel_rfl) (fun _ _ _ h => h) (Or.inl ⟨by rfl, ?hy18⟩) (by assumption) ?rest18
  case hy18 => (intro wq hSw; (try obtain ⟨s1, s2⟩ := hSw); go_simp; skip; try with_reducible rfl)
  try simp only [Act.put, List.setIfInBounds_toArray, List.set_cons_zero, List.set_cons_succ]
  refine wpAnyH_ready (rs := [19]) (by kernel_rfl) (by simp) (AllReadyH.cons rfl (fun K hK => ?_) AllReadyH.nil)
  have u18 : w1.drew.cell? ⟨P, 18, none⟩ = some (.int .i64 Q.p6) := (cell_of_row w1.drew P 18 _ _ (0, 0) h1).trans rfl
  have f18 : w1.drew.frozen? ⟨P, 18, none⟩ = false := by have := cell_free 18 h1; exact this
  go_simp
  have k4 := cell_grown (grown_trans g1 (grownBy_set w1 P 18 (.int .i64 p))) c4 hbP
  have k5 := cell_grown (grown_trans g1 (grownBy_set w1 P 18 (.int .i64 p))) c5 hbP
  refine hK.out _ _ (by exact ⟨k4, k5⟩) (fun hHeld => ?_)
  clear hK K
  refine wpAnyH_done (by kernel_rfl) ?_ _
  exact HK.out _ _ ⟨rfl, rfl, rfl, rfl⟩ (grown_trans g1 (grown_drew (grownBy_set w1 P 18 _))) (cell_at 18 (.int .i64 p) h1 rfl)

noncomputable def pf8 : Code := cl (cr (cr (cr (cr (cr (cr (Tryd.f18.body.getD .skip))))))) 
set_option maxRecDepth 1000000 in
set_option maxHeartbeats 8000000 in
theorem pf8_wp {w : World} {P b o n c k q : Nat} {Q : QP} (hp : w.heap[P]? = some (.cells Q.cells 24 (0, 0))) (hkq : 25 + k = q) (hqn : q < n) (hnc : n ≤ c) (hc2 : c ≤ 9223372036854775807) (f : Nat → Value)
   {K E : Act → World → Prop} (hK : ∀ (a' : Act) (w' : World), Pf a' P (.slice (some ⟨b, o, none⟩) n c) → w.grownBy w' (some P) → w'.heap[P]? = some (.cells { Q with pid := (some ⟨b, o + 25, none⟩, q - 25, c - 25), ptok := (some ⟨b, o + q, none⟩, n - q, c - q) }.cells 24 (0, 0)) → K a' w') :
   Code.wp Tryd.prog pf8 (Exit.then K (Qr E)) ⟨#[.pointer (some ⟨P, 0, none⟩), .slice (some ⟨b, o, none⟩) n c, f 2, f 3, f 4, .int .i64 (k : Nat), f 6, f 7, f 8, f 9, f 10, f 11, f 12, f 13, f 14, f 15, f 16, f 17, f 18, f 19, f 20, f 21, f 22, f 23, f 24, f 25, f 26, f 27, f 28, f 29, f 30, f 31, f 32, f 33, f 34, f 35, f 36, f 37, f 38, f 39, f 40, f 41, f 42, f 43, f 44, f 45, f 46, f 47, f 48, f 49, f 50, f 51, f 52, f 53, f 54, f 55, f 56, f 57, f 58, f 59, f 60, f 61, f 62, f 63, f 64, f 65, f 66, f 67, f 68], []⟩ w := by
  have hq25 : (25 : Int) ≤ (q : Int) := by omega
  have hqc : (q : Int) ≤ (c : Int) := by omega
  have hqn' : (q : Int) ≤ (n : Int) := by omega
  have hc25 : c ≠ 25 := by omega
  have hcq : c ≠ q := by omega
  have HK := Lib.hid hK
  clear hK
  have hwq : IntKind.i64.wrap (25 + (k : Int)) = (q : Int) := by rw [IntWalk.i64_in _ (by omega)]; omega
  have hwq2 : IntKind.i64.wrap ((k : Int) + 25) = (q : Int) := by rw [IntWalk.i64_in _ (by omega)]; omega
  conv => arg 2; whnf
  refine wp_region_held_drew (S := fun _ => True) (by kernel_rfl) trivial (fun hHeld => ?_)
  refine wpAnyH_take (i := 0) (v := ?v0) rfl (by kernel_rfl) (by kernel_rfl) (by kernel_rfl) (fun _ _ _ h => h) (Or.inl ⟨by rfl, ?hy0⟩) (by assumption) ?rest0
  case hy0 => (intro wq hSw; (skip); go_simp; (try simp only [hwq, hwq2]); try with_reducible rfl)
  try simp only [Act.put, List.setIfInBounds_toArray, List.set_cons_zero, List.set_cons_succ]
  refine wpAnyH_take (i := 1) (v := ?v1) rfl (by kernel_rfl) (by kernel_rfl) (by kernel_rfl) (fun _ _ _ h => h) (Or.inl ⟨by rfl, ?hy1⟩) (by assumption) ?rest1
  case hy1 => (intro wq hSw; (skip); go_simp; (try simp only [hwq, hwq2]); try with_reducible rfl)
  try simp only [Act.put, List.setIfInBounds_toArray, List.set_cons_zero, List.set_cons_succ]
  refine wpAnyH_take (i := 2) (v := ?v2) rfl (by kernel_rfl) (by kernel_rfl) (by kernel_rfl) (fun _ _ _ h => h) (Or.inl ⟨by rfl, ?hy2⟩) (by assumption) ?rest2
  case hy2 => (intro wq hSw; (skip); go_simp; (try simp only [hwq, hwq2]); try with_reducible rfl)
  try simp only [Act.put, List.setIfInBounds_toArray, List.set_cons_zero, List.set_cons_succ]
  refine wpAnyH_take (i := 3) (v := ?v3) rfl (by kernel_rfl) (by kernel_rfl) (by kernel_rfl) (fun _ _ _ h => h) (Or.inl ⟨by rfl, ?hy3⟩) (by assumption) ?rest3
  case hy3 => (intro wq hSw; (skip); go_simp; (try simp only [hwq, hwq2]); try with_reducible rfl)
  try simp only [Act.put, List.setIfInBounds_toArray, List.set_cons_zero, List.set_cons_succ]
  refine wpAnyH_take (i := 4) (v := ?v4) rfl (by kernel_rfl) (by kernel_rfl) (by kernel_rfl) (fun _ _ _ h => h) (Or.inl ⟨by rfl, ?hy4⟩) (by assumption) ?rest4
  case hy4 => (intro wq hSw; (skip); go_simp; (try simp only [hwq, hwq2]); try with_reducible rfl)
  try simp only [Act.put, List.setIfInBounds_toArray, List.set_cons_zero, List.set_cons_succ]
  refine wpAnyH_take (i := 5) (v := ?v5) rfl (by kernel_rfl) (by kernel_rfl) (by kernel_rfl) (fun _ _ _ h => h) (Or.inl ⟨by rfl, ?hy5⟩) (by assumption) ?rest5
  case hy5 => (intro wq hSw; (skip); go_simp; (try simp only [hwq, hwq2]); try with_reducible rfl)
  try simp only [Act.put, List.setIfInBounds_toArray, List.set_cons_zero, List.set_cons_succ]
  refine wpAnyH_take (i := 6) (v := ?v6) rfl (by kernel_rfl) (by kernel_rfl) (by kernel_rfl) (fun _ _ _ h => h) (Or.inl ⟨by rfl, ?hy6⟩) (by assumption) ?rest6
  case hy6 => (intro wq hSw; (skip); go_simp; (try simp only [hwq, hwq2]); try with_reducible rfl)
  try simp only [Act.put, List.setIfInBounds_toArray, List.set_cons_zero, List.set_cons_succ]
  refine wpAnyH_take (i := 7) (v := ?v7) rfl (by kernel_rfl) (by kernel_rfl) (by kernel_rfl) (fun _ _ _ h => h) (Or.inl ⟨by rfl, ?hy7⟩) (by assumption) ?rest7
  case hy7 => (intro wq hSw; (skip); go_simp; (try simp only [hwq, hwq2]); try with_reducible rfl)
  try simp only [Act.put, List.setIfInBounds_toArray, List.set_cons_zero, List.set_cons_succ]
  refine wpAnyH_take (i := 8) (v := ?v8) rfl (by kernel_rfl) (by kernel_rfl) (by kernel_rfl) (fun _ _ _ h => h) (Or.inl ⟨by rfl, ?hy8⟩) (by assumption) ?rest8
  case hy8 => (intro wq hSw; (skip); go_simp; (try simp only [hwq, hwq2]); try with_reducible rfl)
  try simp only [Act.put, List.setIfInBounds_toArray, List.set_cons_zero, List.set_cons_succ]
  refine wpAnyH_take (i := 9) (v := ?v9) rfl (by kernel_rfl) (by kernel_rfl) (by kernel_rfl) (fun _ _ _ h => h) (Or.inl ⟨by rfl, ?hy9⟩) (by assumption) ?rest9
  case hy9 => (intro wq hSw; (skip); go_simp; (try simp only [hwq, hwq2]); try with_reducible rfl)
  try simp only [Act.put, List.setIfInBounds_toArray, List.set_cons_zero, List.set_cons_succ]
  refine wpAnyH_take (i := 10) (v := ?v10) rfl (by kernel_rfl) (by kernel_rfl) (by kernel_rfl) (fun _ _ _ h => h) (Or.inl ⟨by rfl, ?hy10⟩) (by assumption) ?rest10
  case hy10 => (intro wq hSw; (skip); go_simp; (try simp only [hwq, hwq2]); try with_reducible rfl)
  try simp only [Act.put, List.setIfInBounds_toArray, List.set_cons_zero, List.set_cons_succ]
  refine wpAnyH_take (i := 11) (v := ?v11) rfl (by kernel_rfl) (by kernel_rfl) (by kernel_rfl) (fun _ _ _ h => h) (Or.inl ⟨by rfl, ?hy11⟩) (by assumption) ?rest11
  case hy11 => (intro wq hSw; (skip); go_simp; (try simp only [hwq, hwq2]); try with_reducible rfl)
  try simp only [Act.put, List.setIfInBounds_toArray, List.set_cons_zero, List.set_cons_succ]
  refine wpAnyH_ready (rs := [12]) (by kernel_rfl) (by simp) (AllReadyH.cons rfl (fun K hK => ?_) AllReadyH.nil)
  have u19 : w.drew.cell? ⟨P, 19, none⟩ = some (triV Q.pid) := (cell_of_row w.drew P 19 _ _ (0, 0) hp).trans rfl
  have f19 : w.drew.frozen? ⟨P, 19, none⟩ = false := by have := cell_free 19 hp; exact this
  go_simp
  refine hK.out _ _ trivial (fun hHeld => ?_)
  clear hK K
  have h1 := cell_at 19 (.slice (some ⟨b, o + 25, none⟩) (q - 25) (c - 25)) hp (r' := { Q with pid := (some ⟨b, o + 25, none⟩, q - 25, c - 25) }.cells) rfl
  have g1 := grownBy_set w P 19 (.slice (some ⟨b, o + 25, none⟩) (q - 25) (c - 25))
  clear u19 f19
  obtain ⟨w1, hw1⟩ : ∃ w1, (w.setCell ⟨P, 19, none⟩ (.slice (some ⟨b, o + 25, none⟩) (q - 25) (c - 25))) = w1 := ⟨_, rfl⟩
  change wpAnyH _ _ _ _ _ _ _ _ (w.setCell ⟨P, 19, none⟩ (.slice (some ⟨b, o + 25, none⟩) (q - 25) (c - 25))).drew
  rw [hw1] at h1 g1 ⊢
  clear hw1
  refine wpAnyH_take (i := 13) (v := ?v13) rfl (by kernel_rfl) (by kernel_rfl) (by kernel_rfl) (fun _ _ _ h => h) (Or.inl ⟨by rfl, ?hy13⟩) (by assumption) ?rest13
  case hy13 => (intro wq hSw; (skip); go_simp; skip; try with_reducible rfl)
  try simp only [Act.put, List.setIfInBounds_toArray, List.set_cons_zero, List.set_cons_succ]
  refine wpAnyH_take (i := 14) (v := ?v14) rfl (by kernel_rfl) (by kernel_rfl) (by kernel_rfl) (fun _ _ _ h => h) (Or.inl ⟨by rfl, ?hy14⟩) (by assumption) ?rest14
  case hy14 => (intro wq hSw; (skip); go_simp; skip; try with_reducible rfl)
  try simp only [Act.put, List.setIfInBounds_toArray, List.set_cons_zero, List.set_cons_succ]
  refine wpAnyH_ready (rs := [15]) (by kernel_rfl) (by simp) (AllReadyH.cons rfl (fun K hK => ?_) AllReadyH.nil)
  have u20 : w1.drew.cell? ⟨P, 20, none⟩ = some (triV Q.ptok) := (cell_of_row w1.drew P 20 _ _ (0, 0) h1).trans rfl
  have f20 : w1.drew.frozen? ⟨P, 20, none⟩ = false := by have := cell_free 20 h1; exact this
  go_simp
  refine hK.out _ _ trivial (fun hHeld => ?_)
  clear hK K
  refine wpAnyH_done (by kernel_rfl) ?_ _
  exact HK.out _ _ ⟨rfl, rfl, rfl, rfl⟩ (grown_trans g1 (grown_drew (grownBy_set w1 P 20 _))) (cell_at 20 (.slice (some ⟨b, o + q, none⟩) (n - q) (c - q)) h1 rfl)

set_option maxRecDepth 100000 in
theorem lit69 {a : Act} {P b o n c : Nat} (hs : a.tmps.size = 69) (hd : a.defers = []) (h0 : a.tmps[0]? = some (.pointer (some ⟨P, 0, none⟩))) (h1 : a.tmps[1]? = some (.slice (some ⟨b, o, none⟩) n c)) : ∃ f : Nat → Value, a = ⟨#[.pointer (some ⟨P, 0, none⟩), .slice (some ⟨b, o, none⟩) n c, f 2, f 3, f 4, f 5, f 6, f 7, f 8, f 9, f 10, f 11, f 12, f 13, f 14, f 15, f 16, f 17, f 18, f 19, f 20, f 21, f 22, f 23, f 24, f 25, f 26, f 27, f 28, f 29, f 30, f 31, f 32, f 33, f 34, f 35, f 36, f 37, f 38, f 39, f 40, f 41, f 42, f 43, f 44, f 45, f 46, f 47, f 48, f 49, f 50, f 51, f 52, f 53, f 54, f 55, f 56, f 57, f 58, f 59, f 60, f 61, f 62, f 63, f 64, f 65, f 66, f 67, f 68], []⟩ := by
  obtain ⟨f, hf, e⟩ := lit_ofN 69 a hs hd
  have e0 := (hf 0 (by decide)).symm.trans h0
  have e1 := (hf 1 (by decide)).symm.trans h1
  simp only [Option.some.injEq] at e0 e1
  refine ⟨f, ?_⟩
  have hl : ((List.range 69).map f).toArray = #[f 0, f 1, f 2, f 3, f 4, f 5, f 6, f 7, f 8, f 9, f 10, f 11, f 12, f 13, f 14, f 15, f 16, f 17, f 18, f 19, f 20, f 21, f 22, f 23, f 24, f 25, f 26, f 27, f 28, f 29, f 30, f 31, f 32, f 33, f 34, f 35, f 36, f 37, f 38, f 39, f 40, f 41, f 42, f 43, f 44, f 45, f 46, f 47, f 48, f 49, f 50, f 51, f 52, f 53, f 54, f 55, f 56, f 57, f 58, f 59, f 60, f 61, f 62, f 63, f 64, f 65, f 66, f 67, f 68] := by kernel_rfl
  rw [e, hl, e0, e1]
theorem wp_lit69 {Pr : Program} {code : Code} {Qq : Exit → Act → World → Prop} {a : Act} {w : World} {P b o n c : Nat} (hs : a.tmps.size = 69) (hd : a.defers = []) (h0 : a.tmps[0]? = some (.pointer (some ⟨P, 0, none⟩))) (h1 : a.tmps[1]? = some (.slice (some ⟨b, o, none⟩) n c)) (h : ∀ f : Nat → Value, Code.wp Pr code Qq ⟨#[.pointer (some ⟨P, 0, none⟩), .slice (some ⟨b, o, none⟩) n c, f 2, f 3, f 4, f 5, f 6, f 7, f 8, f 9, f 10, f 11, f 12, f 13, f 14, f 15, f 16, f 17, f 18, f 19, f 20, f 21, f 22, f 23, f 24, f 25, f 26, f 27, f 28, f 29, f 30, f 31, f 32, f 33, f 34, f 35, f 36, f 37, f 38, f 39, f 40, f 41, f 42, f 43, f 44, f 45, f 46, f 47, f 48, f 49, f 50, f 51, f 52, f 53, f 54, f 55, f 56, f 57, f 58, f 59, f 60, f 61, f 62, f 63, f 64, f 65, f 66, f 67, f 68], []⟩ w) : Code.wp Pr code Qq a w := by
  obtain ⟨f, rfl⟩ := lit69 hs hd h0 h1
  exact h f
set_option maxRecDepth 100000 in
theorem lit69k {a : Act} {P b o n c k : Nat} (hs : a.tmps.size = 69) (hd : a.defers = []) (h0 : a.tmps[0]? = some (.pointer (some ⟨P, 0, none⟩))) (h1 : a.tmps[1]? = some (.slice (some ⟨b, o, none⟩) n c)) (h5 : a.tmps[5]? = some (.int .i64 (k : Nat))) : ∃ f : Nat → Value, a = ⟨#[.pointer (some ⟨P, 0, none⟩), .slice (some ⟨b, o, none⟩) n c, f 2, f 3, f 4, .int .i64 (k : Nat), f 6, f 7, f 8, f 9, f 10, f 11, f 12, f 13, f 14, f 15, f 16, f 17, f 18, f 19, f 20, f 21, f 22, f 23, f 24, f 25, f 26, f 27, f 28, f 29, f 30, f 31, f 32, f 33, f 34, f 35, f 36, f 37, f 38, f 39, f 40, f 41, f 42, f 43, f 44, f 45, f 46, f 47, f 48, f 49, f 50, f 51, f 52, f 53, f 54, f 55, f 56, f 57, f 58, f 59, f 60, f 61, f 62, f 63, f 64, f 65, f 66, f 67, f 68], []⟩ := by
  obtain ⟨f, hf, e⟩ := lit_ofN 69 a hs hd
  have e0 := (hf 0 (by decide)).symm.trans h0
  have e1 := (hf 1 (by decide)).symm.trans h1
  have e5 := (hf 5 (by decide)).symm.trans h5
  simp only [Option.some.injEq] at e0 e1 e5
  refine ⟨f, ?_⟩
  have hl : ((List.range 69).map f).toArray = #[f 0, f 1, f 2, f 3, f 4, f 5, f 6, f 7, f 8, f 9, f 10, f 11, f 12, f 13, f 14, f 15, f 16, f 17, f 18, f 19, f 20, f 21, f 22, f 23, f 24, f 25, f 26, f 27, f 28, f 29, f 30, f 31, f 32, f 33, f 34, f 35, f 36, f 37, f 38, f 39, f 40, f 41, f 42, f 43, f 44, f 45, f 46, f 47, f 48, f 49, f 50, f 51, f 52, f 53, f 54, f 55, f 56, f 57, f 58, f 59, f 60, f 61, f 62, f 63, f 64, f 65, f 66, f 67, f 68] := by kernel_rfl
  rw [e, hl, e0, e1, e5]
theorem wp_lit69k {Pr : Program} {code : Code} {Qq : Exit → Act → World → Prop} {a : Act} {w : World} {P b o n c k : Nat} (hs : a.tmps.size = 69) (hd : a.defers = []) (h0 : a.tmps[0]? = some (.pointer (some ⟨P, 0, none⟩))) (h1 : a.tmps[1]? = some (.slice (some ⟨b, o, none⟩) n c)) (h5 : a.tmps[5]? = some (.int .i64 (k : Nat))) (h : ∀ f : Nat → Value, Code.wp Pr code Qq ⟨#[.pointer (some ⟨P, 0, none⟩), .slice (some ⟨b, o, none⟩) n c, f 2, f 3, f 4, .int .i64 (k : Nat), f 6, f 7, f 8, f 9, f 10, f 11, f 12, f 13, f 14, f 15, f 16, f 17, f 18, f 19, f 20, f 21, f 22, f 23, f 24, f 25, f 26, f 27, f 28, f 29, f 30, f 31, f 32, f 33, f 34, f 35, f 36, f 37, f 38, f 39, f 40, f 41, f 42, f 43, f 44, f 45, f 46, f 47, f 48, f 49, f 50, f 51, f 52, f 53, f 54, f 55, f 56, f 57, f 58, f 59, f 60, f 61, f 62, f 63, f 64, f 65, f 66, f 67, f 68], []⟩ w) : Code.wp Pr code Qq a w := by
  obtain ⟨f, rfl⟩ := lit69k hs hd h0 h1 h5
  exact h f

set_option maxRecDepth 1000000 in
set_option maxHeartbeats 8000000 in
/-- A preferred address is read. -/
theorem pf_wp (P : Nat) (A : Option Addr) (n c : Nat) (v : List Int) (Q : QP) (S : SP) (w : World) (hp : w.heap[P]? = some (.cells Q.cells 24 (0, 0))) (hq : Qp w Q S) (hv : Rt w (A, n, c) v) :
    Calls Tryd.prog 18 #[.pointer (some ⟨P, 0, none⟩), .slice A n c] w fun e w' => ∃ (y : Bool) (Q' : QP), e = .returned (.bool y) ∧ Hid (w.grownBy w' (some P) ∧ w'.heap[P]? = some (.cells Q'.cells 24 (0, 0)) ∧ ((y = true ∧ pok v ∧ ∀ W, Qp W Q S → Rt W (A, n, c) v → Qp W Q' (pref S v)) ∨ (y = false ∧ ¬ pok v))) := by
  have hn : v.length = n := hv.2.1
  have hnc : n ≤ c := hv.2.2.1
  have hc2 : c ≤ 9223372036854775807 := hv.2.2.2.1
  have HP := Lib.hid hp
  have HQ := Lib.hid hq
  have HV := Lib.hid hv
  have hgr : Hid (w.grownBy w (some P)) := ⟨rfl, rfl, rfl, Nat.le_refl _, fun _ _ _ => rfl⟩
  by_cases hb : n < 25
  · have hbi : (n : Int) < 25 := by omega
    clear hp hq hv
    go_enter Tryd.func18, Tryd.ntmps18
    go_wp2_with fail
    go_ret
    exact ⟨false, Q, rfl, hgr.out, HP.out, .inr ⟨rfl, fun h => by have := h.1; omega⟩⟩
  · have hbi : ¬ (n : Int) < 25 := by omega
    obtain ⟨b, o, rfl, hc⟩ := hv.1.2 (by show 0 < v.length; omega)
    have hbP : b ≠ P := by
      rintro rfl
      have := hc 0 (by show 0 < v.length; omega)
      rw [cell_of_row _ _ _ _ _ (0, 0) hp] at this
      exact Q.no_u8 _ _ this
    have hbs : Bs v := hv.1.1
    have c4 := hc 4 (by show 4 < v.length; omega)
    have c5 := hc 5 (by show 5 < v.length; omega)
    have c22 := hc 22 (by show 22 < v.length; omega)
    have c23 := hc 23 (by show 23 < v.length; omega)
    have c24 := hc 24 (by show 24 < v.length; omega)
    obtain ⟨k, hk⟩ : ∃ k : Nat, (v.getD 24 0).toNat = k := ⟨_, rfl⟩
    have hki : v.getD 24 0 = (k : Nat) := by have := hbs.getD 24; omega
    have hk255 : (k : Int) ≤ 255 := by have := hbs.getD 24; omega
    rw [hki] at c24
    have C22 := Lib.hid c22
    have C23 := Lib.hid c23
    have C24 := Lib.hid c24
    have HC4 := Lib.hid c4
    have HC5 := Lib.hid c5
    clear hp hq hv hc c22 c23 c24 c4 c5
    go_enter Tryd.func18, Tryd.ntmps18
    go_upto_region 3 with fail
    refine wp_lit69 (P := P) (b := b) (o := o) (n := n) (c := c) rfl rfl rfl rfl (fun f => ?_)
    refine wp_then (E := fun _ _ => False) (K := fun a' w' => Pf a' P (.slice (some ⟨b, o, none⟩) n c) ∧ w.grownBy w' (some P) ∧ w'.heap[P]? = some (.cells ({ Q with v4 := (some ⟨b, o, none⟩, 4, c), p4 := be16 v 4 } : QP).cells 24 (0, 0))) (pf3_wp HP.out (by omega) hnc hc2 (hbs.getD 4) (hbs.getD 5) rfl hbP HC4.out HC5.out f (fun a' w' k1 k2 k3 => ⟨k1, k2, k3⟩)) (fun _ _ h => h.elim) ?_
    rintro a1 w1 ⟨hf1, hg1, hp1⟩
    have HG1 := Lib.hid hg1
    have HP1 := Lib.hid hp1
    clear hg1 hp1
    simp only [Exit.then]
    go_upto_region 4 with fail
    obtain ⟨f1, rfl⟩ := lit69 (P := P) (b := b) (o := o) (n := n) (c := c) hf1.sz hf1.df hf1.t0 hf1.t1
    clear hf1
    refine wp_then (E := fun _ _ => False) (K := fun a' w' => Pf a' P (.slice (some ⟨b, o, none⟩) n c) ∧ w1.grownBy w' (some P) ∧ w'.heap[P]? = some (.cells ({ Q with v4 := (some ⟨b, o, none⟩, 4, c), p4 := be16 v 4, v6 := (some ⟨b, o + 6, none⟩, 16, c - 6), p6 := be16 v 22 } : QP).cells 24 (0, 0))) (pf4_wp HP1.out (by omega) hnc hc2 (hbs.getD 22) (hbs.getD 23) rfl hbP (cell_grown HG1.out C22.out hbP) (cell_grown HG1.out C23.out hbP) f1 (fun a' w' k1 k2 k3 => ⟨k1, k2, k3⟩)) (fun _ _ h => h.elim) ?_
    rintro a2 w2 ⟨hf2, hg2, hp2⟩
    have HG2 := Lib.hid (grown_trans HG1.out hg2)
    have HP2 := Lib.hid hp2
    clear hg2 hp2
    have c24 := cell_grown HG2.out C24.out hbP
    have hn24 : (24 : Int) < (n : Int) := by omega
    have hwk : IntKind.i64.wrap (k : Int) = (k : Int) := IntWalk.i64_in _ (by omega)
    have hw1 : IntKind.i64.wrap (25 + (k : Int)) = 25 + (k : Int) := IntWalk.i64_in _ (by omega)
    have hw2 : IntKind.i64.wrap (25 + (k : Int) + 16) = 25 + (k : Int) + 16 := IntWalk.i64_in _ (by omega)
    simp only [Exit.then]
    obtain ⟨f2, rfl⟩ := lit69 (P := P) (b := b) (o := o) (n := n) (c := c) hf2.sz hf2.df hf2.t0 hf2.t1
    clear hf2
    by_cases hs : n = 25 + k + 16
    · have hsi : ((n : Int) == 25 + (k : Int) + 16) = true := by rw [beq_iff_eq]; omega
      obtain ⟨q, hkq⟩ : ∃ q, 25 + k = q := ⟨_, rfl⟩
      have HS := Lib.hid hs
      have HKQ := Lib.hid hkq
      have hqn : q < n := by omega
      clear hs hkq
      go_upto_region 8 with fail
      refine wp_lit69k (P := P) (b := b) (o := o) (n := n) (c := c) (k := k) rfl rfl rfl rfl rfl (fun f3 => ?_)
      refine wp_then (E := fun _ _ => False) (K := fun a' w' => Pf a' P (.slice (some ⟨b, o, none⟩) n c) ∧ w2.grownBy w' (some P) ∧ w'.heap[P]? = some (.cells ({ Q with v4 := (some ⟨b, o, none⟩, 4, c), p4 := be16 v 4, v6 := (some ⟨b, o + 6, none⟩, 16, c - 6), p6 := be16 v 22, pid := (some ⟨b, o + 25, none⟩, q - 25, c - 25), ptok := (some ⟨b, o + q, none⟩, n - q, c - q) } : QP).cells 24 (0, 0))) (pf8_wp HP2.out HKQ.out hqn hnc hc2 f3 (fun a' w' k1 k2 k3 => ⟨k1, k2, k3⟩)) (fun _ _ h => h.elim) ?_
      rintro a3 w3 ⟨hf3, hg3, hp3⟩
      have HG3 := Lib.hid (grown_trans HG2.out hg3)
      have HP3 := Lib.hid hp3
      clear hg3 hp3
      simp only [Exit.then]
      obtain ⟨f3, rfl⟩ := lit69 (P := P) (b := b) (o := o) (n := n) (c := c) hf3.sz hf3.df hf3.t0 hf3.t1
      clear hf3
      go_wp2_with fail
      go_ret
      have hs := HS.out
      have hkq := HKQ.out
      refine .inr ⟨rfl, ({ Q with v4 := (some ⟨b, o, none⟩, 4, c), p4 := be16 v 4, v6 := (some ⟨b, o + 6, none⟩, 16, c - 6), p6 := be16 v 22, pid := (some ⟨b, o + 25, none⟩, q - 25, c - 25), ptok := (some ⟨b, o + q, none⟩, n - q, c - q) } : QP), HG3.out, HP3.out, ⟨by omega, by rw [hki]; omega⟩, ?_⟩
      intro W hQW hVW
      have hR := hVW.1
      have hx := hc2
      refine { hQW with v4 := ?_, v6 := ?_, p4 := rfl, p6 := rfl, pid := ?_, ptok := ?_ }
      · exact ⟨hR.take 4, by show (v.take 4).length = 4; rw [List.length_take]; omega, by simp only; omega, hc2, fun h => by cases h⟩
      · have h6 := hR.cut_at (k := 6) (cap := c) (by omega)
        rw [if_neg (by omega)] at h6
        exact ⟨h6.take 16, by show ((v.drop 6).take 16).length = 16; rw [List.length_take, List.length_drop]; omega, by simp only; omega, by simp only; omega, fun h => by cases h⟩
      · have h6 := hR.cut_at (k := 25) (cap := c) (by omega)
        rw [if_neg (by omega)] at h6
        show Rt _ _ ((v.drop 25).take (v.getD 24 0).toNat)
        rw [hk]
        exact ⟨h6.take k, by simp only [List.length_take, List.length_drop]; omega, by simp only; omega, by simp only; omega, fun h => by cases h⟩
      · have h6 := hR.cut_at (k := q) (cap := c) (by omega)
        rw [if_neg (by omega)] at h6
        show Rt _ _ (v.drop (25 + (v.getD 24 0).toNat))
        rw [hk, hkq]
        exact ⟨h6, by simp only [List.length_drop]; omega, by simp only; omega, by simp only; omega, fun h => by cases h⟩
    · have hsi : ((n : Int) == 25 + (k : Int) + 16) = false := by rw [beq_eq_false_iff_ne]; omega
      go_wp2_with fail
      go_ret
      exact .inl ⟨rfl, ({ Q with v4 := (some ⟨b, o, none⟩, 4, c), p4 := be16 v 4, v6 := (some ⟨b, o + 6, none⟩, 16, c - 6), p6 := be16 v 22 } : QP), HG2.out, HP2.out, fun h => by have := h.2; rw [hki] at this; omega⟩
end Go.Proofs.YtdjdcpcomhjnjaaDoor


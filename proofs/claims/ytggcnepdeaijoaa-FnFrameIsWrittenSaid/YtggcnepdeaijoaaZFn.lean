/- The walk of ZZFrame, frames of numbers alone. Conditions: the slice reads as bytes; its first byte is told. -/
import Derived.Test.YtggcnepdeaijoaaZFs
import Derived.Test.YtggcnepdeaijoaaConsN
import Derived.Deep.RegionHeld3
import Derived.BigQuiet
namespace Go.Proofs.Ytggcnepdeaijoaa
open Go.RowKit
set_option linter.unusedVariables false
set_option linter.unusedSimpArgs false

set_option maxRecDepth 100000 in
set_option maxHeartbeats 4000000 in
theorem zf4 (b o n c : Nat) (l : List Int) (w : World) (hr : Rd w (some ⟨b, o, none⟩) l) (hn : Hid (l.length = n)) (hnc : n ≤ c) (hc2 : c ≤ 9223372036854775807) (h1 : 1 ≤ n) (hn2 : n ≤ 4294967295) (h0 : w.cell? ⟨b, o, none⟩ = some (.int .u8 4)) :
    Calls Try.prog 12 #[.slice (some ⟨b, o, none⟩) n c] w fun e w' => ZfEnd w (P3 l) e w' := by
  obtain ⟨W0, hW0⟩ : ∃ W0, Hid (((w.alloc (.cells #[.slice none 0 0] 23 (0, 0))).alloc (.cells #[.slice none 0 0] 24 (0, 0))) = W0) := ⟨_, Lib.hid rfl⟩
  have HZ0 : Hid (Zs w W0 none 0 0 [] none 0 0 []) := by show Zs _ _ _ _ _ _ _ _ _ _; rw [← hW0.out]; exact Zs.new w
  have HR0 : Hid (Rd W0 (some ⟨b, o, none⟩) l) := hr.below HZ0.out.bel
  have hbl := World.block_lt_of_cell? _ _ h0
  have hc0 : W0.cell? ⟨b, o, none⟩ = some (.int .u8 4) := (HZ0.out.bel.cell (p := ⟨b, o, none⟩) hbl).trans h0
  have hc0' : ((w.alloc (.cells #[.slice none 0 0] 23 (0, 0))).alloc (.cells #[.slice none 0 0] 24 (0, 0))).cell? ⟨b, o, none⟩ = some (.int .u8 4) := by rw [hW0.out]; exact hc0
  have hn0 : ((n : Int) == 0) = false := by simp; omega
  have hn1 : (0 : Int) < (n : Int) := by omega
  clear hr h0 hbl
  go_enter Try.func12, Try.ntmps12
  go_wp2_with fail
  rw [hW0.out]
  refine (crs b o n c l W0 HR0.out hn hnc hc2 h1).mono ?_
  clear hc0'
  rintro e w1 ⟨he, z1, rfl⟩
  rcases he with ⟨hP, rfl⟩ | ⟨v1, v2, v3, k, hP, rfl, ⟨p1, q1⟩, ⟨p2, q2⟩, ⟨p3, q3⟩⟩
  all_goals have HP := Lib.hid hP; clear hP
  · have HZ1 := Lib.hid (HZ0.out.drewN z1)
    have hv1 := HZ1.out.b0
    have HV1 := Lib.hid ((heap_alloc_old (W0.drewN z1) (.cells (flat EI [0, 0, 0]).toArray 2 (0, 0)) (cell_in hv1)).trans hv1)
    clear hv1
    go_wp2_with fail
    refine (zfv w.heap.size _ 3 3 (.slice none 0 0) _ (by exact HV1.out)).mono ?_
    rintro e w2 ⟨rfl, hw2⟩
    have HZ2 : Hid (Zs w w2 (some ⟨W0.heap.size, 0, none⟩) 3 3 [0, 0, 0] none 0 0 []) := by show Zs _ _ _ _ _ _ _ _ _ _; rw [hw2]; exact HZ1.out.setv [0, 0, 0] 3 rfl (by omega)
    clear hw2 HV1
    obtain ⟨⟨c0, c1⟩, f0, f1⟩ := HZ2.out.cells
    go_wp2_with fail
    obtain ⟨w9, h9, e0, e1, HB9⟩ := HZ2.out.clr
    rw [h9.out]
    clear c0 c1 f0 f1
    refine bodyPost_ret (v := .tuple #[.slice none 0 0, .slice none 0 0, .int .i64 (-1)]) (by simp [results, Try.results12, go_sem, e0, e1]) rfl ?_
    exact ⟨HB9.out, .inl ⟨HP.out, rfl⟩⟩
  · have HZ1 := Lib.hid (HZ0.out.drewN z1)
    have hv1 := HZ1.out.b0
    have HV1 := Lib.hid ((heap_alloc_old (W0.drewN z1) (.cells (flat EI [v1, v2, v3]).toArray 2 (0, 0)) (cell_in hv1)).trans hv1)
    clear hv1
    go_wp2_with fail
    refine (zfv w.heap.size _ 3 3 (.slice none 0 0) _ (by exact HV1.out)).mono ?_
    rintro e w2 ⟨rfl, hw2⟩
    have HZ2 : Hid (Zs w w2 (some ⟨W0.heap.size, 0, none⟩) 3 3 [v1, v2, v3] none 0 0 []) := by show Zs _ _ _ _ _ _ _ _ _ _; rw [hw2]; exact HZ1.out.setv [v1, v2, v3] 3 rfl (by omega)
    clear hw2 HV1
    obtain ⟨⟨c0, c1⟩, f0, f1⟩ := HZ2.out.cells
    go_wp2_with fail
    have HZ9 := Lib.hid (HZ2.out.drewN 1)
    have hs0 := setCell_self HZ2.out.b0
    have hs1 := setCell_self HZ2.out.b1
    go_region_held3 (fun w' => (w'.cell? ⟨w.heap.size, 0, none⟩ = some (.slice (some ⟨W0.heap.size, 0, none⟩) 3 3) ∧ w'.cell? ⟨w.heap.size + 1, 0, none⟩ = some (.slice none 0 0)) ∧ w'.frozen? ⟨w.heap.size, 0, none⟩ = false ∧ w'.frozen? ⟨w.heap.size + 1, 0, none⟩ = false) (first | exact ⟨⟨c0, c1⟩, f0, f1⟩ | (simp only [hs0, hs1]; exact ⟨⟨c0, c1⟩, f0, f1⟩) | go_keep) (fail)
    go_wp2_with fail
    clear f0 f1 hs0 hs1
    refine bodyPost_ret (v := .tuple #[.slice (some ⟨W0.heap.size, 0, none⟩) 3 3, .slice none 0 0, .int .i64 ((k : Nat) : Int)]) (by simp [results, Try.results12, go_sem, c0, c1]) rfl ?_
    exact ⟨HZ9.out.bel, .inr ⟨[v1, v2, v3], [], k, _, 3, _, _, 0, _, HP.out, rfl, rfl, by omega, HZ9.out.rv, rfl, by omega, HZ9.out.rd⟩⟩

set_option maxRecDepth 100000 in
set_option maxHeartbeats 4000000 in
theorem zf5 (b o n c : Nat) (l : List Int) (w : World) (hr : Rd w (some ⟨b, o, none⟩) l) (hn : Hid (l.length = n)) (hnc : n ≤ c) (hc2 : c ≤ 9223372036854775807) (h1 : 1 ≤ n) (hn2 : n ≤ 4294967295) (h0 : w.cell? ⟨b, o, none⟩ = some (.int .u8 5)) :
    Calls Try.prog 12 #[.slice (some ⟨b, o, none⟩) n c] w fun e w' => ZfEnd w (P2 l) e w' := by
  obtain ⟨W0, hW0⟩ : ∃ W0, Hid (((w.alloc (.cells #[.slice none 0 0] 23 (0, 0))).alloc (.cells #[.slice none 0 0] 24 (0, 0))) = W0) := ⟨_, Lib.hid rfl⟩
  have HZ0 : Hid (Zs w W0 none 0 0 [] none 0 0 []) := by show Zs _ _ _ _ _ _ _ _ _ _; rw [← hW0.out]; exact Zs.new w
  have HR0 : Hid (Rd W0 (some ⟨b, o, none⟩) l) := hr.below HZ0.out.bel
  have hbl := World.block_lt_of_cell? _ _ h0
  have hc0 : W0.cell? ⟨b, o, none⟩ = some (.int .u8 5) := (HZ0.out.bel.cell (p := ⟨b, o, none⟩) hbl).trans h0
  have hc0' : ((w.alloc (.cells #[.slice none 0 0] 23 (0, 0))).alloc (.cells #[.slice none 0 0] 24 (0, 0))).cell? ⟨b, o, none⟩ = some (.int .u8 5) := by rw [hW0.out]; exact hc0
  have hn0 : ((n : Int) == 0) = false := by simp; omega
  have hn1 : (0 : Int) < (n : Int) := by omega
  clear hr h0 hbl
  go_enter Try.func12, Try.ntmps12
  go_wp2_with fail
  rw [hW0.out]
  refine (css b o n c l W0 HR0.out hn hnc hc2 h1).mono ?_
  clear hc0'
  rintro e w1 ⟨he, z1, rfl⟩
  rcases he with ⟨hP, rfl⟩ | ⟨v1, v2, k, hP, rfl, ⟨p1, q1⟩, ⟨p2, q2⟩⟩
  all_goals have HP := Lib.hid hP; clear hP
  · have HZ1 := Lib.hid (HZ0.out.drewN z1)
    have hv1 := HZ1.out.b0
    have HV1 := Lib.hid ((heap_alloc_old (W0.drewN z1) (.cells (flat EI [0, 0]).toArray 2 (0, 0)) (cell_in hv1)).trans hv1)
    clear hv1
    go_wp2_with fail
    refine (zfv w.heap.size _ 2 2 (.slice none 0 0) _ (by exact HV1.out)).mono ?_
    rintro e w2 ⟨rfl, hw2⟩
    have HZ2 : Hid (Zs w w2 (some ⟨W0.heap.size, 0, none⟩) 2 2 [0, 0] none 0 0 []) := by show Zs _ _ _ _ _ _ _ _ _ _; rw [hw2]; exact HZ1.out.setv [0, 0] 2 rfl (by omega)
    clear hw2 HV1
    obtain ⟨⟨c0, c1⟩, f0, f1⟩ := HZ2.out.cells
    go_wp2_with fail
    obtain ⟨w9, h9, e0, e1, HB9⟩ := HZ2.out.clr
    rw [h9.out]
    clear c0 c1 f0 f1
    refine bodyPost_ret (v := .tuple #[.slice none 0 0, .slice none 0 0, .int .i64 (-1)]) (by simp [results, Try.results12, go_sem, e0, e1]) rfl ?_
    exact ⟨HB9.out, .inl ⟨HP.out, rfl⟩⟩
  · have HZ1 := Lib.hid (HZ0.out.drewN z1)
    have hv1 := HZ1.out.b0
    have HV1 := Lib.hid ((heap_alloc_old (W0.drewN z1) (.cells (flat EI [v1, v2]).toArray 2 (0, 0)) (cell_in hv1)).trans hv1)
    clear hv1
    go_wp2_with fail
    refine (zfv w.heap.size _ 2 2 (.slice none 0 0) _ (by exact HV1.out)).mono ?_
    rintro e w2 ⟨rfl, hw2⟩
    have HZ2 : Hid (Zs w w2 (some ⟨W0.heap.size, 0, none⟩) 2 2 [v1, v2] none 0 0 []) := by show Zs _ _ _ _ _ _ _ _ _ _; rw [hw2]; exact HZ1.out.setv [v1, v2] 2 rfl (by omega)
    clear hw2 HV1
    obtain ⟨⟨c0, c1⟩, f0, f1⟩ := HZ2.out.cells
    go_wp2_with fail
    have HZ9 := Lib.hid (HZ2.out.drewN 1)
    have hs0 := setCell_self HZ2.out.b0
    have hs1 := setCell_self HZ2.out.b1
    go_region_held3 (fun w' => (w'.cell? ⟨w.heap.size, 0, none⟩ = some (.slice (some ⟨W0.heap.size, 0, none⟩) 2 2) ∧ w'.cell? ⟨w.heap.size + 1, 0, none⟩ = some (.slice none 0 0)) ∧ w'.frozen? ⟨w.heap.size, 0, none⟩ = false ∧ w'.frozen? ⟨w.heap.size + 1, 0, none⟩ = false) (first | exact ⟨⟨c0, c1⟩, f0, f1⟩ | (simp only [hs0, hs1]; exact ⟨⟨c0, c1⟩, f0, f1⟩) | go_keep) (fail)
    go_wp2_with fail
    clear f0 f1 hs0 hs1
    refine bodyPost_ret (v := .tuple #[.slice (some ⟨W0.heap.size, 0, none⟩) 2 2, .slice none 0 0, .int .i64 ((k : Nat) : Int)]) (by simp [results, Try.results12, go_sem, c0, c1]) rfl ?_
    exact ⟨HZ9.out.bel, .inr ⟨[v1, v2], [], k, _, 2, _, _, 0, _, HP.out, rfl, rfl, by omega, HZ9.out.rv, rfl, by omega, HZ9.out.rd⟩⟩

set_option maxRecDepth 100000 in
set_option maxHeartbeats 4000000 in
theorem zf17 (b o n c : Nat) (l : List Int) (w : World) (hr : Rd w (some ⟨b, o, none⟩) l) (hn : Hid (l.length = n)) (hnc : n ≤ c) (hc2 : c ≤ 9223372036854775807) (h1 : 1 ≤ n) (hn2 : n ≤ 4294967295) (h0 : w.cell? ⟨b, o, none⟩ = some (.int .u8 17)) :
    Calls Try.prog 12 #[.slice (some ⟨b, o, none⟩) n c] w fun e w' => ZfEnd w (P2 l) e w' := by
  obtain ⟨W0, hW0⟩ : ∃ W0, Hid (((w.alloc (.cells #[.slice none 0 0] 23 (0, 0))).alloc (.cells #[.slice none 0 0] 24 (0, 0))) = W0) := ⟨_, Lib.hid rfl⟩
  have HZ0 : Hid (Zs w W0 none 0 0 [] none 0 0 []) := by show Zs _ _ _ _ _ _ _ _ _ _; rw [← hW0.out]; exact Zs.new w
  have HR0 : Hid (Rd W0 (some ⟨b, o, none⟩) l) := hr.below HZ0.out.bel
  have hbl := World.block_lt_of_cell? _ _ h0
  have hc0 : W0.cell? ⟨b, o, none⟩ = some (.int .u8 17) := (HZ0.out.bel.cell (p := ⟨b, o, none⟩) hbl).trans h0
  have hc0' : ((w.alloc (.cells #[.slice none 0 0] 23 (0, 0))).alloc (.cells #[.slice none 0 0] 24 (0, 0))).cell? ⟨b, o, none⟩ = some (.int .u8 17) := by rw [hW0.out]; exact hc0
  have hn0 : ((n : Int) == 0) = false := by simp; omega
  have hn1 : (0 : Int) < (n : Int) := by omega
  clear hr h0 hbl
  go_enter Try.func12, Try.ntmps12
  go_wp2_with fail
  rw [hW0.out]
  refine (cmsd b o n c l W0 HR0.out hn hnc hc2 h1).mono ?_
  clear hc0'
  rintro e w1 ⟨he, z1, rfl⟩
  rcases he with ⟨hP, rfl⟩ | ⟨v1, v2, k, hP, rfl, ⟨p1, q1⟩, ⟨p2, q2⟩⟩
  all_goals have HP := Lib.hid hP; clear hP
  · have HZ1 := Lib.hid (HZ0.out.drewN z1)
    have hv1 := HZ1.out.b0
    have HV1 := Lib.hid ((heap_alloc_old (W0.drewN z1) (.cells (flat EI [0, 0]).toArray 2 (0, 0)) (cell_in hv1)).trans hv1)
    clear hv1
    go_wp2_with fail
    refine (zfv w.heap.size _ 2 2 (.slice none 0 0) _ (by exact HV1.out)).mono ?_
    rintro e w2 ⟨rfl, hw2⟩
    have HZ2 : Hid (Zs w w2 (some ⟨W0.heap.size, 0, none⟩) 2 2 [0, 0] none 0 0 []) := by show Zs _ _ _ _ _ _ _ _ _ _; rw [hw2]; exact HZ1.out.setv [0, 0] 2 rfl (by omega)
    clear hw2 HV1
    obtain ⟨⟨c0, c1⟩, f0, f1⟩ := HZ2.out.cells
    go_wp2_with fail
    obtain ⟨w9, h9, e0, e1, HB9⟩ := HZ2.out.clr
    rw [h9.out]
    clear c0 c1 f0 f1
    refine bodyPost_ret (v := .tuple #[.slice none 0 0, .slice none 0 0, .int .i64 (-1)]) (by simp [results, Try.results12, go_sem, e0, e1]) rfl ?_
    exact ⟨HB9.out, .inl ⟨HP.out, rfl⟩⟩
  · have HZ1 := Lib.hid (HZ0.out.drewN z1)
    have hv1 := HZ1.out.b0
    have HV1 := Lib.hid ((heap_alloc_old (W0.drewN z1) (.cells (flat EI [v1, v2]).toArray 2 (0, 0)) (cell_in hv1)).trans hv1)
    clear hv1
    go_wp2_with fail
    refine (zfv w.heap.size _ 2 2 (.slice none 0 0) _ (by exact HV1.out)).mono ?_
    rintro e w2 ⟨rfl, hw2⟩
    have HZ2 : Hid (Zs w w2 (some ⟨W0.heap.size, 0, none⟩) 2 2 [v1, v2] none 0 0 []) := by show Zs _ _ _ _ _ _ _ _ _ _; rw [hw2]; exact HZ1.out.setv [v1, v2] 2 rfl (by omega)
    clear hw2 HV1
    obtain ⟨⟨c0, c1⟩, f0, f1⟩ := HZ2.out.cells
    go_wp2_with fail
    have HZ9 := Lib.hid (HZ2.out.drewN 1)
    have hs0 := setCell_self HZ2.out.b0
    have hs1 := setCell_self HZ2.out.b1
    go_region_held3 (fun w' => (w'.cell? ⟨w.heap.size, 0, none⟩ = some (.slice (some ⟨W0.heap.size, 0, none⟩) 2 2) ∧ w'.cell? ⟨w.heap.size + 1, 0, none⟩ = some (.slice none 0 0)) ∧ w'.frozen? ⟨w.heap.size, 0, none⟩ = false ∧ w'.frozen? ⟨w.heap.size + 1, 0, none⟩ = false) (first | exact ⟨⟨c0, c1⟩, f0, f1⟩ | (simp only [hs0, hs1]; exact ⟨⟨c0, c1⟩, f0, f1⟩) | go_keep) (fail)
    go_wp2_with fail
    clear f0 f1 hs0 hs1
    refine bodyPost_ret (v := .tuple #[.slice (some ⟨W0.heap.size, 0, none⟩) 2 2, .slice none 0 0, .int .i64 ((k : Nat) : Int)]) (by simp [results, Try.results12, go_sem, c0, c1]) rfl ?_
    exact ⟨HZ9.out.bel, .inr ⟨[v1, v2], [], k, _, 2, _, _, 0, _, HP.out, rfl, rfl, by omega, HZ9.out.rv, rfl, by omega, HZ9.out.rd⟩⟩

set_option maxRecDepth 100000 in
set_option maxHeartbeats 4000000 in
theorem zf21 (b o n c : Nat) (l : List Int) (w : World) (hr : Rd w (some ⟨b, o, none⟩) l) (hn : Hid (l.length = n)) (hnc : n ≤ c) (hc2 : c ≤ 9223372036854775807) (h1 : 1 ≤ n) (hn2 : n ≤ 4294967295) (h0 : w.cell? ⟨b, o, none⟩ = some (.int .u8 21)) :
    Calls Try.prog 12 #[.slice (some ⟨b, o, none⟩) n c] w fun e w' => ZfEnd w (P2 l) e w' := by
  obtain ⟨W0, hW0⟩ : ∃ W0, Hid (((w.alloc (.cells #[.slice none 0 0] 23 (0, 0))).alloc (.cells #[.slice none 0 0] 24 (0, 0))) = W0) := ⟨_, Lib.hid rfl⟩
  have HZ0 : Hid (Zs w W0 none 0 0 [] none 0 0 []) := by show Zs _ _ _ _ _ _ _ _ _ _; rw [← hW0.out]; exact Zs.new w
  have HR0 : Hid (Rd W0 (some ⟨b, o, none⟩) l) := hr.below HZ0.out.bel
  have hbl := World.block_lt_of_cell? _ _ h0
  have hc0 : W0.cell? ⟨b, o, none⟩ = some (.int .u8 21) := (HZ0.out.bel.cell (p := ⟨b, o, none⟩) hbl).trans h0
  have hc0' : ((w.alloc (.cells #[.slice none 0 0] 23 (0, 0))).alloc (.cells #[.slice none 0 0] 24 (0, 0))).cell? ⟨b, o, none⟩ = some (.int .u8 21) := by rw [hW0.out]; exact hc0
  have hn0 : ((n : Int) == 0) = false := by simp; omega
  have hn1 : (0 : Int) < (n : Int) := by omega
  clear hr h0 hbl
  go_enter Try.func12, Try.ntmps12
  go_wp2_with fail
  rw [hW0.out]
  refine (csdb b o n c l W0 HR0.out hn hnc hc2 h1).mono ?_
  clear hc0'
  rintro e w1 ⟨he, z1, rfl⟩
  rcases he with ⟨hP, rfl⟩ | ⟨v1, v2, k, hP, rfl, ⟨p1, q1⟩, ⟨p2, q2⟩⟩
  all_goals have HP := Lib.hid hP; clear hP
  · have HZ1 := Lib.hid (HZ0.out.drewN z1)
    have hv1 := HZ1.out.b0
    have HV1 := Lib.hid ((heap_alloc_old (W0.drewN z1) (.cells (flat EI [0, 0]).toArray 2 (0, 0)) (cell_in hv1)).trans hv1)
    clear hv1
    go_wp2_with fail
    refine (zfv w.heap.size _ 2 2 (.slice none 0 0) _ (by exact HV1.out)).mono ?_
    rintro e w2 ⟨rfl, hw2⟩
    have HZ2 : Hid (Zs w w2 (some ⟨W0.heap.size, 0, none⟩) 2 2 [0, 0] none 0 0 []) := by show Zs _ _ _ _ _ _ _ _ _ _; rw [hw2]; exact HZ1.out.setv [0, 0] 2 rfl (by omega)
    clear hw2 HV1
    obtain ⟨⟨c0, c1⟩, f0, f1⟩ := HZ2.out.cells
    go_wp2_with fail
    obtain ⟨w9, h9, e0, e1, HB9⟩ := HZ2.out.clr
    rw [h9.out]
    clear c0 c1 f0 f1
    refine bodyPost_ret (v := .tuple #[.slice none 0 0, .slice none 0 0, .int .i64 (-1)]) (by simp [results, Try.results12, go_sem, e0, e1]) rfl ?_
    exact ⟨HB9.out, .inl ⟨HP.out, rfl⟩⟩
  · have HZ1 := Lib.hid (HZ0.out.drewN z1)
    have hv1 := HZ1.out.b0
    have HV1 := Lib.hid ((heap_alloc_old (W0.drewN z1) (.cells (flat EI [v1, v2]).toArray 2 (0, 0)) (cell_in hv1)).trans hv1)
    clear hv1
    go_wp2_with fail
    refine (zfv w.heap.size _ 2 2 (.slice none 0 0) _ (by exact HV1.out)).mono ?_
    rintro e w2 ⟨rfl, hw2⟩
    have HZ2 : Hid (Zs w w2 (some ⟨W0.heap.size, 0, none⟩) 2 2 [v1, v2] none 0 0 []) := by show Zs _ _ _ _ _ _ _ _ _ _; rw [hw2]; exact HZ1.out.setv [v1, v2] 2 rfl (by omega)
    clear hw2 HV1
    obtain ⟨⟨c0, c1⟩, f0, f1⟩ := HZ2.out.cells
    go_wp2_with fail
    have HZ9 := Lib.hid (HZ2.out.drewN 1)
    have hs0 := setCell_self HZ2.out.b0
    have hs1 := setCell_self HZ2.out.b1
    go_region_held3 (fun w' => (w'.cell? ⟨w.heap.size, 0, none⟩ = some (.slice (some ⟨W0.heap.size, 0, none⟩) 2 2) ∧ w'.cell? ⟨w.heap.size + 1, 0, none⟩ = some (.slice none 0 0)) ∧ w'.frozen? ⟨w.heap.size, 0, none⟩ = false ∧ w'.frozen? ⟨w.heap.size + 1, 0, none⟩ = false) (first | exact ⟨⟨c0, c1⟩, f0, f1⟩ | (simp only [hs0, hs1]; exact ⟨⟨c0, c1⟩, f0, f1⟩) | go_keep) (fail)
    go_wp2_with fail
    clear f0 f1 hs0 hs1
    refine bodyPost_ret (v := .tuple #[.slice (some ⟨W0.heap.size, 0, none⟩) 2 2, .slice none 0 0, .int .i64 ((k : Nat) : Int)]) (by simp [results, Try.results12, go_sem, c0, c1]) rfl ?_
    exact ⟨HZ9.out.bel, .inr ⟨[v1, v2], [], k, _, 2, _, _, 0, _, HP.out, rfl, rfl, by omega, HZ9.out.rv, rfl, by omega, HZ9.out.rd⟩⟩

set_option maxRecDepth 100000 in
set_option maxHeartbeats 4000000 in
theorem zf16 (b o n c : Nat) (l : List Int) (w : World) (hr : Rd w (some ⟨b, o, none⟩) l) (hn : Hid (l.length = n)) (hnc : n ≤ c) (hc2 : c ≤ 9223372036854775807) (h1 : 1 ≤ n) (hn2 : n ≤ 4294967295) (h0 : w.cell? ⟨b, o, none⟩ = some (.int .u8 16)) :
    Calls Try.prog 12 #[.slice (some ⟨b, o, none⟩) n c] w fun e w' => ZfEnd w (P1 l) e w' := by
  obtain ⟨W0, hW0⟩ : ∃ W0, Hid (((w.alloc (.cells #[.slice none 0 0] 23 (0, 0))).alloc (.cells #[.slice none 0 0] 24 (0, 0))) = W0) := ⟨_, Lib.hid rfl⟩
  have HZ0 : Hid (Zs w W0 none 0 0 [] none 0 0 []) := by show Zs _ _ _ _ _ _ _ _ _ _; rw [← hW0.out]; exact Zs.new w
  have HR0 : Hid (Rd W0 (some ⟨b, o, none⟩) l) := hr.below HZ0.out.bel
  have hbl := World.block_lt_of_cell? _ _ h0
  have hc0 : W0.cell? ⟨b, o, none⟩ = some (.int .u8 16) := (HZ0.out.bel.cell (p := ⟨b, o, none⟩) hbl).trans h0
  have hc0' : ((w.alloc (.cells #[.slice none 0 0] 23 (0, 0))).alloc (.cells #[.slice none 0 0] 24 (0, 0))).cell? ⟨b, o, none⟩ = some (.int .u8 16) := by rw [hW0.out]; exact hc0
  have hn0 : ((n : Int) == 0) = false := by simp; omega
  have hn1 : (0 : Int) < (n : Int) := by omega
  clear hr h0 hbl
  go_enter Try.func12, Try.ntmps12
  go_wp2_with fail
  rw [hW0.out]
  refine (cmd b o n c l W0 HR0.out hn hnc hc2 h1).mono ?_
  clear hc0'
  rintro e w1 ⟨he, z1, rfl⟩
  rcases he with ⟨hP, rfl⟩ | ⟨v1, k, hP, rfl, ⟨p1, q1⟩⟩
  all_goals have HP := Lib.hid hP; clear hP
  · have HZ1 := Lib.hid (HZ0.out.drewN z1)
    have hv1 := HZ1.out.b0
    have HV1 := Lib.hid ((heap_alloc_old (W0.drewN z1) (.cells (flat EI [0]).toArray 2 (0, 0)) (cell_in hv1)).trans hv1)
    clear hv1
    go_wp2_with fail
    refine (zfv w.heap.size _ 1 1 (.slice none 0 0) _ (by exact HV1.out)).mono ?_
    rintro e w2 ⟨rfl, hw2⟩
    have HZ2 : Hid (Zs w w2 (some ⟨W0.heap.size, 0, none⟩) 1 1 [0] none 0 0 []) := by show Zs _ _ _ _ _ _ _ _ _ _; rw [hw2]; exact HZ1.out.setv [0] 1 rfl (by omega)
    clear hw2 HV1
    obtain ⟨⟨c0, c1⟩, f0, f1⟩ := HZ2.out.cells
    go_wp2_with fail
    obtain ⟨w9, h9, e0, e1, HB9⟩ := HZ2.out.clr
    rw [h9.out]
    clear c0 c1 f0 f1
    refine bodyPost_ret (v := .tuple #[.slice none 0 0, .slice none 0 0, .int .i64 (-1)]) (by simp [results, Try.results12, go_sem, e0, e1]) rfl ?_
    exact ⟨HB9.out, .inl ⟨HP.out, rfl⟩⟩
  · have HZ1 := Lib.hid (HZ0.out.drewN z1)
    have hv1 := HZ1.out.b0
    have HV1 := Lib.hid ((heap_alloc_old (W0.drewN z1) (.cells (flat EI [v1]).toArray 2 (0, 0)) (cell_in hv1)).trans hv1)
    clear hv1
    go_wp2_with fail
    refine (zfv w.heap.size _ 1 1 (.slice none 0 0) _ (by exact HV1.out)).mono ?_
    rintro e w2 ⟨rfl, hw2⟩
    have HZ2 : Hid (Zs w w2 (some ⟨W0.heap.size, 0, none⟩) 1 1 [v1] none 0 0 []) := by show Zs _ _ _ _ _ _ _ _ _ _; rw [hw2]; exact HZ1.out.setv [v1] 1 rfl (by omega)
    clear hw2 HV1
    obtain ⟨⟨c0, c1⟩, f0, f1⟩ := HZ2.out.cells
    go_wp2_with fail
    have HZ9 := Lib.hid (HZ2.out.drewN 1)
    have hs0 := setCell_self HZ2.out.b0
    have hs1 := setCell_self HZ2.out.b1
    go_region_held3 (fun w' => (w'.cell? ⟨w.heap.size, 0, none⟩ = some (.slice (some ⟨W0.heap.size, 0, none⟩) 1 1) ∧ w'.cell? ⟨w.heap.size + 1, 0, none⟩ = some (.slice none 0 0)) ∧ w'.frozen? ⟨w.heap.size, 0, none⟩ = false ∧ w'.frozen? ⟨w.heap.size + 1, 0, none⟩ = false) (first | exact ⟨⟨c0, c1⟩, f0, f1⟩ | (simp only [hs0, hs1]; exact ⟨⟨c0, c1⟩, f0, f1⟩) | go_keep) (fail)
    go_wp2_with fail
    clear f0 f1 hs0 hs1
    refine bodyPost_ret (v := .tuple #[.slice (some ⟨W0.heap.size, 0, none⟩) 1 1, .slice none 0 0, .int .i64 ((k : Nat) : Int)]) (by simp [results, Try.results12, go_sem, c0, c1]) rfl ?_
    exact ⟨HZ9.out.bel, .inr ⟨[v1], [], k, _, 1, _, _, 0, _, HP.out, rfl, rfl, by omega, HZ9.out.rv, rfl, by omega, HZ9.out.rd⟩⟩

set_option maxRecDepth 100000 in
set_option maxHeartbeats 4000000 in
theorem zf20 (b o n c : Nat) (l : List Int) (w : World) (hr : Rd w (some ⟨b, o, none⟩) l) (hn : Hid (l.length = n)) (hnc : n ≤ c) (hc2 : c ≤ 9223372036854775807) (h1 : 1 ≤ n) (hn2 : n ≤ 4294967295) (h0 : w.cell? ⟨b, o, none⟩ = some (.int .u8 20)) :
    Calls Try.prog 12 #[.slice (some ⟨b, o, none⟩) n c] w fun e w' => ZfEnd w (P1 l) e w' := by
  obtain ⟨W0, hW0⟩ : ∃ W0, Hid (((w.alloc (.cells #[.slice none 0 0] 23 (0, 0))).alloc (.cells #[.slice none 0 0] 24 (0, 0))) = W0) := ⟨_, Lib.hid rfl⟩
  have HZ0 : Hid (Zs w W0 none 0 0 [] none 0 0 []) := by show Zs _ _ _ _ _ _ _ _ _ _; rw [← hW0.out]; exact Zs.new w
  have HR0 : Hid (Rd W0 (some ⟨b, o, none⟩) l) := hr.below HZ0.out.bel
  have hbl := World.block_lt_of_cell? _ _ h0
  have hc0 : W0.cell? ⟨b, o, none⟩ = some (.int .u8 20) := (HZ0.out.bel.cell (p := ⟨b, o, none⟩) hbl).trans h0
  have hc0' : ((w.alloc (.cells #[.slice none 0 0] 23 (0, 0))).alloc (.cells #[.slice none 0 0] 24 (0, 0))).cell? ⟨b, o, none⟩ = some (.int .u8 20) := by rw [hW0.out]; exact hc0
  have hn0 : ((n : Int) == 0) = false := by simp; omega
  have hn1 : (0 : Int) < (n : Int) := by omega
  clear hr h0 hbl
  go_enter Try.func12, Try.ntmps12
  go_wp2_with fail
  rw [hW0.out]
  refine (cdb b o n c l W0 HR0.out hn hnc hc2 h1).mono ?_
  clear hc0'
  rintro e w1 ⟨he, z1, rfl⟩
  rcases he with ⟨hP, rfl⟩ | ⟨v1, k, hP, rfl, ⟨p1, q1⟩⟩
  all_goals have HP := Lib.hid hP; clear hP
  · have HZ1 := Lib.hid (HZ0.out.drewN z1)
    have hv1 := HZ1.out.b0
    have HV1 := Lib.hid ((heap_alloc_old (W0.drewN z1) (.cells (flat EI [0]).toArray 2 (0, 0)) (cell_in hv1)).trans hv1)
    clear hv1
    go_wp2_with fail
    refine (zfv w.heap.size _ 1 1 (.slice none 0 0) _ (by exact HV1.out)).mono ?_
    rintro e w2 ⟨rfl, hw2⟩
    have HZ2 : Hid (Zs w w2 (some ⟨W0.heap.size, 0, none⟩) 1 1 [0] none 0 0 []) := by show Zs _ _ _ _ _ _ _ _ _ _; rw [hw2]; exact HZ1.out.setv [0] 1 rfl (by omega)
    clear hw2 HV1
    obtain ⟨⟨c0, c1⟩, f0, f1⟩ := HZ2.out.cells
    go_wp2_with fail
    obtain ⟨w9, h9, e0, e1, HB9⟩ := HZ2.out.clr
    rw [h9.out]
    clear c0 c1 f0 f1
    refine bodyPost_ret (v := .tuple #[.slice none 0 0, .slice none 0 0, .int .i64 (-1)]) (by simp [results, Try.results12, go_sem, e0, e1]) rfl ?_
    exact ⟨HB9.out, .inl ⟨HP.out, rfl⟩⟩
  · have HZ1 := Lib.hid (HZ0.out.drewN z1)
    have hv1 := HZ1.out.b0
    have HV1 := Lib.hid ((heap_alloc_old (W0.drewN z1) (.cells (flat EI [v1]).toArray 2 (0, 0)) (cell_in hv1)).trans hv1)
    clear hv1
    go_wp2_with fail
    refine (zfv w.heap.size _ 1 1 (.slice none 0 0) _ (by exact HV1.out)).mono ?_
    rintro e w2 ⟨rfl, hw2⟩
    have HZ2 : Hid (Zs w w2 (some ⟨W0.heap.size, 0, none⟩) 1 1 [v1] none 0 0 []) := by show Zs _ _ _ _ _ _ _ _ _ _; rw [hw2]; exact HZ1.out.setv [v1] 1 rfl (by omega)
    clear hw2 HV1
    obtain ⟨⟨c0, c1⟩, f0, f1⟩ := HZ2.out.cells
    go_wp2_with fail
    have HZ9 := Lib.hid (HZ2.out.drewN 1)
    have hs0 := setCell_self HZ2.out.b0
    have hs1 := setCell_self HZ2.out.b1
    go_region_held3 (fun w' => (w'.cell? ⟨w.heap.size, 0, none⟩ = some (.slice (some ⟨W0.heap.size, 0, none⟩) 1 1) ∧ w'.cell? ⟨w.heap.size + 1, 0, none⟩ = some (.slice none 0 0)) ∧ w'.frozen? ⟨w.heap.size, 0, none⟩ = false ∧ w'.frozen? ⟨w.heap.size + 1, 0, none⟩ = false) (first | exact ⟨⟨c0, c1⟩, f0, f1⟩ | (simp only [hs0, hs1]; exact ⟨⟨c0, c1⟩, f0, f1⟩) | go_keep) (fail)
    go_wp2_with fail
    clear f0 f1 hs0 hs1
    refine bodyPost_ret (v := .tuple #[.slice (some ⟨W0.heap.size, 0, none⟩) 1 1, .slice none 0 0, .int .i64 ((k : Nat) : Int)]) (by simp [results, Try.results12, go_sem, c0, c1]) rfl ?_
    exact ⟨HZ9.out.bel, .inr ⟨[v1], [], k, _, 1, _, _, 0, _, HP.out, rfl, rfl, by omega, HZ9.out.rv, rfl, by omega, HZ9.out.rd⟩⟩

set_option maxRecDepth 100000 in
set_option maxHeartbeats 4000000 in
theorem zf25 (b o n c : Nat) (l : List Int) (w : World) (hr : Rd w (some ⟨b, o, none⟩) l) (hn : Hid (l.length = n)) (hnc : n ≤ c) (hc2 : c ≤ 9223372036854775807) (h1 : 1 ≤ n) (hn2 : n ≤ 4294967295) (h0 : w.cell? ⟨b, o, none⟩ = some (.int .u8 25)) :
    Calls Try.prog 12 #[.slice (some ⟨b, o, none⟩) n c] w fun e w' => ZfEnd w (P1 l) e w' := by
  obtain ⟨W0, hW0⟩ : ∃ W0, Hid (((w.alloc (.cells #[.slice none 0 0] 23 (0, 0))).alloc (.cells #[.slice none 0 0] 24 (0, 0))) = W0) := ⟨_, Lib.hid rfl⟩
  have HZ0 : Hid (Zs w W0 none 0 0 [] none 0 0 []) := by show Zs _ _ _ _ _ _ _ _ _ _; rw [← hW0.out]; exact Zs.new w
  have HR0 : Hid (Rd W0 (some ⟨b, o, none⟩) l) := hr.below HZ0.out.bel
  have hbl := World.block_lt_of_cell? _ _ h0
  have hc0 : W0.cell? ⟨b, o, none⟩ = some (.int .u8 25) := (HZ0.out.bel.cell (p := ⟨b, o, none⟩) hbl).trans h0
  have hc0' : ((w.alloc (.cells #[.slice none 0 0] 23 (0, 0))).alloc (.cells #[.slice none 0 0] 24 (0, 0))).cell? ⟨b, o, none⟩ = some (.int .u8 25) := by rw [hW0.out]; exact hc0
  have hn0 : ((n : Int) == 0) = false := by simp; omega
  have hn1 : (0 : Int) < (n : Int) := by omega
  clear hr h0 hbl
  go_enter Try.func12, Try.ntmps12
  go_wp2_with fail
  rw [hW0.out]
  refine (crc b o n c l W0 HR0.out hn hnc hc2 h1).mono ?_
  clear hc0'
  rintro e w1 ⟨he, z1, rfl⟩
  rcases he with ⟨hP, rfl⟩ | ⟨v1, k, hP, rfl, ⟨p1, q1⟩⟩
  all_goals have HP := Lib.hid hP; clear hP
  · have HZ1 := Lib.hid (HZ0.out.drewN z1)
    have hv1 := HZ1.out.b0
    have HV1 := Lib.hid ((heap_alloc_old (W0.drewN z1) (.cells (flat EI [0]).toArray 2 (0, 0)) (cell_in hv1)).trans hv1)
    clear hv1
    go_wp2_with fail
    refine (zfv w.heap.size _ 1 1 (.slice none 0 0) _ (by exact HV1.out)).mono ?_
    rintro e w2 ⟨rfl, hw2⟩
    have HZ2 : Hid (Zs w w2 (some ⟨W0.heap.size, 0, none⟩) 1 1 [0] none 0 0 []) := by show Zs _ _ _ _ _ _ _ _ _ _; rw [hw2]; exact HZ1.out.setv [0] 1 rfl (by omega)
    clear hw2 HV1
    obtain ⟨⟨c0, c1⟩, f0, f1⟩ := HZ2.out.cells
    go_wp2_with fail
    obtain ⟨w9, h9, e0, e1, HB9⟩ := HZ2.out.clr
    rw [h9.out]
    clear c0 c1 f0 f1
    refine bodyPost_ret (v := .tuple #[.slice none 0 0, .slice none 0 0, .int .i64 (-1)]) (by simp [results, Try.results12, go_sem, e0, e1]) rfl ?_
    exact ⟨HB9.out, .inl ⟨HP.out, rfl⟩⟩
  · have HZ1 := Lib.hid (HZ0.out.drewN z1)
    have hv1 := HZ1.out.b0
    have HV1 := Lib.hid ((heap_alloc_old (W0.drewN z1) (.cells (flat EI [v1]).toArray 2 (0, 0)) (cell_in hv1)).trans hv1)
    clear hv1
    go_wp2_with fail
    refine (zfv w.heap.size _ 1 1 (.slice none 0 0) _ (by exact HV1.out)).mono ?_
    rintro e w2 ⟨rfl, hw2⟩
    have HZ2 : Hid (Zs w w2 (some ⟨W0.heap.size, 0, none⟩) 1 1 [v1] none 0 0 []) := by show Zs _ _ _ _ _ _ _ _ _ _; rw [hw2]; exact HZ1.out.setv [v1] 1 rfl (by omega)
    clear hw2 HV1
    obtain ⟨⟨c0, c1⟩, f0, f1⟩ := HZ2.out.cells
    go_wp2_with fail
    have HZ9 := Lib.hid (HZ2.out.drewN 1)
    have hs0 := setCell_self HZ2.out.b0
    have hs1 := setCell_self HZ2.out.b1
    go_region_held3 (fun w' => (w'.cell? ⟨w.heap.size, 0, none⟩ = some (.slice (some ⟨W0.heap.size, 0, none⟩) 1 1) ∧ w'.cell? ⟨w.heap.size + 1, 0, none⟩ = some (.slice none 0 0)) ∧ w'.frozen? ⟨w.heap.size, 0, none⟩ = false ∧ w'.frozen? ⟨w.heap.size + 1, 0, none⟩ = false) (first | exact ⟨⟨c0, c1⟩, f0, f1⟩ | (simp only [hs0, hs1]; exact ⟨⟨c0, c1⟩, f0, f1⟩) | go_keep) (fail)
    go_wp2_with fail
    clear f0 f1 hs0 hs1
    refine bodyPost_ret (v := .tuple #[.slice (some ⟨W0.heap.size, 0, none⟩) 1 1, .slice none 0 0, .int .i64 ((k : Nat) : Int)]) (by simp [results, Try.results12, go_sem, c0, c1]) rfl ?_
    exact ⟨HZ9.out.bel, .inr ⟨[v1], [], k, _, 1, _, _, 0, _, HP.out, rfl, rfl, by omega, HZ9.out.rv, rfl, by omega, HZ9.out.rd⟩⟩

end Go.Proofs.Ytggcnepdeaijoaa

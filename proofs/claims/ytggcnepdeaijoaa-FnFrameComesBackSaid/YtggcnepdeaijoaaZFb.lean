/- The walk of ZZFrame, frames with data. Conditions: the slice reads as bytes; its first byte is told. -/
import Derived.Test.YtggcnepdeaijoaaZFs
import Derived.Test.YtggcnepdeaijoaaConsB
import Derived.Deep.RegionHeld3
import Derived.BigQuiet
namespace Go.Proofs.Ytggcnepdeaijoaa
open Go.RowKit
set_option linter.unusedVariables false
set_option linter.unusedSimpArgs false

set_option maxRecDepth 100000 in
set_option maxHeartbeats 4000000 in
theorem zf18 (b o n c : Nat) (l : List Int) (w : World) (hr : Rd w (some ⟨b, o, none⟩) l) (hn : Hid (l.length = n)) (hnc : n ≤ c) (hc2 : c ≤ 9223372036854775807) (h1 : 1 ≤ n) (hn2 : n ≤ 4294967295) (h0 : w.cell? ⟨b, o, none⟩ = some (.int .u8 18)) :
    Calls Try.prog 12 #[.slice (some ⟨b, o, none⟩) n c] w fun e w' => ZfEnd w (Pms 0 l) e w' := by
  obtain ⟨W0, hW0⟩ : ∃ W0, Hid (((w.alloc (.cells #[.slice none 0 0] 23 (0, 0))).alloc (.cells #[.slice none 0 0] 24 (0, 0))) = W0) := ⟨_, Lib.hid rfl⟩
  have HZ0 : Hid (Zs w W0 none 0 0 [] none 0 0 []) := by show Zs _ _ _ _ _ _ _ _ _ _; rw [← hW0.out]; exact Zs.new w
  have HR0 : Hid (Rd W0 (some ⟨b, o, none⟩) l) := hr.below HZ0.out.bel
  have hbl := World.block_lt_of_cell? _ _ h0
  have hc0 : W0.cell? ⟨b, o, none⟩ = some (.int .u8 18) := (HZ0.out.bel.cell (p := ⟨b, o, none⟩) hbl).trans h0
  have hc0' : ((w.alloc (.cells #[.slice none 0 0] 23 (0, 0))).alloc (.cells #[.slice none 0 0] 24 (0, 0))).cell? ⟨b, o, none⟩ = some (.int .u8 18) := by rw [hW0.out]; exact hc0
  have hn0 : ((n : Int) == 0) = false := by simp; omega
  have hn1 : (0 : Int) < (n : Int) := by omega
  clear hr h0 hbl
  go_enter Try.func12, Try.ntmps12
  go_wp2_with fail
  rw [hW0.out]
  refine (cms18 b o n c l W0 HR0.out hn hnc hc2 h1 hn2 hc0).mono ?_
  clear hc0'
  rintro e w1 ⟨he, z1, rfl⟩
  rcases he with ⟨hP, rfl⟩ | ⟨v1, k, hP, rfl, ⟨p1, q1⟩⟩
  all_goals have HP := Lib.hid hP; clear hP
  · have HZ1 := Lib.hid (HZ0.out.drewN z1)
    have hv1 := HZ1.out.b0
    have HV1 := Lib.hid ((heap_alloc_old (W0.drewN z1) (.cells (flat EI [0, 0]).toArray 2 (0, 0)) (cell_in hv1)).trans hv1)
    clear hv1
    go_wp2_with fail
    refine (zfv w.heap.size _ 2 2 (.slice none 0 0) _ (by exact HV1.out)).mono ?_
    rintro e w2 ⟨rfl, hw2⟩
    have HZ2 : Hid (Zs w w2 (some ⟨W0.heap.size, 0, none⟩) 2 2 [0, 0] none 0 0 []) := by show Zs _ _ _ _ _ _ _ _ _ _; rw [hw2]; exact HZ1.out.setv [0, 0] 2 rfl (by omega)
    clear hw2 HV1
    obtain ⟨⟨c0, c1⟩, f0, f1⟩ := HZ2.out.cells
    go_wp2_with fail
    obtain ⟨w9, h9, e0, e1, HB9⟩ := HZ2.out.clr
    rw [h9.out]
    clear c0 c1 f0 f1
    refine bodyPost_ret (v := .tuple #[.slice none 0 0, .slice none 0 0, .int .i64 (-1)]) (by simp [results, Try.results12, go_sem, e0, e1]) rfl ?_
    exact ⟨HB9.out, .inl ⟨HP.out, rfl⟩⟩
  · have HZ1 := Lib.hid (HZ0.out.drewN z1)
    have hv1 := HZ1.out.b0
    have HV1 := Lib.hid ((heap_alloc_old (W0.drewN z1) (.cells (flat EI [0, v1]).toArray 2 (0, 0)) (cell_in hv1)).trans hv1)
    clear hv1
    go_wp2_with fail
    refine (zfv w.heap.size _ 2 2 (.slice none 0 0) _ (by exact HV1.out)).mono ?_
    rintro e w2 ⟨rfl, hw2⟩
    have HZ2 : Hid (Zs w w2 (some ⟨W0.heap.size, 0, none⟩) 2 2 [0, v1] none 0 0 []) := by show Zs _ _ _ _ _ _ _ _ _ _; rw [hw2]; exact HZ1.out.setv [0, v1] 2 rfl (by omega)
    clear hw2 HV1
    obtain ⟨⟨c0, c1⟩, f0, f1⟩ := HZ2.out.cells
    go_wp2_with fail
    have HZ9 := Lib.hid (HZ2.out.drewN 1)
    have hs0 := setCell_self HZ2.out.b0
    have hs1 := setCell_self HZ2.out.b1
    go_region_held3 (fun w' => (w'.cell? ⟨w.heap.size, 0, none⟩ = some (.slice (some ⟨W0.heap.size, 0, none⟩) 2 2) ∧ w'.cell? ⟨w.heap.size + 1, 0, none⟩ = some (.slice none 0 0)) ∧ w'.frozen? ⟨w.heap.size, 0, none⟩ = false ∧ w'.frozen? ⟨w.heap.size + 1, 0, none⟩ = false) (first | exact ⟨⟨c0, c1⟩, f0, f1⟩ | (simp only [hs0, hs1]; exact ⟨⟨c0, c1⟩, f0, f1⟩) | go_keep) (fail)
    go_wp2_with fail
    clear f0 f1 hs0 hs1
    refine bodyPost_ret (v := .tuple #[.slice (some ⟨W0.heap.size, 0, none⟩) 2 2, .slice none 0 0, .int .i64 ((k : Nat) : Int)]) (by simp [results, Try.results12, go_sem, c0, c1]) rfl ?_
    exact ⟨HZ9.out.bel, .inr ⟨[0, v1], [], k, _, 2, _, _, 0, _, HP.out, rfl, rfl, by omega, HZ9.out.rv, rfl, by omega, HZ9.out.rd⟩⟩

set_option maxRecDepth 100000 in
set_option maxHeartbeats 4000000 in
theorem zf19 (b o n c : Nat) (l : List Int) (w : World) (hr : Rd w (some ⟨b, o, none⟩) l) (hn : Hid (l.length = n)) (hnc : n ≤ c) (hc2 : c ≤ 9223372036854775807) (h1 : 1 ≤ n) (hn2 : n ≤ 4294967295) (h0 : w.cell? ⟨b, o, none⟩ = some (.int .u8 19)) :
    Calls Try.prog 12 #[.slice (some ⟨b, o, none⟩) n c] w fun e w' => ZfEnd w (Pms 1 l) e w' := by
  obtain ⟨W0, hW0⟩ : ∃ W0, Hid (((w.alloc (.cells #[.slice none 0 0] 23 (0, 0))).alloc (.cells #[.slice none 0 0] 24 (0, 0))) = W0) := ⟨_, Lib.hid rfl⟩
  have HZ0 : Hid (Zs w W0 none 0 0 [] none 0 0 []) := by show Zs _ _ _ _ _ _ _ _ _ _; rw [← hW0.out]; exact Zs.new w
  have HR0 : Hid (Rd W0 (some ⟨b, o, none⟩) l) := hr.below HZ0.out.bel
  have hbl := World.block_lt_of_cell? _ _ h0
  have hc0 : W0.cell? ⟨b, o, none⟩ = some (.int .u8 19) := (HZ0.out.bel.cell (p := ⟨b, o, none⟩) hbl).trans h0
  have hc0' : ((w.alloc (.cells #[.slice none 0 0] 23 (0, 0))).alloc (.cells #[.slice none 0 0] 24 (0, 0))).cell? ⟨b, o, none⟩ = some (.int .u8 19) := by rw [hW0.out]; exact hc0
  have hn0 : ((n : Int) == 0) = false := by simp; omega
  have hn1 : (0 : Int) < (n : Int) := by omega
  clear hr h0 hbl
  go_enter Try.func12, Try.ntmps12
  go_wp2_with fail
  rw [hW0.out]
  refine (cms19 b o n c l W0 HR0.out hn hnc hc2 h1 hn2 hc0).mono ?_
  clear hc0'
  rintro e w1 ⟨he, z1, rfl⟩
  rcases he with ⟨hP, rfl⟩ | ⟨v1, k, hP, rfl, ⟨p1, q1⟩⟩
  all_goals have HP := Lib.hid hP; clear hP
  · have HZ1 := Lib.hid (HZ0.out.drewN z1)
    have hv1 := HZ1.out.b0
    have HV1 := Lib.hid ((heap_alloc_old (W0.drewN z1) (.cells (flat EI [0, 0]).toArray 2 (0, 0)) (cell_in hv1)).trans hv1)
    clear hv1
    go_wp2_with fail
    refine (zfv w.heap.size _ 2 2 (.slice none 0 0) _ (by exact HV1.out)).mono ?_
    rintro e w2 ⟨rfl, hw2⟩
    have HZ2 : Hid (Zs w w2 (some ⟨W0.heap.size, 0, none⟩) 2 2 [0, 0] none 0 0 []) := by show Zs _ _ _ _ _ _ _ _ _ _; rw [hw2]; exact HZ1.out.setv [0, 0] 2 rfl (by omega)
    clear hw2 HV1
    obtain ⟨⟨c0, c1⟩, f0, f1⟩ := HZ2.out.cells
    go_wp2_with fail
    obtain ⟨w9, h9, e0, e1, HB9⟩ := HZ2.out.clr
    rw [h9.out]
    clear c0 c1 f0 f1
    refine bodyPost_ret (v := .tuple #[.slice none 0 0, .slice none 0 0, .int .i64 (-1)]) (by simp [results, Try.results12, go_sem, e0, e1]) rfl ?_
    exact ⟨HB9.out, .inl ⟨HP.out, rfl⟩⟩
  · have HZ1 := Lib.hid (HZ0.out.drewN z1)
    have hv1 := HZ1.out.b0
    have HV1 := Lib.hid ((heap_alloc_old (W0.drewN z1) (.cells (flat EI [1, v1]).toArray 2 (0, 0)) (cell_in hv1)).trans hv1)
    clear hv1
    go_wp2_with fail
    refine (zfv w.heap.size _ 2 2 (.slice none 0 0) _ (by exact HV1.out)).mono ?_
    rintro e w2 ⟨rfl, hw2⟩
    have HZ2 : Hid (Zs w w2 (some ⟨W0.heap.size, 0, none⟩) 2 2 [1, v1] none 0 0 []) := by show Zs _ _ _ _ _ _ _ _ _ _; rw [hw2]; exact HZ1.out.setv [1, v1] 2 rfl (by omega)
    clear hw2 HV1
    obtain ⟨⟨c0, c1⟩, f0, f1⟩ := HZ2.out.cells
    go_wp2_with fail
    have HZ9 := Lib.hid (HZ2.out.drewN 1)
    have hs0 := setCell_self HZ2.out.b0
    have hs1 := setCell_self HZ2.out.b1
    go_region_held3 (fun w' => (w'.cell? ⟨w.heap.size, 0, none⟩ = some (.slice (some ⟨W0.heap.size, 0, none⟩) 2 2) ∧ w'.cell? ⟨w.heap.size + 1, 0, none⟩ = some (.slice none 0 0)) ∧ w'.frozen? ⟨w.heap.size, 0, none⟩ = false ∧ w'.frozen? ⟨w.heap.size + 1, 0, none⟩ = false) (first | exact ⟨⟨c0, c1⟩, f0, f1⟩ | (simp only [hs0, hs1]; exact ⟨⟨c0, c1⟩, f0, f1⟩) | go_keep) (fail)
    go_wp2_with fail
    clear f0 f1 hs0 hs1
    refine bodyPost_ret (v := .tuple #[.slice (some ⟨W0.heap.size, 0, none⟩) 2 2, .slice none 0 0, .int .i64 ((k : Nat) : Int)]) (by simp [results, Try.results12, go_sem, c0, c1]) rfl ?_
    exact ⟨HZ9.out.bel, .inr ⟨[1, v1], [], k, _, 2, _, _, 0, _, HP.out, rfl, rfl, by omega, HZ9.out.rv, rfl, by omega, HZ9.out.rd⟩⟩

set_option maxRecDepth 100000 in
set_option maxHeartbeats 4000000 in
theorem zf22 (b o n c : Nat) (l : List Int) (w : World) (hr : Rd w (some ⟨b, o, none⟩) l) (hn : Hid (l.length = n)) (hnc : n ≤ c) (hc2 : c ≤ 9223372036854775807) (h1 : 1 ≤ n) (hn2 : n ≤ 4294967295) (h0 : w.cell? ⟨b, o, none⟩ = some (.int .u8 22)) :
    Calls Try.prog 12 #[.slice (some ⟨b, o, none⟩) n c] w fun e w' => ZfEnd w (Psb 0 l) e w' := by
  obtain ⟨W0, hW0⟩ : ∃ W0, Hid (((w.alloc (.cells #[.slice none 0 0] 23 (0, 0))).alloc (.cells #[.slice none 0 0] 24 (0, 0))) = W0) := ⟨_, Lib.hid rfl⟩
  have HZ0 : Hid (Zs w W0 none 0 0 [] none 0 0 []) := by show Zs _ _ _ _ _ _ _ _ _ _; rw [← hW0.out]; exact Zs.new w
  have HR0 : Hid (Rd W0 (some ⟨b, o, none⟩) l) := hr.below HZ0.out.bel
  have hbl := World.block_lt_of_cell? _ _ h0
  have hc0 : W0.cell? ⟨b, o, none⟩ = some (.int .u8 22) := (HZ0.out.bel.cell (p := ⟨b, o, none⟩) hbl).trans h0
  have hc0' : ((w.alloc (.cells #[.slice none 0 0] 23 (0, 0))).alloc (.cells #[.slice none 0 0] 24 (0, 0))).cell? ⟨b, o, none⟩ = some (.int .u8 22) := by rw [hW0.out]; exact hc0
  have hn0 : ((n : Int) == 0) = false := by simp; omega
  have hn1 : (0 : Int) < (n : Int) := by omega
  clear hr h0 hbl
  go_enter Try.func12, Try.ntmps12
  go_wp2_with fail
  rw [hW0.out]
  refine (csb22 b o n c l W0 HR0.out hn hnc hc2 h1 hn2 hc0).mono ?_
  clear hc0'
  rintro e w1 ⟨he, z1, rfl⟩
  rcases he with ⟨hP, rfl⟩ | ⟨v1, k, hP, rfl, ⟨p1, q1⟩⟩
  all_goals have HP := Lib.hid hP; clear hP
  · have HZ1 := Lib.hid (HZ0.out.drewN z1)
    have hv1 := HZ1.out.b0
    have HV1 := Lib.hid ((heap_alloc_old (W0.drewN z1) (.cells (flat EI [0, 0]).toArray 2 (0, 0)) (cell_in hv1)).trans hv1)
    clear hv1
    go_wp2_with fail
    refine (zfv w.heap.size _ 2 2 (.slice none 0 0) _ (by exact HV1.out)).mono ?_
    rintro e w2 ⟨rfl, hw2⟩
    have HZ2 : Hid (Zs w w2 (some ⟨W0.heap.size, 0, none⟩) 2 2 [0, 0] none 0 0 []) := by show Zs _ _ _ _ _ _ _ _ _ _; rw [hw2]; exact HZ1.out.setv [0, 0] 2 rfl (by omega)
    clear hw2 HV1
    obtain ⟨⟨c0, c1⟩, f0, f1⟩ := HZ2.out.cells
    go_wp2_with fail
    obtain ⟨w9, h9, e0, e1, HB9⟩ := HZ2.out.clr
    rw [h9.out]
    clear c0 c1 f0 f1
    refine bodyPost_ret (v := .tuple #[.slice none 0 0, .slice none 0 0, .int .i64 (-1)]) (by simp [results, Try.results12, go_sem, e0, e1]) rfl ?_
    exact ⟨HB9.out, .inl ⟨HP.out, rfl⟩⟩
  · have HZ1 := Lib.hid (HZ0.out.drewN z1)
    have hv1 := HZ1.out.b0
    have HV1 := Lib.hid ((heap_alloc_old (W0.drewN z1) (.cells (flat EI [0, v1]).toArray 2 (0, 0)) (cell_in hv1)).trans hv1)
    clear hv1
    go_wp2_with fail
    refine (zfv w.heap.size _ 2 2 (.slice none 0 0) _ (by exact HV1.out)).mono ?_
    rintro e w2 ⟨rfl, hw2⟩
    have HZ2 : Hid (Zs w w2 (some ⟨W0.heap.size, 0, none⟩) 2 2 [0, v1] none 0 0 []) := by show Zs _ _ _ _ _ _ _ _ _ _; rw [hw2]; exact HZ1.out.setv [0, v1] 2 rfl (by omega)
    clear hw2 HV1
    obtain ⟨⟨c0, c1⟩, f0, f1⟩ := HZ2.out.cells
    go_wp2_with fail
    have HZ9 := Lib.hid (HZ2.out.drewN 1)
    have hs0 := setCell_self HZ2.out.b0
    have hs1 := setCell_self HZ2.out.b1
    go_region_held3 (fun w' => (w'.cell? ⟨w.heap.size, 0, none⟩ = some (.slice (some ⟨W0.heap.size, 0, none⟩) 2 2) ∧ w'.cell? ⟨w.heap.size + 1, 0, none⟩ = some (.slice none 0 0)) ∧ w'.frozen? ⟨w.heap.size, 0, none⟩ = false ∧ w'.frozen? ⟨w.heap.size + 1, 0, none⟩ = false) (first | exact ⟨⟨c0, c1⟩, f0, f1⟩ | (simp only [hs0, hs1]; exact ⟨⟨c0, c1⟩, f0, f1⟩) | go_keep) (fail)
    go_wp2_with fail
    clear f0 f1 hs0 hs1
    refine bodyPost_ret (v := .tuple #[.slice (some ⟨W0.heap.size, 0, none⟩) 2 2, .slice none 0 0, .int .i64 ((k : Nat) : Int)]) (by simp [results, Try.results12, go_sem, c0, c1]) rfl ?_
    exact ⟨HZ9.out.bel, .inr ⟨[0, v1], [], k, _, 2, _, _, 0, _, HP.out, rfl, rfl, by omega, HZ9.out.rv, rfl, by omega, HZ9.out.rd⟩⟩

set_option maxRecDepth 100000 in
set_option maxHeartbeats 4000000 in
theorem zf23 (b o n c : Nat) (l : List Int) (w : World) (hr : Rd w (some ⟨b, o, none⟩) l) (hn : Hid (l.length = n)) (hnc : n ≤ c) (hc2 : c ≤ 9223372036854775807) (h1 : 1 ≤ n) (hn2 : n ≤ 4294967295) (h0 : w.cell? ⟨b, o, none⟩ = some (.int .u8 23)) :
    Calls Try.prog 12 #[.slice (some ⟨b, o, none⟩) n c] w fun e w' => ZfEnd w (Psb 1 l) e w' := by
  obtain ⟨W0, hW0⟩ : ∃ W0, Hid (((w.alloc (.cells #[.slice none 0 0] 23 (0, 0))).alloc (.cells #[.slice none 0 0] 24 (0, 0))) = W0) := ⟨_, Lib.hid rfl⟩
  have HZ0 : Hid (Zs w W0 none 0 0 [] none 0 0 []) := by show Zs _ _ _ _ _ _ _ _ _ _; rw [← hW0.out]; exact Zs.new w
  have HR0 : Hid (Rd W0 (some ⟨b, o, none⟩) l) := hr.below HZ0.out.bel
  have hbl := World.block_lt_of_cell? _ _ h0
  have hc0 : W0.cell? ⟨b, o, none⟩ = some (.int .u8 23) := (HZ0.out.bel.cell (p := ⟨b, o, none⟩) hbl).trans h0
  have hc0' : ((w.alloc (.cells #[.slice none 0 0] 23 (0, 0))).alloc (.cells #[.slice none 0 0] 24 (0, 0))).cell? ⟨b, o, none⟩ = some (.int .u8 23) := by rw [hW0.out]; exact hc0
  have hn0 : ((n : Int) == 0) = false := by simp; omega
  have hn1 : (0 : Int) < (n : Int) := by omega
  clear hr h0 hbl
  go_enter Try.func12, Try.ntmps12
  go_wp2_with fail
  rw [hW0.out]
  refine (csb23 b o n c l W0 HR0.out hn hnc hc2 h1 hn2 hc0).mono ?_
  clear hc0'
  rintro e w1 ⟨he, z1, rfl⟩
  rcases he with ⟨hP, rfl⟩ | ⟨v1, k, hP, rfl, ⟨p1, q1⟩⟩
  all_goals have HP := Lib.hid hP; clear hP
  · have HZ1 := Lib.hid (HZ0.out.drewN z1)
    have hv1 := HZ1.out.b0
    have HV1 := Lib.hid ((heap_alloc_old (W0.drewN z1) (.cells (flat EI [0, 0]).toArray 2 (0, 0)) (cell_in hv1)).trans hv1)
    clear hv1
    go_wp2_with fail
    refine (zfv w.heap.size _ 2 2 (.slice none 0 0) _ (by exact HV1.out)).mono ?_
    rintro e w2 ⟨rfl, hw2⟩
    have HZ2 : Hid (Zs w w2 (some ⟨W0.heap.size, 0, none⟩) 2 2 [0, 0] none 0 0 []) := by show Zs _ _ _ _ _ _ _ _ _ _; rw [hw2]; exact HZ1.out.setv [0, 0] 2 rfl (by omega)
    clear hw2 HV1
    obtain ⟨⟨c0, c1⟩, f0, f1⟩ := HZ2.out.cells
    go_wp2_with fail
    obtain ⟨w9, h9, e0, e1, HB9⟩ := HZ2.out.clr
    rw [h9.out]
    clear c0 c1 f0 f1
    refine bodyPost_ret (v := .tuple #[.slice none 0 0, .slice none 0 0, .int .i64 (-1)]) (by simp [results, Try.results12, go_sem, e0, e1]) rfl ?_
    exact ⟨HB9.out, .inl ⟨HP.out, rfl⟩⟩
  · have HZ1 := Lib.hid (HZ0.out.drewN z1)
    have hv1 := HZ1.out.b0
    have HV1 := Lib.hid ((heap_alloc_old (W0.drewN z1) (.cells (flat EI [1, v1]).toArray 2 (0, 0)) (cell_in hv1)).trans hv1)
    clear hv1
    go_wp2_with fail
    refine (zfv w.heap.size _ 2 2 (.slice none 0 0) _ (by exact HV1.out)).mono ?_
    rintro e w2 ⟨rfl, hw2⟩
    have HZ2 : Hid (Zs w w2 (some ⟨W0.heap.size, 0, none⟩) 2 2 [1, v1] none 0 0 []) := by show Zs _ _ _ _ _ _ _ _ _ _; rw [hw2]; exact HZ1.out.setv [1, v1] 2 rfl (by omega)
    clear hw2 HV1
    obtain ⟨⟨c0, c1⟩, f0, f1⟩ := HZ2.out.cells
    go_wp2_with fail
    have HZ9 := Lib.hid (HZ2.out.drewN 1)
    have hs0 := setCell_self HZ2.out.b0
    have hs1 := setCell_self HZ2.out.b1
    go_region_held3 (fun w' => (w'.cell? ⟨w.heap.size, 0, none⟩ = some (.slice (some ⟨W0.heap.size, 0, none⟩) 2 2) ∧ w'.cell? ⟨w.heap.size + 1, 0, none⟩ = some (.slice none 0 0)) ∧ w'.frozen? ⟨w.heap.size, 0, none⟩ = false ∧ w'.frozen? ⟨w.heap.size + 1, 0, none⟩ = false) (first | exact ⟨⟨c0, c1⟩, f0, f1⟩ | (simp only [hs0, hs1]; exact ⟨⟨c0, c1⟩, f0, f1⟩) | go_keep) (fail)
    go_wp2_with fail
    clear f0 f1 hs0 hs1
    refine bodyPost_ret (v := .tuple #[.slice (some ⟨W0.heap.size, 0, none⟩) 2 2, .slice none 0 0, .int .i64 ((k : Nat) : Int)]) (by simp [results, Try.results12, go_sem, c0, c1]) rfl ?_
    exact ⟨HZ9.out.bel, .inr ⟨[1, v1], [], k, _, 2, _, _, 0, _, HP.out, rfl, rfl, by omega, HZ9.out.rv, rfl, by omega, HZ9.out.rd⟩⟩

set_option maxRecDepth 100000 in
set_option maxHeartbeats 4000000 in
theorem zf6 (b o n c : Nat) (l : List Int) (w : World) (hr : Rd w (some ⟨b, o, none⟩) l) (hn : Hid (l.length = n)) (hnc : n ≤ c) (hc2 : c ≤ 9223372036854775807) (h1 : 1 ≤ n) (hn2 : n ≤ 4294967295) (h0 : w.cell? ⟨b, o, none⟩ = some (.int .u8 6)) :
    Calls Try.prog 12 #[.slice (some ⟨b, o, none⟩) n c] w fun e w' => ZfEnd w (Pcr l) e w' := by
  obtain ⟨W0, hW0⟩ : ∃ W0, Hid (((w.alloc (.cells #[.slice none 0 0] 23 (0, 0))).alloc (.cells #[.slice none 0 0] 24 (0, 0))) = W0) := ⟨_, Lib.hid rfl⟩
  have HZ0 : Hid (Zs w W0 none 0 0 [] none 0 0 []) := by show Zs _ _ _ _ _ _ _ _ _ _; rw [← hW0.out]; exact Zs.new w
  have HR0 : Hid (Rd W0 (some ⟨b, o, none⟩) l) := hr.below HZ0.out.bel
  have hbl := World.block_lt_of_cell? _ _ h0
  have hc0 : W0.cell? ⟨b, o, none⟩ = some (.int .u8 6) := (HZ0.out.bel.cell (p := ⟨b, o, none⟩) hbl).trans h0
  have hc0' : ((w.alloc (.cells #[.slice none 0 0] 23 (0, 0))).alloc (.cells #[.slice none 0 0] 24 (0, 0))).cell? ⟨b, o, none⟩ = some (.int .u8 6) := by rw [hW0.out]; exact hc0
  have hn0 : ((n : Int) == 0) = false := by simp; omega
  have hn1 : (0 : Int) < (n : Int) := by omega
  clear hr h0 hbl
  go_enter Try.func12, Try.ntmps12
  go_wp2_with fail
  rw [hW0.out]
  refine (ccr b o n c l W0 HR0.out hn hnc hc2 h1 hn2).mono ?_
  clear hc0'
  rintro e w1 ⟨he, z1, rfl⟩
  rcases he with ⟨hP, rfl⟩ | ⟨v1, bs, k, s, A, c', hP, rfl, HS, HRD, sc1, sc2, HZN, sl1, ⟨p1, q1⟩⟩
  all_goals have HP := Lib.hid hP; clear hP
  · have HZ1 := Lib.hid (HZ0.out.drewN z1)
    have HRD : Hid (Rd (W0.drewN z1) none []) := Rd.nil _ _
    have hv1 := HZ1.out.b0
    have HV1 := Lib.hid ((heap_alloc_old (W0.drewN z1) (.cells (flat EI [0]).toArray 2 (0, 0)) (cell_in hv1)).trans hv1)
    clear hv1
    go_wp2_with fail
    refine (zfv w.heap.size _ 1 1 (.slice none 0 0) _ (by exact HV1.out)).mono ?_
    rintro e w2 ⟨rfl, hw2⟩
    have HZ2 : Hid (Zs w w2 (some ⟨W0.heap.size, 0, none⟩) 1 1 [0] none 0 0 []) := by show Zs _ _ _ _ _ _ _ _ _ _; rw [hw2]; exact HZ1.out.setv [0] 1 rfl (by omega)
    have HRD : Hid (Rd w2 none []) := by show Rd _ _ _; rw [hw2]; exact HZ1.out.rdv [0] _ HRD.out
    clear hw2 HV1
    have HZd := Lib.hid (HZ2.out.below ((Below.refl _ _).alloc (Nat.le_refl _) (.cells (flat EB [(none, 0, 0)]).toArray 22 (0, 0))))
    have hsz : Hid (w.heap.size + 2 ≤ w2.heap.size) := HZ2.out.size
    go_wp2_with fail
    refine (zfd (w.heap.size + 1) (some ⟨w2.heap.size, 0, none⟩) 1 1 [(none, 0, 0)] [[]] _ (by exact HZd.out.b1) (by exact RdE.new (E := EB) w2 [(none, 0, 0)] 22) (fun a ha => by obtain rfl : (⟨w2.heap.size, 0, none⟩ : Addr) = a := (by simpa using ha); have := hsz.out; show _ ≠ _; simp only [World.drewN] at *; omega) rfl (Rts.one ⟨HRD.out.alloc _, rfl, Nat.le_refl _, by simp, (fun _ => rfl)⟩) (by omega) (fun x hx => by obtain rfl : x = [] := (by simpa using hx); simp)).mono ?_
    rintro e w3 ⟨D', ts, rfl, H3⟩
    obtain ⟨AD, cD, hz3⟩ := HZd.out.setd H3.out.1 H3.out.2 (nD := 1) H3.out.1.rts.1
    have HZ3 := Lib.hid hz3
    clear hz3 H3
    obtain ⟨⟨c0, c1⟩, f0, f1⟩ := HZ3.out.cells
    go_wp2_with fail
    obtain ⟨w9, h9, e0, e1, HB9⟩ := HZ3.out.clr
    rw [h9.out]
    clear c0 c1 f0 f1
    refine bodyPost_ret (v := .tuple #[.slice none 0 0, .slice none 0 0, .int .i64 (-1)]) (by simp [results, Try.results12, go_sem, e0, e1]) rfl ?_
    exact ⟨HB9.out, .inl ⟨HP.out, rfl⟩⟩
  · have HZ1 := Lib.hid (HZ0.out.drewN z1)
    have hv1 := HZ1.out.b0
    have HV1 := Lib.hid ((heap_alloc_old (W0.drewN z1) (.cells (flat EI [v1]).toArray 2 (0, 0)) (cell_in hv1)).trans hv1)
    clear hv1
    go_wp2_with fail
    refine (zfv w.heap.size _ 1 1 (.slice none 0 0) _ (by exact HV1.out)).mono ?_
    rintro e w2 ⟨rfl, hw2⟩
    have HZ2 : Hid (Zs w w2 (some ⟨W0.heap.size, 0, none⟩) 1 1 [v1] none 0 0 []) := by show Zs _ _ _ _ _ _ _ _ _ _; rw [hw2]; exact HZ1.out.setv [v1] 1 rfl (by omega)
    have HRD : Hid (Rd w2 A bs) := by show Rd _ _ _; rw [hw2]; exact HZ1.out.rdv [v1] _ HRD.out
    clear hw2 HV1
    have HZd := Lib.hid (HZ2.out.below ((Below.refl _ _).alloc (Nat.le_refl _) (.cells (flat EB [(A, s, c')]).toArray 22 (0, 0))))
    have hsz : Hid (w.heap.size + 2 ≤ w2.heap.size) := HZ2.out.size
    go_wp2_with fail
    refine (zfd (w.heap.size + 1) (some ⟨w2.heap.size, 0, none⟩) 1 1 [(A, s, c')] [bs] _ (by exact HZd.out.b1) (by exact RdE.new (E := EB) w2 [(A, s, c')] 22) (fun a ha => by obtain rfl : (⟨w2.heap.size, 0, none⟩ : Addr) = a := (by simpa using ha); have := hsz.out; show _ ≠ _; simp only [World.drewN] at *; omega) rfl (Rts.one ⟨HRD.out.alloc _, HS.out, sc1, sc2, HZN.out⟩) (by omega) (fun x hx => by obtain rfl : x = bs := (by simpa using hx); rw [HS.out]; rw [hn.out] at sl1; omega)).mono ?_
    rintro e w3 ⟨D', ts, rfl, H3⟩
    obtain ⟨AD, cD, hz3⟩ := HZd.out.setd H3.out.1 H3.out.2 (nD := 1) H3.out.1.rts.1
    have HZ3 := Lib.hid hz3
    clear hz3 H3
    obtain ⟨⟨c0, c1⟩, f0, f1⟩ := HZ3.out.cells
    go_wp2_with fail
    have HZ9 := Lib.hid (HZ3.out.drewN 1)
    have hs0 := setCell_self HZ3.out.b0
    have hs1 := setCell_self HZ3.out.b1
    go_region_held3 (fun w' => (w'.cell? ⟨w.heap.size, 0, none⟩ = some (.slice (some ⟨W0.heap.size, 0, none⟩) 1 1) ∧ w'.cell? ⟨w.heap.size + 1, 0, none⟩ = some (.slice AD 1 cD)) ∧ w'.frozen? ⟨w.heap.size, 0, none⟩ = false ∧ w'.frozen? ⟨w.heap.size + 1, 0, none⟩ = false) (first | exact ⟨⟨c0, c1⟩, f0, f1⟩ | (simp only [hs0, hs1]; exact ⟨⟨c0, c1⟩, f0, f1⟩) | go_keep) (fail)
    go_wp2_with fail
    clear f0 f1 hs0 hs1
    refine bodyPost_ret (v := .tuple #[.slice (some ⟨W0.heap.size, 0, none⟩) 1 1, .slice AD 1 cD, .int .i64 ((k : Nat) : Int)]) (by simp [results, Try.results12, go_sem, c0, c1]) rfl ?_
    exact ⟨HZ9.out.bel, .inr ⟨[v1], [bs], k, _, 1, _, _, 1, _, HP.out, rfl, rfl, by omega, HZ9.out.rv, rfl, by omega, HZ9.out.rd⟩⟩

set_option maxRecDepth 100000 in
set_option maxHeartbeats 4000000 in
theorem zf7 (b o n c : Nat) (l : List Int) (w : World) (hr : Rd w (some ⟨b, o, none⟩) l) (hn : Hid (l.length = n)) (hnc : n ≤ c) (hc2 : c ≤ 9223372036854775807) (h1 : 1 ≤ n) (hn2 : n ≤ 4294967295) (h0 : w.cell? ⟨b, o, none⟩ = some (.int .u8 7)) :
    Calls Try.prog 12 #[.slice (some ⟨b, o, none⟩) n c] w fun e w' => ZfEnd w (Ptk l) e w' := by
  obtain ⟨W0, hW0⟩ : ∃ W0, Hid (((w.alloc (.cells #[.slice none 0 0] 23 (0, 0))).alloc (.cells #[.slice none 0 0] 24 (0, 0))) = W0) := ⟨_, Lib.hid rfl⟩
  have HZ0 : Hid (Zs w W0 none 0 0 [] none 0 0 []) := by show Zs _ _ _ _ _ _ _ _ _ _; rw [← hW0.out]; exact Zs.new w
  have HR0 : Hid (Rd W0 (some ⟨b, o, none⟩) l) := hr.below HZ0.out.bel
  have hbl := World.block_lt_of_cell? _ _ h0
  have hc0 : W0.cell? ⟨b, o, none⟩ = some (.int .u8 7) := (HZ0.out.bel.cell (p := ⟨b, o, none⟩) hbl).trans h0
  have hc0' : ((w.alloc (.cells #[.slice none 0 0] 23 (0, 0))).alloc (.cells #[.slice none 0 0] 24 (0, 0))).cell? ⟨b, o, none⟩ = some (.int .u8 7) := by rw [hW0.out]; exact hc0
  have hn0 : ((n : Int) == 0) = false := by simp; omega
  have hn1 : (0 : Int) < (n : Int) := by omega
  clear hr h0 hbl
  go_enter Try.func12, Try.ntmps12
  go_wp2_with fail
  rw [hW0.out]
  refine (ctk b o n c l W0 HR0.out hn hnc hc2 h1 hn2).mono ?_
  clear hc0'
  rintro e w1 ⟨he, z1, rfl⟩
  rcases he with ⟨hP, rfl⟩ | ⟨bs, k, s, A, c', hP, rfl, HS, HRD, sc1, sc2, HZN, sl1, s1⟩
  all_goals have HP := Lib.hid hP; clear hP
  · have HZ1 := Lib.hid (HZ0.out.drewN z1)
    have HRD : Hid (Rd (W0.drewN z1) none []) := Rd.nil _ _
    have HZd := Lib.hid (HZ1.out.below ((Below.refl _ _).alloc (Nat.le_refl _) (.cells (flat EB [(none, 0, 0)]).toArray 22 (0, 0))))
    have hsz : Hid (w.heap.size + 2 ≤ (W0.drewN z1).heap.size) := HZ1.out.size
    go_wp2_with fail
    refine (zfd (w.heap.size + 1) (some ⟨(W0.drewN z1).heap.size, 0, none⟩) 1 1 [(none, 0, 0)] [[]] _ (by exact HZd.out.b1) (by exact RdE.new (E := EB) (W0.drewN z1) [(none, 0, 0)] 22) (fun a ha => by obtain rfl : (⟨(W0.drewN z1).heap.size, 0, none⟩ : Addr) = a := (by simpa using ha); have := hsz.out; show _ ≠ _; simp only [World.drewN] at *; omega) rfl (Rts.one ⟨HRD.out.alloc _, rfl, Nat.le_refl _, by simp, (fun _ => rfl)⟩) (by omega) (fun x hx => by obtain rfl : x = [] := (by simpa using hx); simp)).mono ?_
    rintro e w3 ⟨D', ts, rfl, H3⟩
    obtain ⟨AD, cD, hz3⟩ := HZd.out.setd H3.out.1 H3.out.2 (nD := 1) H3.out.1.rts.1
    have HZ3 := Lib.hid hz3
    clear hz3 H3
    obtain ⟨⟨c0, c1⟩, f0, f1⟩ := HZ3.out.cells
    go_wp2_with fail
    obtain ⟨w9, h9, e0, e1, HB9⟩ := HZ3.out.clr
    rw [h9.out]
    clear c0 c1 f0 f1
    refine bodyPost_ret (v := .tuple #[.slice none 0 0, .slice none 0 0, .int .i64 (-1)]) (by simp [results, Try.results12, go_sem, e0, e1]) rfl ?_
    exact ⟨HB9.out, .inl ⟨HP.out, rfl⟩⟩
  · have HZ1 := Lib.hid (HZ0.out.drewN z1)
    have HZd := Lib.hid (HZ1.out.below ((Below.refl _ _).alloc (Nat.le_refl _) (.cells (flat EB [(A, s, c')]).toArray 22 (0, 0))))
    have hsz : Hid (w.heap.size + 2 ≤ (W0.drewN z1).heap.size) := HZ1.out.size
    go_wp2_with fail
    refine (zfd (w.heap.size + 1) (some ⟨(W0.drewN z1).heap.size, 0, none⟩) 1 1 [(A, s, c')] [bs] _ (by exact HZd.out.b1) (by exact RdE.new (E := EB) (W0.drewN z1) [(A, s, c')] 22) (fun a ha => by obtain rfl : (⟨(W0.drewN z1).heap.size, 0, none⟩ : Addr) = a := (by simpa using ha); have := hsz.out; show _ ≠ _; simp only [World.drewN] at *; omega) rfl (Rts.one ⟨HRD.out.alloc _, HS.out, sc1, sc2, HZN.out⟩) (by omega) (fun x hx => by obtain rfl : x = bs := (by simpa using hx); rw [HS.out]; rw [hn.out] at sl1; omega)).mono ?_
    rintro e w3 ⟨D', ts, rfl, H3⟩
    obtain ⟨AD, cD, hz3⟩ := HZd.out.setd H3.out.1 H3.out.2 (nD := 1) H3.out.1.rts.1
    have HZ3 := Lib.hid hz3
    clear hz3 H3
    obtain ⟨⟨c0, c1⟩, f0, f1⟩ := HZ3.out.cells
    go_wp2_with fail
    have HZ9 := Lib.hid (HZ3.out.drewN 1)
    have hs0 := setCell_self HZ3.out.b0
    have hs1 := setCell_self HZ3.out.b1
    go_region_held3 (fun w' => (w'.cell? ⟨w.heap.size, 0, none⟩ = some (.slice none 0 0) ∧ w'.cell? ⟨w.heap.size + 1, 0, none⟩ = some (.slice AD 1 cD)) ∧ w'.frozen? ⟨w.heap.size, 0, none⟩ = false ∧ w'.frozen? ⟨w.heap.size + 1, 0, none⟩ = false) (first | exact ⟨⟨c0, c1⟩, f0, f1⟩ | (simp only [hs0, hs1]; exact ⟨⟨c0, c1⟩, f0, f1⟩) | go_keep) (fail)
    go_wp2_with fail
    clear f0 f1 hs0 hs1
    refine bodyPost_ret (v := .tuple #[.slice none 0 0, .slice AD 1 cD, .int .i64 ((k : Nat) : Int)]) (by simp [results, Try.results12, go_sem, c0, c1]) rfl ?_
    exact ⟨HZ9.out.bel, .inr ⟨[], [bs], k, _, 0, _, _, 1, _, HP.out, rfl, rfl, by omega, HZ9.out.rv, rfl, by omega, HZ9.out.rd⟩⟩

end Go.Proofs.Ytggcnepdeaijoaa

/- The walk of ZZFrame, frames of streams. Conditions: the slice reads as bytes; its first byte is told. -/
import Derived.Test.YtggcnepdeaijoaaZFs
import Derived.Test.YtggcnepdeaijoaaConsS
import Derived.Deep.RegionHeld3
import Derived.BigQuiet
namespace Go.Proofs.Ytggcnepdeaijoaa
open Go.RowKit
set_option linter.unusedVariables false
set_option linter.unusedSimpArgs false

set_option maxRecDepth 100000 in
set_option maxHeartbeats 4000000 in
theorem zf8 (b o n c : Nat) (l : List Int) (w : World) (hr : Rd w (some ⟨b, o, none⟩) l) (hn : Hid (l.length = n)) (hnc : n ≤ c) (hc2 : c ≤ 9223372036854775807) (h1 : 1 ≤ n) (hn2 : n ≤ 4294967295) (h0 : w.cell? ⟨b, o, none⟩ = some (.int .u8 8)) :
    Calls Try.prog 12 #[.slice (some ⟨b, o, none⟩) n c] w fun e w' => ZfEnd w (Pst 8 l) e w' := by
  obtain ⟨W0, hW0⟩ : ∃ W0, Hid (((w.alloc (.cells #[.slice none 0 0] 23 (0, 0))).alloc (.cells #[.slice none 0 0] 24 (0, 0))) = W0) := ⟨_, Lib.hid rfl⟩
  have HZ0 : Hid (Zs w W0 none 0 0 [] none 0 0 []) := by show Zs _ _ _ _ _ _ _ _ _ _; rw [← hW0.out]; exact Zs.new w
  have HR0 : Hid (Rd W0 (some ⟨b, o, none⟩) l) := hr.below HZ0.out.bel
  have hbl := World.block_lt_of_cell? _ _ h0
  have hc0 : W0.cell? ⟨b, o, none⟩ = some (.int .u8 8) := (HZ0.out.bel.cell (p := ⟨b, o, none⟩) hbl).trans h0
  have hc0' : ((w.alloc (.cells #[.slice none 0 0] 23 (0, 0))).alloc (.cells #[.slice none 0 0] 24 (0, 0))).cell? ⟨b, o, none⟩ = some (.int .u8 8) := by rw [hW0.out]; exact hc0
  have hn0 : ((n : Int) == 0) = false := by simp; omega
  have hn1 : (0 : Int) < (n : Int) := by omega
  clear hr h0 hbl
  go_enter Try.func12, Try.ntmps12
  go_wp2_with fail
  rw [hW0.out]
  refine (cst8 b o n c l W0 HR0.out hn hnc hc2 h1 hn2 hc0).mono ?_
  clear hc0'
  rintro e w1 ⟨he, z1, rfl⟩
  rcases he with ⟨hP, rfl⟩ | ⟨v1, bs, k, s, A, c', hP, rfl, HS, HRD, sc1, sc2, HZN, sl1, ⟨p1, q1⟩⟩
  all_goals have HP := Lib.hid hP; clear hP
  · have HZ1 := Lib.hid (HZ0.out.drewN z1)
    have HRD : Hid (Rd (W0.drewN z1) none []) := Rd.nil _ _
    have hv1 := HZ1.out.b0
    have HV1 := Lib.hid ((heap_alloc_old (W0.drewN z1) (.cells (flat EI [0, 0, 0]).toArray 2 (0, 0)) (cell_in hv1)).trans hv1)
    clear hv1
    go_wp2_with fail
    refine (zfv w.heap.size _ 3 3 (.slice none 0 0) _ (by exact HV1.out)).mono ?_
    rintro e w2 ⟨rfl, hw2⟩
    have HZ2 : Hid (Zs w w2 (some ⟨W0.heap.size, 0, none⟩) 3 3 [0, 0, 0] none 0 0 []) := by show Zs _ _ _ _ _ _ _ _ _ _; rw [hw2]; exact HZ1.out.setv [0, 0, 0] 3 rfl (by omega)
    have HRD : Hid (Rd w2 none []) := by show Rd _ _ _; rw [hw2]; exact HZ1.out.rdv [0, 0, 0] _ HRD.out
    clear hw2 HV1
    have HZd := Lib.hid (HZ2.out.below ((Below.refl _ _).alloc (Nat.le_refl _) (.cells (flat EB [(none, 0, 0)]).toArray 22 (0, 0))))
    have hsz : Hid (w.heap.size + 2 ≤ w2.heap.size) := HZ2.out.size
    go_wp2_with fail
    refine (zfd (w.heap.size + 1) (some ⟨w2.heap.size, 0, none⟩) 1 1 [(none, 0, 0)] [[]] _ (by exact HZd.out.b1) (by exact RdE.new (E := EB) w2 [(none, 0, 0)] 22) (fun a ha => by obtain rfl : (⟨w2.heap.size, 0, none⟩ : Addr) = a := (by simpa using ha); have := hsz.out; show _ ≠ _; simp only [World.drewN] at *; omega) rfl (Rts.one ⟨HRD.out.alloc _, rfl, Nat.le_refl _, by simp, (fun _ => rfl)⟩) (by omega) (fun x hx => by obtain rfl : x = [] := (by simpa using hx); simp)).mono ?_
    rintro e w3 ⟨D', ts, rfl, H3⟩
    obtain ⟨AD, cD, hz3⟩ := HZd.out.setd H3.out.1 H3.out.2 (nD := 1) H3.out.1.rts.1
    have HZ3 := Lib.hid hz3
    clear hz3 H3
    obtain ⟨⟨c0, c1⟩, f0, f1⟩ := HZ3.out.cells
    go_wp2_with fail
    obtain ⟨w9, h9, e0, e1, HB9⟩ := HZ3.out.clr
    rw [h9.out]
    clear c0 c1 f0 f1
    refine bodyPost_ret (v := .tuple #[.slice none 0 0, .slice none 0 0, .int .i64 (-1)]) (by simp [results, Try.results12, go_sem, e0, e1]) rfl ?_
    exact ⟨HB9.out, .inl ⟨HP.out, rfl⟩⟩
  · have HZ1 := Lib.hid (HZ0.out.drewN z1)
    have hv1 := HZ1.out.b0
    have HV1 := Lib.hid ((heap_alloc_old (W0.drewN z1) (.cells (flat EI [v1, 0, 0]).toArray 2 (0, 0)) (cell_in hv1)).trans hv1)
    clear hv1
    go_wp2_with fail
    refine (zfv w.heap.size _ 3 3 (.slice none 0 0) _ (by exact HV1.out)).mono ?_
    rintro e w2 ⟨rfl, hw2⟩
    have HZ2 : Hid (Zs w w2 (some ⟨W0.heap.size, 0, none⟩) 3 3 [v1, 0, 0] none 0 0 []) := by show Zs _ _ _ _ _ _ _ _ _ _; rw [hw2]; exact HZ1.out.setv [v1, 0, 0] 3 rfl (by omega)
    have HRD : Hid (Rd w2 A bs) := by show Rd _ _ _; rw [hw2]; exact HZ1.out.rdv [v1, 0, 0] _ HRD.out
    clear hw2 HV1
    have HZd := Lib.hid (HZ2.out.below ((Below.refl _ _).alloc (Nat.le_refl _) (.cells (flat EB [(A, s, c')]).toArray 22 (0, 0))))
    have hsz : Hid (w.heap.size + 2 ≤ w2.heap.size) := HZ2.out.size
    go_wp2_with fail
    refine (zfd (w.heap.size + 1) (some ⟨w2.heap.size, 0, none⟩) 1 1 [(A, s, c')] [bs] _ (by exact HZd.out.b1) (by exact RdE.new (E := EB) w2 [(A, s, c')] 22) (fun a ha => by obtain rfl : (⟨w2.heap.size, 0, none⟩ : Addr) = a := (by simpa using ha); have := hsz.out; show _ ≠ _; simp only [World.drewN] at *; omega) rfl (Rts.one ⟨HRD.out.alloc _, HS.out, sc1, sc2, HZN.out⟩) (by omega) (fun x hx => by obtain rfl : x = bs := (by simpa using hx); rw [HS.out]; rw [hn.out] at sl1; omega)).mono ?_
    rintro e w3 ⟨D', ts, rfl, H3⟩
    obtain ⟨AD, cD, hz3⟩ := HZd.out.setd H3.out.1 H3.out.2 (nD := 1) H3.out.1.rts.1
    have HZ3 := Lib.hid hz3
    clear hz3 H3
    obtain ⟨⟨c0, c1⟩, f0, f1⟩ := HZ3.out.cells
    go_wp2_with fail
    have HZ9 := Lib.hid (HZ3.out.drewN 1)
    have hs0 := setCell_self HZ3.out.b0
    have hs1 := setCell_self HZ3.out.b1
    go_region_held3 (fun w' => (w'.cell? ⟨w.heap.size, 0, none⟩ = some (.slice (some ⟨W0.heap.size, 0, none⟩) 3 3) ∧ w'.cell? ⟨w.heap.size + 1, 0, none⟩ = some (.slice AD 1 cD)) ∧ w'.frozen? ⟨w.heap.size, 0, none⟩ = false ∧ w'.frozen? ⟨w.heap.size + 1, 0, none⟩ = false) (first | exact ⟨⟨c0, c1⟩, f0, f1⟩ | (simp only [hs0, hs1]; exact ⟨⟨c0, c1⟩, f0, f1⟩) | go_keep) (fail)
    go_wp2_with fail
    clear f0 f1 hs0 hs1
    refine bodyPost_ret (v := .tuple #[.slice (some ⟨W0.heap.size, 0, none⟩) 3 3, .slice AD 1 cD, .int .i64 ((k : Nat) : Int)]) (by simp [results, Try.results12, go_sem, c0, c1]) rfl ?_
    exact ⟨HZ9.out.bel, .inr ⟨[v1, 0, 0], [bs], k, _, 3, _, _, 1, _, HP.out, rfl, rfl, by omega, HZ9.out.rv, rfl, by omega, HZ9.out.rd⟩⟩

set_option maxRecDepth 100000 in
set_option maxHeartbeats 4000000 in
theorem zf9 (b o n c : Nat) (l : List Int) (w : World) (hr : Rd w (some ⟨b, o, none⟩) l) (hn : Hid (l.length = n)) (hnc : n ≤ c) (hc2 : c ≤ 9223372036854775807) (h1 : 1 ≤ n) (hn2 : n ≤ 4294967295) (h0 : w.cell? ⟨b, o, none⟩ = some (.int .u8 9)) :
    Calls Try.prog 12 #[.slice (some ⟨b, o, none⟩) n c] w fun e w' => ZfEnd w (Pst 9 l) e w' := by
  obtain ⟨W0, hW0⟩ : ∃ W0, Hid (((w.alloc (.cells #[.slice none 0 0] 23 (0, 0))).alloc (.cells #[.slice none 0 0] 24 (0, 0))) = W0) := ⟨_, Lib.hid rfl⟩
  have HZ0 : Hid (Zs w W0 none 0 0 [] none 0 0 []) := by show Zs _ _ _ _ _ _ _ _ _ _; rw [← hW0.out]; exact Zs.new w
  have HR0 : Hid (Rd W0 (some ⟨b, o, none⟩) l) := hr.below HZ0.out.bel
  have hbl := World.block_lt_of_cell? _ _ h0
  have hc0 : W0.cell? ⟨b, o, none⟩ = some (.int .u8 9) := (HZ0.out.bel.cell (p := ⟨b, o, none⟩) hbl).trans h0
  have hc0' : ((w.alloc (.cells #[.slice none 0 0] 23 (0, 0))).alloc (.cells #[.slice none 0 0] 24 (0, 0))).cell? ⟨b, o, none⟩ = some (.int .u8 9) := by rw [hW0.out]; exact hc0
  have hn0 : ((n : Int) == 0) = false := by simp; omega
  have hn1 : (0 : Int) < (n : Int) := by omega
  clear hr h0 hbl
  go_enter Try.func12, Try.ntmps12
  go_wp2_with fail
  rw [hW0.out]
  refine (cst9 b o n c l W0 HR0.out hn hnc hc2 h1 hn2 hc0).mono ?_
  clear hc0'
  rintro e w1 ⟨he, z1, rfl⟩
  rcases he with ⟨hP, rfl⟩ | ⟨v1, bs, k, s, A, c', hP, rfl, HS, HRD, sc1, sc2, HZN, sl1, ⟨p1, q1⟩⟩
  all_goals have HP := Lib.hid hP; clear hP
  · have HZ1 := Lib.hid (HZ0.out.drewN z1)
    have HRD : Hid (Rd (W0.drewN z1) none []) := Rd.nil _ _
    have hv1 := HZ1.out.b0
    have HV1 := Lib.hid ((heap_alloc_old (W0.drewN z1) (.cells (flat EI [0, 0, 0]).toArray 2 (0, 0)) (cell_in hv1)).trans hv1)
    clear hv1
    go_wp2_with fail
    refine (zfv w.heap.size _ 3 3 (.slice none 0 0) _ (by exact HV1.out)).mono ?_
    rintro e w2 ⟨rfl, hw2⟩
    have HZ2 : Hid (Zs w w2 (some ⟨W0.heap.size, 0, none⟩) 3 3 [0, 0, 0] none 0 0 []) := by show Zs _ _ _ _ _ _ _ _ _ _; rw [hw2]; exact HZ1.out.setv [0, 0, 0] 3 rfl (by omega)
    have HRD : Hid (Rd w2 none []) := by show Rd _ _ _; rw [hw2]; exact HZ1.out.rdv [0, 0, 0] _ HRD.out
    clear hw2 HV1
    have HZd := Lib.hid (HZ2.out.below ((Below.refl _ _).alloc (Nat.le_refl _) (.cells (flat EB [(none, 0, 0)]).toArray 22 (0, 0))))
    have hsz : Hid (w.heap.size + 2 ≤ w2.heap.size) := HZ2.out.size
    go_wp2_with fail
    refine (zfd (w.heap.size + 1) (some ⟨w2.heap.size, 0, none⟩) 1 1 [(none, 0, 0)] [[]] _ (by exact HZd.out.b1) (by exact RdE.new (E := EB) w2 [(none, 0, 0)] 22) (fun a ha => by obtain rfl : (⟨w2.heap.size, 0, none⟩ : Addr) = a := (by simpa using ha); have := hsz.out; show _ ≠ _; simp only [World.drewN] at *; omega) rfl (Rts.one ⟨HRD.out.alloc _, rfl, Nat.le_refl _, by simp, (fun _ => rfl)⟩) (by omega) (fun x hx => by obtain rfl : x = [] := (by simpa using hx); simp)).mono ?_
    rintro e w3 ⟨D', ts, rfl, H3⟩
    obtain ⟨AD, cD, hz3⟩ := HZd.out.setd H3.out.1 H3.out.2 (nD := 1) H3.out.1.rts.1
    have HZ3 := Lib.hid hz3
    clear hz3 H3
    obtain ⟨⟨c0, c1⟩, f0, f1⟩ := HZ3.out.cells
    go_wp2_with fail
    obtain ⟨w9, h9, e0, e1, HB9⟩ := HZ3.out.clr
    rw [h9.out]
    clear c0 c1 f0 f1
    refine bodyPost_ret (v := .tuple #[.slice none 0 0, .slice none 0 0, .int .i64 (-1)]) (by simp [results, Try.results12, go_sem, e0, e1]) rfl ?_
    exact ⟨HB9.out, .inl ⟨HP.out, rfl⟩⟩
  · have HZ1 := Lib.hid (HZ0.out.drewN z1)
    have hv1 := HZ1.out.b0
    have HV1 := Lib.hid ((heap_alloc_old (W0.drewN z1) (.cells (flat EI [v1, 0, 1]).toArray 2 (0, 0)) (cell_in hv1)).trans hv1)
    clear hv1
    go_wp2_with fail
    refine (zfv w.heap.size _ 3 3 (.slice none 0 0) _ (by exact HV1.out)).mono ?_
    rintro e w2 ⟨rfl, hw2⟩
    have HZ2 : Hid (Zs w w2 (some ⟨W0.heap.size, 0, none⟩) 3 3 [v1, 0, 1] none 0 0 []) := by show Zs _ _ _ _ _ _ _ _ _ _; rw [hw2]; exact HZ1.out.setv [v1, 0, 1] 3 rfl (by omega)
    have HRD : Hid (Rd w2 A bs) := by show Rd _ _ _; rw [hw2]; exact HZ1.out.rdv [v1, 0, 1] _ HRD.out
    clear hw2 HV1
    have HZd := Lib.hid (HZ2.out.below ((Below.refl _ _).alloc (Nat.le_refl _) (.cells (flat EB [(A, s, c')]).toArray 22 (0, 0))))
    have hsz : Hid (w.heap.size + 2 ≤ w2.heap.size) := HZ2.out.size
    go_wp2_with fail
    refine (zfd (w.heap.size + 1) (some ⟨w2.heap.size, 0, none⟩) 1 1 [(A, s, c')] [bs] _ (by exact HZd.out.b1) (by exact RdE.new (E := EB) w2 [(A, s, c')] 22) (fun a ha => by obtain rfl : (⟨w2.heap.size, 0, none⟩ : Addr) = a := (by simpa using ha); have := hsz.out; show _ ≠ _; simp only [World.drewN] at *; omega) rfl (Rts.one ⟨HRD.out.alloc _, HS.out, sc1, sc2, HZN.out⟩) (by omega) (fun x hx => by obtain rfl : x = bs := (by simpa using hx); rw [HS.out]; rw [hn.out] at sl1; omega)).mono ?_
    rintro e w3 ⟨D', ts, rfl, H3⟩
    obtain ⟨AD, cD, hz3⟩ := HZd.out.setd H3.out.1 H3.out.2 (nD := 1) H3.out.1.rts.1
    have HZ3 := Lib.hid hz3
    clear hz3 H3
    obtain ⟨⟨c0, c1⟩, f0, f1⟩ := HZ3.out.cells
    go_wp2_with fail
    have HZ9 := Lib.hid (HZ3.out.drewN 1)
    have hs0 := setCell_self HZ3.out.b0
    have hs1 := setCell_self HZ3.out.b1
    go_region_held3 (fun w' => (w'.cell? ⟨w.heap.size, 0, none⟩ = some (.slice (some ⟨W0.heap.size, 0, none⟩) 3 3) ∧ w'.cell? ⟨w.heap.size + 1, 0, none⟩ = some (.slice AD 1 cD)) ∧ w'.frozen? ⟨w.heap.size, 0, none⟩ = false ∧ w'.frozen? ⟨w.heap.size + 1, 0, none⟩ = false) (first | exact ⟨⟨c0, c1⟩, f0, f1⟩ | (simp only [hs0, hs1]; exact ⟨⟨c0, c1⟩, f0, f1⟩) | go_keep) (fail)
    go_wp2_with fail
    clear f0 f1 hs0 hs1
    refine bodyPost_ret (v := .tuple #[.slice (some ⟨W0.heap.size, 0, none⟩) 3 3, .slice AD 1 cD, .int .i64 ((k : Nat) : Int)]) (by simp [results, Try.results12, go_sem, c0, c1]) rfl ?_
    exact ⟨HZ9.out.bel, .inr ⟨[v1, 0, 1], [bs], k, _, 3, _, _, 1, _, HP.out, rfl, rfl, by omega, HZ9.out.rv, rfl, by omega, HZ9.out.rd⟩⟩

set_option maxRecDepth 100000 in
set_option maxHeartbeats 4000000 in
theorem zf10 (b o n c : Nat) (l : List Int) (w : World) (hr : Rd w (some ⟨b, o, none⟩) l) (hn : Hid (l.length = n)) (hnc : n ≤ c) (hc2 : c ≤ 9223372036854775807) (h1 : 1 ≤ n) (hn2 : n ≤ 4294967295) (h0 : w.cell? ⟨b, o, none⟩ = some (.int .u8 10)) :
    Calls Try.prog 12 #[.slice (some ⟨b, o, none⟩) n c] w fun e w' => ZfEnd w (Pst 10 l) e w' := by
  obtain ⟨W0, hW0⟩ : ∃ W0, Hid (((w.alloc (.cells #[.slice none 0 0] 23 (0, 0))).alloc (.cells #[.slice none 0 0] 24 (0, 0))) = W0) := ⟨_, Lib.hid rfl⟩
  have HZ0 : Hid (Zs w W0 none 0 0 [] none 0 0 []) := by show Zs _ _ _ _ _ _ _ _ _ _; rw [← hW0.out]; exact Zs.new w
  have HR0 : Hid (Rd W0 (some ⟨b, o, none⟩) l) := hr.below HZ0.out.bel
  have hbl := World.block_lt_of_cell? _ _ h0
  have hc0 : W0.cell? ⟨b, o, none⟩ = some (.int .u8 10) := (HZ0.out.bel.cell (p := ⟨b, o, none⟩) hbl).trans h0
  have hc0' : ((w.alloc (.cells #[.slice none 0 0] 23 (0, 0))).alloc (.cells #[.slice none 0 0] 24 (0, 0))).cell? ⟨b, o, none⟩ = some (.int .u8 10) := by rw [hW0.out]; exact hc0
  have hn0 : ((n : Int) == 0) = false := by simp; omega
  have hn1 : (0 : Int) < (n : Int) := by omega
  clear hr h0 hbl
  go_enter Try.func12, Try.ntmps12
  go_wp2_with fail
  rw [hW0.out]
  refine (cst10 b o n c l W0 HR0.out hn hnc hc2 h1 hn2 hc0).mono ?_
  clear hc0'
  rintro e w1 ⟨he, z1, rfl⟩
  rcases he with ⟨hP, rfl⟩ | ⟨v1, bs, k, s, A, c', hP, rfl, HS, HRD, sc1, sc2, HZN, sl1, ⟨p1, q1⟩⟩
  all_goals have HP := Lib.hid hP; clear hP
  · have HZ1 := Lib.hid (HZ0.out.drewN z1)
    have HRD : Hid (Rd (W0.drewN z1) none []) := Rd.nil _ _
    have hv1 := HZ1.out.b0
    have HV1 := Lib.hid ((heap_alloc_old (W0.drewN z1) (.cells (flat EI [0, 0, 0]).toArray 2 (0, 0)) (cell_in hv1)).trans hv1)
    clear hv1
    go_wp2_with fail
    refine (zfv w.heap.size _ 3 3 (.slice none 0 0) _ (by exact HV1.out)).mono ?_
    rintro e w2 ⟨rfl, hw2⟩
    have HZ2 : Hid (Zs w w2 (some ⟨W0.heap.size, 0, none⟩) 3 3 [0, 0, 0] none 0 0 []) := by show Zs _ _ _ _ _ _ _ _ _ _; rw [hw2]; exact HZ1.out.setv [0, 0, 0] 3 rfl (by omega)
    have HRD : Hid (Rd w2 none []) := by show Rd _ _ _; rw [hw2]; exact HZ1.out.rdv [0, 0, 0] _ HRD.out
    clear hw2 HV1
    have HZd := Lib.hid (HZ2.out.below ((Below.refl _ _).alloc (Nat.le_refl _) (.cells (flat EB [(none, 0, 0)]).toArray 22 (0, 0))))
    have hsz : Hid (w.heap.size + 2 ≤ w2.heap.size) := HZ2.out.size
    go_wp2_with fail
    refine (zfd (w.heap.size + 1) (some ⟨w2.heap.size, 0, none⟩) 1 1 [(none, 0, 0)] [[]] _ (by exact HZd.out.b1) (by exact RdE.new (E := EB) w2 [(none, 0, 0)] 22) (fun a ha => by obtain rfl : (⟨w2.heap.size, 0, none⟩ : Addr) = a := (by simpa using ha); have := hsz.out; show _ ≠ _; simp only [World.drewN] at *; omega) rfl (Rts.one ⟨HRD.out.alloc _, rfl, Nat.le_refl _, by simp, (fun _ => rfl)⟩) (by omega) (fun x hx => by obtain rfl : x = [] := (by simpa using hx); simp)).mono ?_
    rintro e w3 ⟨D', ts, rfl, H3⟩
    obtain ⟨AD, cD, hz3⟩ := HZd.out.setd H3.out.1 H3.out.2 (nD := 1) H3.out.1.rts.1
    have HZ3 := Lib.hid hz3
    clear hz3 H3
    obtain ⟨⟨c0, c1⟩, f0, f1⟩ := HZ3.out.cells
    go_wp2_with fail
    obtain ⟨w9, h9, e0, e1, HB9⟩ := HZ3.out.clr
    rw [h9.out]
    clear c0 c1 f0 f1
    refine bodyPost_ret (v := .tuple #[.slice none 0 0, .slice none 0 0, .int .i64 (-1)]) (by simp [results, Try.results12, go_sem, e0, e1]) rfl ?_
    exact ⟨HB9.out, .inl ⟨HP.out, rfl⟩⟩
  · have HZ1 := Lib.hid (HZ0.out.drewN z1)
    have hv1 := HZ1.out.b0
    have HV1 := Lib.hid ((heap_alloc_old (W0.drewN z1) (.cells (flat EI [v1, 0, 0]).toArray 2 (0, 0)) (cell_in hv1)).trans hv1)
    clear hv1
    go_wp2_with fail
    refine (zfv w.heap.size _ 3 3 (.slice none 0 0) _ (by exact HV1.out)).mono ?_
    rintro e w2 ⟨rfl, hw2⟩
    have HZ2 : Hid (Zs w w2 (some ⟨W0.heap.size, 0, none⟩) 3 3 [v1, 0, 0] none 0 0 []) := by show Zs _ _ _ _ _ _ _ _ _ _; rw [hw2]; exact HZ1.out.setv [v1, 0, 0] 3 rfl (by omega)
    have HRD : Hid (Rd w2 A bs) := by show Rd _ _ _; rw [hw2]; exact HZ1.out.rdv [v1, 0, 0] _ HRD.out
    clear hw2 HV1
    have HZd := Lib.hid (HZ2.out.below ((Below.refl _ _).alloc (Nat.le_refl _) (.cells (flat EB [(A, s, c')]).toArray 22 (0, 0))))
    have hsz : Hid (w.heap.size + 2 ≤ w2.heap.size) := HZ2.out.size
    go_wp2_with fail
    refine (zfd (w.heap.size + 1) (some ⟨w2.heap.size, 0, none⟩) 1 1 [(A, s, c')] [bs] _ (by exact HZd.out.b1) (by exact RdE.new (E := EB) w2 [(A, s, c')] 22) (fun a ha => by obtain rfl : (⟨w2.heap.size, 0, none⟩ : Addr) = a := (by simpa using ha); have := hsz.out; show _ ≠ _; simp only [World.drewN] at *; omega) rfl (Rts.one ⟨HRD.out.alloc _, HS.out, sc1, sc2, HZN.out⟩) (by omega) (fun x hx => by obtain rfl : x = bs := (by simpa using hx); rw [HS.out]; rw [hn.out] at sl1; omega)).mono ?_
    rintro e w3 ⟨D', ts, rfl, H3⟩
    obtain ⟨AD, cD, hz3⟩ := HZd.out.setd H3.out.1 H3.out.2 (nD := 1) H3.out.1.rts.1
    have HZ3 := Lib.hid hz3
    clear hz3 H3
    obtain ⟨⟨c0, c1⟩, f0, f1⟩ := HZ3.out.cells
    go_wp2_with fail
    have HZ9 := Lib.hid (HZ3.out.drewN 1)
    have hs0 := setCell_self HZ3.out.b0
    have hs1 := setCell_self HZ3.out.b1
    go_region_held3 (fun w' => (w'.cell? ⟨w.heap.size, 0, none⟩ = some (.slice (some ⟨W0.heap.size, 0, none⟩) 3 3) ∧ w'.cell? ⟨w.heap.size + 1, 0, none⟩ = some (.slice AD 1 cD)) ∧ w'.frozen? ⟨w.heap.size, 0, none⟩ = false ∧ w'.frozen? ⟨w.heap.size + 1, 0, none⟩ = false) (first | exact ⟨⟨c0, c1⟩, f0, f1⟩ | (simp only [hs0, hs1]; exact ⟨⟨c0, c1⟩, f0, f1⟩) | go_keep) (fail)
    go_wp2_with fail
    clear f0 f1 hs0 hs1
    refine bodyPost_ret (v := .tuple #[.slice (some ⟨W0.heap.size, 0, none⟩) 3 3, .slice AD 1 cD, .int .i64 ((k : Nat) : Int)]) (by simp [results, Try.results12, go_sem, c0, c1]) rfl ?_
    exact ⟨HZ9.out.bel, .inr ⟨[v1, 0, 0], [bs], k, _, 3, _, _, 1, _, HP.out, rfl, rfl, by omega, HZ9.out.rv, rfl, by omega, HZ9.out.rd⟩⟩

set_option maxRecDepth 100000 in
set_option maxHeartbeats 4000000 in
theorem zf11 (b o n c : Nat) (l : List Int) (w : World) (hr : Rd w (some ⟨b, o, none⟩) l) (hn : Hid (l.length = n)) (hnc : n ≤ c) (hc2 : c ≤ 9223372036854775807) (h1 : 1 ≤ n) (hn2 : n ≤ 4294967295) (h0 : w.cell? ⟨b, o, none⟩ = some (.int .u8 11)) :
    Calls Try.prog 12 #[.slice (some ⟨b, o, none⟩) n c] w fun e w' => ZfEnd w (Pst 11 l) e w' := by
  obtain ⟨W0, hW0⟩ : ∃ W0, Hid (((w.alloc (.cells #[.slice none 0 0] 23 (0, 0))).alloc (.cells #[.slice none 0 0] 24 (0, 0))) = W0) := ⟨_, Lib.hid rfl⟩
  have HZ0 : Hid (Zs w W0 none 0 0 [] none 0 0 []) := by show Zs _ _ _ _ _ _ _ _ _ _; rw [← hW0.out]; exact Zs.new w
  have HR0 : Hid (Rd W0 (some ⟨b, o, none⟩) l) := hr.below HZ0.out.bel
  have hbl := World.block_lt_of_cell? _ _ h0
  have hc0 : W0.cell? ⟨b, o, none⟩ = some (.int .u8 11) := (HZ0.out.bel.cell (p := ⟨b, o, none⟩) hbl).trans h0
  have hc0' : ((w.alloc (.cells #[.slice none 0 0] 23 (0, 0))).alloc (.cells #[.slice none 0 0] 24 (0, 0))).cell? ⟨b, o, none⟩ = some (.int .u8 11) := by rw [hW0.out]; exact hc0
  have hn0 : ((n : Int) == 0) = false := by simp; omega
  have hn1 : (0 : Int) < (n : Int) := by omega
  clear hr h0 hbl
  go_enter Try.func12, Try.ntmps12
  go_wp2_with fail
  rw [hW0.out]
  refine (cst11 b o n c l W0 HR0.out hn hnc hc2 h1 hn2 hc0).mono ?_
  clear hc0'
  rintro e w1 ⟨he, z1, rfl⟩
  rcases he with ⟨hP, rfl⟩ | ⟨v1, bs, k, s, A, c', hP, rfl, HS, HRD, sc1, sc2, HZN, sl1, ⟨p1, q1⟩⟩
  all_goals have HP := Lib.hid hP; clear hP
  · have HZ1 := Lib.hid (HZ0.out.drewN z1)
    have HRD : Hid (Rd (W0.drewN z1) none []) := Rd.nil _ _
    have hv1 := HZ1.out.b0
    have HV1 := Lib.hid ((heap_alloc_old (W0.drewN z1) (.cells (flat EI [0, 0, 0]).toArray 2 (0, 0)) (cell_in hv1)).trans hv1)
    clear hv1
    go_wp2_with fail
    refine (zfv w.heap.size _ 3 3 (.slice none 0 0) _ (by exact HV1.out)).mono ?_
    rintro e w2 ⟨rfl, hw2⟩
    have HZ2 : Hid (Zs w w2 (some ⟨W0.heap.size, 0, none⟩) 3 3 [0, 0, 0] none 0 0 []) := by show Zs _ _ _ _ _ _ _ _ _ _; rw [hw2]; exact HZ1.out.setv [0, 0, 0] 3 rfl (by omega)
    have HRD : Hid (Rd w2 none []) := by show Rd _ _ _; rw [hw2]; exact HZ1.out.rdv [0, 0, 0] _ HRD.out
    clear hw2 HV1
    have HZd := Lib.hid (HZ2.out.below ((Below.refl _ _).alloc (Nat.le_refl _) (.cells (flat EB [(none, 0, 0)]).toArray 22 (0, 0))))
    have hsz : Hid (w.heap.size + 2 ≤ w2.heap.size) := HZ2.out.size
    go_wp2_with fail
    refine (zfd (w.heap.size + 1) (some ⟨w2.heap.size, 0, none⟩) 1 1 [(none, 0, 0)] [[]] _ (by exact HZd.out.b1) (by exact RdE.new (E := EB) w2 [(none, 0, 0)] 22) (fun a ha => by obtain rfl : (⟨w2.heap.size, 0, none⟩ : Addr) = a := (by simpa using ha); have := hsz.out; show _ ≠ _; simp only [World.drewN] at *; omega) rfl (Rts.one ⟨HRD.out.alloc _, rfl, Nat.le_refl _, by simp, (fun _ => rfl)⟩) (by omega) (fun x hx => by obtain rfl : x = [] := (by simpa using hx); simp)).mono ?_
    rintro e w3 ⟨D', ts, rfl, H3⟩
    obtain ⟨AD, cD, hz3⟩ := HZd.out.setd H3.out.1 H3.out.2 (nD := 1) H3.out.1.rts.1
    have HZ3 := Lib.hid hz3
    clear hz3 H3
    obtain ⟨⟨c0, c1⟩, f0, f1⟩ := HZ3.out.cells
    go_wp2_with fail
    obtain ⟨w9, h9, e0, e1, HB9⟩ := HZ3.out.clr
    rw [h9.out]
    clear c0 c1 f0 f1
    refine bodyPost_ret (v := .tuple #[.slice none 0 0, .slice none 0 0, .int .i64 (-1)]) (by simp [results, Try.results12, go_sem, e0, e1]) rfl ?_
    exact ⟨HB9.out, .inl ⟨HP.out, rfl⟩⟩
  · have HZ1 := Lib.hid (HZ0.out.drewN z1)
    have hv1 := HZ1.out.b0
    have HV1 := Lib.hid ((heap_alloc_old (W0.drewN z1) (.cells (flat EI [v1, 0, 1]).toArray 2 (0, 0)) (cell_in hv1)).trans hv1)
    clear hv1
    go_wp2_with fail
    refine (zfv w.heap.size _ 3 3 (.slice none 0 0) _ (by exact HV1.out)).mono ?_
    rintro e w2 ⟨rfl, hw2⟩
    have HZ2 : Hid (Zs w w2 (some ⟨W0.heap.size, 0, none⟩) 3 3 [v1, 0, 1] none 0 0 []) := by show Zs _ _ _ _ _ _ _ _ _ _; rw [hw2]; exact HZ1.out.setv [v1, 0, 1] 3 rfl (by omega)
    have HRD : Hid (Rd w2 A bs) := by show Rd _ _ _; rw [hw2]; exact HZ1.out.rdv [v1, 0, 1] _ HRD.out
    clear hw2 HV1
    have HZd := Lib.hid (HZ2.out.below ((Below.refl _ _).alloc (Nat.le_refl _) (.cells (flat EB [(A, s, c')]).toArray 22 (0, 0))))
    have hsz : Hid (w.heap.size + 2 ≤ w2.heap.size) := HZ2.out.size
    go_wp2_with fail
    refine (zfd (w.heap.size + 1) (some ⟨w2.heap.size, 0, none⟩) 1 1 [(A, s, c')] [bs] _ (by exact HZd.out.b1) (by exact RdE.new (E := EB) w2 [(A, s, c')] 22) (fun a ha => by obtain rfl : (⟨w2.heap.size, 0, none⟩ : Addr) = a := (by simpa using ha); have := hsz.out; show _ ≠ _; simp only [World.drewN] at *; omega) rfl (Rts.one ⟨HRD.out.alloc _, HS.out, sc1, sc2, HZN.out⟩) (by omega) (fun x hx => by obtain rfl : x = bs := (by simpa using hx); rw [HS.out]; rw [hn.out] at sl1; omega)).mono ?_
    rintro e w3 ⟨D', ts, rfl, H3⟩
    obtain ⟨AD, cD, hz3⟩ := HZd.out.setd H3.out.1 H3.out.2 (nD := 1) H3.out.1.rts.1
    have HZ3 := Lib.hid hz3
    clear hz3 H3
    obtain ⟨⟨c0, c1⟩, f0, f1⟩ := HZ3.out.cells
    go_wp2_with fail
    have HZ9 := Lib.hid (HZ3.out.drewN 1)
    have hs0 := setCell_self HZ3.out.b0
    have hs1 := setCell_self HZ3.out.b1
    go_region_held3 (fun w' => (w'.cell? ⟨w.heap.size, 0, none⟩ = some (.slice (some ⟨W0.heap.size, 0, none⟩) 3 3) ∧ w'.cell? ⟨w.heap.size + 1, 0, none⟩ = some (.slice AD 1 cD)) ∧ w'.frozen? ⟨w.heap.size, 0, none⟩ = false ∧ w'.frozen? ⟨w.heap.size + 1, 0, none⟩ = false) (first | exact ⟨⟨c0, c1⟩, f0, f1⟩ | (simp only [hs0, hs1]; exact ⟨⟨c0, c1⟩, f0, f1⟩) | go_keep) (fail)
    go_wp2_with fail
    clear f0 f1 hs0 hs1
    refine bodyPost_ret (v := .tuple #[.slice (some ⟨W0.heap.size, 0, none⟩) 3 3, .slice AD 1 cD, .int .i64 ((k : Nat) : Int)]) (by simp [results, Try.results12, go_sem, c0, c1]) rfl ?_
    exact ⟨HZ9.out.bel, .inr ⟨[v1, 0, 1], [bs], k, _, 3, _, _, 1, _, HP.out, rfl, rfl, by omega, HZ9.out.rv, rfl, by omega, HZ9.out.rd⟩⟩

set_option maxRecDepth 100000 in
set_option maxHeartbeats 4000000 in
theorem zf12 (b o n c : Nat) (l : List Int) (w : World) (hr : Rd w (some ⟨b, o, none⟩) l) (hn : Hid (l.length = n)) (hnc : n ≤ c) (hc2 : c ≤ 9223372036854775807) (h1 : 1 ≤ n) (hn2 : n ≤ 4294967295) (h0 : w.cell? ⟨b, o, none⟩ = some (.int .u8 12)) :
    Calls Try.prog 12 #[.slice (some ⟨b, o, none⟩) n c] w fun e w' => ZfEnd w (Pst 12 l) e w' := by
  obtain ⟨W0, hW0⟩ : ∃ W0, Hid (((w.alloc (.cells #[.slice none 0 0] 23 (0, 0))).alloc (.cells #[.slice none 0 0] 24 (0, 0))) = W0) := ⟨_, Lib.hid rfl⟩
  have HZ0 : Hid (Zs w W0 none 0 0 [] none 0 0 []) := by show Zs _ _ _ _ _ _ _ _ _ _; rw [← hW0.out]; exact Zs.new w
  have HR0 : Hid (Rd W0 (some ⟨b, o, none⟩) l) := hr.below HZ0.out.bel
  have hbl := World.block_lt_of_cell? _ _ h0
  have hc0 : W0.cell? ⟨b, o, none⟩ = some (.int .u8 12) := (HZ0.out.bel.cell (p := ⟨b, o, none⟩) hbl).trans h0
  have hc0' : ((w.alloc (.cells #[.slice none 0 0] 23 (0, 0))).alloc (.cells #[.slice none 0 0] 24 (0, 0))).cell? ⟨b, o, none⟩ = some (.int .u8 12) := by rw [hW0.out]; exact hc0
  have hn0 : ((n : Int) == 0) = false := by simp; omega
  have hn1 : (0 : Int) < (n : Int) := by omega
  clear hr h0 hbl
  go_enter Try.func12, Try.ntmps12
  go_wp2_with fail
  rw [hW0.out]
  refine (cst12 b o n c l W0 HR0.out hn hnc hc2 h1 hn2 hc0).mono ?_
  clear hc0'
  rintro e w1 ⟨he, z1, rfl⟩
  rcases he with ⟨hP, rfl⟩ | ⟨v1, v2, bs, k, s, A, c', hP, rfl, HS, HRD, sc1, sc2, HZN, sl1, ⟨p1, q1⟩, ⟨p2, q2⟩⟩
  all_goals have HP := Lib.hid hP; clear hP
  · have HZ1 := Lib.hid (HZ0.out.drewN z1)
    have HRD : Hid (Rd (W0.drewN z1) none []) := Rd.nil _ _
    have hv1 := HZ1.out.b0
    have HV1 := Lib.hid ((heap_alloc_old (W0.drewN z1) (.cells (flat EI [0, 0, 0]).toArray 2 (0, 0)) (cell_in hv1)).trans hv1)
    clear hv1
    go_wp2_with fail
    refine (zfv w.heap.size _ 3 3 (.slice none 0 0) _ (by exact HV1.out)).mono ?_
    rintro e w2 ⟨rfl, hw2⟩
    have HZ2 : Hid (Zs w w2 (some ⟨W0.heap.size, 0, none⟩) 3 3 [0, 0, 0] none 0 0 []) := by show Zs _ _ _ _ _ _ _ _ _ _; rw [hw2]; exact HZ1.out.setv [0, 0, 0] 3 rfl (by omega)
    have HRD : Hid (Rd w2 none []) := by show Rd _ _ _; rw [hw2]; exact HZ1.out.rdv [0, 0, 0] _ HRD.out
    clear hw2 HV1
    have HZd := Lib.hid (HZ2.out.below ((Below.refl _ _).alloc (Nat.le_refl _) (.cells (flat EB [(none, 0, 0)]).toArray 22 (0, 0))))
    have hsz : Hid (w.heap.size + 2 ≤ w2.heap.size) := HZ2.out.size
    go_wp2_with fail
    refine (zfd (w.heap.size + 1) (some ⟨w2.heap.size, 0, none⟩) 1 1 [(none, 0, 0)] [[]] _ (by exact HZd.out.b1) (by exact RdE.new (E := EB) w2 [(none, 0, 0)] 22) (fun a ha => by obtain rfl : (⟨w2.heap.size, 0, none⟩ : Addr) = a := (by simpa using ha); have := hsz.out; show _ ≠ _; simp only [World.drewN] at *; omega) rfl (Rts.one ⟨HRD.out.alloc _, rfl, Nat.le_refl _, by simp, (fun _ => rfl)⟩) (by omega) (fun x hx => by obtain rfl : x = [] := (by simpa using hx); simp)).mono ?_
    rintro e w3 ⟨D', ts, rfl, H3⟩
    obtain ⟨AD, cD, hz3⟩ := HZd.out.setd H3.out.1 H3.out.2 (nD := 1) H3.out.1.rts.1
    have HZ3 := Lib.hid hz3
    clear hz3 H3
    obtain ⟨⟨c0, c1⟩, f0, f1⟩ := HZ3.out.cells
    go_wp2_with fail
    obtain ⟨w9, h9, e0, e1, HB9⟩ := HZ3.out.clr
    rw [h9.out]
    clear c0 c1 f0 f1
    refine bodyPost_ret (v := .tuple #[.slice none 0 0, .slice none 0 0, .int .i64 (-1)]) (by simp [results, Try.results12, go_sem, e0, e1]) rfl ?_
    exact ⟨HB9.out, .inl ⟨HP.out, rfl⟩⟩
  · have HZ1 := Lib.hid (HZ0.out.drewN z1)
    have hv1 := HZ1.out.b0
    have HV1 := Lib.hid ((heap_alloc_old (W0.drewN z1) (.cells (flat EI [v1, v2, 0]).toArray 2 (0, 0)) (cell_in hv1)).trans hv1)
    clear hv1
    go_wp2_with fail
    refine (zfv w.heap.size _ 3 3 (.slice none 0 0) _ (by exact HV1.out)).mono ?_
    rintro e w2 ⟨rfl, hw2⟩
    have HZ2 : Hid (Zs w w2 (some ⟨W0.heap.size, 0, none⟩) 3 3 [v1, v2, 0] none 0 0 []) := by show Zs _ _ _ _ _ _ _ _ _ _; rw [hw2]; exact HZ1.out.setv [v1, v2, 0] 3 rfl (by omega)
    have HRD : Hid (Rd w2 A bs) := by show Rd _ _ _; rw [hw2]; exact HZ1.out.rdv [v1, v2, 0] _ HRD.out
    clear hw2 HV1
    have HZd := Lib.hid (HZ2.out.below ((Below.refl _ _).alloc (Nat.le_refl _) (.cells (flat EB [(A, s, c')]).toArray 22 (0, 0))))
    have hsz : Hid (w.heap.size + 2 ≤ w2.heap.size) := HZ2.out.size
    go_wp2_with fail
    refine (zfd (w.heap.size + 1) (some ⟨w2.heap.size, 0, none⟩) 1 1 [(A, s, c')] [bs] _ (by exact HZd.out.b1) (by exact RdE.new (E := EB) w2 [(A, s, c')] 22) (fun a ha => by obtain rfl : (⟨w2.heap.size, 0, none⟩ : Addr) = a := (by simpa using ha); have := hsz.out; show _ ≠ _; simp only [World.drewN] at *; omega) rfl (Rts.one ⟨HRD.out.alloc _, HS.out, sc1, sc2, HZN.out⟩) (by omega) (fun x hx => by obtain rfl : x = bs := (by simpa using hx); rw [HS.out]; rw [hn.out] at sl1; omega)).mono ?_
    rintro e w3 ⟨D', ts, rfl, H3⟩
    obtain ⟨AD, cD, hz3⟩ := HZd.out.setd H3.out.1 H3.out.2 (nD := 1) H3.out.1.rts.1
    have HZ3 := Lib.hid hz3
    clear hz3 H3
    obtain ⟨⟨c0, c1⟩, f0, f1⟩ := HZ3.out.cells
    go_wp2_with fail
    have HZ9 := Lib.hid (HZ3.out.drewN 1)
    have hs0 := setCell_self HZ3.out.b0
    have hs1 := setCell_self HZ3.out.b1
    go_region_held3 (fun w' => (w'.cell? ⟨w.heap.size, 0, none⟩ = some (.slice (some ⟨W0.heap.size, 0, none⟩) 3 3) ∧ w'.cell? ⟨w.heap.size + 1, 0, none⟩ = some (.slice AD 1 cD)) ∧ w'.frozen? ⟨w.heap.size, 0, none⟩ = false ∧ w'.frozen? ⟨w.heap.size + 1, 0, none⟩ = false) (first | exact ⟨⟨c0, c1⟩, f0, f1⟩ | (simp only [hs0, hs1]; exact ⟨⟨c0, c1⟩, f0, f1⟩) | go_keep) (fail)
    go_wp2_with fail
    clear f0 f1 hs0 hs1
    refine bodyPost_ret (v := .tuple #[.slice (some ⟨W0.heap.size, 0, none⟩) 3 3, .slice AD 1 cD, .int .i64 ((k : Nat) : Int)]) (by simp [results, Try.results12, go_sem, c0, c1]) rfl ?_
    exact ⟨HZ9.out.bel, .inr ⟨[v1, v2, 0], [bs], k, _, 3, _, _, 1, _, HP.out, rfl, rfl, by omega, HZ9.out.rv, rfl, by omega, HZ9.out.rd⟩⟩

set_option maxRecDepth 100000 in
set_option maxHeartbeats 4000000 in
theorem zf13 (b o n c : Nat) (l : List Int) (w : World) (hr : Rd w (some ⟨b, o, none⟩) l) (hn : Hid (l.length = n)) (hnc : n ≤ c) (hc2 : c ≤ 9223372036854775807) (h1 : 1 ≤ n) (hn2 : n ≤ 4294967295) (h0 : w.cell? ⟨b, o, none⟩ = some (.int .u8 13)) :
    Calls Try.prog 12 #[.slice (some ⟨b, o, none⟩) n c] w fun e w' => ZfEnd w (Pst 13 l) e w' := by
  obtain ⟨W0, hW0⟩ : ∃ W0, Hid (((w.alloc (.cells #[.slice none 0 0] 23 (0, 0))).alloc (.cells #[.slice none 0 0] 24 (0, 0))) = W0) := ⟨_, Lib.hid rfl⟩
  have HZ0 : Hid (Zs w W0 none 0 0 [] none 0 0 []) := by show Zs _ _ _ _ _ _ _ _ _ _; rw [← hW0.out]; exact Zs.new w
  have HR0 : Hid (Rd W0 (some ⟨b, o, none⟩) l) := hr.below HZ0.out.bel
  have hbl := World.block_lt_of_cell? _ _ h0
  have hc0 : W0.cell? ⟨b, o, none⟩ = some (.int .u8 13) := (HZ0.out.bel.cell (p := ⟨b, o, none⟩) hbl).trans h0
  have hc0' : ((w.alloc (.cells #[.slice none 0 0] 23 (0, 0))).alloc (.cells #[.slice none 0 0] 24 (0, 0))).cell? ⟨b, o, none⟩ = some (.int .u8 13) := by rw [hW0.out]; exact hc0
  have hn0 : ((n : Int) == 0) = false := by simp; omega
  have hn1 : (0 : Int) < (n : Int) := by omega
  clear hr h0 hbl
  go_enter Try.func12, Try.ntmps12
  go_wp2_with fail
  rw [hW0.out]
  refine (cst13 b o n c l W0 HR0.out hn hnc hc2 h1 hn2 hc0).mono ?_
  clear hc0'
  rintro e w1 ⟨he, z1, rfl⟩
  rcases he with ⟨hP, rfl⟩ | ⟨v1, v2, bs, k, s, A, c', hP, rfl, HS, HRD, sc1, sc2, HZN, sl1, ⟨p1, q1⟩, ⟨p2, q2⟩⟩
  all_goals have HP := Lib.hid hP; clear hP
  · have HZ1 := Lib.hid (HZ0.out.drewN z1)
    have HRD : Hid (Rd (W0.drewN z1) none []) := Rd.nil _ _
    have hv1 := HZ1.out.b0
    have HV1 := Lib.hid ((heap_alloc_old (W0.drewN z1) (.cells (flat EI [0, 0, 0]).toArray 2 (0, 0)) (cell_in hv1)).trans hv1)
    clear hv1
    go_wp2_with fail
    refine (zfv w.heap.size _ 3 3 (.slice none 0 0) _ (by exact HV1.out)).mono ?_
    rintro e w2 ⟨rfl, hw2⟩
    have HZ2 : Hid (Zs w w2 (some ⟨W0.heap.size, 0, none⟩) 3 3 [0, 0, 0] none 0 0 []) := by show Zs _ _ _ _ _ _ _ _ _ _; rw [hw2]; exact HZ1.out.setv [0, 0, 0] 3 rfl (by omega)
    have HRD : Hid (Rd w2 none []) := by show Rd _ _ _; rw [hw2]; exact HZ1.out.rdv [0, 0, 0] _ HRD.out
    clear hw2 HV1
    have HZd := Lib.hid (HZ2.out.below ((Below.refl _ _).alloc (Nat.le_refl _) (.cells (flat EB [(none, 0, 0)]).toArray 22 (0, 0))))
    have hsz : Hid (w.heap.size + 2 ≤ w2.heap.size) := HZ2.out.size
    go_wp2_with fail
    refine (zfd (w.heap.size + 1) (some ⟨w2.heap.size, 0, none⟩) 1 1 [(none, 0, 0)] [[]] _ (by exact HZd.out.b1) (by exact RdE.new (E := EB) w2 [(none, 0, 0)] 22) (fun a ha => by obtain rfl : (⟨w2.heap.size, 0, none⟩ : Addr) = a := (by simpa using ha); have := hsz.out; show _ ≠ _; simp only [World.drewN] at *; omega) rfl (Rts.one ⟨HRD.out.alloc _, rfl, Nat.le_refl _, by simp, (fun _ => rfl)⟩) (by omega) (fun x hx => by obtain rfl : x = [] := (by simpa using hx); simp)).mono ?_
    rintro e w3 ⟨D', ts, rfl, H3⟩
    obtain ⟨AD, cD, hz3⟩ := HZd.out.setd H3.out.1 H3.out.2 (nD := 1) H3.out.1.rts.1
    have HZ3 := Lib.hid hz3
    clear hz3 H3
    obtain ⟨⟨c0, c1⟩, f0, f1⟩ := HZ3.out.cells
    go_wp2_with fail
    obtain ⟨w9, h9, e0, e1, HB9⟩ := HZ3.out.clr
    rw [h9.out]
    clear c0 c1 f0 f1
    refine bodyPost_ret (v := .tuple #[.slice none 0 0, .slice none 0 0, .int .i64 (-1)]) (by simp [results, Try.results12, go_sem, e0, e1]) rfl ?_
    exact ⟨HB9.out, .inl ⟨HP.out, rfl⟩⟩
  · have HZ1 := Lib.hid (HZ0.out.drewN z1)
    have hv1 := HZ1.out.b0
    have HV1 := Lib.hid ((heap_alloc_old (W0.drewN z1) (.cells (flat EI [v1, v2, 1]).toArray 2 (0, 0)) (cell_in hv1)).trans hv1)
    clear hv1
    go_wp2_with fail
    refine (zfv w.heap.size _ 3 3 (.slice none 0 0) _ (by exact HV1.out)).mono ?_
    rintro e w2 ⟨rfl, hw2⟩
    have HZ2 : Hid (Zs w w2 (some ⟨W0.heap.size, 0, none⟩) 3 3 [v1, v2, 1] none 0 0 []) := by show Zs _ _ _ _ _ _ _ _ _ _; rw [hw2]; exact HZ1.out.setv [v1, v2, 1] 3 rfl (by omega)
    have HRD : Hid (Rd w2 A bs) := by show Rd _ _ _; rw [hw2]; exact HZ1.out.rdv [v1, v2, 1] _ HRD.out
    clear hw2 HV1
    have HZd := Lib.hid (HZ2.out.below ((Below.refl _ _).alloc (Nat.le_refl _) (.cells (flat EB [(A, s, c')]).toArray 22 (0, 0))))
    have hsz : Hid (w.heap.size + 2 ≤ w2.heap.size) := HZ2.out.size
    go_wp2_with fail
    refine (zfd (w.heap.size + 1) (some ⟨w2.heap.size, 0, none⟩) 1 1 [(A, s, c')] [bs] _ (by exact HZd.out.b1) (by exact RdE.new (E := EB) w2 [(A, s, c')] 22) (fun a ha => by obtain rfl : (⟨w2.heap.size, 0, none⟩ : Addr) = a := (by simpa using ha); have := hsz.out; show _ ≠ _; simp only [World.drewN] at *; omega) rfl (Rts.one ⟨HRD.out.alloc _, HS.out, sc1, sc2, HZN.out⟩) (by omega) (fun x hx => by obtain rfl : x = bs := (by simpa using hx); rw [HS.out]; rw [hn.out] at sl1; omega)).mono ?_
    rintro e w3 ⟨D', ts, rfl, H3⟩
    obtain ⟨AD, cD, hz3⟩ := HZd.out.setd H3.out.1 H3.out.2 (nD := 1) H3.out.1.rts.1
    have HZ3 := Lib.hid hz3
    clear hz3 H3
    obtain ⟨⟨c0, c1⟩, f0, f1⟩ := HZ3.out.cells
    go_wp2_with fail
    have HZ9 := Lib.hid (HZ3.out.drewN 1)
    have hs0 := setCell_self HZ3.out.b0
    have hs1 := setCell_self HZ3.out.b1
    go_region_held3 (fun w' => (w'.cell? ⟨w.heap.size, 0, none⟩ = some (.slice (some ⟨W0.heap.size, 0, none⟩) 3 3) ∧ w'.cell? ⟨w.heap.size + 1, 0, none⟩ = some (.slice AD 1 cD)) ∧ w'.frozen? ⟨w.heap.size, 0, none⟩ = false ∧ w'.frozen? ⟨w.heap.size + 1, 0, none⟩ = false) (first | exact ⟨⟨c0, c1⟩, f0, f1⟩ | (simp only [hs0, hs1]; exact ⟨⟨c0, c1⟩, f0, f1⟩) | go_keep) (fail)
    go_wp2_with fail
    clear f0 f1 hs0 hs1
    refine bodyPost_ret (v := .tuple #[.slice (some ⟨W0.heap.size, 0, none⟩) 3 3, .slice AD 1 cD, .int .i64 ((k : Nat) : Int)]) (by simp [results, Try.results12, go_sem, c0, c1]) rfl ?_
    exact ⟨HZ9.out.bel, .inr ⟨[v1, v2, 1], [bs], k, _, 3, _, _, 1, _, HP.out, rfl, rfl, by omega, HZ9.out.rv, rfl, by omega, HZ9.out.rd⟩⟩

set_option maxRecDepth 100000 in
set_option maxHeartbeats 4000000 in
theorem zf14 (b o n c : Nat) (l : List Int) (w : World) (hr : Rd w (some ⟨b, o, none⟩) l) (hn : Hid (l.length = n)) (hnc : n ≤ c) (hc2 : c ≤ 9223372036854775807) (h1 : 1 ≤ n) (hn2 : n ≤ 4294967295) (h0 : w.cell? ⟨b, o, none⟩ = some (.int .u8 14)) :
    Calls Try.prog 12 #[.slice (some ⟨b, o, none⟩) n c] w fun e w' => ZfEnd w (Pst 14 l) e w' := by
  obtain ⟨W0, hW0⟩ : ∃ W0, Hid (((w.alloc (.cells #[.slice none 0 0] 23 (0, 0))).alloc (.cells #[.slice none 0 0] 24 (0, 0))) = W0) := ⟨_, Lib.hid rfl⟩
  have HZ0 : Hid (Zs w W0 none 0 0 [] none 0 0 []) := by show Zs _ _ _ _ _ _ _ _ _ _; rw [← hW0.out]; exact Zs.new w
  have HR0 : Hid (Rd W0 (some ⟨b, o, none⟩) l) := hr.below HZ0.out.bel
  have hbl := World.block_lt_of_cell? _ _ h0
  have hc0 : W0.cell? ⟨b, o, none⟩ = some (.int .u8 14) := (HZ0.out.bel.cell (p := ⟨b, o, none⟩) hbl).trans h0
  have hc0' : ((w.alloc (.cells #[.slice none 0 0] 23 (0, 0))).alloc (.cells #[.slice none 0 0] 24 (0, 0))).cell? ⟨b, o, none⟩ = some (.int .u8 14) := by rw [hW0.out]; exact hc0
  have hn0 : ((n : Int) == 0) = false := by simp; omega
  have hn1 : (0 : Int) < (n : Int) := by omega
  clear hr h0 hbl
  go_enter Try.func12, Try.ntmps12
  go_wp2_with fail
  rw [hW0.out]
  refine (cst14 b o n c l W0 HR0.out hn hnc hc2 h1 hn2 hc0).mono ?_
  clear hc0'
  rintro e w1 ⟨he, z1, rfl⟩
  rcases he with ⟨hP, rfl⟩ | ⟨v1, v2, bs, k, s, A, c', hP, rfl, HS, HRD, sc1, sc2, HZN, sl1, ⟨p1, q1⟩, ⟨p2, q2⟩⟩
  all_goals have HP := Lib.hid hP; clear hP
  · have HZ1 := Lib.hid (HZ0.out.drewN z1)
    have HRD : Hid (Rd (W0.drewN z1) none []) := Rd.nil _ _
    have hv1 := HZ1.out.b0
    have HV1 := Lib.hid ((heap_alloc_old (W0.drewN z1) (.cells (flat EI [0, 0, 0]).toArray 2 (0, 0)) (cell_in hv1)).trans hv1)
    clear hv1
    go_wp2_with fail
    refine (zfv w.heap.size _ 3 3 (.slice none 0 0) _ (by exact HV1.out)).mono ?_
    rintro e w2 ⟨rfl, hw2⟩
    have HZ2 : Hid (Zs w w2 (some ⟨W0.heap.size, 0, none⟩) 3 3 [0, 0, 0] none 0 0 []) := by show Zs _ _ _ _ _ _ _ _ _ _; rw [hw2]; exact HZ1.out.setv [0, 0, 0] 3 rfl (by omega)
    have HRD : Hid (Rd w2 none []) := by show Rd _ _ _; rw [hw2]; exact HZ1.out.rdv [0, 0, 0] _ HRD.out
    clear hw2 HV1
    have HZd := Lib.hid (HZ2.out.below ((Below.refl _ _).alloc (Nat.le_refl _) (.cells (flat EB [(none, 0, 0)]).toArray 22 (0, 0))))
    have hsz : Hid (w.heap.size + 2 ≤ w2.heap.size) := HZ2.out.size
    go_wp2_with fail
    refine (zfd (w.heap.size + 1) (some ⟨w2.heap.size, 0, none⟩) 1 1 [(none, 0, 0)] [[]] _ (by exact HZd.out.b1) (by exact RdE.new (E := EB) w2 [(none, 0, 0)] 22) (fun a ha => by obtain rfl : (⟨w2.heap.size, 0, none⟩ : Addr) = a := (by simpa using ha); have := hsz.out; show _ ≠ _; simp only [World.drewN] at *; omega) rfl (Rts.one ⟨HRD.out.alloc _, rfl, Nat.le_refl _, by simp, (fun _ => rfl)⟩) (by omega) (fun x hx => by obtain rfl : x = [] := (by simpa using hx); simp)).mono ?_
    rintro e w3 ⟨D', ts, rfl, H3⟩
    obtain ⟨AD, cD, hz3⟩ := HZd.out.setd H3.out.1 H3.out.2 (nD := 1) H3.out.1.rts.1
    have HZ3 := Lib.hid hz3
    clear hz3 H3
    obtain ⟨⟨c0, c1⟩, f0, f1⟩ := HZ3.out.cells
    go_wp2_with fail
    obtain ⟨w9, h9, e0, e1, HB9⟩ := HZ3.out.clr
    rw [h9.out]
    clear c0 c1 f0 f1
    refine bodyPost_ret (v := .tuple #[.slice none 0 0, .slice none 0 0, .int .i64 (-1)]) (by simp [results, Try.results12, go_sem, e0, e1]) rfl ?_
    exact ⟨HB9.out, .inl ⟨HP.out, rfl⟩⟩
  · have HZ1 := Lib.hid (HZ0.out.drewN z1)
    have hv1 := HZ1.out.b0
    have HV1 := Lib.hid ((heap_alloc_old (W0.drewN z1) (.cells (flat EI [v1, v2, 0]).toArray 2 (0, 0)) (cell_in hv1)).trans hv1)
    clear hv1
    go_wp2_with fail
    refine (zfv w.heap.size _ 3 3 (.slice none 0 0) _ (by exact HV1.out)).mono ?_
    rintro e w2 ⟨rfl, hw2⟩
    have HZ2 : Hid (Zs w w2 (some ⟨W0.heap.size, 0, none⟩) 3 3 [v1, v2, 0] none 0 0 []) := by show Zs _ _ _ _ _ _ _ _ _ _; rw [hw2]; exact HZ1.out.setv [v1, v2, 0] 3 rfl (by omega)
    have HRD : Hid (Rd w2 A bs) := by show Rd _ _ _; rw [hw2]; exact HZ1.out.rdv [v1, v2, 0] _ HRD.out
    clear hw2 HV1
    have HZd := Lib.hid (HZ2.out.below ((Below.refl _ _).alloc (Nat.le_refl _) (.cells (flat EB [(A, s, c')]).toArray 22 (0, 0))))
    have hsz : Hid (w.heap.size + 2 ≤ w2.heap.size) := HZ2.out.size
    go_wp2_with fail
    refine (zfd (w.heap.size + 1) (some ⟨w2.heap.size, 0, none⟩) 1 1 [(A, s, c')] [bs] _ (by exact HZd.out.b1) (by exact RdE.new (E := EB) w2 [(A, s, c')] 22) (fun a ha => by obtain rfl : (⟨w2.heap.size, 0, none⟩ : Addr) = a := (by simpa using ha); have := hsz.out; show _ ≠ _; simp only [World.drewN] at *; omega) rfl (Rts.one ⟨HRD.out.alloc _, HS.out, sc1, sc2, HZN.out⟩) (by omega) (fun x hx => by obtain rfl : x = bs := (by simpa using hx); rw [HS.out]; rw [hn.out] at sl1; omega)).mono ?_
    rintro e w3 ⟨D', ts, rfl, H3⟩
    obtain ⟨AD, cD, hz3⟩ := HZd.out.setd H3.out.1 H3.out.2 (nD := 1) H3.out.1.rts.1
    have HZ3 := Lib.hid hz3
    clear hz3 H3
    obtain ⟨⟨c0, c1⟩, f0, f1⟩ := HZ3.out.cells
    go_wp2_with fail
    have HZ9 := Lib.hid (HZ3.out.drewN 1)
    have hs0 := setCell_self HZ3.out.b0
    have hs1 := setCell_self HZ3.out.b1
    go_region_held3 (fun w' => (w'.cell? ⟨w.heap.size, 0, none⟩ = some (.slice (some ⟨W0.heap.size, 0, none⟩) 3 3) ∧ w'.cell? ⟨w.heap.size + 1, 0, none⟩ = some (.slice AD 1 cD)) ∧ w'.frozen? ⟨w.heap.size, 0, none⟩ = false ∧ w'.frozen? ⟨w.heap.size + 1, 0, none⟩ = false) (first | exact ⟨⟨c0, c1⟩, f0, f1⟩ | (simp only [hs0, hs1]; exact ⟨⟨c0, c1⟩, f0, f1⟩) | go_keep) (fail)
    go_wp2_with fail
    clear f0 f1 hs0 hs1
    refine bodyPost_ret (v := .tuple #[.slice (some ⟨W0.heap.size, 0, none⟩) 3 3, .slice AD 1 cD, .int .i64 ((k : Nat) : Int)]) (by simp [results, Try.results12, go_sem, c0, c1]) rfl ?_
    exact ⟨HZ9.out.bel, .inr ⟨[v1, v2, 0], [bs], k, _, 3, _, _, 1, _, HP.out, rfl, rfl, by omega, HZ9.out.rv, rfl, by omega, HZ9.out.rd⟩⟩

set_option maxRecDepth 100000 in
set_option maxHeartbeats 4000000 in
theorem zf15 (b o n c : Nat) (l : List Int) (w : World) (hr : Rd w (some ⟨b, o, none⟩) l) (hn : Hid (l.length = n)) (hnc : n ≤ c) (hc2 : c ≤ 9223372036854775807) (h1 : 1 ≤ n) (hn2 : n ≤ 4294967295) (h0 : w.cell? ⟨b, o, none⟩ = some (.int .u8 15)) :
    Calls Try.prog 12 #[.slice (some ⟨b, o, none⟩) n c] w fun e w' => ZfEnd w (Pst 15 l) e w' := by
  obtain ⟨W0, hW0⟩ : ∃ W0, Hid (((w.alloc (.cells #[.slice none 0 0] 23 (0, 0))).alloc (.cells #[.slice none 0 0] 24 (0, 0))) = W0) := ⟨_, Lib.hid rfl⟩
  have HZ0 : Hid (Zs w W0 none 0 0 [] none 0 0 []) := by show Zs _ _ _ _ _ _ _ _ _ _; rw [← hW0.out]; exact Zs.new w
  have HR0 : Hid (Rd W0 (some ⟨b, o, none⟩) l) := hr.below HZ0.out.bel
  have hbl := World.block_lt_of_cell? _ _ h0
  have hc0 : W0.cell? ⟨b, o, none⟩ = some (.int .u8 15) := (HZ0.out.bel.cell (p := ⟨b, o, none⟩) hbl).trans h0
  have hc0' : ((w.alloc (.cells #[.slice none 0 0] 23 (0, 0))).alloc (.cells #[.slice none 0 0] 24 (0, 0))).cell? ⟨b, o, none⟩ = some (.int .u8 15) := by rw [hW0.out]; exact hc0
  have hn0 : ((n : Int) == 0) = false := by simp; omega
  have hn1 : (0 : Int) < (n : Int) := by omega
  clear hr h0 hbl
  go_enter Try.func12, Try.ntmps12
  go_wp2_with fail
  rw [hW0.out]
  refine (cst15 b o n c l W0 HR0.out hn hnc hc2 h1 hn2 hc0).mono ?_
  clear hc0'
  rintro e w1 ⟨he, z1, rfl⟩
  rcases he with ⟨hP, rfl⟩ | ⟨v1, v2, bs, k, s, A, c', hP, rfl, HS, HRD, sc1, sc2, HZN, sl1, ⟨p1, q1⟩, ⟨p2, q2⟩⟩
  all_goals have HP := Lib.hid hP; clear hP
  · have HZ1 := Lib.hid (HZ0.out.drewN z1)
    have HRD : Hid (Rd (W0.drewN z1) none []) := Rd.nil _ _
    have hv1 := HZ1.out.b0
    have HV1 := Lib.hid ((heap_alloc_old (W0.drewN z1) (.cells (flat EI [0, 0, 0]).toArray 2 (0, 0)) (cell_in hv1)).trans hv1)
    clear hv1
    go_wp2_with fail
    refine (zfv w.heap.size _ 3 3 (.slice none 0 0) _ (by exact HV1.out)).mono ?_
    rintro e w2 ⟨rfl, hw2⟩
    have HZ2 : Hid (Zs w w2 (some ⟨W0.heap.size, 0, none⟩) 3 3 [0, 0, 0] none 0 0 []) := by show Zs _ _ _ _ _ _ _ _ _ _; rw [hw2]; exact HZ1.out.setv [0, 0, 0] 3 rfl (by omega)
    have HRD : Hid (Rd w2 none []) := by show Rd _ _ _; rw [hw2]; exact HZ1.out.rdv [0, 0, 0] _ HRD.out
    clear hw2 HV1
    have HZd := Lib.hid (HZ2.out.below ((Below.refl _ _).alloc (Nat.le_refl _) (.cells (flat EB [(none, 0, 0)]).toArray 22 (0, 0))))
    have hsz : Hid (w.heap.size + 2 ≤ w2.heap.size) := HZ2.out.size
    go_wp2_with fail
    refine (zfd (w.heap.size + 1) (some ⟨w2.heap.size, 0, none⟩) 1 1 [(none, 0, 0)] [[]] _ (by exact HZd.out.b1) (by exact RdE.new (E := EB) w2 [(none, 0, 0)] 22) (fun a ha => by obtain rfl : (⟨w2.heap.size, 0, none⟩ : Addr) = a := (by simpa using ha); have := hsz.out; show _ ≠ _; simp only [World.drewN] at *; omega) rfl (Rts.one ⟨HRD.out.alloc _, rfl, Nat.le_refl _, by simp, (fun _ => rfl)⟩) (by omega) (fun x hx => by obtain rfl : x = [] := (by simpa using hx); simp)).mono ?_
    rintro e w3 ⟨D', ts, rfl, H3⟩
    obtain ⟨AD, cD, hz3⟩ := HZd.out.setd H3.out.1 H3.out.2 (nD := 1) H3.out.1.rts.1
    have HZ3 := Lib.hid hz3
    clear hz3 H3
    obtain ⟨⟨c0, c1⟩, f0, f1⟩ := HZ3.out.cells
    go_wp2_with fail
    obtain ⟨w9, h9, e0, e1, HB9⟩ := HZ3.out.clr
    rw [h9.out]
    clear c0 c1 f0 f1
    refine bodyPost_ret (v := .tuple #[.slice none 0 0, .slice none 0 0, .int .i64 (-1)]) (by simp [results, Try.results12, go_sem, e0, e1]) rfl ?_
    exact ⟨HB9.out, .inl ⟨HP.out, rfl⟩⟩
  · have HZ1 := Lib.hid (HZ0.out.drewN z1)
    have hv1 := HZ1.out.b0
    have HV1 := Lib.hid ((heap_alloc_old (W0.drewN z1) (.cells (flat EI [v1, v2, 1]).toArray 2 (0, 0)) (cell_in hv1)).trans hv1)
    clear hv1
    go_wp2_with fail
    refine (zfv w.heap.size _ 3 3 (.slice none 0 0) _ (by exact HV1.out)).mono ?_
    rintro e w2 ⟨rfl, hw2⟩
    have HZ2 : Hid (Zs w w2 (some ⟨W0.heap.size, 0, none⟩) 3 3 [v1, v2, 1] none 0 0 []) := by show Zs _ _ _ _ _ _ _ _ _ _; rw [hw2]; exact HZ1.out.setv [v1, v2, 1] 3 rfl (by omega)
    have HRD : Hid (Rd w2 A bs) := by show Rd _ _ _; rw [hw2]; exact HZ1.out.rdv [v1, v2, 1] _ HRD.out
    clear hw2 HV1
    have HZd := Lib.hid (HZ2.out.below ((Below.refl _ _).alloc (Nat.le_refl _) (.cells (flat EB [(A, s, c')]).toArray 22 (0, 0))))
    have hsz : Hid (w.heap.size + 2 ≤ w2.heap.size) := HZ2.out.size
    go_wp2_with fail
    refine (zfd (w.heap.size + 1) (some ⟨w2.heap.size, 0, none⟩) 1 1 [(A, s, c')] [bs] _ (by exact HZd.out.b1) (by exact RdE.new (E := EB) w2 [(A, s, c')] 22) (fun a ha => by obtain rfl : (⟨w2.heap.size, 0, none⟩ : Addr) = a := (by simpa using ha); have := hsz.out; show _ ≠ _; simp only [World.drewN] at *; omega) rfl (Rts.one ⟨HRD.out.alloc _, HS.out, sc1, sc2, HZN.out⟩) (by omega) (fun x hx => by obtain rfl : x = bs := (by simpa using hx); rw [HS.out]; rw [hn.out] at sl1; omega)).mono ?_
    rintro e w3 ⟨D', ts, rfl, H3⟩
    obtain ⟨AD, cD, hz3⟩ := HZd.out.setd H3.out.1 H3.out.2 (nD := 1) H3.out.1.rts.1
    have HZ3 := Lib.hid hz3
    clear hz3 H3
    obtain ⟨⟨c0, c1⟩, f0, f1⟩ := HZ3.out.cells
    go_wp2_with fail
    have HZ9 := Lib.hid (HZ3.out.drewN 1)
    have hs0 := setCell_self HZ3.out.b0
    have hs1 := setCell_self HZ3.out.b1
    go_region_held3 (fun w' => (w'.cell? ⟨w.heap.size, 0, none⟩ = some (.slice (some ⟨W0.heap.size, 0, none⟩) 3 3) ∧ w'.cell? ⟨w.heap.size + 1, 0, none⟩ = some (.slice AD 1 cD)) ∧ w'.frozen? ⟨w.heap.size, 0, none⟩ = false ∧ w'.frozen? ⟨w.heap.size + 1, 0, none⟩ = false) (first | exact ⟨⟨c0, c1⟩, f0, f1⟩ | (simp only [hs0, hs1]; exact ⟨⟨c0, c1⟩, f0, f1⟩) | go_keep) (fail)
    go_wp2_with fail
    clear f0 f1 hs0 hs1
    refine bodyPost_ret (v := .tuple #[.slice (some ⟨W0.heap.size, 0, none⟩) 3 3, .slice AD 1 cD, .int .i64 ((k : Nat) : Int)]) (by simp [results, Try.results12, go_sem, c0, c1]) rfl ?_
    exact ⟨HZ9.out.bel, .inr ⟨[v1, v2, 1], [bs], k, _, 3, _, _, 1, _, HP.out, rfl, rfl, by omega, HZ9.out.rv, rfl, by omega, HZ9.out.rd⟩⟩

end Go.Proofs.Ytggcnepdeaijoaa

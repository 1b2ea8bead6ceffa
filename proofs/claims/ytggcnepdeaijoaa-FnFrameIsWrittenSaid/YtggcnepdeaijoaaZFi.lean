/- The walk of ZZFrame, new connections' IDs. Conditions: the slice reads as bytes; its first byte is told. -/
import Derived.Test.YtggcnepdeaijoaaZFs
import Derived.Test.YtggcnepdeaijoaaConsI
import Derived.Deep.RegionHeld3
import Derived.BigQuiet
namespace Go.Proofs.Ytggcnepdeaijoaa
open Go.RowKit
set_option linter.unusedVariables false
set_option linter.unusedSimpArgs false

set_option maxRecDepth 100000 in
set_option maxHeartbeats 16000000 in
theorem zf24 (b o n c : Nat) (l : List Int) (w : World) (hr : Rd w (some ⟨b, o, none⟩) l) (hn : Hid (l.length = n)) (hnc : n ≤ c) (hc2 : c ≤ 9223372036854775807) (h1 : 1 ≤ n) (hn2 : n ≤ 4294967295) (h0 : w.cell? ⟨b, o, none⟩ = some (.int .u8 24)) :
    Calls Try.prog 12 #[.slice (some ⟨b, o, none⟩) n c] w fun e w' => ZfEnd w (Pid l) e w' := by
  obtain ⟨W0, hW0⟩ : ∃ W0, Hid (((w.alloc (.cells #[.slice none 0 0] 23 (0, 0))).alloc (.cells #[.slice none 0 0] 24 (0, 0))) = W0) := ⟨_, Lib.hid rfl⟩
  have HZ0 : Hid (Zs w W0 none 0 0 [] none 0 0 []) := by show Zs _ _ _ _ _ _ _ _ _ _; rw [← hW0.out]; exact Zs.new w
  have HR0 : Hid (Rd W0 (some ⟨b, o, none⟩) l) := hr.below HZ0.out.bel
  have hbl := World.block_lt_of_cell? _ _ h0
  have hc0' : ((w.alloc (.cells #[.slice none 0 0] 23 (0, 0))).alloc (.cells #[.slice none 0 0] 24 (0, 0))).cell? ⟨b, o, none⟩ = some (.int .u8 24) := by rw [hW0.out]; exact (HZ0.out.bel.cell (p := ⟨b, o, none⟩) hbl).trans h0
  have hn0 : ((n : Int) == 0) = false := by simp; omega
  have hn1 : (0 : Int) < (n : Int) := by omega
  clear hr h0 hbl
  go_enter Try.func12, Try.ntmps12
  go_wp2_with fail
  rw [hW0.out]
  refine (cid b o n c l W0 HR0.out hn hnc hc2 h1 hn2).mono ?_
  clear hc0'
  rintro e w1 ⟨he, hb1⟩
  have HZ1 := Lib.hid (HZ0.out.below hb1)
  clear hb1
  rcases he with ⟨hP, rfl⟩ | ⟨v1, v2, bs, k, s, A, c', x0, x1, x2, x3, x4, x5, x6, x7, x8, x9, x10, x11, x12, x13, x14, x15, hP, rfl, HS, HRD, sc1, sc2, HZN, s20, ⟨p1, q1⟩, ⟨p2, q2⟩, hbs⟩
  all_goals have HP := Lib.hid hP; clear hP
  · have HRD : Hid (Rd w1 none []) := Rd.nil _ _
    have hbs : Hid (Bs [0, 0, 0, 0, 0, 0, 0, 0, 0, 0, 0, 0, 0, 0, 0, 0]) := fun x hx => by simp at hx; omega
    have HS : Hid (([] : List Int).length = 0) := rfl
    have HZX := Lib.hid (HZ1.out.below ((Below.refl _ _).alloc (Nat.le_refl _) (.cells #[.int .u8 0, .int .u8 0, .int .u8 0, .int .u8 0, .int .u8 0, .int .u8 0, .int .u8 0, .int .u8 0, .int .u8 0, .int .u8 0, .int .u8 0, .int .u8 0, .int .u8 0, .int .u8 0, .int .u8 0, .int .u8 0] 64 (0, 0))))
    have hsX : Hid ((w1.alloc (.cells #[.int .u8 0, .int .u8 0, .int .u8 0, .int .u8 0, .int .u8 0, .int .u8 0, .int .u8 0, .int .u8 0, .int .u8 0, .int .u8 0, .int .u8 0, .int .u8 0, .int .u8 0, .int .u8 0, .int .u8 0, .int .u8 0] 64 (0, 0))).heap.size = w1.heap.size + 1) := by show _ = _; simp
    have hsz : Hid (w.heap.size + 2 ≤ w1.heap.size) := HZ1.out.size
    have hv1 := HZX.out.b0
    have HV1 := Lib.hid ((heap_alloc_old _ (.cells (flat EI [0, 0]).toArray 2 (0, 0)) (cell_in hv1)).trans hv1)
    clear hv1
    go_wp2_with fail
    refine (zfv w.heap.size _ 2 2 (.slice none 0 0) _ (by exact HV1.out)).mono ?_
    rintro e w2 ⟨rfl, hw2⟩
    have HZ2 : Hid (Zs w w2 (some ⟨w1.heap.size + 1, 0, none⟩) 2 2 [0, 0] none 0 0 []) := by
      show Zs _ _ _ _ _ _ _ _ _ _
      have h := HZX.out.setv [0, 0] 2 rfl (by omega)
      rw [hsX.out] at h
      rw [hw2]
      exact h
    have HRI : Hid (Rd w2 none []) := by show Rd _ _ _; rw [hw2]; exact HZX.out.rdv [0, 0] _ (HRD.out.alloc _)
    have HRT : Hid (Rd w2 (some ⟨w1.heap.size, 0, none⟩) [0, 0, 0, 0, 0, 0, 0, 0, 0, 0, 0, 0, 0, 0, 0, 0]) := by show Rd _ _ _; rw [hw2]; exact HZX.out.rdv [0, 0] _ (Rd.new w1 [0, 0, 0, 0, 0, 0, 0, 0, 0, 0, 0, 0, 0, 0, 0, 0] hbs.out 64)
    have HZd := Lib.hid (HZ2.out.below ((Below.refl _ _).alloc (Nat.le_refl _) (.cells (flat EB [(none, 0, 0), (some ⟨w1.heap.size, 0, none⟩, 16, 16)]).toArray 22 (0, 0))))
    have hsz2 : Hid (w.heap.size + 2 ≤ w2.heap.size) := HZ2.out.size
    clear hw2 HV1
    go_wp2_with fail
    refine (zfd (w.heap.size + 1) (some ⟨w2.heap.size, 0, none⟩) 2 2 [(none, 0, 0), (some ⟨w1.heap.size, 0, none⟩, 16, 16)] [[], [0, 0, 0, 0, 0, 0, 0, 0, 0, 0, 0, 0, 0, 0, 0, 0]] _ (by exact HZd.out.b1) (by exact RdE.new (E := EB) w2 [(none, 0, 0), (some ⟨w1.heap.size, 0, none⟩, 16, 16)] 22) (fun a ha => by obtain rfl : (⟨w2.heap.size, 0, none⟩ : Addr) = a := (by simpa using ha); have := hsz2.out; show _ ≠ _; simp only; omega) rfl (Rts.two ⟨HRI.out.alloc _, rfl, Nat.le_refl _, by simp, (fun _ => rfl)⟩ ⟨HRT.out.alloc _, rfl, Nat.le_refl _, by simp, (fun h => by cases h)⟩) (by omega) (fun x hx => (List.mem_cons.1 hx).elim (fun h => by rw [h, HS.out]; omega) (fun h => by obtain rfl : x = [0, 0, 0, 0, 0, 0, 0, 0, 0, 0, 0, 0, 0, 0, 0, 0] := (by simpa using h); simp))).mono ?_
    rintro e w3 ⟨D', ts, rfl, H3⟩
    obtain ⟨AD, cD, hz3⟩ := HZd.out.setd H3.out.1 H3.out.2 (nD := 2) H3.out.1.rts.1
    have HZ3 := Lib.hid hz3
    clear hz3 H3
    obtain ⟨⟨c0, c1⟩, f0, f1⟩ := HZ3.out.cells
    go_wp2_with fail
    obtain ⟨w9, h9, e0, e1, HB9⟩ := HZ3.out.clr
    rw [h9.out]
    clear c0 c1 f0 f1
    refine bodyPost_ret (v := .tuple #[.slice none 0 0, .slice none 0 0, .int .i64 (-1)]) (by simp [results, Try.results12, go_sem, e0, e1]) rfl ?_
    exact ⟨HB9.out, .inl ⟨HP.out, rfl⟩⟩
  · skip
    have HZX := Lib.hid (HZ1.out.below ((Below.refl _ _).alloc (Nat.le_refl _) (.cells #[.int .u8 x0, .int .u8 x1, .int .u8 x2, .int .u8 x3, .int .u8 x4, .int .u8 x5, .int .u8 x6, .int .u8 x7, .int .u8 x8, .int .u8 x9, .int .u8 x10, .int .u8 x11, .int .u8 x12, .int .u8 x13, .int .u8 x14, .int .u8 x15] 64 (0, 0))))
    have hsX : Hid ((w1.alloc (.cells #[.int .u8 x0, .int .u8 x1, .int .u8 x2, .int .u8 x3, .int .u8 x4, .int .u8 x5, .int .u8 x6, .int .u8 x7, .int .u8 x8, .int .u8 x9, .int .u8 x10, .int .u8 x11, .int .u8 x12, .int .u8 x13, .int .u8 x14, .int .u8 x15] 64 (0, 0))).heap.size = w1.heap.size + 1) := by show _ = _; simp
    have hsz : Hid (w.heap.size + 2 ≤ w1.heap.size) := HZ1.out.size
    have hv1 := HZX.out.b0
    have HV1 := Lib.hid ((heap_alloc_old _ (.cells (flat EI [v1, v2]).toArray 2 (0, 0)) (cell_in hv1)).trans hv1)
    clear hv1
    go_wp2_with fail
    refine (zfv w.heap.size _ 2 2 (.slice none 0 0) _ (by exact HV1.out)).mono ?_
    rintro e w2 ⟨rfl, hw2⟩
    have HZ2 : Hid (Zs w w2 (some ⟨w1.heap.size + 1, 0, none⟩) 2 2 [v1, v2] none 0 0 []) := by
      show Zs _ _ _ _ _ _ _ _ _ _
      have h := HZX.out.setv [v1, v2] 2 rfl (by omega)
      rw [hsX.out] at h
      rw [hw2]
      exact h
    have HRI : Hid (Rd w2 A bs) := by show Rd _ _ _; rw [hw2]; exact HZX.out.rdv [v1, v2] _ (HRD.out.alloc _)
    have HRT : Hid (Rd w2 (some ⟨w1.heap.size, 0, none⟩) [x0, x1, x2, x3, x4, x5, x6, x7, x8, x9, x10, x11, x12, x13, x14, x15]) := by show Rd _ _ _; rw [hw2]; exact HZX.out.rdv [v1, v2] _ (Rd.new w1 [x0, x1, x2, x3, x4, x5, x6, x7, x8, x9, x10, x11, x12, x13, x14, x15] hbs.out 64)
    have HZd := Lib.hid (HZ2.out.below ((Below.refl _ _).alloc (Nat.le_refl _) (.cells (flat EB [(A, s, c'), (some ⟨w1.heap.size, 0, none⟩, 16, 16)]).toArray 22 (0, 0))))
    have hsz2 : Hid (w.heap.size + 2 ≤ w2.heap.size) := HZ2.out.size
    clear hw2 HV1
    go_wp2_with fail
    refine (zfd (w.heap.size + 1) (some ⟨w2.heap.size, 0, none⟩) 2 2 [(A, s, c'), (some ⟨w1.heap.size, 0, none⟩, 16, 16)] [bs, [x0, x1, x2, x3, x4, x5, x6, x7, x8, x9, x10, x11, x12, x13, x14, x15]] _ (by exact HZd.out.b1) (by exact RdE.new (E := EB) w2 [(A, s, c'), (some ⟨w1.heap.size, 0, none⟩, 16, 16)] 22) (fun a ha => by obtain rfl : (⟨w2.heap.size, 0, none⟩ : Addr) = a := (by simpa using ha); have := hsz2.out; show _ ≠ _; simp only; omega) rfl (Rts.two ⟨HRI.out.alloc _, HS.out, sc1, sc2, HZN.out⟩ ⟨HRT.out.alloc _, rfl, Nat.le_refl _, by simp, (fun h => by cases h)⟩) (by omega) (fun x hx => (List.mem_cons.1 hx).elim (fun h => by rw [h, HS.out]; omega) (fun h => by obtain rfl : x = [x0, x1, x2, x3, x4, x5, x6, x7, x8, x9, x10, x11, x12, x13, x14, x15] := (by simpa using h); simp))).mono ?_
    rintro e w3 ⟨D', ts, rfl, H3⟩
    obtain ⟨AD, cD, hz3⟩ := HZd.out.setd H3.out.1 H3.out.2 (nD := 2) H3.out.1.rts.1
    have HZ3 := Lib.hid hz3
    clear hz3 H3
    obtain ⟨⟨c0, c1⟩, f0, f1⟩ := HZ3.out.cells
    go_wp2_with fail
    have HZ9 := Lib.hid (HZ3.out.drewN 1)
    have hs0 := setCell_self HZ3.out.b0
    have hs1 := setCell_self HZ3.out.b1
    go_region_held3 (fun w' => (w'.cell? ⟨w.heap.size, 0, none⟩ = some (.slice (some ⟨w1.heap.size + 1, 0, none⟩) 2 2) ∧ w'.cell? ⟨w.heap.size + 1, 0, none⟩ = some (.slice AD 2 cD)) ∧ w'.frozen? ⟨w.heap.size, 0, none⟩ = false ∧ w'.frozen? ⟨w.heap.size + 1, 0, none⟩ = false) (first | exact ⟨⟨c0, c1⟩, f0, f1⟩ | (simp only [hs0, hs1]; exact ⟨⟨c0, c1⟩, f0, f1⟩) | go_keep) (fail)
    go_wp2_with fail
    clear f0 f1 hs0 hs1
    refine bodyPost_ret (v := .tuple #[.slice (some ⟨w1.heap.size + 1, 0, none⟩) 2 2, .slice AD 2 cD, .int .i64 ((k : Nat) : Int)]) (by simp [results, Try.results12, go_sem, c0, c1]) rfl ?_
    exact ⟨HZ9.out.bel, .inr ⟨[v1, v2], [bs, [x0, x1, x2, x3, x4, x5, x6, x7, x8, x9, x10, x11, x12, x13, x14, x15]], k, _, 2, _, _, 2, _, HP.out, rfl, rfl, by omega, HZ9.out.rv, rfl, by omega, HZ9.out.rd⟩⟩

end Go.Proofs.Ytggcnepdeaijoaa

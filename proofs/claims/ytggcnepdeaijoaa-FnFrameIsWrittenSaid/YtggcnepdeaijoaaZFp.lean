/- The walk of ZZFrame, path challenges and responses. Conditions: the slice reads as bytes; its first byte is told. -/
import Derived.Test.YtggcnepdeaijoaaZFs
import Derived.Test.YtggcnepdeaijoaaConsP
import Derived.Deep.RegionHeld3
import Derived.BigQuiet
namespace Go.Proofs.Ytggcnepdeaijoaa
open Go.RowKit
set_option linter.unusedVariables false
set_option linter.unusedSimpArgs false

set_option maxRecDepth 100000 in
set_option maxHeartbeats 16000000 in
theorem zf26 (b o n c : Nat) (l : List Int) (w : World) (hr : Rd w (some ⟨b, o, none⟩) l) (hn : Hid (l.length = n)) (hnc : n ≤ c) (hc2 : c ≤ 9223372036854775807) (h1 : 1 ≤ n) (hn2 : n ≤ 4294967295) (h0 : w.cell? ⟨b, o, none⟩ = some (.int .u8 26)) :
    Calls Try.prog 12 #[.slice (some ⟨b, o, none⟩) n c] w fun e w' => ZfEnd w (Ppc l) e w' := by
  obtain ⟨W0, hW0⟩ : ∃ W0, Hid (((w.alloc (.cells #[.slice none 0 0] 23 (0, 0))).alloc (.cells #[.slice none 0 0] 24 (0, 0))) = W0) := ⟨_, Lib.hid rfl⟩
  have HZ0 : Hid (Zs w W0 none 0 0 [] none 0 0 []) := by show Zs _ _ _ _ _ _ _ _ _ _; rw [← hW0.out]; exact Zs.new w
  have HR0 : Hid (Rd W0 (some ⟨b, o, none⟩) l) := hr.below HZ0.out.bel
  have hbl := World.block_lt_of_cell? _ _ h0
  have hc0' : ((w.alloc (.cells #[.slice none 0 0] 23 (0, 0))).alloc (.cells #[.slice none 0 0] 24 (0, 0))).cell? ⟨b, o, none⟩ = some (.int .u8 26) := by rw [hW0.out]; exact (HZ0.out.bel.cell (p := ⟨b, o, none⟩) hbl).trans h0
  have hn0 : ((n : Int) == 0) = false := by simp; omega
  have hn1 : (0 : Int) < (n : Int) := by omega
  clear hr h0 hbl
  go_enter Try.func12, Try.ntmps12
  go_wp2_with fail
  rw [hW0.out]
  refine (cpc b o n c l W0 HR0.out hn hnc hc2 h1 hn2).mono ?_
  clear hc0'
  rintro e w1 ⟨he, hb1⟩
  have HZ1 := Lib.hid (HZ0.out.below hb1)
  clear hb1
  rcases he with ⟨hP, x0, x1, x2, x3, x4, x5, x6, x7, rfl, hbs⟩ | ⟨x0, x1, x2, x3, x4, x5, x6, x7, hP, rfl, hbs⟩
  all_goals have HP := Lib.hid hP; clear hP
  · have HZX := Lib.hid (HZ1.out.below ((Below.refl _ _).alloc (Nat.le_refl _) (.cells #[.int .u8 x0, .int .u8 x1, .int .u8 x2, .int .u8 x3, .int .u8 x4, .int .u8 x5, .int .u8 x6, .int .u8 x7] 68 (0, 0))))
    have hsx : (w1.alloc (.cells #[.int .u8 x0, .int .u8 x1, .int .u8 x2, .int .u8 x3, .int .u8 x4, .int .u8 x5, .int .u8 x6, .int .u8 x7] 68 (0, 0))).heap.size = w1.heap.size + 1 := by simp
    have hsX := Lib.hid hsx
    have hr := RdE.new (E := EB) (w1.alloc (.cells #[.int .u8 x0, .int .u8 x1, .int .u8 x2, .int .u8 x3, .int .u8 x4, .int .u8 x5, .int .u8 x6, .int .u8 x7] 68 (0, 0))) [(some ⟨w1.heap.size, 0, none⟩, 8, 8)] 22
    rw [hsx] at hr
    have HRE := Lib.hid hr
    have HRD := Lib.hid (Rd.new w1 [x0, x1, x2, x3, x4, x5, x6, x7] hbs.out 68)
    have HZd := Lib.hid (HZX.out.below ((Below.refl _ _).alloc (Nat.le_refl _) (.cells (flat EB [(some ⟨w1.heap.size, 0, none⟩, 8, 8)]).toArray 22 (0, 0))))
    have hsz : Hid (w.heap.size + 2 ≤ w1.heap.size) := HZ1.out.size
    clear hr hsx
    go_wp2_with fail
    refine (zfd (w.heap.size + 1) (some ⟨w1.heap.size + 1, 0, none⟩) 1 1 [(some ⟨w1.heap.size, 0, none⟩, 8, 8)] [[x0, x1, x2, x3, x4, x5, x6, x7]] _ (by exact HZd.out.b1) (by exact HRE.out) (fun a ha => by obtain rfl : (⟨w1.heap.size + 1, 0, none⟩ : Addr) = a := (by simpa using ha); have := hsz.out; show _ ≠ _; simp only; omega) rfl (Rts.one ⟨(by exact HRD.out.alloc _), rfl, Nat.le_refl _, by simp, (fun h => by cases h)⟩) (by omega) (fun x hx => by obtain rfl : x = [x0, x1, x2, x3, x4, x5, x6, x7] := (by simpa using hx); simp)).mono ?_
    rintro e w3 ⟨D', ts, rfl, H3⟩
    obtain ⟨AD, cD, hz3⟩ := HZd.out.setd H3.out.1 H3.out.2 (nD := 1) H3.out.1.rts.1
    have HZ3 := Lib.hid hz3
    clear hz3 H3
    obtain ⟨⟨c0, c1⟩, f0, f1⟩ := HZ3.out.cells
    go_wp2_with fail
    obtain ⟨w9, h9, e0, e1, HB9⟩ := HZ3.out.clr
    rw [h9.out]
    clear c0 c1 f0 f1
    refine bodyPost_ret (v := .tuple #[.slice none 0 0, .slice none 0 0, .int .i64 (-1)]) (by simp [results, Try.results12, go_sem, e0, e1]) rfl ?_
    exact ⟨HB9.out, .inl ⟨HP.out, rfl⟩⟩
  · have HZX := Lib.hid (HZ1.out.below ((Below.refl _ _).alloc (Nat.le_refl _) (.cells #[.int .u8 x0, .int .u8 x1, .int .u8 x2, .int .u8 x3, .int .u8 x4, .int .u8 x5, .int .u8 x6, .int .u8 x7] 68 (0, 0))))
    have hsx : (w1.alloc (.cells #[.int .u8 x0, .int .u8 x1, .int .u8 x2, .int .u8 x3, .int .u8 x4, .int .u8 x5, .int .u8 x6, .int .u8 x7] 68 (0, 0))).heap.size = w1.heap.size + 1 := by simp
    have hsX := Lib.hid hsx
    have hr := RdE.new (E := EB) (w1.alloc (.cells #[.int .u8 x0, .int .u8 x1, .int .u8 x2, .int .u8 x3, .int .u8 x4, .int .u8 x5, .int .u8 x6, .int .u8 x7] 68 (0, 0))) [(some ⟨w1.heap.size, 0, none⟩, 8, 8)] 22
    rw [hsx] at hr
    have HRE := Lib.hid hr
    have HRD := Lib.hid (Rd.new w1 [x0, x1, x2, x3, x4, x5, x6, x7] hbs.out 68)
    have HZd := Lib.hid (HZX.out.below ((Below.refl _ _).alloc (Nat.le_refl _) (.cells (flat EB [(some ⟨w1.heap.size, 0, none⟩, 8, 8)]).toArray 22 (0, 0))))
    have hsz : Hid (w.heap.size + 2 ≤ w1.heap.size) := HZ1.out.size
    clear hr hsx
    go_wp2_with fail
    refine (zfd (w.heap.size + 1) (some ⟨w1.heap.size + 1, 0, none⟩) 1 1 [(some ⟨w1.heap.size, 0, none⟩, 8, 8)] [[x0, x1, x2, x3, x4, x5, x6, x7]] _ (by exact HZd.out.b1) (by exact HRE.out) (fun a ha => by obtain rfl : (⟨w1.heap.size + 1, 0, none⟩ : Addr) = a := (by simpa using ha); have := hsz.out; show _ ≠ _; simp only; omega) rfl (Rts.one ⟨(by exact HRD.out.alloc _), rfl, Nat.le_refl _, by simp, (fun h => by cases h)⟩) (by omega) (fun x hx => by obtain rfl : x = [x0, x1, x2, x3, x4, x5, x6, x7] := (by simpa using hx); simp)).mono ?_
    rintro e w3 ⟨D', ts, rfl, H3⟩
    obtain ⟨AD, cD, hz3⟩ := HZd.out.setd H3.out.1 H3.out.2 (nD := 1) H3.out.1.rts.1
    have HZ3 := Lib.hid hz3
    clear hz3 H3
    obtain ⟨⟨c0, c1⟩, f0, f1⟩ := HZ3.out.cells
    go_wp2_with fail
    have HZ9 := Lib.hid (HZ3.out.drewN 1)
    have hs0 := setCell_self HZ3.out.b0
    have hs1 := setCell_self HZ3.out.b1
    go_region_held3 (fun w' => (w'.cell? ⟨w.heap.size, 0, none⟩ = some (.slice none 0 0) ∧ w'.cell? ⟨w.heap.size + 1, 0, none⟩ = some (.slice AD 1 cD)) ∧ w'.frozen? ⟨w.heap.size, 0, none⟩ = false ∧ w'.frozen? ⟨w.heap.size + 1, 0, none⟩ = false) (first | exact ⟨⟨c0, c1⟩, f0, f1⟩ | (simp only [hs0, hs1]; exact ⟨⟨c0, c1⟩, f0, f1⟩) | go_keep) (fail)
    go_wp2_with fail
    clear f0 f1 hs0 hs1
    refine bodyPost_ret (v := .tuple #[.slice none 0 0, .slice AD 1 cD, .int .i64 ((9 : Nat) : Int)]) (by simp [results, Try.results12, go_sem, c0, c1]) rfl ?_
    exact ⟨HZ9.out.bel, .inr ⟨[], [[x0, x1, x2, x3, x4, x5, x6, x7]], 9, _, 0, _, _, 1, _, HP.out, rfl, rfl, by omega, HZ9.out.rv, rfl, by omega, HZ9.out.rd⟩⟩

set_option maxRecDepth 100000 in
set_option maxHeartbeats 16000000 in
theorem zf27 (b o n c : Nat) (l : List Int) (w : World) (hr : Rd w (some ⟨b, o, none⟩) l) (hn : Hid (l.length = n)) (hnc : n ≤ c) (hc2 : c ≤ 9223372036854775807) (h1 : 1 ≤ n) (hn2 : n ≤ 4294967295) (h0 : w.cell? ⟨b, o, none⟩ = some (.int .u8 27)) :
    Calls Try.prog 12 #[.slice (some ⟨b, o, none⟩) n c] w fun e w' => ZfEnd w (Ppc l) e w' := by
  obtain ⟨W0, hW0⟩ : ∃ W0, Hid (((w.alloc (.cells #[.slice none 0 0] 23 (0, 0))).alloc (.cells #[.slice none 0 0] 24 (0, 0))) = W0) := ⟨_, Lib.hid rfl⟩
  have HZ0 : Hid (Zs w W0 none 0 0 [] none 0 0 []) := by show Zs _ _ _ _ _ _ _ _ _ _; rw [← hW0.out]; exact Zs.new w
  have HR0 : Hid (Rd W0 (some ⟨b, o, none⟩) l) := hr.below HZ0.out.bel
  have hbl := World.block_lt_of_cell? _ _ h0
  have hc0' : ((w.alloc (.cells #[.slice none 0 0] 23 (0, 0))).alloc (.cells #[.slice none 0 0] 24 (0, 0))).cell? ⟨b, o, none⟩ = some (.int .u8 27) := by rw [hW0.out]; exact (HZ0.out.bel.cell (p := ⟨b, o, none⟩) hbl).trans h0
  have hn0 : ((n : Int) == 0) = false := by simp; omega
  have hn1 : (0 : Int) < (n : Int) := by omega
  clear hr h0 hbl
  go_enter Try.func12, Try.ntmps12
  go_wp2_with fail
  rw [hW0.out]
  refine (cpr b o n c l W0 HR0.out hn hnc hc2 h1 hn2).mono ?_
  clear hc0'
  rintro e w1 ⟨he, hb1⟩
  have HZ1 := Lib.hid (HZ0.out.below hb1)
  clear hb1
  rcases he with ⟨hP, x0, x1, x2, x3, x4, x5, x6, x7, rfl, hbs⟩ | ⟨x0, x1, x2, x3, x4, x5, x6, x7, hP, rfl, hbs⟩
  all_goals have HP := Lib.hid hP; clear hP
  · have HZX := Lib.hid (HZ1.out.below ((Below.refl _ _).alloc (Nat.le_refl _) (.cells #[.int .u8 x0, .int .u8 x1, .int .u8 x2, .int .u8 x3, .int .u8 x4, .int .u8 x5, .int .u8 x6, .int .u8 x7] 68 (0, 0))))
    have hsx : (w1.alloc (.cells #[.int .u8 x0, .int .u8 x1, .int .u8 x2, .int .u8 x3, .int .u8 x4, .int .u8 x5, .int .u8 x6, .int .u8 x7] 68 (0, 0))).heap.size = w1.heap.size + 1 := by simp
    have hsX := Lib.hid hsx
    have hr := RdE.new (E := EB) (w1.alloc (.cells #[.int .u8 x0, .int .u8 x1, .int .u8 x2, .int .u8 x3, .int .u8 x4, .int .u8 x5, .int .u8 x6, .int .u8 x7] 68 (0, 0))) [(some ⟨w1.heap.size, 0, none⟩, 8, 8)] 22
    rw [hsx] at hr
    have HRE := Lib.hid hr
    have HRD := Lib.hid (Rd.new w1 [x0, x1, x2, x3, x4, x5, x6, x7] hbs.out 68)
    have HZd := Lib.hid (HZX.out.below ((Below.refl _ _).alloc (Nat.le_refl _) (.cells (flat EB [(some ⟨w1.heap.size, 0, none⟩, 8, 8)]).toArray 22 (0, 0))))
    have hsz : Hid (w.heap.size + 2 ≤ w1.heap.size) := HZ1.out.size
    clear hr hsx
    go_wp2_with fail
    refine (zfd (w.heap.size + 1) (some ⟨w1.heap.size + 1, 0, none⟩) 1 1 [(some ⟨w1.heap.size, 0, none⟩, 8, 8)] [[x0, x1, x2, x3, x4, x5, x6, x7]] _ (by exact HZd.out.b1) (by exact HRE.out) (fun a ha => by obtain rfl : (⟨w1.heap.size + 1, 0, none⟩ : Addr) = a := (by simpa using ha); have := hsz.out; show _ ≠ _; simp only; omega) rfl (Rts.one ⟨(by exact HRD.out.alloc _), rfl, Nat.le_refl _, by simp, (fun h => by cases h)⟩) (by omega) (fun x hx => by obtain rfl : x = [x0, x1, x2, x3, x4, x5, x6, x7] := (by simpa using hx); simp)).mono ?_
    rintro e w3 ⟨D', ts, rfl, H3⟩
    obtain ⟨AD, cD, hz3⟩ := HZd.out.setd H3.out.1 H3.out.2 (nD := 1) H3.out.1.rts.1
    have HZ3 := Lib.hid hz3
    clear hz3 H3
    obtain ⟨⟨c0, c1⟩, f0, f1⟩ := HZ3.out.cells
    go_wp2_with fail
    obtain ⟨w9, h9, e0, e1, HB9⟩ := HZ3.out.clr
    rw [h9.out]
    clear c0 c1 f0 f1
    refine bodyPost_ret (v := .tuple #[.slice none 0 0, .slice none 0 0, .int .i64 (-1)]) (by simp [results, Try.results12, go_sem, e0, e1]) rfl ?_
    exact ⟨HB9.out, .inl ⟨HP.out, rfl⟩⟩
  · have HZX := Lib.hid (HZ1.out.below ((Below.refl _ _).alloc (Nat.le_refl _) (.cells #[.int .u8 x0, .int .u8 x1, .int .u8 x2, .int .u8 x3, .int .u8 x4, .int .u8 x5, .int .u8 x6, .int .u8 x7] 68 (0, 0))))
    have hsx : (w1.alloc (.cells #[.int .u8 x0, .int .u8 x1, .int .u8 x2, .int .u8 x3, .int .u8 x4, .int .u8 x5, .int .u8 x6, .int .u8 x7] 68 (0, 0))).heap.size = w1.heap.size + 1 := by simp
    have hsX := Lib.hid hsx
    have hr := RdE.new (E := EB) (w1.alloc (.cells #[.int .u8 x0, .int .u8 x1, .int .u8 x2, .int .u8 x3, .int .u8 x4, .int .u8 x5, .int .u8 x6, .int .u8 x7] 68 (0, 0))) [(some ⟨w1.heap.size, 0, none⟩, 8, 8)] 22
    rw [hsx] at hr
    have HRE := Lib.hid hr
    have HRD := Lib.hid (Rd.new w1 [x0, x1, x2, x3, x4, x5, x6, x7] hbs.out 68)
    have HZd := Lib.hid (HZX.out.below ((Below.refl _ _).alloc (Nat.le_refl _) (.cells (flat EB [(some ⟨w1.heap.size, 0, none⟩, 8, 8)]).toArray 22 (0, 0))))
    have hsz : Hid (w.heap.size + 2 ≤ w1.heap.size) := HZ1.out.size
    clear hr hsx
    go_wp2_with fail
    refine (zfd (w.heap.size + 1) (some ⟨w1.heap.size + 1, 0, none⟩) 1 1 [(some ⟨w1.heap.size, 0, none⟩, 8, 8)] [[x0, x1, x2, x3, x4, x5, x6, x7]] _ (by exact HZd.out.b1) (by exact HRE.out) (fun a ha => by obtain rfl : (⟨w1.heap.size + 1, 0, none⟩ : Addr) = a := (by simpa using ha); have := hsz.out; show _ ≠ _; simp only; omega) rfl (Rts.one ⟨(by exact HRD.out.alloc _), rfl, Nat.le_refl _, by simp, (fun h => by cases h)⟩) (by omega) (fun x hx => by obtain rfl : x = [x0, x1, x2, x3, x4, x5, x6, x7] := (by simpa using hx); simp)).mono ?_
    rintro e w3 ⟨D', ts, rfl, H3⟩
    obtain ⟨AD, cD, hz3⟩ := HZd.out.setd H3.out.1 H3.out.2 (nD := 1) H3.out.1.rts.1
    have HZ3 := Lib.hid hz3
    clear hz3 H3
    obtain ⟨⟨c0, c1⟩, f0, f1⟩ := HZ3.out.cells
    go_wp2_with fail
    have HZ9 := Lib.hid (HZ3.out.drewN 1)
    have hs0 := setCell_self HZ3.out.b0
    have hs1 := setCell_self HZ3.out.b1
    go_region_held3 (fun w' => (w'.cell? ⟨w.heap.size, 0, none⟩ = some (.slice none 0 0) ∧ w'.cell? ⟨w.heap.size + 1, 0, none⟩ = some (.slice AD 1 cD)) ∧ w'.frozen? ⟨w.heap.size, 0, none⟩ = false ∧ w'.frozen? ⟨w.heap.size + 1, 0, none⟩ = false) (first | exact ⟨⟨c0, c1⟩, f0, f1⟩ | (simp only [hs0, hs1]; exact ⟨⟨c0, c1⟩, f0, f1⟩) | go_keep) (fail)
    go_wp2_with fail
    clear f0 f1 hs0 hs1
    refine bodyPost_ret (v := .tuple #[.slice none 0 0, .slice AD 1 cD, .int .i64 ((9 : Nat) : Int)]) (by simp [results, Try.results12, go_sem, c0, c1]) rfl ?_
    exact ⟨HZ9.out.bel, .inr ⟨[], [[x0, x1, x2, x3, x4, x5, x6, x7]], 9, _, 0, _, _, 1, _, HP.out, rfl, rfl, by omega, HZ9.out.rv, rfl, by omega, HZ9.out.rd⟩⟩

end Go.Proofs.Ytggcnepdeaijoaa

/- The writer's appends of frames of numbers. The writer's appends of frames with bytes behind their length. The writer's appends of a path's challenge and its answer. The writer's append of a new connection's ID. The writer's appends of crypto and streams' frames, and the copy behind them. Conditions: as each part says. -/
import Derived.Test.YtggcnepdeaijoaaWrA
import Derived.Test.YtggcnepdeaijoaaStrB
import Derived.Test.YtggcnepdeaijoaaConsP
import Derived.Deep.RegionLaw
import Derived.Deep.CutRange
import Derived.Test.YtggcnepdeaijoaaConsI
import Derived.Test.YtggcnepdeaijoaaElt
namespace Go.Proofs.Ytggcnepdeaijoaa
section
open Go.RowKit
set_option linter.unusedVariables false
set_option linter.unusedSimpArgs false

theorem PEnd.mk {p s g c n : Nat} {w W w' : World} {l : List Int} (h0 : Wq p s g c w 0 []) (h : Wq p s g c W n l) (hC : Ch p s g w W) (hf : Fo W.heap.size s W w') : PEnd p s g c w l (.returned (.bool true)) w' := by
  have hd := h.done hf
  have hn := h.ln
  have h1 := h0.gp
  have h2 := h0.sp
  have h3 := cell_in h0.sc
  subst hn
  exact ⟨rfl, ⟨hd.c3, hd.c4, hd.c5, hd.own, (hC.below (by omega) (by omega) (by omega) (by omega)).trans hd.bel⟩, hC.trans (Ch.of_fo hf)⟩

set_option maxRecDepth 100000 in
set_option maxHeartbeats 4000000 in
theorem ap_rs (p s g c : Nat) (a b d : Int) (ha0 : 0 ≤ a) (ha1 : a ≤ 4611686018427387903) (hb0 : 0 ≤ b) (hb1 : b ≤ 4611686018427387903) (hd0 : 0 ≤ d) (hd1 : d ≤ 4611686018427387903) (w : World) (hW : Wq p s g c w 0 []) :
    Calls Try.prog 39 #[.pointer (some ⟨p, 0, none⟩), .int .u64 a, .int .u64 b, .int .i64 d] w fun e w' => PEnd p s g c w ([] ++ [4] ++ enc a ++ enc b ++ enc d) e w' := by
  have HW := Lib.hid hW
  obtain ⟨hc0, hc1⟩ := hW.cc
  clear hW
  obtain ⟨ka, hka, hka0, hka1⟩ := eszk a
  obtain ⟨kb, hkb, hkb0, hkb1⟩ := eszk b
  obtain ⟨kd, hkd, hkd0, hkd1⟩ := eszk d
  have hfit : ¬ ((10000 : Int) < 1 + (ka : Int) + (kb : Int) + (kd : Int)) := by omega
  have hfit' : decide ((10000 : Int) < 1 + (ka : Int) + (kb : Int) + (kd : Int)) = false := by simp; omega
  go_enter Try.func39, Try.ntmps39
  go_wp2_with fail
  refine (avq w HW.out).mono ?_
  rintro e w1 ⟨rfl, H1⟩
  have HW1 := Lib.hid H1.out.1
  have HC1 : Hid (Ch p s g w w1) := by obtain ⟨z, hz⟩ := H1.out.2; show Ch _ _ _ _ _; rw [hz]; exact (Ch.refl _ _ _ _).drewN z
  clear H1
  go_wp2_with fail
  refine (svk a ka w1 hka ha0 ha1).mono ?_
  rintro e w0 ⟨rfl, rfl⟩
  go_wp2_with fail
  refine (svk b kb w1 hkb hb0 hb1).mono ?_
  rintro e w0 ⟨rfl, rfl⟩
  go_wp2_with fail
  refine (svk d kd w1 hkd hd0 hd1).mono ?_
  rintro e w0 ⟨rfl, rfl⟩
  obtain ⟨⟨-, -, c4, -⟩, f4⟩ := HW1.out.cells
  have HA := Lib.hid (HW1.out.alloc (.cells #[.int .u8 4] 5 (0, 0)))
  have HR := Lib.hid (Rd.new w1 [4] (Bs.nil.cons (by omega)) 5)
  have HM : Hid (List.length [(4 : Int)] = 1) := rfl
  have HN : Hid (List.length ([] : List Int) = 0) := rfl
  have HL : Hid (List.length ([] ++ [(4 : Int)]) = 1) := rfl
  have HZ : Hid ((some ⟨w1.heap.size, 0, none⟩ : Option Addr) = none → 1 = 0) := fun h => by cases h
  go_wp2_with (at_builtin; refine wpList_appR (p + 1) _ rfl _ _ rfl g 0 c [] rfl HA.out.own HN (some ⟨w1.heap.size, 0, none⟩) 1 1 [4] rfl HM (by exact HR.out) HZ (by omega) ?_; intro w2 ho2 hg2; obtain ⟨y1, y2, HQ2⟩ := HA.out.app (n1 := 1) ho2.out hg2.out HL)
  have HC2 := Lib.hid ((HC1.out.trans (Ch.of_below ((Below.refl _ _).alloc (Nat.le_refl _) _))).trans HQ2.out.2)
  have HW2 := Lib.hid HQ2.out.1
  clear HA HR HM HN HZ HQ2 HC1 HW1 ho2 hg2 c4 f4
  obtain ⟨n3, hn3⟩ : ∃ N, Hid (1 + esz a = N) := ⟨_, Lib.hid rfl⟩
  have b3 : n3 ≤ 9 := by have := hn3.out; have := hka.out; omega
  have HL3 : Hid (List.length ([] ++ [4] ++ enc a) = n3) := by show _ = _; rw [List.length_append, enc_length, HL.out]; exact hn3.out
  refine (avr (p + 1) g 1 c n3 ([] ++ [4]) a _ HW2.out.own HL hn3 (by omega) hc1 ha0 ha1).mono ?_
  rintro e w3 ⟨rfl, H3⟩
  clear y1 y2
  obtain ⟨y1, y2, HQ3⟩ := HW2.out.app H3.out.1 H3.out.2 HL3
  have HC3 := Lib.hid (HC2.out.trans HQ3.out.2)
  have HW3 := Lib.hid HQ3.out.1
  clear H3 HQ3 HC2 HW2 HL
  go_wp2_with fail
  obtain ⟨n4, hn4⟩ : ∃ N, Hid (n3 + esz b = N) := ⟨_, Lib.hid rfl⟩
  have b4 : n4 ≤ 17 := by have := hn4.out; have := hkb.out; omega
  have HL4 : Hid (List.length ([] ++ [4] ++ enc a ++ enc b) = n4) := by show _ = _; rw [List.length_append, enc_length, HL3.out]; exact hn4.out
  refine (avr (p + 1) g n3 c n4 ([] ++ [4] ++ enc a) b _ HW3.out.own HL3 hn4 (by omega) hc1 hb0 hb1).mono ?_
  rintro e w4 ⟨rfl, H4⟩
  clear y1 y2
  obtain ⟨y1, y2, HQ4⟩ := HW3.out.app H4.out.1 H4.out.2 HL4
  have HC4 := Lib.hid (HC3.out.trans HQ4.out.2)
  have HW4 := Lib.hid HQ4.out.1
  clear H4 HQ4 HC3 HW3 HL3
  go_wp2_with fail
  obtain ⟨n5, hn5⟩ : ∃ N, Hid (n4 + esz d = N) := ⟨_, Lib.hid rfl⟩
  have b5 : n5 ≤ 25 := by have := hn5.out; have := hkd.out; omega
  have HL5 : Hid (List.length ([] ++ [4] ++ enc a ++ enc b ++ enc d) = n5) := by show _ = _; rw [List.length_append, enc_length, HL4.out]; exact hn5.out
  refine (avr (p + 1) g n4 c n5 ([] ++ [4] ++ enc a ++ enc b) d _ HW4.out.own HL4 hn5 (by omega) hc1 hd0 hd1).mono ?_
  rintro e w5 ⟨rfl, H5⟩
  clear y1 y2
  obtain ⟨y1, y2, HQ5⟩ := HW4.out.app H5.out.1 H5.out.2 HL5
  have HC5 := Lib.hid (HC4.out.trans HQ5.out.2)
  have HW5 := Lib.hid HQ5.out.1
  clear H5 HQ5 HC4 HW4 HL4
  have d5 := HW5.out.cells.1.2.2.2
  go_wp2_with fail
  clear y1 y2 d5
  refine (snt_ack _ s 0 4 _ HW5.out.ts (by omega) (by omega)).mono ?_
  rintro e w6 ⟨rfl, H6⟩
  obtain ⟨d5, d4⟩ := HW5.out.fo H6.out.2
  have HF := Lib.hid H6.out.2
  have HT := Lib.hid H6.out.1
  clear H6
  go_wp2_with fail
  refine (snt_int _ s 1 a _ HT.out (by omega) ha0 ha1).mono ?_
  rintro e w7 ⟨rfl, H7⟩
  have HF := Lib.hid (HF.out.trans H7.out.2)
  have HT := Lib.hid H7.out.1
  clear d5 d4
  obtain ⟨d5, d4⟩ := HW5.out.fo HF.out
  clear H7
  go_wp2_with fail
  go_ret
  exact PEnd.mk HW.out HW5.out HC5.out HF.out

set_option maxRecDepth 100000 in
set_option maxHeartbeats 4000000 in
theorem ap_ss (p s g c : Nat) (a b : Int) (ha0 : 0 ≤ a) (ha1 : a ≤ 4611686018427387903) (hb0 : 0 ≤ b) (hb1 : b ≤ 4611686018427387903) (w : World) (hW : Wq p s g c w 0 []) :
    Calls Try.prog 40 #[.pointer (some ⟨p, 0, none⟩), .int .u64 a, .int .u64 b] w fun e w' => PEnd p s g c w ([] ++ [5] ++ enc a ++ enc b) e w' := by
  have HW := Lib.hid hW
  obtain ⟨hc0, hc1⟩ := hW.cc
  clear hW
  obtain ⟨ka, hka, hka0, hka1⟩ := eszk a
  obtain ⟨kb, hkb, hkb0, hkb1⟩ := eszk b
  have hfit : ¬ ((10000 : Int) < 1 + (ka : Int) + (kb : Int)) := by omega
  have hfit' : decide ((10000 : Int) < 1 + (ka : Int) + (kb : Int)) = false := by simp; omega
  go_enter Try.func40, Try.ntmps40
  go_wp2_with fail
  refine (avq w HW.out).mono ?_
  rintro e w1 ⟨rfl, H1⟩
  have HW1 := Lib.hid H1.out.1
  have HC1 : Hid (Ch p s g w w1) := by obtain ⟨z, hz⟩ := H1.out.2; show Ch _ _ _ _ _; rw [hz]; exact (Ch.refl _ _ _ _).drewN z
  clear H1
  go_wp2_with fail
  refine (svk a ka w1 hka ha0 ha1).mono ?_
  rintro e w0 ⟨rfl, rfl⟩
  go_wp2_with fail
  refine (svk b kb w1 hkb hb0 hb1).mono ?_
  rintro e w0 ⟨rfl, rfl⟩
  obtain ⟨⟨-, -, c4, -⟩, f4⟩ := HW1.out.cells
  have HA := Lib.hid (HW1.out.alloc (.cells #[.int .u8 5] 5 (0, 0)))
  have HR := Lib.hid (Rd.new w1 [5] (Bs.nil.cons (by omega)) 5)
  have HM : Hid (List.length [(5 : Int)] = 1) := rfl
  have HN : Hid (List.length ([] : List Int) = 0) := rfl
  have HL : Hid (List.length ([] ++ [(5 : Int)]) = 1) := rfl
  have HZ : Hid ((some ⟨w1.heap.size, 0, none⟩ : Option Addr) = none → 1 = 0) := fun h => by cases h
  go_wp2_with (at_builtin; refine wpList_appR (p + 1) _ rfl _ _ rfl g 0 c [] rfl HA.out.own HN (some ⟨w1.heap.size, 0, none⟩) 1 1 [5] rfl HM (by exact HR.out) HZ (by omega) ?_; intro w2 ho2 hg2; obtain ⟨y1, y2, HQ2⟩ := HA.out.app (n1 := 1) ho2.out hg2.out HL)
  have HC2 := Lib.hid ((HC1.out.trans (Ch.of_below ((Below.refl _ _).alloc (Nat.le_refl _) _))).trans HQ2.out.2)
  have HW2 := Lib.hid HQ2.out.1
  clear HA HR HM HN HZ HQ2 HC1 HW1 ho2 hg2 c4 f4
  obtain ⟨n3, hn3⟩ : ∃ N, Hid (1 + esz a = N) := ⟨_, Lib.hid rfl⟩
  have b3 : n3 ≤ 9 := by have := hn3.out; have := hka.out; omega
  have HL3 : Hid (List.length ([] ++ [5] ++ enc a) = n3) := by show _ = _; rw [List.length_append, enc_length, HL.out]; exact hn3.out
  refine (avr (p + 1) g 1 c n3 ([] ++ [5]) a _ HW2.out.own HL hn3 (by omega) hc1 ha0 ha1).mono ?_
  rintro e w3 ⟨rfl, H3⟩
  clear y1 y2
  obtain ⟨y1, y2, HQ3⟩ := HW2.out.app H3.out.1 H3.out.2 HL3
  have HC3 := Lib.hid (HC2.out.trans HQ3.out.2)
  have HW3 := Lib.hid HQ3.out.1
  clear H3 HQ3 HC2 HW2 HL
  go_wp2_with fail
  obtain ⟨n4, hn4⟩ : ∃ N, Hid (n3 + esz b = N) := ⟨_, Lib.hid rfl⟩
  have b4 : n4 ≤ 17 := by have := hn4.out; have := hkb.out; omega
  have HL4 : Hid (List.length ([] ++ [5] ++ enc a ++ enc b) = n4) := by show _ = _; rw [List.length_append, enc_length, HL3.out]; exact hn4.out
  refine (avr (p + 1) g n3 c n4 ([] ++ [5] ++ enc a) b _ HW3.out.own HL3 hn4 (by omega) hc1 hb0 hb1).mono ?_
  rintro e w4 ⟨rfl, H4⟩
  clear y1 y2
  obtain ⟨y1, y2, HQ4⟩ := HW3.out.app H4.out.1 H4.out.2 HL4
  have HC4 := Lib.hid (HC3.out.trans HQ4.out.2)
  have HW4 := Lib.hid HQ4.out.1
  clear H4 HQ4 HC3 HW3 HL3
  have d5 := HW4.out.cells.1.2.2.2
  go_wp2_with fail
  clear y1 y2 d5
  refine (snt_ack _ s 0 5 _ HW4.out.ts (by omega) (by omega)).mono ?_
  rintro e w5 ⟨rfl, H5⟩
  obtain ⟨d5, d4⟩ := HW4.out.fo H5.out.2
  have HF := Lib.hid H5.out.2
  have HT := Lib.hid H5.out.1
  clear H5
  go_wp2_with fail
  refine (snt_int _ s 1 a _ HT.out (by omega) ha0 ha1).mono ?_
  rintro e w6 ⟨rfl, H6⟩
  have HF := Lib.hid (HF.out.trans H6.out.2)
  have HT := Lib.hid H6.out.1
  clear d5 d4
  obtain ⟨d5, d4⟩ := HW4.out.fo HF.out
  clear H6
  go_wp2_with fail
  go_ret
  exact PEnd.mk HW.out HW4.out HC4.out HF.out

set_option maxRecDepth 100000 in
set_option maxHeartbeats 4000000 in
theorem ap_md (p s g c : Nat) (a : Int) (ha0 : 0 ≤ a) (ha1 : a ≤ 4611686018427387903) (w : World) (hW : Wq p s g c w 0 []) :
    Calls Try.prog 44 #[.pointer (some ⟨p, 0, none⟩), .int .i64 a] w fun e w' => PEnd p s g c w ([] ++ [16] ++ enc a) e w' := by
  have HW := Lib.hid hW
  obtain ⟨hc0, hc1⟩ := hW.cc
  clear hW
  obtain ⟨ka, hka, hka0, hka1⟩ := eszk a
  have hfit : ¬ ((10000 : Int) < 1 + (ka : Int)) := by omega
  have hfit' : decide ((10000 : Int) < 1 + (ka : Int)) = false := by simp; omega
  go_enter Try.func44, Try.ntmps44
  go_wp2_with fail
  refine (avq w HW.out).mono ?_
  rintro e w1 ⟨rfl, H1⟩
  have HW1 := Lib.hid H1.out.1
  have HC1 : Hid (Ch p s g w w1) := by obtain ⟨z, hz⟩ := H1.out.2; show Ch _ _ _ _ _; rw [hz]; exact (Ch.refl _ _ _ _).drewN z
  clear H1
  go_wp2_with fail
  refine (svk a ka w1 hka ha0 ha1).mono ?_
  rintro e w0 ⟨rfl, rfl⟩
  obtain ⟨⟨-, -, c4, -⟩, f4⟩ := HW1.out.cells
  have HA := Lib.hid (HW1.out.alloc (.cells #[.int .u8 16] 5 (0, 0)))
  have HR := Lib.hid (Rd.new w1 [16] (Bs.nil.cons (by omega)) 5)
  have HM : Hid (List.length [(16 : Int)] = 1) := rfl
  have HN : Hid (List.length ([] : List Int) = 0) := rfl
  have HL : Hid (List.length ([] ++ [(16 : Int)]) = 1) := rfl
  have HZ : Hid ((some ⟨w1.heap.size, 0, none⟩ : Option Addr) = none → 1 = 0) := fun h => by cases h
  go_wp2_with (at_builtin; refine wpList_appR (p + 1) _ rfl _ _ rfl g 0 c [] rfl HA.out.own HN (some ⟨w1.heap.size, 0, none⟩) 1 1 [16] rfl HM (by exact HR.out) HZ (by omega) ?_; intro w2 ho2 hg2; obtain ⟨y1, y2, HQ2⟩ := HA.out.app (n1 := 1) ho2.out hg2.out HL)
  have HC2 := Lib.hid ((HC1.out.trans (Ch.of_below ((Below.refl _ _).alloc (Nat.le_refl _) _))).trans HQ2.out.2)
  have HW2 := Lib.hid HQ2.out.1
  clear HA HR HM HN HZ HQ2 HC1 HW1 ho2 hg2 c4 f4
  obtain ⟨n3, hn3⟩ : ∃ N, Hid (1 + esz a = N) := ⟨_, Lib.hid rfl⟩
  have b3 : n3 ≤ 9 := by have := hn3.out; have := hka.out; omega
  have HL3 : Hid (List.length ([] ++ [16] ++ enc a) = n3) := by show _ = _; rw [List.length_append, enc_length, HL.out]; exact hn3.out
  refine (avr (p + 1) g 1 c n3 ([] ++ [16]) a _ HW2.out.own HL hn3 (by omega) hc1 ha0 ha1).mono ?_
  rintro e w3 ⟨rfl, H3⟩
  clear y1 y2
  obtain ⟨y1, y2, HQ3⟩ := HW2.out.app H3.out.1 H3.out.2 HL3
  have HC3 := Lib.hid (HC2.out.trans HQ3.out.2)
  have HW3 := Lib.hid HQ3.out.1
  clear H3 HQ3 HC2 HW2 HL
  have d5 := HW3.out.cells.1.2.2.2
  go_wp2_with fail
  clear y1 y2 d5
  refine (snt_ack _ s 0 16 _ HW3.out.ts (by omega) (by omega)).mono ?_
  rintro e w4 ⟨rfl, H4⟩
  obtain ⟨d5, d4⟩ := HW3.out.fo H4.out.2
  have HF := Lib.hid H4.out.2
  have HT := Lib.hid H4.out.1
  clear H4
  go_wp2_with fail
  go_ret
  exact PEnd.mk HW.out HW3.out HC3.out HF.out

set_option maxRecDepth 100000 in
set_option maxHeartbeats 4000000 in
theorem ap_msd (p s g c : Nat) (a b : Int) (ha0 : 0 ≤ a) (ha1 : a ≤ 4611686018427387903) (hb0 : 0 ≤ b) (hb1 : b ≤ 4611686018427387903) (w : World) (hW : Wq p s g c w 0 []) :
    Calls Try.prog 45 #[.pointer (some ⟨p, 0, none⟩), .int .u64 a, .int .i64 b] w fun e w' => PEnd p s g c w ([] ++ [17] ++ enc a ++ enc b) e w' := by
  have HW := Lib.hid hW
  obtain ⟨hc0, hc1⟩ := hW.cc
  clear hW
  obtain ⟨ka, hka, hka0, hka1⟩ := eszk a
  obtain ⟨kb, hkb, hkb0, hkb1⟩ := eszk b
  have hfit : ¬ ((10000 : Int) < 1 + (ka : Int) + (kb : Int)) := by omega
  have hfit' : decide ((10000 : Int) < 1 + (ka : Int) + (kb : Int)) = false := by simp; omega
  go_enter Try.func45, Try.ntmps45
  go_wp2_with fail
  refine (avq w HW.out).mono ?_
  rintro e w1 ⟨rfl, H1⟩
  have HW1 := Lib.hid H1.out.1
  have HC1 : Hid (Ch p s g w w1) := by obtain ⟨z, hz⟩ := H1.out.2; show Ch _ _ _ _ _; rw [hz]; exact (Ch.refl _ _ _ _).drewN z
  clear H1
  go_wp2_with fail
  refine (svk a ka w1 hka ha0 ha1).mono ?_
  rintro e w0 ⟨rfl, rfl⟩
  go_wp2_with fail
  refine (svk b kb w1 hkb hb0 hb1).mono ?_
  rintro e w0 ⟨rfl, rfl⟩
  obtain ⟨⟨-, -, c4, -⟩, f4⟩ := HW1.out.cells
  have HA := Lib.hid (HW1.out.alloc (.cells #[.int .u8 17] 5 (0, 0)))
  have HR := Lib.hid (Rd.new w1 [17] (Bs.nil.cons (by omega)) 5)
  have HM : Hid (List.length [(17 : Int)] = 1) := rfl
  have HN : Hid (List.length ([] : List Int) = 0) := rfl
  have HL : Hid (List.length ([] ++ [(17 : Int)]) = 1) := rfl
  have HZ : Hid ((some ⟨w1.heap.size, 0, none⟩ : Option Addr) = none → 1 = 0) := fun h => by cases h
  go_wp2_with (at_builtin; refine wpList_appR (p + 1) _ rfl _ _ rfl g 0 c [] rfl HA.out.own HN (some ⟨w1.heap.size, 0, none⟩) 1 1 [17] rfl HM (by exact HR.out) HZ (by omega) ?_; intro w2 ho2 hg2; obtain ⟨y1, y2, HQ2⟩ := HA.out.app (n1 := 1) ho2.out hg2.out HL)
  have HC2 := Lib.hid ((HC1.out.trans (Ch.of_below ((Below.refl _ _).alloc (Nat.le_refl _) _))).trans HQ2.out.2)
  have HW2 := Lib.hid HQ2.out.1
  clear HA HR HM HN HZ HQ2 HC1 HW1 ho2 hg2 c4 f4
  obtain ⟨n3, hn3⟩ : ∃ N, Hid (1 + esz a = N) := ⟨_, Lib.hid rfl⟩
  have b3 : n3 ≤ 9 := by have := hn3.out; have := hka.out; omega
  have HL3 : Hid (List.length ([] ++ [17] ++ enc a) = n3) := by show _ = _; rw [List.length_append, enc_length, HL.out]; exact hn3.out
  refine (avr (p + 1) g 1 c n3 ([] ++ [17]) a _ HW2.out.own HL hn3 (by omega) hc1 ha0 ha1).mono ?_
  rintro e w3 ⟨rfl, H3⟩
  clear y1 y2
  obtain ⟨y1, y2, HQ3⟩ := HW2.out.app H3.out.1 H3.out.2 HL3
  have HC3 := Lib.hid (HC2.out.trans HQ3.out.2)
  have HW3 := Lib.hid HQ3.out.1
  clear H3 HQ3 HC2 HW2 HL
  go_wp2_with fail
  obtain ⟨n4, hn4⟩ : ∃ N, Hid (n3 + esz b = N) := ⟨_, Lib.hid rfl⟩
  have b4 : n4 ≤ 17 := by have := hn4.out; have := hkb.out; omega
  have HL4 : Hid (List.length ([] ++ [17] ++ enc a ++ enc b) = n4) := by show _ = _; rw [List.length_append, enc_length, HL3.out]; exact hn4.out
  refine (avr (p + 1) g n3 c n4 ([] ++ [17] ++ enc a) b _ HW3.out.own HL3 hn4 (by omega) hc1 hb0 hb1).mono ?_
  rintro e w4 ⟨rfl, H4⟩
  clear y1 y2
  obtain ⟨y1, y2, HQ4⟩ := HW3.out.app H4.out.1 H4.out.2 HL4
  have HC4 := Lib.hid (HC3.out.trans HQ4.out.2)
  have HW4 := Lib.hid HQ4.out.1
  clear H4 HQ4 HC3 HW3 HL3
  have d5 := HW4.out.cells.1.2.2.2
  go_wp2_with fail
  clear y1 y2 d5
  refine (snt_ack _ s 0 17 _ HW4.out.ts (by omega) (by omega)).mono ?_
  rintro e w5 ⟨rfl, H5⟩
  obtain ⟨d5, d4⟩ := HW4.out.fo H5.out.2
  have HF := Lib.hid H5.out.2
  have HT := Lib.hid H5.out.1
  clear H5
  go_wp2_with fail
  refine (snt_int _ s 1 a _ HT.out (by omega) ha0 ha1).mono ?_
  rintro e w6 ⟨rfl, H6⟩
  have HF := Lib.hid (HF.out.trans H6.out.2)
  have HT := Lib.hid H6.out.1
  clear d5 d4
  obtain ⟨d5, d4⟩ := HW4.out.fo HF.out
  clear H6
  go_wp2_with fail
  go_ret
  exact PEnd.mk HW.out HW4.out HC4.out HF.out

set_option maxRecDepth 100000 in
set_option maxHeartbeats 4000000 in
theorem ap_ms0 (p s g c : Nat) (a : Int) (ha0 : 0 ≤ a) (ha1 : a ≤ 4611686018427387903) (w : World) (hW : Wq p s g c w 0 []) :
    Calls Try.prog 46 #[.pointer (some ⟨p, 0, none⟩), .int .u8 0, .int .i64 a] w fun e w' => PEnd p s g c w ([] ++ [18] ++ enc a) e w' := by
  have HW := Lib.hid hW
  obtain ⟨hc0, hc1⟩ := hW.cc
  clear hW
  obtain ⟨ka, hka, hka0, hka1⟩ := eszk a
  have hfit : ¬ ((10000 : Int) < 1 + (ka : Int)) := by omega
  have hfit' : decide ((10000 : Int) < 1 + (ka : Int)) = false := by simp; omega
  go_enter Try.func46, Try.ntmps46
  go_wp2_with fail
  refine (avq w HW.out).mono ?_
  rintro e w1 ⟨rfl, H1⟩
  have HW1 := Lib.hid H1.out.1
  have HC1 : Hid (Ch p s g w w1) := by obtain ⟨z, hz⟩ := H1.out.2; show Ch _ _ _ _ _; rw [hz]; exact (Ch.refl _ _ _ _).drewN z
  clear H1
  go_wp2_with fail
  refine (svk a ka w1 hka ha0 ha1).mono ?_
  rintro e w0 ⟨rfl, rfl⟩
  obtain ⟨⟨-, -, c4, -⟩, f4⟩ := HW1.out.cells
  have HA := Lib.hid (HW1.out.alloc (.cells #[.int .u8 18] 5 (0, 0)))
  have HR := Lib.hid (Rd.new w1 [18] (Bs.nil.cons (by omega)) 5)
  have HM : Hid (List.length [(18 : Int)] = 1) := rfl
  have HN : Hid (List.length ([] : List Int) = 0) := rfl
  have HL : Hid (List.length ([] ++ [(18 : Int)]) = 1) := rfl
  have HZ : Hid ((some ⟨w1.heap.size, 0, none⟩ : Option Addr) = none → 1 = 0) := fun h => by cases h
  go_wp2_with (at_builtin; refine wpList_appR (p + 1) _ rfl _ _ rfl g 0 c [] rfl HA.out.own HN (some ⟨w1.heap.size, 0, none⟩) 1 1 [18] rfl HM (by exact HR.out) HZ (by omega) ?_; intro w2 ho2 hg2; obtain ⟨y1, y2, HQ2⟩ := HA.out.app (n1 := 1) ho2.out hg2.out HL)
  have HC2 := Lib.hid ((HC1.out.trans (Ch.of_below ((Below.refl _ _).alloc (Nat.le_refl _) _))).trans HQ2.out.2)
  have HW2 := Lib.hid HQ2.out.1
  clear HA HR HM HN HZ HQ2 HC1 HW1 ho2 hg2 c4 f4
  obtain ⟨n3, hn3⟩ : ∃ N, Hid (1 + esz a = N) := ⟨_, Lib.hid rfl⟩
  have b3 : n3 ≤ 9 := by have := hn3.out; have := hka.out; omega
  have HL3 : Hid (List.length ([] ++ [18] ++ enc a) = n3) := by show _ = _; rw [List.length_append, enc_length, HL.out]; exact hn3.out
  refine (avr (p + 1) g 1 c n3 ([] ++ [18]) a _ HW2.out.own HL hn3 (by omega) hc1 ha0 ha1).mono ?_
  rintro e w3 ⟨rfl, H3⟩
  clear y1 y2
  obtain ⟨y1, y2, HQ3⟩ := HW2.out.app H3.out.1 H3.out.2 HL3
  have HC3 := Lib.hid (HC2.out.trans HQ3.out.2)
  have HW3 := Lib.hid HQ3.out.1
  clear H3 HQ3 HC2 HW2 HL
  have d5 := HW3.out.cells.1.2.2.2
  go_wp2_with fail
  clear y1 y2 d5
  refine (snt_ack _ s 0 18 _ HW3.out.ts (by omega) (by omega)).mono ?_
  rintro e w4 ⟨rfl, H4⟩
  obtain ⟨d5, d4⟩ := HW3.out.fo H4.out.2
  have HF := Lib.hid H4.out.2
  have HT := Lib.hid H4.out.1
  clear H4
  go_wp2_with fail
  go_ret
  exact PEnd.mk HW.out HW3.out HC3.out HF.out

set_option maxRecDepth 100000 in
set_option maxHeartbeats 4000000 in
theorem ap_ms1 (p s g c : Nat) (a : Int) (ha0 : 0 ≤ a) (ha1 : a ≤ 4611686018427387903) (w : World) (hW : Wq p s g c w 0 []) :
    Calls Try.prog 46 #[.pointer (some ⟨p, 0, none⟩), .int .u8 1, .int .i64 a] w fun e w' => PEnd p s g c w ([] ++ [19] ++ enc a) e w' := by
  have HW := Lib.hid hW
  obtain ⟨hc0, hc1⟩ := hW.cc
  clear hW
  obtain ⟨ka, hka, hka0, hka1⟩ := eszk a
  have hfit : ¬ ((10000 : Int) < 1 + (ka : Int)) := by omega
  have hfit' : decide ((10000 : Int) < 1 + (ka : Int)) = false := by simp; omega
  go_enter Try.func46, Try.ntmps46
  go_wp2_with fail
  refine (avq w HW.out).mono ?_
  rintro e w1 ⟨rfl, H1⟩
  have HW1 := Lib.hid H1.out.1
  have HC1 : Hid (Ch p s g w w1) := by obtain ⟨z, hz⟩ := H1.out.2; show Ch _ _ _ _ _; rw [hz]; exact (Ch.refl _ _ _ _).drewN z
  clear H1
  go_wp2_with fail
  refine (svk a ka w1 hka ha0 ha1).mono ?_
  rintro e w0 ⟨rfl, rfl⟩
  obtain ⟨⟨-, -, c4, -⟩, f4⟩ := HW1.out.cells
  have HA := Lib.hid (HW1.out.alloc (.cells #[.int .u8 19] 5 (0, 0)))
  have HR := Lib.hid (Rd.new w1 [19] (Bs.nil.cons (by omega)) 5)
  have HM : Hid (List.length [(19 : Int)] = 1) := rfl
  have HN : Hid (List.length ([] : List Int) = 0) := rfl
  have HL : Hid (List.length ([] ++ [(19 : Int)]) = 1) := rfl
  have HZ : Hid ((some ⟨w1.heap.size, 0, none⟩ : Option Addr) = none → 1 = 0) := fun h => by cases h
  go_wp2_with (at_builtin; refine wpList_appR (p + 1) _ rfl _ _ rfl g 0 c [] rfl HA.out.own HN (some ⟨w1.heap.size, 0, none⟩) 1 1 [19] rfl HM (by exact HR.out) HZ (by omega) ?_; intro w2 ho2 hg2; obtain ⟨y1, y2, HQ2⟩ := HA.out.app (n1 := 1) ho2.out hg2.out HL)
  have HC2 := Lib.hid ((HC1.out.trans (Ch.of_below ((Below.refl _ _).alloc (Nat.le_refl _) _))).trans HQ2.out.2)
  have HW2 := Lib.hid HQ2.out.1
  clear HA HR HM HN HZ HQ2 HC1 HW1 ho2 hg2 c4 f4
  obtain ⟨n3, hn3⟩ : ∃ N, Hid (1 + esz a = N) := ⟨_, Lib.hid rfl⟩
  have b3 : n3 ≤ 9 := by have := hn3.out; have := hka.out; omega
  have HL3 : Hid (List.length ([] ++ [19] ++ enc a) = n3) := by show _ = _; rw [List.length_append, enc_length, HL.out]; exact hn3.out
  refine (avr (p + 1) g 1 c n3 ([] ++ [19]) a _ HW2.out.own HL hn3 (by omega) hc1 ha0 ha1).mono ?_
  rintro e w3 ⟨rfl, H3⟩
  clear y1 y2
  obtain ⟨y1, y2, HQ3⟩ := HW2.out.app H3.out.1 H3.out.2 HL3
  have HC3 := Lib.hid (HC2.out.trans HQ3.out.2)
  have HW3 := Lib.hid HQ3.out.1
  clear H3 HQ3 HC2 HW2 HL
  have d5 := HW3.out.cells.1.2.2.2
  go_wp2_with fail
  clear y1 y2 d5
  refine (snt_ack _ s 0 19 _ HW3.out.ts (by omega) (by omega)).mono ?_
  rintro e w4 ⟨rfl, H4⟩
  obtain ⟨d5, d4⟩ := HW3.out.fo H4.out.2
  have HF := Lib.hid H4.out.2
  have HT := Lib.hid H4.out.1
  clear H4
  go_wp2_with fail
  go_ret
  exact PEnd.mk HW.out HW3.out HC3.out HF.out

set_option maxRecDepth 100000 in
set_option maxHeartbeats 4000000 in
theorem ap_db (p s g c : Nat) (a : Int) (ha0 : 0 ≤ a) (ha1 : a ≤ 4611686018427387903) (w : World) (hW : Wq p s g c w 0 []) :
    Calls Try.prog 47 #[.pointer (some ⟨p, 0, none⟩), .int .i64 a] w fun e w' => PEnd p s g c w ([] ++ [20] ++ enc a) e w' := by
  have HW := Lib.hid hW
  obtain ⟨hc0, hc1⟩ := hW.cc
  clear hW
  obtain ⟨ka, hka, hka0, hka1⟩ := eszk a
  have hfit : ¬ ((10000 : Int) < 1 + (ka : Int)) := by omega
  have hfit' : decide ((10000 : Int) < 1 + (ka : Int)) = false := by simp; omega
  go_enter Try.func47, Try.ntmps47
  go_wp2_with fail
  refine (avq w HW.out).mono ?_
  rintro e w1 ⟨rfl, H1⟩
  have HW1 := Lib.hid H1.out.1
  have HC1 : Hid (Ch p s g w w1) := by obtain ⟨z, hz⟩ := H1.out.2; show Ch _ _ _ _ _; rw [hz]; exact (Ch.refl _ _ _ _).drewN z
  clear H1
  go_wp2_with fail
  refine (svk a ka w1 hka ha0 ha1).mono ?_
  rintro e w0 ⟨rfl, rfl⟩
  obtain ⟨⟨-, -, c4, -⟩, f4⟩ := HW1.out.cells
  have HA := Lib.hid (HW1.out.alloc (.cells #[.int .u8 20] 5 (0, 0)))
  have HR := Lib.hid (Rd.new w1 [20] (Bs.nil.cons (by omega)) 5)
  have HM : Hid (List.length [(20 : Int)] = 1) := rfl
  have HN : Hid (List.length ([] : List Int) = 0) := rfl
  have HL : Hid (List.length ([] ++ [(20 : Int)]) = 1) := rfl
  have HZ : Hid ((some ⟨w1.heap.size, 0, none⟩ : Option Addr) = none → 1 = 0) := fun h => by cases h
  go_wp2_with (at_builtin; refine wpList_appR (p + 1) _ rfl _ _ rfl g 0 c [] rfl HA.out.own HN (some ⟨w1.heap.size, 0, none⟩) 1 1 [20] rfl HM (by exact HR.out) HZ (by omega) ?_; intro w2 ho2 hg2; obtain ⟨y1, y2, HQ2⟩ := HA.out.app (n1 := 1) ho2.out hg2.out HL)
  have HC2 := Lib.hid ((HC1.out.trans (Ch.of_below ((Below.refl _ _).alloc (Nat.le_refl _) _))).trans HQ2.out.2)
  have HW2 := Lib.hid HQ2.out.1
  clear HA HR HM HN HZ HQ2 HC1 HW1 ho2 hg2 c4 f4
  obtain ⟨n3, hn3⟩ : ∃ N, Hid (1 + esz a = N) := ⟨_, Lib.hid rfl⟩
  have b3 : n3 ≤ 9 := by have := hn3.out; have := hka.out; omega
  have HL3 : Hid (List.length ([] ++ [20] ++ enc a) = n3) := by show _ = _; rw [List.length_append, enc_length, HL.out]; exact hn3.out
  refine (avr (p + 1) g 1 c n3 ([] ++ [20]) a _ HW2.out.own HL hn3 (by omega) hc1 ha0 ha1).mono ?_
  rintro e w3 ⟨rfl, H3⟩
  clear y1 y2
  obtain ⟨y1, y2, HQ3⟩ := HW2.out.app H3.out.1 H3.out.2 HL3
  have HC3 := Lib.hid (HC2.out.trans HQ3.out.2)
  have HW3 := Lib.hid HQ3.out.1
  clear H3 HQ3 HC2 HW2 HL
  have d5 := HW3.out.cells.1.2.2.2
  go_wp2_with fail
  clear y1 y2 d5
  refine (snt_ack _ s 0 20 _ HW3.out.ts (by omega) (by omega)).mono ?_
  rintro e w4 ⟨rfl, H4⟩
  obtain ⟨d5, d4⟩ := HW3.out.fo H4.out.2
  have HF := Lib.hid H4.out.2
  have HT := Lib.hid H4.out.1
  clear H4
  go_wp2_with fail
  go_ret
  exact PEnd.mk HW.out HW3.out HC3.out HF.out

set_option maxRecDepth 100000 in
set_option maxHeartbeats 4000000 in
theorem ap_sdb (p s g c : Nat) (a b : Int) (ha0 : 0 ≤ a) (ha1 : a ≤ 4611686018427387903) (hb0 : 0 ≤ b) (hb1 : b ≤ 4611686018427387903) (w : World) (hW : Wq p s g c w 0 []) :
    Calls Try.prog 48 #[.pointer (some ⟨p, 0, none⟩), .int .u64 a, .int .i64 b] w fun e w' => PEnd p s g c w ([] ++ [21] ++ enc a ++ enc b) e w' := by
  have HW := Lib.hid hW
  obtain ⟨hc0, hc1⟩ := hW.cc
  clear hW
  obtain ⟨ka, hka, hka0, hka1⟩ := eszk a
  obtain ⟨kb, hkb, hkb0, hkb1⟩ := eszk b
  have hfit : ¬ ((10000 : Int) < 1 + (ka : Int) + (kb : Int)) := by omega
  have hfit' : decide ((10000 : Int) < 1 + (ka : Int) + (kb : Int)) = false := by simp; omega
  go_enter Try.func48, Try.ntmps48
  go_wp2_with fail
  refine (avq w HW.out).mono ?_
  rintro e w1 ⟨rfl, H1⟩
  have HW1 := Lib.hid H1.out.1
  have HC1 : Hid (Ch p s g w w1) := by obtain ⟨z, hz⟩ := H1.out.2; show Ch _ _ _ _ _; rw [hz]; exact (Ch.refl _ _ _ _).drewN z
  clear H1
  go_wp2_with fail
  refine (svk a ka w1 hka ha0 ha1).mono ?_
  rintro e w0 ⟨rfl, rfl⟩
  go_wp2_with fail
  refine (svk b kb w1 hkb hb0 hb1).mono ?_
  rintro e w0 ⟨rfl, rfl⟩
  obtain ⟨⟨-, -, c4, -⟩, f4⟩ := HW1.out.cells
  have HA := Lib.hid (HW1.out.alloc (.cells #[.int .u8 21] 5 (0, 0)))
  have HR := Lib.hid (Rd.new w1 [21] (Bs.nil.cons (by omega)) 5)
  have HM : Hid (List.length [(21 : Int)] = 1) := rfl
  have HN : Hid (List.length ([] : List Int) = 0) := rfl
  have HL : Hid (List.length ([] ++ [(21 : Int)]) = 1) := rfl
  have HZ : Hid ((some ⟨w1.heap.size, 0, none⟩ : Option Addr) = none → 1 = 0) := fun h => by cases h
  go_wp2_with (at_builtin; refine wpList_appR (p + 1) _ rfl _ _ rfl g 0 c [] rfl HA.out.own HN (some ⟨w1.heap.size, 0, none⟩) 1 1 [21] rfl HM (by exact HR.out) HZ (by omega) ?_; intro w2 ho2 hg2; obtain ⟨y1, y2, HQ2⟩ := HA.out.app (n1 := 1) ho2.out hg2.out HL)
  have HC2 := Lib.hid ((HC1.out.trans (Ch.of_below ((Below.refl _ _).alloc (Nat.le_refl _) _))).trans HQ2.out.2)
  have HW2 := Lib.hid HQ2.out.1
  clear HA HR HM HN HZ HQ2 HC1 HW1 ho2 hg2 c4 f4
  obtain ⟨n3, hn3⟩ : ∃ N, Hid (1 + esz a = N) := ⟨_, Lib.hid rfl⟩
  have b3 : n3 ≤ 9 := by have := hn3.out; have := hka.out; omega
  have HL3 : Hid (List.length ([] ++ [21] ++ enc a) = n3) := by show _ = _; rw [List.length_append, enc_length, HL.out]; exact hn3.out
  refine (avr (p + 1) g 1 c n3 ([] ++ [21]) a _ HW2.out.own HL hn3 (by omega) hc1 ha0 ha1).mono ?_
  rintro e w3 ⟨rfl, H3⟩
  clear y1 y2
  obtain ⟨y1, y2, HQ3⟩ := HW2.out.app H3.out.1 H3.out.2 HL3
  have HC3 := Lib.hid (HC2.out.trans HQ3.out.2)
  have HW3 := Lib.hid HQ3.out.1
  clear H3 HQ3 HC2 HW2 HL
  go_wp2_with fail
  obtain ⟨n4, hn4⟩ : ∃ N, Hid (n3 + esz b = N) := ⟨_, Lib.hid rfl⟩
  have b4 : n4 ≤ 17 := by have := hn4.out; have := hkb.out; omega
  have HL4 : Hid (List.length ([] ++ [21] ++ enc a ++ enc b) = n4) := by show _ = _; rw [List.length_append, enc_length, HL3.out]; exact hn4.out
  refine (avr (p + 1) g n3 c n4 ([] ++ [21] ++ enc a) b _ HW3.out.own HL3 hn4 (by omega) hc1 hb0 hb1).mono ?_
  rintro e w4 ⟨rfl, H4⟩
  clear y1 y2
  obtain ⟨y1, y2, HQ4⟩ := HW3.out.app H4.out.1 H4.out.2 HL4
  have HC4 := Lib.hid (HC3.out.trans HQ4.out.2)
  have HW4 := Lib.hid HQ4.out.1
  clear H4 HQ4 HC3 HW3 HL3
  have d5 := HW4.out.cells.1.2.2.2
  go_wp2_with fail
  clear y1 y2 d5
  refine (snt_ack _ s 0 21 _ HW4.out.ts (by omega) (by omega)).mono ?_
  rintro e w5 ⟨rfl, H5⟩
  obtain ⟨d5, d4⟩ := HW4.out.fo H5.out.2
  have HF := Lib.hid H5.out.2
  have HT := Lib.hid H5.out.1
  clear H5
  go_wp2_with fail
  refine (snt_int _ s 1 a _ HT.out (by omega) ha0 ha1).mono ?_
  rintro e w6 ⟨rfl, H6⟩
  have HF := Lib.hid (HF.out.trans H6.out.2)
  have HT := Lib.hid H6.out.1
  clear d5 d4
  obtain ⟨d5, d4⟩ := HW4.out.fo HF.out
  clear H6
  go_wp2_with fail
  go_ret
  exact PEnd.mk HW.out HW4.out HC4.out HF.out

set_option maxRecDepth 100000 in
set_option maxHeartbeats 4000000 in
theorem ap_sb0 (p s g c : Nat) (a : Int) (ha0 : 0 ≤ a) (ha1 : a ≤ 4611686018427387903) (w : World) (hW : Wq p s g c w 0 []) :
    Calls Try.prog 49 #[.pointer (some ⟨p, 0, none⟩), .int .u8 0, .int .i64 a] w fun e w' => PEnd p s g c w ([] ++ [22] ++ enc a) e w' := by
  have HW := Lib.hid hW
  obtain ⟨hc0, hc1⟩ := hW.cc
  clear hW
  obtain ⟨ka, hka, hka0, hka1⟩ := eszk a
  have hfit : ¬ ((10000 : Int) < 1 + (ka : Int)) := by omega
  have hfit' : decide ((10000 : Int) < 1 + (ka : Int)) = false := by simp; omega
  go_enter Try.func49, Try.ntmps49
  go_wp2_with fail
  refine (avq w HW.out).mono ?_
  rintro e w1 ⟨rfl, H1⟩
  have HW1 := Lib.hid H1.out.1
  have HC1 : Hid (Ch p s g w w1) := by obtain ⟨z, hz⟩ := H1.out.2; show Ch _ _ _ _ _; rw [hz]; exact (Ch.refl _ _ _ _).drewN z
  clear H1
  go_wp2_with fail
  refine (svk a ka w1 hka ha0 ha1).mono ?_
  rintro e w0 ⟨rfl, rfl⟩
  obtain ⟨⟨-, -, c4, -⟩, f4⟩ := HW1.out.cells
  have HA := Lib.hid (HW1.out.alloc (.cells #[.int .u8 22] 5 (0, 0)))
  have HR := Lib.hid (Rd.new w1 [22] (Bs.nil.cons (by omega)) 5)
  have HM : Hid (List.length [(22 : Int)] = 1) := rfl
  have HN : Hid (List.length ([] : List Int) = 0) := rfl
  have HL : Hid (List.length ([] ++ [(22 : Int)]) = 1) := rfl
  have HZ : Hid ((some ⟨w1.heap.size, 0, none⟩ : Option Addr) = none → 1 = 0) := fun h => by cases h
  go_wp2_with (at_builtin; refine wpList_appR (p + 1) _ rfl _ _ rfl g 0 c [] rfl HA.out.own HN (some ⟨w1.heap.size, 0, none⟩) 1 1 [22] rfl HM (by exact HR.out) HZ (by omega) ?_; intro w2 ho2 hg2; obtain ⟨y1, y2, HQ2⟩ := HA.out.app (n1 := 1) ho2.out hg2.out HL)
  have HC2 := Lib.hid ((HC1.out.trans (Ch.of_below ((Below.refl _ _).alloc (Nat.le_refl _) _))).trans HQ2.out.2)
  have HW2 := Lib.hid HQ2.out.1
  clear HA HR HM HN HZ HQ2 HC1 HW1 ho2 hg2 c4 f4
  obtain ⟨n3, hn3⟩ : ∃ N, Hid (1 + esz a = N) := ⟨_, Lib.hid rfl⟩
  have b3 : n3 ≤ 9 := by have := hn3.out; have := hka.out; omega
  have HL3 : Hid (List.length ([] ++ [22] ++ enc a) = n3) := by show _ = _; rw [List.length_append, enc_length, HL.out]; exact hn3.out
  refine (avr (p + 1) g 1 c n3 ([] ++ [22]) a _ HW2.out.own HL hn3 (by omega) hc1 ha0 ha1).mono ?_
  rintro e w3 ⟨rfl, H3⟩
  clear y1 y2
  obtain ⟨y1, y2, HQ3⟩ := HW2.out.app H3.out.1 H3.out.2 HL3
  have HC3 := Lib.hid (HC2.out.trans HQ3.out.2)
  have HW3 := Lib.hid HQ3.out.1
  clear H3 HQ3 HC2 HW2 HL
  have d5 := HW3.out.cells.1.2.2.2
  go_wp2_with fail
  clear y1 y2 d5
  refine (snt_ack _ s 0 22 _ HW3.out.ts (by omega) (by omega)).mono ?_
  rintro e w4 ⟨rfl, H4⟩
  obtain ⟨d5, d4⟩ := HW3.out.fo H4.out.2
  have HF := Lib.hid H4.out.2
  have HT := Lib.hid H4.out.1
  clear H4
  go_wp2_with fail
  go_ret
  exact PEnd.mk HW.out HW3.out HC3.out HF.out

set_option maxRecDepth 100000 in
set_option maxHeartbeats 4000000 in
theorem ap_sb1 (p s g c : Nat) (a : Int) (ha0 : 0 ≤ a) (ha1 : a ≤ 4611686018427387903) (w : World) (hW : Wq p s g c w 0 []) :
    Calls Try.prog 49 #[.pointer (some ⟨p, 0, none⟩), .int .u8 1, .int .i64 a] w fun e w' => PEnd p s g c w ([] ++ [23] ++ enc a) e w' := by
  have HW := Lib.hid hW
  obtain ⟨hc0, hc1⟩ := hW.cc
  clear hW
  obtain ⟨ka, hka, hka0, hka1⟩ := eszk a
  have hfit : ¬ ((10000 : Int) < 1 + (ka : Int)) := by omega
  have hfit' : decide ((10000 : Int) < 1 + (ka : Int)) = false := by simp; omega
  go_enter Try.func49, Try.ntmps49
  go_wp2_with fail
  refine (avq w HW.out).mono ?_
  rintro e w1 ⟨rfl, H1⟩
  have HW1 := Lib.hid H1.out.1
  have HC1 : Hid (Ch p s g w w1) := by obtain ⟨z, hz⟩ := H1.out.2; show Ch _ _ _ _ _; rw [hz]; exact (Ch.refl _ _ _ _).drewN z
  clear H1
  go_wp2_with fail
  refine (svk a ka w1 hka ha0 ha1).mono ?_
  rintro e w0 ⟨rfl, rfl⟩
  obtain ⟨⟨-, -, c4, -⟩, f4⟩ := HW1.out.cells
  have HA := Lib.hid (HW1.out.alloc (.cells #[.int .u8 23] 5 (0, 0)))
  have HR := Lib.hid (Rd.new w1 [23] (Bs.nil.cons (by omega)) 5)
  have HM : Hid (List.length [(23 : Int)] = 1) := rfl
  have HN : Hid (List.length ([] : List Int) = 0) := rfl
  have HL : Hid (List.length ([] ++ [(23 : Int)]) = 1) := rfl
  have HZ : Hid ((some ⟨w1.heap.size, 0, none⟩ : Option Addr) = none → 1 = 0) := fun h => by cases h
  go_wp2_with (at_builtin; refine wpList_appR (p + 1) _ rfl _ _ rfl g 0 c [] rfl HA.out.own HN (some ⟨w1.heap.size, 0, none⟩) 1 1 [23] rfl HM (by exact HR.out) HZ (by omega) ?_; intro w2 ho2 hg2; obtain ⟨y1, y2, HQ2⟩ := HA.out.app (n1 := 1) ho2.out hg2.out HL)
  have HC2 := Lib.hid ((HC1.out.trans (Ch.of_below ((Below.refl _ _).alloc (Nat.le_refl _) _))).trans HQ2.out.2)
  have HW2 := Lib.hid HQ2.out.1
  clear HA HR HM HN HZ HQ2 HC1 HW1 ho2 hg2 c4 f4
  obtain ⟨n3, hn3⟩ : ∃ N, Hid (1 + esz a = N) := ⟨_, Lib.hid rfl⟩
  have b3 : n3 ≤ 9 := by have := hn3.out; have := hka.out; omega
  have HL3 : Hid (List.length ([] ++ [23] ++ enc a) = n3) := by show _ = _; rw [List.length_append, enc_length, HL.out]; exact hn3.out
  refine (avr (p + 1) g 1 c n3 ([] ++ [23]) a _ HW2.out.own HL hn3 (by omega) hc1 ha0 ha1).mono ?_
  rintro e w3 ⟨rfl, H3⟩
  clear y1 y2
  obtain ⟨y1, y2, HQ3⟩ := HW2.out.app H3.out.1 H3.out.2 HL3
  have HC3 := Lib.hid (HC2.out.trans HQ3.out.2)
  have HW3 := Lib.hid HQ3.out.1
  clear H3 HQ3 HC2 HW2 HL
  have d5 := HW3.out.cells.1.2.2.2
  go_wp2_with fail
  clear y1 y2 d5
  refine (snt_ack _ s 0 23 _ HW3.out.ts (by omega) (by omega)).mono ?_
  rintro e w4 ⟨rfl, H4⟩
  obtain ⟨d5, d4⟩ := HW3.out.fo H4.out.2
  have HF := Lib.hid H4.out.2
  have HT := Lib.hid H4.out.1
  clear H4
  go_wp2_with fail
  go_ret
  exact PEnd.mk HW.out HW3.out HC3.out HF.out

set_option maxRecDepth 100000 in
set_option maxHeartbeats 4000000 in
theorem ap_rc (p s g c : Nat) (a : Int) (ha0 : 0 ≤ a) (ha1 : a ≤ 4611686018427387903) (w : World) (hW : Wq p s g c w 0 []) :
    Calls Try.prog 51 #[.pointer (some ⟨p, 0, none⟩), .int .i64 a] w fun e w' => PEnd p s g c w ([] ++ [25] ++ enc a) e w' := by
  have HW := Lib.hid hW
  obtain ⟨hc0, hc1⟩ := hW.cc
  clear hW
  obtain ⟨ka, hka, hka0, hka1⟩ := eszk a
  have hfit : ¬ ((10000 : Int) < 1 + (ka : Int)) := by omega
  have hfit' : decide ((10000 : Int) < 1 + (ka : Int)) = false := by simp; omega
  go_enter Try.func51, Try.ntmps51
  go_wp2_with fail
  refine (avq w HW.out).mono ?_
  rintro e w1 ⟨rfl, H1⟩
  have HW1 := Lib.hid H1.out.1
  have HC1 : Hid (Ch p s g w w1) := by obtain ⟨z, hz⟩ := H1.out.2; show Ch _ _ _ _ _; rw [hz]; exact (Ch.refl _ _ _ _).drewN z
  clear H1
  go_wp2_with fail
  refine (svk a ka w1 hka ha0 ha1).mono ?_
  rintro e w0 ⟨rfl, rfl⟩
  obtain ⟨⟨-, -, c4, -⟩, f4⟩ := HW1.out.cells
  have HA := Lib.hid (HW1.out.alloc (.cells #[.int .u8 25] 5 (0, 0)))
  have HR := Lib.hid (Rd.new w1 [25] (Bs.nil.cons (by omega)) 5)
  have HM : Hid (List.length [(25 : Int)] = 1) := rfl
  have HN : Hid (List.length ([] : List Int) = 0) := rfl
  have HL : Hid (List.length ([] ++ [(25 : Int)]) = 1) := rfl
  have HZ : Hid ((some ⟨w1.heap.size, 0, none⟩ : Option Addr) = none → 1 = 0) := fun h => by cases h
  go_wp2_with (at_builtin; refine wpList_appR (p + 1) _ rfl _ _ rfl g 0 c [] rfl HA.out.own HN (some ⟨w1.heap.size, 0, none⟩) 1 1 [25] rfl HM (by exact HR.out) HZ (by omega) ?_; intro w2 ho2 hg2; obtain ⟨y1, y2, HQ2⟩ := HA.out.app (n1 := 1) ho2.out hg2.out HL)
  have HC2 := Lib.hid ((HC1.out.trans (Ch.of_below ((Below.refl _ _).alloc (Nat.le_refl _) _))).trans HQ2.out.2)
  have HW2 := Lib.hid HQ2.out.1
  clear HA HR HM HN HZ HQ2 HC1 HW1 ho2 hg2 c4 f4
  obtain ⟨n3, hn3⟩ : ∃ N, Hid (1 + esz a = N) := ⟨_, Lib.hid rfl⟩
  have b3 : n3 ≤ 9 := by have := hn3.out; have := hka.out; omega
  have HL3 : Hid (List.length ([] ++ [25] ++ enc a) = n3) := by show _ = _; rw [List.length_append, enc_length, HL.out]; exact hn3.out
  refine (avr (p + 1) g 1 c n3 ([] ++ [25]) a _ HW2.out.own HL hn3 (by omega) hc1 ha0 ha1).mono ?_
  rintro e w3 ⟨rfl, H3⟩
  clear y1 y2
  obtain ⟨y1, y2, HQ3⟩ := HW2.out.app H3.out.1 H3.out.2 HL3
  have HC3 := Lib.hid (HC2.out.trans HQ3.out.2)
  have HW3 := Lib.hid HQ3.out.1
  clear H3 HQ3 HC2 HW2 HL
  have d5 := HW3.out.cells.1.2.2.2
  go_wp2_with fail
  clear y1 y2 d5
  refine (snt_ack _ s 0 25 _ HW3.out.ts (by omega) (by omega)).mono ?_
  rintro e w4 ⟨rfl, H4⟩
  obtain ⟨d5, d4⟩ := HW3.out.fo H4.out.2
  have HF := Lib.hid H4.out.2
  have HT := Lib.hid H4.out.1
  clear H4
  go_wp2_with fail
  refine (snt_int _ s 1 a _ HT.out (by omega) ha0 ha1).mono ?_
  rintro e w5 ⟨rfl, H5⟩
  have HF := Lib.hid (HF.out.trans H5.out.2)
  have HT := Lib.hid H5.out.1
  clear d5 d4
  obtain ⟨d5, d4⟩ := HW3.out.fo HF.out
  clear H5
  go_wp2_with fail
  go_ret
  exact PEnd.mk HW.out HW3.out HC3.out HF.out
end

section
open Go.RowKit
set_option linter.unusedVariables false
set_option linter.unusedSimpArgs false

theorem sep_of {A : Option Addr} {p s g : Nat} (h : ∀ x, A = some x → x.block ≠ p ∧ x.block ≠ s ∧ x.block ≠ g) : Sep A (some g) := fun a ha e => (h a ha).2.2 (by simpa using e.symm)

set_option maxRecDepth 100000 in
set_option maxHeartbeats 4000000 in
theorem ap_nt (p s g c : Nat) (A : Option Addr) (m cA : Nat) (d : List Int) (hm : Hid (d.length = m)) (hm2 : m ≤ 1000) (HZA : Hid (A = none → cA = 0)) (hA : Hid (∀ x, A = some x → x.block ≠ p ∧ x.block ≠ s ∧ x.block ≠ g)) (w : World) (hW : Wq p s g c w 0 []) (HR : Hid (Rd w A d)) :
    Calls Try.prog 42 #[.pointer (some ⟨p, 0, none⟩), .slice A m cA] w fun e w' => PEnd p s g c w ([] ++ [7] ++ enc (m : Nat) ++ d) e w' := by
  have HW := Lib.hid hW
  obtain ⟨hc0, hc1⟩ := hW.cc
  clear hW
  have hh0 : 0 ≤ (m : Int) := by omega
  have hh1 : (m : Int) ≤ 4611686018427387903 := by omega
  obtain ⟨km, hkm, hkm0, hkm1⟩ := eszk (m : Nat)
  have HSEP : Hid (0 < d.length → Sep A (some g)) := fun _ => sep_of hA.out
  have hfit : ¬ ((10000 : Int) < 1 + (km : Int) + (m : Int)) := by omega
  have hfit' : decide ((10000 : Int) < 1 + (km : Int) + (m : Int)) = false := by simp; omega
  go_enter Try.func42, Try.ntmps42
  go_wp2_with fail
  refine (avq w HW.out).mono ?_
  rintro e w1 ⟨rfl, H1⟩
  have HW1 := Lib.hid H1.out.1
  have HC1 : Hid (Ch p s g w w1) := by obtain ⟨z, hz⟩ := H1.out.2; show Ch _ _ _ _ _; rw [hz]; exact (Ch.refl _ _ _ _).drewN z
  clear H1
  go_wp2_with fail
  refine (svk (m : Nat) km w1 hkm hh0 hh1).mono ?_
  rintro e w0 ⟨rfl, rfl⟩
  obtain ⟨⟨-, -, c4, -⟩, f4⟩ := HW1.out.cells
  have HA := Lib.hid (HW1.out.alloc (.cells #[.int .u8 7] 5 (0, 0)))
  have HR := Lib.hid (Rd.new w1 [7] (Bs.nil.cons (by omega)) 5)
  have HM : Hid (List.length [(7 : Int)] = 1) := rfl
  have HN : Hid (List.length ([] : List Int) = 0) := rfl
  have HL : Hid (List.length ([] ++ [(7 : Int)]) = 1) := rfl
  have HZ : Hid ((some ⟨w1.heap.size, 0, none⟩ : Option Addr) = none → 1 = 0) := fun h => by cases h
  go_wp2_with (at_builtin; refine wpList_appR (p + 1) _ rfl _ _ rfl g 0 c [] rfl HA.out.own HN (some ⟨w1.heap.size, 0, none⟩) 1 1 [7] rfl HM (by exact HR.out) HZ (by omega) ?_; intro w2 ho2 hg2; obtain ⟨y1, y2, HQ2⟩ := HA.out.app (n1 := 1) ho2.out hg2.out HL)
  have HC2 := Lib.hid ((HC1.out.trans (Ch.of_below ((Below.refl _ _).alloc (Nat.le_refl _) _))).trans HQ2.out.2)
  have HW2 := Lib.hid HQ2.out.1
  clear HA HR HM HN HZ HQ2 HC1 HW1 ho2 hg2 c4 f4
  obtain ⟨n3, hn3⟩ : ∃ N, Hid (1 + esz (m : Nat) + m = N) := ⟨_, Lib.hid rfl⟩
  have b3 : n3 ≤ 1009 := by have := hn3.out; have := hkm.out; omega
  have HL3 : Hid (List.length ([] ++ [7] ++ enc (m : Nat) ++ d) = n3) := by show _ = _; rw [List.length_append, List.length_append, enc_length, HL.out, hm.out]; exact hn3.out
  refine (avbr (p + 1) g 1 c n3 ([] ++ [7]) A m cA d _ HW2.out.own HL (HC2.out.rd HR.out hA.out) hm HZA HSEP (by omega) hn3 (by omega) hc1).mono ?_
  rintro e w3 ⟨rfl, H3⟩
  clear y1 y2
  obtain ⟨y1, y2, HQ3⟩ := HW2.out.app H3.out.1 H3.out.2 HL3
  have HC3 := Lib.hid (HC2.out.trans HQ3.out.2)
  have HW3 := Lib.hid HQ3.out.1
  clear H3 HQ3 HC2 HW2 HL
  go_wp2_with fail
  go_ret
  exact PEnd.mk HW.out HW3.out HC3.out (Fo.refl _ _ _)

set_option maxRecDepth 100000 in
set_option maxHeartbeats 4000000 in
theorem ap_cct (p s g c : Nat) (a b : Int) (ha0 : 0 ≤ a) (ha1 : a ≤ 4611686018427387903) (hb0 : 0 ≤ b) (hb1 : b ≤ 4611686018427387903) (m : Nat) (d : List Int) (hm : Hid (d.length = m)) (hm2 : m ≤ 1000) (hd : Hid (Bs d)) (w : World) (hW : Wq p s g c w 0 []) :
    Calls Try.prog 54 #[.pointer (some ⟨p, 0, none⟩), .int .u64 a, .int .u64 b, .string (strOfNums d)] w fun e w' => PEnd p s g c w ([] ++ [28] ++ enc a ++ enc b ++ enc (m : Nat) ++ d) e w' := by
  have HW := Lib.hid hW
  obtain ⟨hc0, hc1⟩ := hW.cc
  clear hW
  obtain ⟨ka, hka, hka0, hka1⟩ := eszk a
  obtain ⟨kb, hkb, hkb0, hkb1⟩ := eszk b
  have hh0 : 0 ≤ (m : Int) := by omega
  have hh1 : (m : Int) ≤ 4611686018427387903 := by omega
  obtain ⟨km, hkm, hkm0, hkm1⟩ := eszk (m : Nat)
  have hfit : ¬ ((10000 : Int) < 1 + (ka : Int) + (kb : Int) + (km : Int) + (m : Int)) := by omega
  have hfit' : decide ((10000 : Int) < 1 + (ka : Int) + (kb : Int) + (km : Int) + (m : Int)) = false := by simp; omega
  have hsz : (strOfNums d).size = m := by rw [strOfNums_size]; exact hm.out
  go_enter Try.func54, Try.ntmps54
  go_wp2_with fail
  refine (avq w HW.out).mono ?_
  rintro e w1 ⟨rfl, H1⟩
  have HW1 := Lib.hid H1.out.1
  have HC1 : Hid (Ch p s g w w1) := by obtain ⟨z, hz⟩ := H1.out.2; show Ch _ _ _ _ _; rw [hz]; exact (Ch.refl _ _ _ _).drewN z
  clear H1
  go_wp2_with fail
  refine (svk a ka w1 hka ha0 ha1).mono ?_
  rintro e w0 ⟨rfl, rfl⟩
  go_wp2_with fail
  refine (svk b kb w1 hkb hb0 hb1).mono ?_
  rintro e w0 ⟨rfl, rfl⟩
  go_wp2_with fail
  refine (svk (m : Nat) km w1 hkm hh0 hh1).mono ?_
  rintro e w0 ⟨rfl, rfl⟩
  obtain ⟨⟨-, -, c4, -⟩, f4⟩ := HW1.out.cells
  have HA := Lib.hid (HW1.out.alloc (.cells #[.int .u8 28] 5 (0, 0)))
  have HR := Lib.hid (Rd.new w1 [28] (Bs.nil.cons (by omega)) 5)
  have HM : Hid (List.length [(28 : Int)] = 1) := rfl
  have HN : Hid (List.length ([] : List Int) = 0) := rfl
  have HL : Hid (List.length ([] ++ [(28 : Int)]) = 1) := rfl
  have HZ : Hid ((some ⟨w1.heap.size, 0, none⟩ : Option Addr) = none → 1 = 0) := fun h => by cases h
  go_wp2_with (at_builtin; refine wpList_appR (p + 1) _ rfl _ _ rfl g 0 c [] rfl HA.out.own HN (some ⟨w1.heap.size, 0, none⟩) 1 1 [28] rfl HM (by exact HR.out) HZ (by omega) ?_; intro w2 ho2 hg2; obtain ⟨y1, y2, HQ2⟩ := HA.out.app (n1 := 1) ho2.out hg2.out HL)
  have HC2 := Lib.hid ((HC1.out.trans (Ch.of_below ((Below.refl _ _).alloc (Nat.le_refl _) _))).trans HQ2.out.2)
  have HW2 := Lib.hid HQ2.out.1
  clear HA HR HM HN HZ HQ2 HC1 HW1 ho2 hg2 c4 f4
  obtain ⟨n3, hn3⟩ : ∃ N, Hid (1 + esz a = N) := ⟨_, Lib.hid rfl⟩
  have b3 : n3 ≤ 9 := by have := hn3.out; have := hka.out; omega
  have HL3 : Hid (List.length ([] ++ [28] ++ enc a) = n3) := by show _ = _; rw [List.length_append, enc_length, HL.out]; exact hn3.out
  refine (avr (p + 1) g 1 c n3 ([] ++ [28]) a _ HW2.out.own HL hn3 (by omega) hc1 ha0 ha1).mono ?_
  rintro e w3 ⟨rfl, H3⟩
  clear y1 y2
  obtain ⟨y1, y2, HQ3⟩ := HW2.out.app H3.out.1 H3.out.2 HL3
  have HC3 := Lib.hid (HC2.out.trans HQ3.out.2)
  have HW3 := Lib.hid HQ3.out.1
  clear H3 HQ3 HC2 HW2 HL
  go_wp2_with fail
  obtain ⟨n4, hn4⟩ : ∃ N, Hid (n3 + esz b = N) := ⟨_, Lib.hid rfl⟩
  have b4 : n4 ≤ 17 := by have := hn4.out; have := hkb.out; omega
  have HL4 : Hid (List.length ([] ++ [28] ++ enc a ++ enc b) = n4) := by show _ = _; rw [List.length_append, enc_length, HL3.out]; exact hn4.out
  refine (avr (p + 1) g n3 c n4 ([] ++ [28] ++ enc a) b _ HW3.out.own HL3 hn4 (by omega) hc1 hb0 hb1).mono ?_
  rintro e w4 ⟨rfl, H4⟩
  clear y1 y2
  obtain ⟨y1, y2, HQ4⟩ := HW3.out.app H4.out.1 H4.out.2 HL4
  have HC4 := Lib.hid (HC3.out.trans HQ4.out.2)
  have HW4 := Lib.hid HQ4.out.1
  clear H4 HQ4 HC3 HW3 HL3
  obtain ⟨cS, wS, hcv, HS⟩ := run_cvS (w4.setCell ⟨p, 4, none⟩ (.slice (some ⟨g, 0, none⟩) n4 c)) d hd.out (by have := hm.out; omega)
  rw [hm.out, size_cell] at hcv
  rw [size_cell] at HS
  have HWS := Lib.hid (HW4.out.below (by have := HS.out.2.1; rwa [size_cell]))
  have HCS := Lib.hid (HC4.out.trans (Ch.of_below (p := p) (s := s) (g := g) (by have := HS.out.2.1; rwa [size_cell])))
  have HZA : Hid ((some ⟨w4.heap.size, 0, none⟩ : Option Addr) = none → cS = 0) := fun h => by cases h
  have HSEP : Hid (0 < d.length → Sep (some ⟨w4.heap.size, 0, none⟩) (some g)) := fun _ => sep_ne (by have := HW4.out.gp.2.1; rw [size_cell] at this; omega)
  go_wp2_with fail
  obtain ⟨n5, hn5⟩ : ∃ N, Hid (n4 + esz (m : Nat) + m = N) := ⟨_, Lib.hid rfl⟩
  have b5 : n5 ≤ 1025 := by have := hn5.out; have := hkm.out; omega
  have HL5 : Hid (List.length ([] ++ [28] ++ enc a ++ enc b ++ enc (m : Nat) ++ d) = n5) := by show _ = _; rw [List.length_append, List.length_append, enc_length, HL4.out, hm.out]; exact hn5.out
  refine (avbr (p + 1) g n4 c n5 ([] ++ [28] ++ enc a ++ enc b) (some ⟨w4.heap.size, 0, none⟩) m cS d _ HWS.out.own HL4 (HS.out.1) hm HZA HSEP (by omega) hn5 (by omega) hc1).mono ?_
  rintro e w5 ⟨rfl, H5⟩
  clear y1 y2
  obtain ⟨y1, y2, HQ5⟩ := HWS.out.app H5.out.1 H5.out.2 HL5
  have HC5 := Lib.hid (HCS.out.trans HQ5.out.2)
  have HW5 := Lib.hid HQ5.out.1
  clear H5 HQ5 HC4 HW4 HL4
  go_wp2_with fail
  go_ret
  exact PEnd.mk HW.out HW5.out HC5.out (Fo.refl _ _ _)

set_option maxRecDepth 100000 in
set_option maxHeartbeats 4000000 in
theorem ap_cca (p s g c : Nat) (a : Int) (ha0 : 0 ≤ a) (ha1 : a ≤ 4611686018427387903) (m : Nat) (d : List Int) (hm : Hid (d.length = m)) (hm2 : m ≤ 1000) (hd : Hid (Bs d)) (w : World) (hW : Wq p s g c w 0 []) :
    Calls Try.prog 55 #[.pointer (some ⟨p, 0, none⟩), .int .u64 a, .string (strOfNums d)] w fun e w' => PEnd p s g c w ([] ++ [29] ++ enc a ++ enc (m : Nat) ++ d) e w' := by
  have HW := Lib.hid hW
  obtain ⟨hc0, hc1⟩ := hW.cc
  clear hW
  obtain ⟨ka, hka, hka0, hka1⟩ := eszk a
  have hh0 : 0 ≤ (m : Int) := by omega
  have hh1 : (m : Int) ≤ 4611686018427387903 := by omega
  obtain ⟨km, hkm, hkm0, hkm1⟩ := eszk (m : Nat)
  have hfit : ¬ ((10000 : Int) < 1 + (ka : Int) + (km : Int) + (m : Int)) := by omega
  have hfit' : decide ((10000 : Int) < 1 + (ka : Int) + (km : Int) + (m : Int)) = false := by simp; omega
  have hsz : (strOfNums d).size = m := by rw [strOfNums_size]; exact hm.out
  go_enter Try.func55, Try.ntmps55
  go_wp2_with fail
  refine (avq w HW.out).mono ?_
  rintro e w1 ⟨rfl, H1⟩
  have HW1 := Lib.hid H1.out.1
  have HC1 : Hid (Ch p s g w w1) := by obtain ⟨z, hz⟩ := H1.out.2; show Ch _ _ _ _ _; rw [hz]; exact (Ch.refl _ _ _ _).drewN z
  clear H1
  go_wp2_with fail
  refine (svk a ka w1 hka ha0 ha1).mono ?_
  rintro e w0 ⟨rfl, rfl⟩
  go_wp2_with fail
  refine (svk (m : Nat) km w1 hkm hh0 hh1).mono ?_
  rintro e w0 ⟨rfl, rfl⟩
  obtain ⟨⟨-, -, c4, -⟩, f4⟩ := HW1.out.cells
  have HA := Lib.hid (HW1.out.alloc (.cells #[.int .u8 29] 5 (0, 0)))
  have HR := Lib.hid (Rd.new w1 [29] (Bs.nil.cons (by omega)) 5)
  have HM : Hid (List.length [(29 : Int)] = 1) := rfl
  have HN : Hid (List.length ([] : List Int) = 0) := rfl
  have HL : Hid (List.length ([] ++ [(29 : Int)]) = 1) := rfl
  have HZ : Hid ((some ⟨w1.heap.size, 0, none⟩ : Option Addr) = none → 1 = 0) := fun h => by cases h
  go_wp2_with (at_builtin; refine wpList_appR (p + 1) _ rfl _ _ rfl g 0 c [] rfl HA.out.own HN (some ⟨w1.heap.size, 0, none⟩) 1 1 [29] rfl HM (by exact HR.out) HZ (by omega) ?_; intro w2 ho2 hg2; obtain ⟨y1, y2, HQ2⟩ := HA.out.app (n1 := 1) ho2.out hg2.out HL)
  have HC2 := Lib.hid ((HC1.out.trans (Ch.of_below ((Below.refl _ _).alloc (Nat.le_refl _) _))).trans HQ2.out.2)
  have HW2 := Lib.hid HQ2.out.1
  clear HA HR HM HN HZ HQ2 HC1 HW1 ho2 hg2 c4 f4
  obtain ⟨n3, hn3⟩ : ∃ N, Hid (1 + esz a = N) := ⟨_, Lib.hid rfl⟩
  have b3 : n3 ≤ 9 := by have := hn3.out; have := hka.out; omega
  have HL3 : Hid (List.length ([] ++ [29] ++ enc a) = n3) := by show _ = _; rw [List.length_append, enc_length, HL.out]; exact hn3.out
  refine (avr (p + 1) g 1 c n3 ([] ++ [29]) a _ HW2.out.own HL hn3 (by omega) hc1 ha0 ha1).mono ?_
  rintro e w3 ⟨rfl, H3⟩
  clear y1 y2
  obtain ⟨y1, y2, HQ3⟩ := HW2.out.app H3.out.1 H3.out.2 HL3
  have HC3 := Lib.hid (HC2.out.trans HQ3.out.2)
  have HW3 := Lib.hid HQ3.out.1
  clear H3 HQ3 HC2 HW2 HL
  obtain ⟨cS, wS, hcv, HS⟩ := run_cvS (w3.setCell ⟨p, 4, none⟩ (.slice (some ⟨g, 0, none⟩) n3 c)) d hd.out (by have := hm.out; omega)
  rw [hm.out, size_cell] at hcv
  rw [size_cell] at HS
  have HWS := Lib.hid (HW3.out.below (by have := HS.out.2.1; rwa [size_cell]))
  have HCS := Lib.hid (HC3.out.trans (Ch.of_below (p := p) (s := s) (g := g) (by have := HS.out.2.1; rwa [size_cell])))
  have HZA : Hid ((some ⟨w3.heap.size, 0, none⟩ : Option Addr) = none → cS = 0) := fun h => by cases h
  have HSEP : Hid (0 < d.length → Sep (some ⟨w3.heap.size, 0, none⟩) (some g)) := fun _ => sep_ne (by have := HW3.out.gp.2.1; rw [size_cell] at this; omega)
  go_wp2_with fail
  obtain ⟨n4, hn4⟩ : ∃ N, Hid (n3 + esz (m : Nat) + m = N) := ⟨_, Lib.hid rfl⟩
  have b4 : n4 ≤ 1017 := by have := hn4.out; have := hkm.out; omega
  have HL4 : Hid (List.length ([] ++ [29] ++ enc a ++ enc (m : Nat) ++ d) = n4) := by show _ = _; rw [List.length_append, List.length_append, enc_length, HL3.out, hm.out]; exact hn4.out
  refine (avbr (p + 1) g n3 c n4 ([] ++ [29] ++ enc a) (some ⟨w3.heap.size, 0, none⟩) m cS d _ HWS.out.own HL3 (HS.out.1) hm HZA HSEP (by omega) hn4 (by omega) hc1).mono ?_
  rintro e w4 ⟨rfl, H4⟩
  clear y1 y2
  obtain ⟨y1, y2, HQ4⟩ := HWS.out.app H4.out.1 H4.out.2 HL4
  have HC4 := Lib.hid (HCS.out.trans HQ4.out.2)
  have HW4 := Lib.hid HQ4.out.1
  clear H4 HQ4 HC3 HW3 HL3
  go_wp2_with fail
  go_ret
  exact PEnd.mk HW.out HW4.out HC4.out (Fo.refl _ _ _)
end

section
open Go.RowKit
set_option linter.unusedVariables false
set_option linter.unusedSimpArgs false

/-- append where there is room, as one step of a region that draws. -/
theorem step_appR {ops : Array Oper} {o : Oper} {a : Act} {w : World} {K : Act → World → Prop} {Q : Exit → Act → World → Prop} {F : Prop} (hgd : o.guard = none) (s x : Operand)
    (ho : o.op = .call { callee := .builtin .append, args := #[s, x], argTypes := #[22, 22] })
    (B g n c : Nat) (l : List Int) (hs : a.eval s = .slice (some ⟨g, 0, none⟩) n c) (hown : Own B w (.slice (some ⟨g, 0, none⟩) n c) l) (hn : Hid (l.length = n)) (ad : Addr) (m c' : Nat) (news : List Int) (hx : a.eval x = .slice (some ad) m c') (hm : Hid (news.length = m)) (hr : Rd w (some ad) news)
    (hroom : n + m ≤ c)
    (h : ∀ w', Hid (Own B w' (.slice (some ⟨g, 0, none⟩) (n + m) c) (l ++ news)) → Hid (w.grownBy w' (some g)) → K (a.put o.dst (.slice (some ⟨g, 0, none⟩) (n + m) c)) w') :
    if Region.wanted o (yielded ops a.tmps) = true then Oper.wp Try.prog o a w K Q else F := by
  have hw : Region.wanted o (yielded ops a.tmps) = true := by simp [Region.wanted, hgd]
  rw [if_pos hw]
  obtain ⟨i0, hi, hz0, hz1, hz2⟩ := info_parts info_u8
  have hn' := hn.out
  have hm' := hm.out
  have hbs := hown.1.append hr.1
  have hrow : w.ownsRow B 5 1 (.slice (some ⟨g, 0, none⟩) n c) n (vals l) := by
    have := hown.2
    rwa [hn'] at this
  refine wp_append_own_spare w s x 22 ho B 5 i0 1 Try.underlying22 hi hz1 g n c (vals l) hs hrow ad m c' (vals news) hx (by rw [vals_length]; omega) hr.vals_at (vals_one _) hroom fun w' h2 h3 => h w' ⟨hbs, ?_⟩ h3
  rw [List.length_append, hm', hn', vals_append]
  exact h2

set_option maxRecDepth 100000 in
set_option maxHeartbeats 4000000 in
theorem ap_pc (p s g c : Nat) (x0 x1 x2 x3 x4 x5 x6 x7 : Int) (hb : Hid (Bs [x0, x1, x2, x3, x4, x5, x6, x7])) (w : World) (hW : Wq p s g c w 0 []) :
    Calls Try.prog 52 #[.pointer (some ⟨p, 0, none⟩), .agg #[.int .u8 x0, .int .u8 x1, .int .u8 x2, .int .u8 x3, .int .u8 x4, .int .u8 x5, .int .u8 x6, .int .u8 x7]] w fun e w' => PEnd p s g c w ([] ++ [26] ++ [x0, x1, x2, x3, x4, x5, x6, x7]) e w' := by
  have HW := Lib.hid hW
  obtain ⟨hc0, hc1⟩ := hW.cc
  clear hW
  obtain ⟨W0, hW0⟩ : ∃ W0, Hid (w.alloc (.cells #[.int .u8 x0, .int .u8 x1, .int .u8 x2, .int .u8 x3, .int .u8 x4, .int .u8 x5, .int .u8 x6, .int .u8 x7] 68 (0, 0)) = W0) := ⟨_, Lib.hid rfl⟩
  have HW0 : Hid (Wq p s g c W0 0 []) := by show Wq _ _ _ _ _ _ _; rw [← hW0.out]; exact HW.out.alloc _
  have HC0 : Hid (Ch p s g w W0) := by show Ch _ _ _ _ _; rw [← hW0.out]; exact Ch.of_below ((Below.refl _ _).alloc (Nat.le_refl _) _)
  have HX0 : Hid (Rd W0 (some ⟨w.heap.size, 0, none⟩) [x0, x1, x2, x3, x4, x5, x6, x7]) := by show Rd _ _ _; rw [← hW0.out]; exact Rd.new w [x0, x1, x2, x3, x4, x5, x6, x7] hb.out 68
  have HXA : Hid (∀ x, (some ⟨w.heap.size, 0, none⟩ : Option Addr) = some x → x.block ≠ p ∧ x.block ≠ s ∧ x.block ≠ g) := fun x hx => by
    obtain rfl : (⟨w.heap.size, 0, none⟩ : Addr) = x := (by simpa using hx)
    have h1 := HW.out.gp
    have h2 := HW.out.sp
    simp only
    omega
  have HX8 : Hid (List.length [x0, x1, x2, x3, x4, x5, x6, x7] = 8) := rfl
  go_enter Try.func52, Try.ntmps52
  go_wp2_with fail
  rw [hW0.out]
  refine (avq W0 HW0.out).mono ?_
  rintro e w1 ⟨rfl, H1⟩
  have HW1 := Lib.hid H1.out.1
  have HC1 : Hid (Ch p s g W0 w1) := by obtain ⟨z, hz⟩ := H1.out.2; show Ch _ _ _ _ _; rw [hz]; exact (Ch.refl _ _ _ _).drewN z
  clear H1
  obtain ⟨⟨-, -, c4, -⟩, f4⟩ := HW1.out.cells
  have HA := Lib.hid (HW1.out.alloc (.cells #[.int .u8 26] 5 (0, 0)))
  have HR := Lib.hid (Rd.new w1 [26] (Bs.nil.cons (by omega)) 5)
  have HM : Hid (List.length [(26 : Int)] = 1) := rfl
  have HN : Hid (List.length ([] : List Int) = 0) := rfl
  have HL : Hid (List.length ([] ++ [(26 : Int)]) = 1) := rfl
  have HZ : Hid ((some ⟨w1.heap.size, 0, none⟩ : Option Addr) = none → 1 = 0) := fun h => by cases h
  go_wp2_with (at_builtin; refine wpList_appR (p + 1) _ rfl _ _ rfl g 0 c [] rfl HA.out.own HN (some ⟨w1.heap.size, 0, none⟩) 1 1 [26] rfl HM (by exact HR.out) HZ (by omega) ?_; intro w2 ho2 hg2; obtain ⟨y1, y2, HQ2⟩ := HA.out.app (n1 := 1) ho2.out hg2.out HL)
  have HC2 := Lib.hid ((HC1.out.trans (Ch.of_below ((Below.refl _ _).alloc (Nat.le_refl _) _))).trans HQ2.out.2)
  have HW2 := Lib.hid HQ2.out.1
  clear HA HR HM HN HZ HQ2 HC1 HW1 ho2 hg2 c4 f4
  have HX2 := Lib.hid (HC2.out.rd HX0.out HXA.out)
  obtain ⟨⟨-, -, c4, -⟩, f4⟩ := HW2.out.cells
  have HW3 := Lib.hid (HW2.out.drewN 1)
  have HC3 := Lib.hid (HC2.out.drewN 1)
  have HX3 := Lib.hid (HX2.out.drewN 1)
  have HL9 : Hid (List.length ([] ++ [(26 : Int)] ++ [x0, x1, x2, x3, x4, x5, x6, x7]) = 9) := rfl
  go_region_law (refine step_appR (by rfl) _ _ (by rfl) (p + 1) g 1 c ([] ++ [26]) (by rfl) (by exact HW3.out.own) HL ⟨w.heap.size, 0, none⟩ 8 8 [x0, x1, x2, x3, x4, x5, x6, x7] (by rfl) HX8 (by exact HX3.out) (by omega) ?_; intro w5 ho5 hg5; obtain ⟨z1, z2, HQ5⟩ := HW3.out.app (n1 := 9) ho5.out hg5.out HL9)
  clear z1 z2 c4 f4
  have HC5 := Lib.hid (HC3.out.trans HQ5.out.2)
  have HW5 := Lib.hid HQ5.out.1
  have d5 := HW5.out.cells.1.2.2.2
  go_wp2_with fail
  refine (snt_mark _ s 0 _ HW5.out.ts).mono ?_
  rintro e w6 ⟨rfl, HF⟩
  clear d5
  go_wp2_with fail
  go_ret
  exact PEnd.mk HW.out HW5.out (HC0.out.trans HC5.out) HF.out

set_option maxRecDepth 100000 in
set_option maxHeartbeats 4000000 in
theorem ap_pr (p s g c : Nat) (x0 x1 x2 x3 x4 x5 x6 x7 : Int) (hb : Hid (Bs [x0, x1, x2, x3, x4, x5, x6, x7])) (w : World) (hW : Wq p s g c w 0 []) :
    Calls Try.prog 53 #[.pointer (some ⟨p, 0, none⟩), .agg #[.int .u8 x0, .int .u8 x1, .int .u8 x2, .int .u8 x3, .int .u8 x4, .int .u8 x5, .int .u8 x6, .int .u8 x7]] w fun e w' => PEnd p s g c w ([] ++ [27] ++ [x0, x1, x2, x3, x4, x5, x6, x7]) e w' := by
  have HW := Lib.hid hW
  obtain ⟨hc0, hc1⟩ := hW.cc
  clear hW
  obtain ⟨W0, hW0⟩ : ∃ W0, Hid (w.alloc (.cells #[.int .u8 x0, .int .u8 x1, .int .u8 x2, .int .u8 x3, .int .u8 x4, .int .u8 x5, .int .u8 x6, .int .u8 x7] 68 (0, 0)) = W0) := ⟨_, Lib.hid rfl⟩
  have HW0 : Hid (Wq p s g c W0 0 []) := by show Wq _ _ _ _ _ _ _; rw [← hW0.out]; exact HW.out.alloc _
  have HC0 : Hid (Ch p s g w W0) := by show Ch _ _ _ _ _; rw [← hW0.out]; exact Ch.of_below ((Below.refl _ _).alloc (Nat.le_refl _) _)
  have HX0 : Hid (Rd W0 (some ⟨w.heap.size, 0, none⟩) [x0, x1, x2, x3, x4, x5, x6, x7]) := by show Rd _ _ _; rw [← hW0.out]; exact Rd.new w [x0, x1, x2, x3, x4, x5, x6, x7] hb.out 68
  have HXA : Hid (∀ x, (some ⟨w.heap.size, 0, none⟩ : Option Addr) = some x → x.block ≠ p ∧ x.block ≠ s ∧ x.block ≠ g) := fun x hx => by
    obtain rfl : (⟨w.heap.size, 0, none⟩ : Addr) = x := (by simpa using hx)
    have h1 := HW.out.gp
    have h2 := HW.out.sp
    simp only
    omega
  have HX8 : Hid (List.length [x0, x1, x2, x3, x4, x5, x6, x7] = 8) := rfl
  go_enter Try.func53, Try.ntmps53
  go_wp2_with fail
  rw [hW0.out]
  refine (avq W0 HW0.out).mono ?_
  rintro e w1 ⟨rfl, H1⟩
  have HW1 := Lib.hid H1.out.1
  have HC1 : Hid (Ch p s g W0 w1) := by obtain ⟨z, hz⟩ := H1.out.2; show Ch _ _ _ _ _; rw [hz]; exact (Ch.refl _ _ _ _).drewN z
  clear H1
  obtain ⟨⟨-, -, c4, -⟩, f4⟩ := HW1.out.cells
  have HA := Lib.hid (HW1.out.alloc (.cells #[.int .u8 27] 5 (0, 0)))
  have HR := Lib.hid (Rd.new w1 [27] (Bs.nil.cons (by omega)) 5)
  have HM : Hid (List.length [(27 : Int)] = 1) := rfl
  have HN : Hid (List.length ([] : List Int) = 0) := rfl
  have HL : Hid (List.length ([] ++ [(27 : Int)]) = 1) := rfl
  have HZ : Hid ((some ⟨w1.heap.size, 0, none⟩ : Option Addr) = none → 1 = 0) := fun h => by cases h
  go_wp2_with (at_builtin; refine wpList_appR (p + 1) _ rfl _ _ rfl g 0 c [] rfl HA.out.own HN (some ⟨w1.heap.size, 0, none⟩) 1 1 [27] rfl HM (by exact HR.out) HZ (by omega) ?_; intro w2 ho2 hg2; obtain ⟨y1, y2, HQ2⟩ := HA.out.app (n1 := 1) ho2.out hg2.out HL)
  have HC2 := Lib.hid ((HC1.out.trans (Ch.of_below ((Below.refl _ _).alloc (Nat.le_refl _) _))).trans HQ2.out.2)
  have HW2 := Lib.hid HQ2.out.1
  clear HA HR HM HN HZ HQ2 HC1 HW1 ho2 hg2 c4 f4
  have HX2 := Lib.hid (HC2.out.rd HX0.out HXA.out)
  obtain ⟨⟨-, -, c4, -⟩, f4⟩ := HW2.out.cells
  have HW3 := Lib.hid (HW2.out.drewN 1)
  have HC3 := Lib.hid (HC2.out.drewN 1)
  have HX3 := Lib.hid (HX2.out.drewN 1)
  have HL9 : Hid (List.length ([] ++ [(27 : Int)] ++ [x0, x1, x2, x3, x4, x5, x6, x7]) = 9) := rfl
  go_region_law (refine step_appR (by rfl) _ _ (by rfl) (p + 1) g 1 c ([] ++ [27]) (by rfl) (by exact HW3.out.own) HL ⟨w.heap.size, 0, none⟩ 8 8 [x0, x1, x2, x3, x4, x5, x6, x7] (by rfl) HX8 (by exact HX3.out) (by omega) ?_; intro w5 ho5 hg5; obtain ⟨z1, z2, HQ5⟩ := HW3.out.app (n1 := 9) ho5.out hg5.out HL9)
  clear z1 z2 c4 f4
  have HC5 := Lib.hid (HC3.out.trans HQ5.out.2)
  have HW5 := Lib.hid HQ5.out.1
  have d5 := HW5.out.cells.1.2.2.2
  go_wp2_with fail
  refine (snt_mark _ s 0 _ HW5.out.ts).mono ?_
  rintro e w6 ⟨rfl, HF⟩
  clear d5
  go_wp2_with fail
  go_ret
  exact PEnd.mk HW.out HW5.out (HC0.out.trans HC5.out) HF.out
end

section
open Go.RowKit
set_option linter.unusedVariables false
set_option linter.unusedSimpArgs false

set_option maxRecDepth 100000 in
set_option maxHeartbeats 4000000 in
theorem ap_nc (p s g c : Nat) (a b : Int) (ha0 : 0 ≤ a) (ha1 : a ≤ 4611686018427387903) (hb0 : 0 ≤ b) (hb1 : b ≤ 4611686018427387903) (A : Option Addr) (m cA : Nat) (d : List Int) (hm : Hid (d.length = m)) (hm2 : m ≤ 255) (HZA : Hid (A = none → cA = 0)) (hA : Hid (∀ x, A = some x → x.block ≠ p ∧ x.block ≠ s ∧ x.block ≠ g)) (x0 x1 x2 x3 x4 x5 x6 x7 x8 x9 x10 x11 x12 x13 x14 x15 : Int) (hb : Hid (Bs [x0, x1, x2, x3, x4, x5, x6, x7, x8, x9, x10, x11, x12, x13, x14, x15])) (w : World) (hW : Wq p s g c w 0 []) (HR : Hid (Rd w A d)) :
    Calls Try.prog 50 #[.pointer (some ⟨p, 0, none⟩), .int .i64 a, .int .i64 b, .slice A m cA, .agg #[.int .u8 x0, .int .u8 x1, .int .u8 x2, .int .u8 x3, .int .u8 x4, .int .u8 x5, .int .u8 x6, .int .u8 x7, .int .u8 x8, .int .u8 x9, .int .u8 x10, .int .u8 x11, .int .u8 x12, .int .u8 x13, .int .u8 x14, .int .u8 x15]] w fun e w' => PEnd p s g c w ([] ++ [24] ++ enc a ++ enc b ++ [(m : Int)] ++ d ++ [x0, x1, x2, x3, x4, x5, x6, x7, x8, x9, x10, x11, x12, x13, x14, x15]) e w' := by
  have HW := Lib.hid hW
  obtain ⟨hc0, hc1⟩ := hW.cc
  clear hW
  obtain ⟨ka, hka, hka0, hka1⟩ := eszk a
  obtain ⟨kb, hkb, hkb0, hkb1⟩ := eszk b
  obtain ⟨W0, hW0⟩ : ∃ W0, Hid (w.alloc (.cells #[.int .u8 x0, .int .u8 x1, .int .u8 x2, .int .u8 x3, .int .u8 x4, .int .u8 x5, .int .u8 x6, .int .u8 x7, .int .u8 x8, .int .u8 x9, .int .u8 x10, .int .u8 x11, .int .u8 x12, .int .u8 x13, .int .u8 x14, .int .u8 x15] 63 (0, 0)) = W0) := ⟨_, Lib.hid rfl⟩
  have HW0 : Hid (Wq p s g c W0 0 []) := by show Wq _ _ _ _ _ _ _; rw [← hW0.out]; exact HW.out.alloc _
  have HC0 : Hid (Ch p s g w W0) := by show Ch _ _ _ _ _; rw [← hW0.out]; exact Ch.of_below ((Below.refl _ _).alloc (Nat.le_refl _) _)
  have HD0 : Hid (Rd W0 A d) := HC0.out.rd HR.out hA.out
  have HX0 : Hid (Rd W0 (some ⟨w.heap.size, 0, none⟩) [x0, x1, x2, x3, x4, x5, x6, x7, x8, x9, x10, x11, x12, x13, x14, x15]) := by show Rd _ _ _; rw [← hW0.out]; exact Rd.new w [x0, x1, x2, x3, x4, x5, x6, x7, x8, x9, x10, x11, x12, x13, x14, x15] hb.out 63
  have HXA : Hid (∀ x, (some ⟨w.heap.size, 0, none⟩ : Option Addr) = some x → x.block ≠ p ∧ x.block ≠ s ∧ x.block ≠ g) := fun x hx => by
    obtain rfl : (⟨w.heap.size, 0, none⟩ : Addr) = x := (by simpa using hx)
    have h1 := HW.out.gp
    have h2 := HW.out.sp
    simp only
    omega
  have HX8 : Hid (List.length [x0, x1, x2, x3, x4, x5, x6, x7, x8, x9, x10, x11, x12, x13, x14, x15] = 16) := rfl
  have HSEP : Hid (0 < d.length → Sep A (some g)) := fun _ => sep_of hA.out
  have hfit : ¬ ((10000 : Int) < 1 + (ka : Int) + (kb : Int) + 1 + (m : Int) + 16) := by omega
  have hfit' : decide ((10000 : Int) < 1 + (ka : Int) + (kb : Int) + 1 + (m : Int) + 16) = false := by simp; omega
  go_enter Try.func50, Try.ntmps50
  go_wp2_with fail
  rw [hW0.out]
  refine (avq W0 HW0.out).mono ?_
  rintro e w1 ⟨rfl, H1⟩
  have HW1 := Lib.hid H1.out.1
  have HC1 : Hid (Ch p s g W0 w1) := by obtain ⟨z, hz⟩ := H1.out.2; show Ch _ _ _ _ _; rw [hz]; exact (Ch.refl _ _ _ _).drewN z
  clear H1
  go_wp2_with fail
  refine (svk a ka w1 hka ha0 ha1).mono ?_
  rintro e w0 ⟨rfl, rfl⟩
  go_wp2_with fail
  refine (svk b kb w1 hkb hb0 hb1).mono ?_
  rintro e w0 ⟨rfl, rfl⟩
  obtain ⟨⟨-, -, c4, -⟩, f4⟩ := HW1.out.cells
  have HA := Lib.hid (HW1.out.alloc (.cells #[.int .u8 24] 5 (0, 0)))
  have HR := Lib.hid (Rd.new w1 [24] (Bs.nil.cons (by omega)) 5)
  have HM : Hid (List.length [(24 : Int)] = 1) := rfl
  have HN : Hid (List.length ([] : List Int) = 0) := rfl
  have HL : Hid (List.length ([] ++ [(24 : Int)]) = 1) := rfl
  have HZ : Hid ((some ⟨w1.heap.size, 0, none⟩ : Option Addr) = none → 1 = 0) := fun h => by cases h
  go_wp2_with (at_builtin; refine wpList_appR (p + 1) _ rfl _ _ rfl g 0 c [] rfl HA.out.own HN (some ⟨w1.heap.size, 0, none⟩) 1 1 [24] rfl HM (by exact HR.out) HZ (by omega) ?_; intro w2 ho2 hg2; obtain ⟨y1, y2, HQ2⟩ := HA.out.app (n1 := 1) ho2.out hg2.out HL)
  have HC2 := Lib.hid ((HC1.out.trans (Ch.of_below ((Below.refl _ _).alloc (Nat.le_refl _) _))).trans HQ2.out.2)
  have HW2 := Lib.hid HQ2.out.1
  clear HA HR HM HN HZ HQ2 HC1 HW1 ho2 hg2 c4 f4
  obtain ⟨n3, hn3⟩ : ∃ N, Hid (1 + esz a = N) := ⟨_, Lib.hid rfl⟩
  have b3 : n3 ≤ 9 := by have := hn3.out; have := hka.out; omega
  have HL3 : Hid (List.length ([] ++ [24] ++ enc a) = n3) := by show _ = _; rw [List.length_append, enc_length, HL.out]; exact hn3.out
  refine (avr (p + 1) g 1 c n3 ([] ++ [24]) a _ HW2.out.own HL hn3 (by omega) hc1 ha0 ha1).mono ?_
  rintro e w3 ⟨rfl, H3⟩
  clear y1 y2
  obtain ⟨y1, y2, HQ3⟩ := HW2.out.app H3.out.1 H3.out.2 HL3
  have HC3 := Lib.hid (HC2.out.trans HQ3.out.2)
  have HW3 := Lib.hid HQ3.out.1
  clear H3 HQ3 HC2 HW2 HL
  go_wp2_with fail
  obtain ⟨n4, hn4⟩ : ∃ N, Hid (n3 + esz b = N) := ⟨_, Lib.hid rfl⟩
  have b4 : n4 ≤ 17 := by have := hn4.out; have := hkb.out; omega
  have HL4 : Hid (List.length ([] ++ [24] ++ enc a ++ enc b) = n4) := by show _ = _; rw [List.length_append, enc_length, HL3.out]; exact hn4.out
  refine (avr (p + 1) g n3 c n4 ([] ++ [24] ++ enc a) b _ HW3.out.own HL3 hn4 (by omega) hc1 hb0 hb1).mono ?_
  rintro e w4 ⟨rfl, H4⟩
  clear y1 y2
  obtain ⟨y1, y2, HQ4⟩ := HW3.out.app H4.out.1 H4.out.2 HL4
  have HC4 := Lib.hid (HC3.out.trans HQ4.out.2)
  have HW4 := Lib.hid HQ4.out.1
  clear H4 HQ4 HC3 HW3 HL3
  go_wp2_with fail
  obtain ⟨n5, hn5⟩ : ∃ N, Hid (n4 + 1 + m = N) := ⟨_, Lib.hid rfl⟩
  have b5 : n5 ≤ 300 := by have := hn5.out; omega
  have HL5 : Hid (List.length ([] ++ [24] ++ enc a ++ enc b ++ [(m : Int)] ++ d) = n5) := by show _ = _; rw [List.length_append, List.length_append, HL4.out, hm.out]; exact hn5.out
  have HD4 := Lib.hid (HC4.out.rd HD0.out hA.out)
  refine (a8br (p + 1) g n4 c n5 ([] ++ [24] ++ enc a ++ enc b) A m cA d _ HW4.out.own HL4 (by exact HD4.out) hm HZA HSEP (by omega) hn5 (by omega) hc1).mono ?_
  rintro e w5 ⟨rfl, H5⟩
  clear y1 y2
  obtain ⟨y1, y2, HQ5⟩ := HW4.out.app H5.out.1 H5.out.2 HL5
  have HC5 := Lib.hid (HC4.out.trans HQ5.out.2)
  have HW5 := Lib.hid HQ5.out.1
  clear H5 HQ5 HC4 HW4 HL4 HD4
  go_wp2_with fail
  have HX5 := Lib.hid (HC5.out.rd HX0.out HXA.out)
  clear y1 y2
  obtain ⟨⟨-, -, c4, -⟩, f4⟩ := HW5.out.cells
  have HW6 := Lib.hid (HW5.out.drewN 1)
  have HC6 := Lib.hid (HC5.out.drewN 1)
  have HX6 := Lib.hid (HX5.out.drewN 1)
  obtain ⟨n6, hn6⟩ : ∃ N, Hid (n5 + 16 = N) := ⟨_, Lib.hid rfl⟩
  have HL6 : Hid (List.length ([] ++ [24] ++ enc a ++ enc b ++ [(m : Int)] ++ d ++ [x0, x1, x2, x3, x4, x5, x6, x7, x8, x9, x10, x11, x12, x13, x14, x15]) = n5 + 16) := by show _ = _; rw [List.length_append, HL5.out]; rfl
  go_region_law (refine step_appR (by rfl) _ _ (by rfl) (p + 1) g n5 c ([] ++ [24] ++ enc a ++ enc b ++ [(m : Int)] ++ d) (by rfl) (by exact HW6.out.own) HL5 ⟨w.heap.size, 0, none⟩ 16 16 [x0, x1, x2, x3, x4, x5, x6, x7, x8, x9, x10, x11, x12, x13, x14, x15] (by rfl) HX8 (by exact HX6.out) (by omega) ?_; intro w7 ho7 hg7; obtain ⟨z1, z2, HQ7⟩ := HW6.out.app (n1 := n5 + 16) ho7.out hg7.out HL6)
  clear z1 z2 c4 f4
  have HC7 := Lib.hid (HC6.out.trans HQ7.out.2)
  have HW7 := Lib.hid HQ7.out.1
  have d5 := HW7.out.cells.1.2.2.2
  go_wp2_with fail
  refine (snt_ack _ s 0 24 _ HW7.out.ts (by omega) (by omega)).mono ?_
  rintro e w8 ⟨rfl, H8⟩
  obtain ⟨d5, d4⟩ := HW7.out.fo H8.out.2
  have HF := Lib.hid H8.out.2
  have HT := Lib.hid H8.out.1
  clear H8
  go_wp2_with fail
  refine (snt_int _ s 1 a _ HT.out (by omega) ha0 ha1).mono ?_
  rintro e w9 ⟨rfl, H9⟩
  have HF := Lib.hid (HF.out.trans H9.out.2)
  have HT := Lib.hid H9.out.1
  clear d5 d4
  obtain ⟨d5, d4⟩ := HW7.out.fo HF.out
  clear H9
  go_wp2_with fail
  go_ret
  exact PEnd.mk HW.out HW7.out (HC0.out.trans HC7.out) HF.out
end

section
open Go.RowKit
set_option linter.unusedVariables false
set_option linter.unusedSimpArgs false

/-- The writer whose slice is cut longer, to N bytes, than what it has. -/
structure Wx (p s g c : Nat) (w : World) (n N : Nat) (l : List Int) : Prop where
  pc : ∃ dg, w.heap[p]? = some (PW dg 10000 (.slice (some ⟨g, 0, none⟩) N c) s)
  sc : w.heap[s]? = some SP0
  own : Own (p + 1) w (.slice (some ⟨g, 0, none⟩) n c) l
  sp : s < p
section
variable {p s g c n N : Nat} {w w1 : World} {l : List Int}
theorem Wq.longer (h : Wq p s g c w n l) (N : Nat) : Wx p s g c (w.setCell ⟨p, 4, none⟩ (.slice (some ⟨g, 0, none⟩) N c)) n N l ∧ Ch p s g w (w.setCell ⟨p, 4, none⟩ (.slice (some ⟨g, 0, none⟩) N c)) := by
  obtain ⟨dg, hp⟩ := h.pc
  have hsp := h.sp
  exact ⟨⟨⟨dg, cell_at 4 _ hp rfl⟩, cell_off p 4 _ h.sc (by omega), h.own.kept (cgrown _ _ _ _) (.inr fun e => by have := (h.own.lt _ e).1; omega), hsp⟩, Ch.of_grown (cgrown _ _ _ _) (.inl rfl)⟩
theorem Wx.ts (h : Wx p s g c w n N l) : Ts w.heap.size w s 0 := ⟨⟨false, false, _, [], h.sc, Own.nil_ _ _, by simp⟩, cell_in h.sc, Nat.le_refl _⟩
theorem Wx.cells (h : Wx p s g c w n N l) : w.cell? ⟨p, 3, none⟩ = some (.int .i64 0) ∧ w.cell? ⟨p, 4, none⟩ = some (.slice (some ⟨g, 0, none⟩) N c) ∧ w.cell? ⟨p, 5, none⟩ = some (.pointer (some ⟨s, 0, none⟩)) := by
  obtain ⟨dg, hp⟩ := h.pc
  refine ⟨?_, ?_, ?_⟩
  · rw [cell_of_row _ _ 3 _ _ (0, 0) hp]; rfl
  · rw [cell_of_row _ _ 4 _ _ (0, 0) hp]; rfl
  · rw [cell_of_row _ _ 5 _ _ (0, 0) hp]; rfl
theorem Wx.gp (h : Wx p s g c w n N l) : p < g ∧ g < w.heap.size := by have h1 := h.own.lt g rfl; omega
theorem Wx.fo (h : Wx p s g c w n N l) (hf : Fo w.heap.size s w w1) : (w1.cell? ⟨p, 3, none⟩ = some (.int .i64 0) ∧ w1.cell? ⟨p, 4, none⟩ = some (.slice (some ⟨g, 0, none⟩) N c) ∧ w1.cell? ⟨p, 5, none⟩ = some (.pointer (some ⟨s, 0, none⟩))) ∧ Own (p + 1) w1 (.slice (some ⟨g, 0, none⟩) n c) l := by
  obtain ⟨dg, hp⟩ := h.pc
  have hsp := h.sp
  have hp1 := (hf.blk p (cell_in hp) (by omega)).trans hp
  refine ⟨⟨?_, ?_, ?_⟩, ?_⟩
  · rw [cell_of_row _ _ 3 _ _ (0, 0) hp1]; rfl
  · rw [cell_of_row _ _ 4 _ _ (0, 0) hp1]; rfl
  · rw [cell_of_row _ _ 5 _ _ (0, 0) hp1]; rfl
  · obtain ⟨hb, hn, ho⟩ := h.own
    refine ⟨hb, hn, ho.imp id fun ⟨q, cap, cur, e, hq, hh, rest⟩ => ⟨q, cap, cur, e, hq, ?_, rest⟩⟩
    rw [hf.blk q (cell_in hh) (by omega)]
    exact hh
end
/-- What an append of a frame leaves whose data are to be copied: the frame l but for m bytes behind it. -/
def XEnd (p s g c : Nat) (w : World) (n m : Nat) (l : List Int) (e : Ending) (w' : World) : Prop :=
  l.length = n ∧ n + m ≤ 10000 ∧ e = .returned (.tuple #[.slice (some ⟨g, n, none⟩) m (c - n), .bool true]) ∧ Hid ((w'.cell? ⟨p, 3, none⟩ = some (.int .i64 0) ∧ w'.cell? ⟨p, 4, none⟩ = some (.slice (some ⟨g, 0, none⟩) (n + m) c) ∧ w'.cell? ⟨p, 5, none⟩ = some (.pointer (some ⟨s, 0, none⟩))) ∧ Own (p + 1) w' (.slice (some ⟨g, 0, none⟩) n c) l ∧ Below s w w' ∧ Ch p s g w w' ∧ s < p ∧ 10000 ≤ c)
theorem XEnd.mk' {p s g c n N m : Nat} {w W w' : World} {l : List Int} (h0 : Wq p s g c w 0 []) (h : Wx p s g c W n N l) (hN : Hid (n + m = N)) (hn : Hid (l.length = n)) (hb : n + m ≤ 10000) (hC : Ch p s g w W) (hf : Fo W.heap.size s W w') : XEnd p s g c w n m l (.returned (.tuple #[.slice (some ⟨g, n, none⟩) m (c - n), .bool true])) w' := by
  have hN := hN.out
  subst hN
  obtain ⟨h1, h2⟩ := h.fo hf
  have g1 := h0.gp
  have g2 := h0.sp
  have g3 := cell_in h0.sc
  exact ⟨hn.out, hb, rfl, h1, h2, (hC.below (by omega) (by omega) (by omega) (by omega)).trans hf.bel, hC.trans (Ch.of_fo hf), g2, h0.cc.1⟩
/-- The copy of the data behind what the writer has. -/
theorem wpList_copyR {ops : Array Oper} {rest : List Oper} {o : Oper} {a : Act} {Q : Exit → Act → World → Prop} (B : Nat) (w : World) (hgd : o.guard = none) (d x : Operand)
    (ho : o.op = .call { callee := .builtin .copy, args := #[d, x], argTypes := #[22, 22] })
    (g n c m cd : Nat) (l : List Int) (hd : a.eval d = .slice (some ⟨g, n, none⟩) m cd) (hown : Own B w (.slice (some ⟨g, 0, none⟩) n c) l) (hn : Hid (l.length = n)) (A : Option Addr) (c' : Nat) (X : List Int) (hx : a.eval x = .slice A m c') (hm : Hid (X.length = m)) (hr : Rd w A X)
    (hroom : n + m ≤ c)
    (h : ∀ w' v, Hid (Own B w' (.slice (some ⟨g, 0, none⟩) (n + m) c) (l ++ X)) → Hid (w.grownBy w' (some g)) → wpList Try.prog ops Q rest (a.put o.dst v) w') : wpList Try.prog ops Q (o :: rest) a w := by
  have hn' := hn.out
  have hm' := hm.out
  refine wpList_plain hgd fun K hK => ?_
  have hsz : (Try.prog.info? 5).map (·.size) = some 1 := by kernel_rfl
  rcases hown.2.2 with ⟨h0, _⟩ | ⟨g', cap', cur, e, hg, hh, hl, hmx, hcs, ht⟩
  · cases h0
  obtain ⟨rfl, e2, rfl⟩ : g = g' ∧ n = l.length ∧ c = cap' := by simpa using e
  have hmin : Nat.min m m = m := Nat.min_self m
  rcases Nat.eq_zero_or_pos m with h0 | hpos
  · have hX : X = [] := List.eq_nil_of_length_eq_zero (by omega)
    have hrun := run_copy_none_k w 22 22 o.type 5 1 (some ⟨g, n, none⟩) A m cd m c' Try.underlying22 hsz (by rw [hmin]; exact h0)
    unfold Oper.wp execOp
    simp only [ho, resolve, invoke, builtin, Sem.run_bind, Sem.run_pure, Result.andThen_ok, List.map_toArray, List.map_cons, List.map_nil, hd, hx, hrun]
    refine hK _ _ (h w _ ?_ (World.grownBy.refl _ _))
    show Own _ _ _ _
    rw [hX, h0, List.append_nil]
    exact hown
  · obtain ⟨b, ofs, hA, hc⟩ := hr.2 (by omega)
    subst hA
    have hvl : (vals X).length = m := by rw [vals_length]; exact hm'
    have hrun := run_copy_k w 22 22 o.type 5 1 g n m cd ⟨b, ofs, none⟩ m c' cur 5 (vals X) Try.underlying22 hsz hh (by rw [hvl, hmin, Nat.mul_one]) (fun j v hj => by
      obtain ⟨h1, rfl⟩ := vals_get? X j v hj
      rw [Addr.add_lit]
      exact hc j h1) (by rw [hvl, hcs]; omega) (vals_one X)
    unfold Oper.wp execOp
    simp only [ho, resolve, invoke, builtin, Sem.run_bind, Sem.run_pure, Result.andThen_ok, List.map_toArray, List.map_cons, List.map_nil, hd, hx, hrun]
    refine hK _ _ (h _ _ ?_ ⟨rfl, rfl, rfl, by simp [World.setRow], fun j hj hne => setRow_other w g j _ (by intro e; exact hne (by rw [e]))⟩)
    have hlen : (l ++ X).length = n + m := by rw [List.length_append, hn', hm']
    have hcl : cur.toList.length = c := by rw [Array.length_toList, hcs, Nat.mul_one]
    refine ⟨hown.1.append hr.1, by rw [vals_length]; omega, .inr ⟨g, c, _, by rw [hlen], hg, setRow_heap w g cur _ 5 _ hh, by rw [hlen]; exact hroom, hmx, ?_, ?_⟩⟩
    · simp only [List.size_toArray, List.length_append, List.length_take, List.length_drop, hvl, hcl]
      omega
    · rw [hlen, vals_append, Nat.mul_one]
      rw [Nat.mul_one, ← e2] at ht
      show List.take (n + m) (cur.toList.take n ++ vals X ++ cur.toList.drop (n + (vals X).length)) = _
      rw [ht, List.take_left' (by rw [List.length_append, vals_length, vals_length]; omega)]

set_option maxRecDepth 100000 in
set_option maxHeartbeats 4000000 in
theorem ap_cr (p s g c : Nat) (b : Int) (hb0 : 0 ≤ b) (hb1 : b ≤ 4611686018427387903) (m : Nat) (hm2 : m ≤ 1000) (w : World) (hW : Wq p s g c w 0 []) :
    Calls Try.prog 41 #[.pointer (some ⟨p, 0, none⟩), .int .i64 b, .int .i64 (m : Nat)] w fun e w' => ∃ n, XEnd p s g c w n m ([] ++ [6] ++ enc b ++ enc (m : Nat)) e w' := by
  have HW := Lib.hid hW
  obtain ⟨hc0, hc1⟩ := hW.cc
  clear hW
  obtain ⟨kb, hkb, hkb0, hkb1⟩ := eszk b
  have hh0 : 0 ≤ (m : Int) := by omega
  have hh1 : (m : Int) ≤ 4611686018427387903 := by omega
  obtain ⟨km, hkm, hkm0, hkm1⟩ := eszk (m : Nat)
  have q1 : decide ((9999 : Int) - (kb : Int) - (km : Int) ≤ 0) = false := by simp; omega
  have q3 : decide ((9999 : Int) - (kb : Int) - (km : Int) < (m : Int)) = false := by simp; omega
  go_enter Try.func41, Try.ntmps41
  go_wp2_with fail
  refine (avq w HW.out).mono ?_
  rintro e w1 ⟨rfl, H1⟩
  have HW1 := Lib.hid H1.out.1
  have HC1 : Hid (Ch p s g w w1) := by obtain ⟨z, hz⟩ := H1.out.2; show Ch _ _ _ _ _; rw [hz]; exact (Ch.refl _ _ _ _).drewN z
  clear H1
  go_wp2_with fail
  refine (svk b kb w1 hkb hb0 hb1).mono ?_
  rintro e w0 ⟨rfl, rfl⟩
  go_wp2_with fail
  refine (svk (m : Nat) km w1 hkm hh0 hh1).mono ?_
  rintro e w0 ⟨rfl, rfl⟩
  obtain ⟨⟨-, -, c4, -⟩, f4⟩ := HW1.out.cells
  have HA := Lib.hid (HW1.out.alloc (.cells #[.int .u8 6] 5 (0, 0)))
  have HR := Lib.hid (Rd.new w1 [6] (Bs.nil.cons (by omega)) 5)
  have HM : Hid (List.length [(6 : Int)] = 1) := rfl
  have HN : Hid (List.length ([] : List Int) = 0) := rfl
  have HL : Hid (List.length ([] ++ [(6 : Int)]) = 1) := rfl
  have HZ : Hid ((some ⟨w1.heap.size, 0, none⟩ : Option Addr) = none → 1 = 0) := fun h => by cases h
  go_wp2_with (at_builtin; refine wpList_appR (p + 1) _ rfl _ _ rfl g 0 c [] rfl HA.out.own HN (some ⟨w1.heap.size, 0, none⟩) 1 1 [6] rfl HM (by exact HR.out) HZ (by omega) ?_; intro w2 ho2 hg2; obtain ⟨y1, y2, HQ2⟩ := HA.out.app (n1 := 1) ho2.out hg2.out HL)
  have HC2 := Lib.hid ((HC1.out.trans (Ch.of_below ((Below.refl _ _).alloc (Nat.le_refl _) _))).trans HQ2.out.2)
  have HW2 := Lib.hid HQ2.out.1
  clear HA HR HM HN HZ HQ2 HC1 HW1 ho2 hg2 c4 f4
  obtain ⟨n3, hn3⟩ : ∃ N, Hid (1 + esz b = N) := ⟨_, Lib.hid rfl⟩
  have b3 : n3 ≤ 9 := by have := hn3.out; have := hkb.out; omega
  have HL3 : Hid (List.length ([] ++ [6] ++ enc b) = n3) := by show _ = _; rw [List.length_append, enc_length, HL.out]; exact hn3.out
  refine (avr (p + 1) g 1 c n3 ([] ++ [6]) b _ HW2.out.own HL hn3 (by omega) hc1 hb0 hb1).mono ?_
  rintro e w3 ⟨rfl, H3⟩
  clear y1 y2
  obtain ⟨y1, y2, HQ3⟩ := HW2.out.app H3.out.1 H3.out.2 HL3
  have HC3 := Lib.hid (HC2.out.trans HQ3.out.2)
  have HW3 := Lib.hid HQ3.out.1
  clear H3 HQ3 HC2 HW2 HL
  go_wp2_with fail
  obtain ⟨n4, hn4⟩ : ∃ N, Hid (n3 + esz (m : Nat) = N) := ⟨_, Lib.hid rfl⟩
  have b4 : n4 ≤ 17 := by have := hn4.out; have := hkm.out; omega
  have HL4 : Hid (List.length ([] ++ [6] ++ enc b ++ enc (m : Nat)) = n4) := by show _ = _; rw [List.length_append, enc_length, HL3.out]; exact hn4.out
  refine (avr (p + 1) g n3 c n4 ([] ++ [6] ++ enc b) (m : Nat) _ HW3.out.own HL3 hn4 (by omega) hc1 hh0 hh1).mono ?_
  rintro e w4 ⟨rfl, H4⟩
  clear y1 y2
  obtain ⟨y1, y2, HQ4⟩ := HW3.out.app H4.out.1 H4.out.2 HL4
  have HC4 := Lib.hid (HC3.out.trans HQ4.out.2)
  have HW4 := Lib.hid HQ4.out.1
  clear H4 HQ4 HC3 HW3 HL3
  obtain ⟨N, hN⟩ : ∃ N, Hid (n4 + m = N) := ⟨_, Lib.hid rfl⟩
  have hNi : (n4 : Int) + (m : Int) = (N : Int) := by have := hN.out; omega
  have bN : N ≤ 2000 := by have := hN.out; omega
  have bN2 : n4 ≤ N := by have := hN.out; omega
  obtain ⟨hX, hCX⟩ := HW4.out.longer N
  have HX := Lib.hid hX
  have HCX := Lib.hid (HC4.out.trans hCX)
  clear hX hCX
  obtain ⟨⟨-, -, x4, -⟩, xf⟩ := HW4.out.cells
  obtain ⟨-, x5, x6⟩ := HX.out.cells
  have hNm : (N : Int) - (n4 : Int) = (m : Int) := by omega
  have hcn : ¬ c = n4 := by omega
  go_wp2_with fail
  clear y1 y2 x4 xf x5 x6
  refine (snt_ack _ s 0 6 _ HX.out.ts (by omega) (by omega)).mono ?_
  rintro e w5 ⟨rfl, H5⟩
  obtain ⟨⟨-, d4, d5⟩, -⟩ := HX.out.fo H5.out.2
  have HF := Lib.hid H5.out.2
  have HT := Lib.hid H5.out.1
  clear H5
  go_wp2_with fail
  refine (snt_off _ s 1 b (m : Nat) _ HT.out (by omega) hb0 hb1 hh0 hh1).mono ?_
  rintro e w6 ⟨rfl, H6⟩
  have HF := Lib.hid (HF.out.trans H6.out.2)
  clear d4 d5
  obtain ⟨⟨-, d4, d5⟩, -⟩ := HX.out.fo HF.out
  clear H6
  go_wp2_with fail
  go_ret2
  exact ⟨n4, XEnd.mk' HW.out HX.out hN HL4 (by omega) HCX.out HF.out⟩

set_option maxRecDepth 100000 in
set_option maxHeartbeats 4000000 in
theorem ap_st10 (p s g c : Nat) (a : Int) (ha0 : 0 ≤ a) (ha1 : a ≤ 4611686018427387903) (m : Nat) (hm2 : m ≤ 1000) (w : World) (hW : Wq p s g c w 0 []) :
    Calls Try.prog 43 #[.pointer (some ⟨p, 0, none⟩), .int .u64 a, .int .i64 0, .int .i64 (m : Nat), .bool false] w fun e w' => ∃ n, XEnd p s g c w n m ([] ++ [10] ++ enc a ++ enc (m : Nat)) e w' := by
  have HW := Lib.hid hW
  obtain ⟨hc0, hc1⟩ := hW.cc
  clear hW
  obtain ⟨ka, hka, hka0, hka1⟩ := eszk a
  have hh0 : 0 ≤ (m : Int) := by omega
  have hh1 : (m : Int) ≤ 4611686018427387903 := by omega
  obtain ⟨km, hkm, hkm0, hkm1⟩ := eszk (m : Nat)
  have q1 : decide ((9999 : Int) - (ka : Int) - (km : Int) < 0) = false := by simp; omega
  have q2 : (((9999 : Int) - (ka : Int) - (km : Int)) == 0) = false := by simp; omega
  have o1 : bits .or .u8 10 4 = 14 := by decide
  have o2 : bits .or .u8 10 1 = 11 := by decide
  have o3 : bits .or .u8 14 1 = 15 := by decide
  have o4 : bits .and .u8 10 9 = 8 := by decide
  have q3 : decide ((9999 : Int) - (ka : Int) - (km : Int) < (m : Int)) = false := by simp; omega
  go_enter Try.func43, Try.ntmps43
  go_wp2_with fail
  refine (avq w HW.out).mono ?_
  rintro e w1 ⟨rfl, H1⟩
  have HW1 := Lib.hid H1.out.1
  have HC1 : Hid (Ch p s g w w1) := by obtain ⟨z, hz⟩ := H1.out.2; show Ch _ _ _ _ _; rw [hz]; exact (Ch.refl _ _ _ _).drewN z
  clear H1
  go_wp2_with fail
  refine (svk a ka w1 hka ha0 ha1).mono ?_
  rintro e w0 ⟨rfl, rfl⟩
  go_wp2_with fail
  refine (svk (m : Nat) km w1 hkm hh0 hh1).mono ?_
  rintro e w0 ⟨rfl, rfl⟩
  obtain ⟨⟨-, -, c4, -⟩, f4⟩ := HW1.out.cells
  have HA := Lib.hid (HW1.out.alloc (.cells #[.int .u8 10] 5 (0, 0)))
  have HR := Lib.hid (Rd.new w1 [10] (Bs.nil.cons (by omega)) 5)
  have HM : Hid (List.length [(10 : Int)] = 1) := rfl
  have HN : Hid (List.length ([] : List Int) = 0) := rfl
  have HL : Hid (List.length ([] ++ [(10 : Int)]) = 1) := rfl
  have HZ : Hid ((some ⟨w1.heap.size, 0, none⟩ : Option Addr) = none → 1 = 0) := fun h => by cases h
  go_wp2_with (at_builtin; refine wpList_appR (p + 1) _ rfl _ _ rfl g 0 c [] rfl HA.out.own HN (some ⟨w1.heap.size, 0, none⟩) 1 1 [10] rfl HM (by exact HR.out) HZ (by omega) ?_; intro w2 ho2 hg2; obtain ⟨y1, y2, HQ2⟩ := HA.out.app (n1 := 1) ho2.out hg2.out HL)
  have HC2 := Lib.hid ((HC1.out.trans (Ch.of_below ((Below.refl _ _).alloc (Nat.le_refl _) _))).trans HQ2.out.2)
  have HW2 := Lib.hid HQ2.out.1
  clear HA HR HM HN HZ HQ2 HC1 HW1 ho2 hg2 c4 f4
  obtain ⟨n3, hn3⟩ : ∃ N, Hid (1 + esz a = N) := ⟨_, Lib.hid rfl⟩
  have b3 : n3 ≤ 9 := by have := hn3.out; have := hka.out; omega
  have HL3 : Hid (List.length ([] ++ [10] ++ enc a) = n3) := by show _ = _; rw [List.length_append, enc_length, HL.out]; exact hn3.out
  refine (avr (p + 1) g 1 c n3 ([] ++ [10]) a _ HW2.out.own HL hn3 (by omega) hc1 ha0 ha1).mono ?_
  rintro e w3 ⟨rfl, H3⟩
  clear y1 y2
  obtain ⟨y1, y2, HQ3⟩ := HW2.out.app H3.out.1 H3.out.2 HL3
  have HC3 := Lib.hid (HC2.out.trans HQ3.out.2)
  have HW3 := Lib.hid HQ3.out.1
  clear H3 HQ3 HC2 HW2 HL
  go_wp2_with fail
  obtain ⟨n4, hn4⟩ : ∃ N, Hid (n3 + esz (m : Nat) = N) := ⟨_, Lib.hid rfl⟩
  have b4 : n4 ≤ 17 := by have := hn4.out; have := hkm.out; omega
  have HL4 : Hid (List.length ([] ++ [10] ++ enc a ++ enc (m : Nat)) = n4) := by show _ = _; rw [List.length_append, enc_length, HL3.out]; exact hn4.out
  refine (avr (p + 1) g n3 c n4 ([] ++ [10] ++ enc a) (m : Nat) _ HW3.out.own HL3 hn4 (by omega) hc1 hh0 hh1).mono ?_
  rintro e w4 ⟨rfl, H4⟩
  clear y1 y2
  obtain ⟨y1, y2, HQ4⟩ := HW3.out.app H4.out.1 H4.out.2 HL4
  have HC4 := Lib.hid (HC3.out.trans HQ4.out.2)
  have HW4 := Lib.hid HQ4.out.1
  clear H4 HQ4 HC3 HW3 HL3
  obtain ⟨N, hN⟩ : ∃ N, Hid (n4 + m = N) := ⟨_, Lib.hid rfl⟩
  have hNi : (n4 : Int) + (m : Int) = (N : Int) := by have := hN.out; omega
  have bN : N ≤ 2000 := by have := hN.out; omega
  have bN2 : n4 ≤ N := by have := hN.out; omega
  obtain ⟨hX, hCX⟩ := HW4.out.longer N
  have HX := Lib.hid hX
  have HCX := Lib.hid (HC4.out.trans hCX)
  clear hX hCX
  obtain ⟨⟨-, -, x4, -⟩, xf⟩ := HW4.out.cells
  obtain ⟨-, x5, x6⟩ := HX.out.cells
  have hNm : (N : Int) - (n4 : Int) = (m : Int) := by omega
  have hcn : ¬ c = n4 := by omega
  go_wp2_with fail
  clear y1 y2 x4 xf x5 x6
  refine (snt_ack _ s 0 8 _ HX.out.ts (by omega) (by omega)).mono ?_
  rintro e w5 ⟨rfl, H5⟩
  obtain ⟨⟨-, d4, d5⟩, -⟩ := HX.out.fo H5.out.2
  have HF := Lib.hid H5.out.2
  have HT := Lib.hid H5.out.1
  clear H5
  go_wp2_with fail
  refine (snt_int _ s 1 a _ HT.out (by omega) ha0 ha1).mono ?_
  rintro e w6 ⟨rfl, H6⟩
  have HF := Lib.hid (HF.out.trans H6.out.2)
  have HT := Lib.hid H6.out.1
  clear d4 d5
  obtain ⟨⟨-, d4, d5⟩, -⟩ := HX.out.fo HF.out
  clear H6
  go_wp2_with fail
  refine (snt_off _ s 9 0 (m : Nat) _ HT.out (by omega) (by omega) (by omega) hh0 hh1).mono ?_
  rintro e w7 ⟨rfl, H7⟩
  have HF := Lib.hid (HF.out.trans H7.out.2)
  clear d4 d5
  obtain ⟨⟨-, d4, d5⟩, -⟩ := HX.out.fo HF.out
  clear H7
  go_wp2_with fail
  go_ret2
  exact ⟨n4, XEnd.mk' HW.out HX.out hN HL4 (by omega) HCX.out HF.out⟩

set_option maxRecDepth 100000 in
set_option maxHeartbeats 4000000 in
theorem ap_st11 (p s g c : Nat) (a : Int) (ha0 : 0 ≤ a) (ha1 : a ≤ 4611686018427387903) (m : Nat) (hm2 : m ≤ 1000) (w : World) (hW : Wq p s g c w 0 []) :
    Calls Try.prog 43 #[.pointer (some ⟨p, 0, none⟩), .int .u64 a, .int .i64 0, .int .i64 (m : Nat), .bool true] w fun e w' => ∃ n, XEnd p s g c w n m ([] ++ [11] ++ enc a ++ enc (m : Nat)) e w' := by
  have HW := Lib.hid hW
  obtain ⟨hc0, hc1⟩ := hW.cc
  clear hW
  obtain ⟨ka, hka, hka0, hka1⟩ := eszk a
  have hh0 : 0 ≤ (m : Int) := by omega
  have hh1 : (m : Int) ≤ 4611686018427387903 := by omega
  obtain ⟨km, hkm, hkm0, hkm1⟩ := eszk (m : Nat)
  have q1 : decide ((9999 : Int) - (ka : Int) - (km : Int) < 0) = false := by simp; omega
  have q2 : (((9999 : Int) - (ka : Int) - (km : Int)) == 0) = false := by simp; omega
  have o1 : bits .or .u8 10 4 = 14 := by decide
  have o2 : bits .or .u8 10 1 = 11 := by decide
  have o3 : bits .or .u8 14 1 = 15 := by decide
  have o4 : bits .and .u8 11 9 = 9 := by decide
  have q3 : decide ((9999 : Int) - (ka : Int) - (km : Int) < (m : Int)) = false := by simp; omega
  go_enter Try.func43, Try.ntmps43
  go_wp2_with fail
  refine (avq w HW.out).mono ?_
  rintro e w1 ⟨rfl, H1⟩
  have HW1 := Lib.hid H1.out.1
  have HC1 : Hid (Ch p s g w w1) := by obtain ⟨z, hz⟩ := H1.out.2; show Ch _ _ _ _ _; rw [hz]; exact (Ch.refl _ _ _ _).drewN z
  clear H1
  go_wp2_with fail
  refine (svk a ka w1 hka ha0 ha1).mono ?_
  rintro e w0 ⟨rfl, rfl⟩
  go_wp2_with fail
  refine (svk (m : Nat) km w1 hkm hh0 hh1).mono ?_
  rintro e w0 ⟨rfl, rfl⟩
  obtain ⟨⟨-, -, c4, -⟩, f4⟩ := HW1.out.cells
  have HA := Lib.hid (HW1.out.alloc (.cells #[.int .u8 11] 5 (0, 0)))
  have HR := Lib.hid (Rd.new w1 [11] (Bs.nil.cons (by omega)) 5)
  have HM : Hid (List.length [(11 : Int)] = 1) := rfl
  have HN : Hid (List.length ([] : List Int) = 0) := rfl
  have HL : Hid (List.length ([] ++ [(11 : Int)]) = 1) := rfl
  have HZ : Hid ((some ⟨w1.heap.size, 0, none⟩ : Option Addr) = none → 1 = 0) := fun h => by cases h
  go_wp2_with (at_builtin; refine wpList_appR (p + 1) _ rfl _ _ rfl g 0 c [] rfl HA.out.own HN (some ⟨w1.heap.size, 0, none⟩) 1 1 [11] rfl HM (by exact HR.out) HZ (by omega) ?_; intro w2 ho2 hg2; obtain ⟨y1, y2, HQ2⟩ := HA.out.app (n1 := 1) ho2.out hg2.out HL)
  have HC2 := Lib.hid ((HC1.out.trans (Ch.of_below ((Below.refl _ _).alloc (Nat.le_refl _) _))).trans HQ2.out.2)
  have HW2 := Lib.hid HQ2.out.1
  clear HA HR HM HN HZ HQ2 HC1 HW1 ho2 hg2 c4 f4
  obtain ⟨n3, hn3⟩ : ∃ N, Hid (1 + esz a = N) := ⟨_, Lib.hid rfl⟩
  have b3 : n3 ≤ 9 := by have := hn3.out; have := hka.out; omega
  have HL3 : Hid (List.length ([] ++ [11] ++ enc a) = n3) := by show _ = _; rw [List.length_append, enc_length, HL.out]; exact hn3.out
  refine (avr (p + 1) g 1 c n3 ([] ++ [11]) a _ HW2.out.own HL hn3 (by omega) hc1 ha0 ha1).mono ?_
  rintro e w3 ⟨rfl, H3⟩
  clear y1 y2
  obtain ⟨y1, y2, HQ3⟩ := HW2.out.app H3.out.1 H3.out.2 HL3
  have HC3 := Lib.hid (HC2.out.trans HQ3.out.2)
  have HW3 := Lib.hid HQ3.out.1
  clear H3 HQ3 HC2 HW2 HL
  go_wp2_with fail
  obtain ⟨n4, hn4⟩ : ∃ N, Hid (n3 + esz (m : Nat) = N) := ⟨_, Lib.hid rfl⟩
  have b4 : n4 ≤ 17 := by have := hn4.out; have := hkm.out; omega
  have HL4 : Hid (List.length ([] ++ [11] ++ enc a ++ enc (m : Nat)) = n4) := by show _ = _; rw [List.length_append, enc_length, HL3.out]; exact hn4.out
  refine (avr (p + 1) g n3 c n4 ([] ++ [11] ++ enc a) (m : Nat) _ HW3.out.own HL3 hn4 (by omega) hc1 hh0 hh1).mono ?_
  rintro e w4 ⟨rfl, H4⟩
  clear y1 y2
  obtain ⟨y1, y2, HQ4⟩ := HW3.out.app H4.out.1 H4.out.2 HL4
  have HC4 := Lib.hid (HC3.out.trans HQ4.out.2)
  have HW4 := Lib.hid HQ4.out.1
  clear H4 HQ4 HC3 HW3 HL3
  obtain ⟨N, hN⟩ : ∃ N, Hid (n4 + m = N) := ⟨_, Lib.hid rfl⟩
  have hNi : (n4 : Int) + (m : Int) = (N : Int) := by have := hN.out; omega
  have bN : N ≤ 2000 := by have := hN.out; omega
  have bN2 : n4 ≤ N := by have := hN.out; omega
  obtain ⟨hX, hCX⟩ := HW4.out.longer N
  have HX := Lib.hid hX
  have HCX := Lib.hid (HC4.out.trans hCX)
  clear hX hCX
  obtain ⟨⟨-, -, x4, -⟩, xf⟩ := HW4.out.cells
  obtain ⟨-, x5, x6⟩ := HX.out.cells
  have hNm : (N : Int) - (n4 : Int) = (m : Int) := by omega
  have hcn : ¬ c = n4 := by omega
  go_wp2_with fail
  clear y1 y2 x4 xf x5 x6
  refine (snt_ack _ s 0 9 _ HX.out.ts (by omega) (by omega)).mono ?_
  rintro e w5 ⟨rfl, H5⟩
  obtain ⟨⟨-, d4, d5⟩, -⟩ := HX.out.fo H5.out.2
  have HF := Lib.hid H5.out.2
  have HT := Lib.hid H5.out.1
  clear H5
  go_wp2_with fail
  refine (snt_int _ s 1 a _ HT.out (by omega) ha0 ha1).mono ?_
  rintro e w6 ⟨rfl, H6⟩
  have HF := Lib.hid (HF.out.trans H6.out.2)
  have HT := Lib.hid H6.out.1
  clear d4 d5
  obtain ⟨⟨-, d4, d5⟩, -⟩ := HX.out.fo HF.out
  clear H6
  go_wp2_with fail
  refine (snt_off _ s 9 0 (m : Nat) _ HT.out (by omega) (by omega) (by omega) hh0 hh1).mono ?_
  rintro e w7 ⟨rfl, H7⟩
  have HF := Lib.hid (HF.out.trans H7.out.2)
  clear d4 d5
  obtain ⟨⟨-, d4, d5⟩, -⟩ := HX.out.fo HF.out
  clear H7
  go_wp2_with fail
  go_ret2
  exact ⟨n4, XEnd.mk' HW.out HX.out hN HL4 (by omega) HCX.out HF.out⟩

set_option maxRecDepth 100000 in
set_option maxHeartbeats 4000000 in
theorem ap_st14 (p s g c : Nat) (a b : Int) (ha0 : 0 ≤ a) (ha1 : a ≤ 4611686018427387903) (hb0 : 0 ≤ b) (hb1 : b ≤ 4611686018427387903) (m : Nat) (hm2 : m ≤ 1000) (hne : Hid (b ≠ 0)) (w : World) (hW : Wq p s g c w 0 []) :
    Calls Try.prog 43 #[.pointer (some ⟨p, 0, none⟩), .int .u64 a, .int .i64 b, .int .i64 (m : Nat), .bool false] w fun e w' => ∃ n, XEnd p s g c w n m ([] ++ [14] ++ enc a ++ enc b ++ enc (m : Nat)) e w' := by
  have HW := Lib.hid hW
  obtain ⟨hc0, hc1⟩ := hW.cc
  clear hW
  obtain ⟨ka, hka, hka0, hka1⟩ := eszk a
  obtain ⟨kb, hkb, hkb0, hkb1⟩ := eszk b
  have hh0 : 0 ≤ (m : Int) := by omega
  have hh1 : (m : Int) ≤ 4611686018427387903 := by omega
  obtain ⟨km, hkm, hkm0, hkm1⟩ := eszk (m : Nat)
  have q1 : decide ((9999 : Int) - (ka : Int) - (kb : Int) - (km : Int) < 0) = false := by simp; omega
  have q2 : (((9999 : Int) - (ka : Int) - (kb : Int) - (km : Int)) == 0) = false := by simp; omega
  have o1 : bits .or .u8 10 4 = 14 := by decide
  have o2 : bits .or .u8 10 1 = 11 := by decide
  have o3 : bits .or .u8 14 1 = 15 := by decide
  have o4 : bits .and .u8 14 9 = 8 := by decide
  have q4 : (b != 0) = true := by simpa using hne.out
  have q3 : decide ((9999 : Int) - (ka : Int) - (kb : Int) - (km : Int) < (m : Int)) = false := by simp; omega
  go_enter Try.func43, Try.ntmps43
  go_wp2_with fail
  refine (avq w HW.out).mono ?_
  rintro e w1 ⟨rfl, H1⟩
  have HW1 := Lib.hid H1.out.1
  have HC1 : Hid (Ch p s g w w1) := by obtain ⟨z, hz⟩ := H1.out.2; show Ch _ _ _ _ _; rw [hz]; exact (Ch.refl _ _ _ _).drewN z
  clear H1
  go_wp2_with fail
  refine (svk a ka w1 hka ha0 ha1).mono ?_
  rintro e w0 ⟨rfl, rfl⟩
  go_wp2_with fail
  refine (svk b kb w1 hkb hb0 hb1).mono ?_
  rintro e w0 ⟨rfl, rfl⟩
  go_wp2_with fail
  refine (svk (m : Nat) km w1 hkm hh0 hh1).mono ?_
  rintro e w0 ⟨rfl, rfl⟩
  obtain ⟨⟨-, -, c4, -⟩, f4⟩ := HW1.out.cells
  have HA := Lib.hid (HW1.out.alloc (.cells #[.int .u8 14] 5 (0, 0)))
  have HR := Lib.hid (Rd.new w1 [14] (Bs.nil.cons (by omega)) 5)
  have HM : Hid (List.length [(14 : Int)] = 1) := rfl
  have HN : Hid (List.length ([] : List Int) = 0) := rfl
  have HL : Hid (List.length ([] ++ [(14 : Int)]) = 1) := rfl
  have HZ : Hid ((some ⟨w1.heap.size, 0, none⟩ : Option Addr) = none → 1 = 0) := fun h => by cases h
  go_wp2_with (at_builtin; refine wpList_appR (p + 1) _ rfl _ _ rfl g 0 c [] rfl HA.out.own HN (some ⟨w1.heap.size, 0, none⟩) 1 1 [14] rfl HM (by exact HR.out) HZ (by omega) ?_; intro w2 ho2 hg2; obtain ⟨y1, y2, HQ2⟩ := HA.out.app (n1 := 1) ho2.out hg2.out HL)
  have HC2 := Lib.hid ((HC1.out.trans (Ch.of_below ((Below.refl _ _).alloc (Nat.le_refl _) _))).trans HQ2.out.2)
  have HW2 := Lib.hid HQ2.out.1
  clear HA HR HM HN HZ HQ2 HC1 HW1 ho2 hg2 c4 f4
  obtain ⟨n3, hn3⟩ : ∃ N, Hid (1 + esz a = N) := ⟨_, Lib.hid rfl⟩
  have b3 : n3 ≤ 9 := by have := hn3.out; have := hka.out; omega
  have HL3 : Hid (List.length ([] ++ [14] ++ enc a) = n3) := by show _ = _; rw [List.length_append, enc_length, HL.out]; exact hn3.out
  refine (avr (p + 1) g 1 c n3 ([] ++ [14]) a _ HW2.out.own HL hn3 (by omega) hc1 ha0 ha1).mono ?_
  rintro e w3 ⟨rfl, H3⟩
  clear y1 y2
  obtain ⟨y1, y2, HQ3⟩ := HW2.out.app H3.out.1 H3.out.2 HL3
  have HC3 := Lib.hid (HC2.out.trans HQ3.out.2)
  have HW3 := Lib.hid HQ3.out.1
  clear H3 HQ3 HC2 HW2 HL
  go_wp2_with fail
  obtain ⟨n4, hn4⟩ : ∃ N, Hid (n3 + esz b = N) := ⟨_, Lib.hid rfl⟩
  have b4 : n4 ≤ 17 := by have := hn4.out; have := hkb.out; omega
  have HL4 : Hid (List.length ([] ++ [14] ++ enc a ++ enc b) = n4) := by show _ = _; rw [List.length_append, enc_length, HL3.out]; exact hn4.out
  refine (avr (p + 1) g n3 c n4 ([] ++ [14] ++ enc a) b _ HW3.out.own HL3 hn4 (by omega) hc1 hb0 hb1).mono ?_
  rintro e w4 ⟨rfl, H4⟩
  clear y1 y2
  obtain ⟨y1, y2, HQ4⟩ := HW3.out.app H4.out.1 H4.out.2 HL4
  have HC4 := Lib.hid (HC3.out.trans HQ4.out.2)
  have HW4 := Lib.hid HQ4.out.1
  clear H4 HQ4 HC3 HW3 HL3
  go_wp2_with fail
  obtain ⟨n5, hn5⟩ : ∃ N, Hid (n4 + esz (m : Nat) = N) := ⟨_, Lib.hid rfl⟩
  have b5 : n5 ≤ 25 := by have := hn5.out; have := hkm.out; omega
  have HL5 : Hid (List.length ([] ++ [14] ++ enc a ++ enc b ++ enc (m : Nat)) = n5) := by show _ = _; rw [List.length_append, enc_length, HL4.out]; exact hn5.out
  refine (avr (p + 1) g n4 c n5 ([] ++ [14] ++ enc a ++ enc b) (m : Nat) _ HW4.out.own HL4 hn5 (by omega) hc1 hh0 hh1).mono ?_
  rintro e w5 ⟨rfl, H5⟩
  clear y1 y2
  obtain ⟨y1, y2, HQ5⟩ := HW4.out.app H5.out.1 H5.out.2 HL5
  have HC5 := Lib.hid (HC4.out.trans HQ5.out.2)
  have HW5 := Lib.hid HQ5.out.1
  clear H5 HQ5 HC4 HW4 HL4
  obtain ⟨N, hN⟩ : ∃ N, Hid (n5 + m = N) := ⟨_, Lib.hid rfl⟩
  have hNi : (n5 : Int) + (m : Int) = (N : Int) := by have := hN.out; omega
  have bN : N ≤ 2000 := by have := hN.out; omega
  have bN2 : n5 ≤ N := by have := hN.out; omega
  obtain ⟨hX, hCX⟩ := HW5.out.longer N
  have HX := Lib.hid hX
  have HCX := Lib.hid (HC5.out.trans hCX)
  clear hX hCX
  obtain ⟨⟨-, -, x4, -⟩, xf⟩ := HW5.out.cells
  obtain ⟨-, x5, x6⟩ := HX.out.cells
  have hNm : (N : Int) - (n5 : Int) = (m : Int) := by omega
  have hcn : ¬ c = n5 := by omega
  go_wp2_with fail
  clear y1 y2 x4 xf x5 x6
  refine (snt_ack _ s 0 8 _ HX.out.ts (by omega) (by omega)).mono ?_
  rintro e w6 ⟨rfl, H6⟩
  obtain ⟨⟨-, d4, d5⟩, -⟩ := HX.out.fo H6.out.2
  have HF := Lib.hid H6.out.2
  have HT := Lib.hid H6.out.1
  clear H6
  go_wp2_with fail
  refine (snt_int _ s 1 a _ HT.out (by omega) ha0 ha1).mono ?_
  rintro e w7 ⟨rfl, H7⟩
  have HF := Lib.hid (HF.out.trans H7.out.2)
  have HT := Lib.hid H7.out.1
  clear d4 d5
  obtain ⟨⟨-, d4, d5⟩, -⟩ := HX.out.fo HF.out
  clear H7
  go_wp2_with fail
  refine (snt_off _ s 9 b (m : Nat) _ HT.out (by omega) hb0 hb1 hh0 hh1).mono ?_
  rintro e w8 ⟨rfl, H8⟩
  have HF := Lib.hid (HF.out.trans H8.out.2)
  clear d4 d5
  obtain ⟨⟨-, d4, d5⟩, -⟩ := HX.out.fo HF.out
  clear H8
  go_wp2_with fail
  go_ret2
  exact ⟨n5, XEnd.mk' HW.out HX.out hN HL5 (by omega) HCX.out HF.out⟩

set_option maxRecDepth 100000 in
set_option maxHeartbeats 4000000 in
theorem ap_st15 (p s g c : Nat) (a b : Int) (ha0 : 0 ≤ a) (ha1 : a ≤ 4611686018427387903) (hb0 : 0 ≤ b) (hb1 : b ≤ 4611686018427387903) (m : Nat) (hm2 : m ≤ 1000) (hne : Hid (b ≠ 0)) (w : World) (hW : Wq p s g c w 0 []) :
    Calls Try.prog 43 #[.pointer (some ⟨p, 0, none⟩), .int .u64 a, .int .i64 b, .int .i64 (m : Nat), .bool true] w fun e w' => ∃ n, XEnd p s g c w n m ([] ++ [15] ++ enc a ++ enc b ++ enc (m : Nat)) e w' := by
  have HW := Lib.hid hW
  obtain ⟨hc0, hc1⟩ := hW.cc
  clear hW
  obtain ⟨ka, hka, hka0, hka1⟩ := eszk a
  obtain ⟨kb, hkb, hkb0, hkb1⟩ := eszk b
  have hh0 : 0 ≤ (m : Int) := by omega
  have hh1 : (m : Int) ≤ 4611686018427387903 := by omega
  obtain ⟨km, hkm, hkm0, hkm1⟩ := eszk (m : Nat)
  have q1 : decide ((9999 : Int) - (ka : Int) - (kb : Int) - (km : Int) < 0) = false := by simp; omega
  have q2 : (((9999 : Int) - (ka : Int) - (kb : Int) - (km : Int)) == 0) = false := by simp; omega
  have o1 : bits .or .u8 10 4 = 14 := by decide
  have o2 : bits .or .u8 10 1 = 11 := by decide
  have o3 : bits .or .u8 14 1 = 15 := by decide
  have o4 : bits .and .u8 15 9 = 9 := by decide
  have q4 : (b != 0) = true := by simpa using hne.out
  have q3 : decide ((9999 : Int) - (ka : Int) - (kb : Int) - (km : Int) < (m : Int)) = false := by simp; omega
  go_enter Try.func43, Try.ntmps43
  go_wp2_with fail
  refine (avq w HW.out).mono ?_
  rintro e w1 ⟨rfl, H1⟩
  have HW1 := Lib.hid H1.out.1
  have HC1 : Hid (Ch p s g w w1) := by obtain ⟨z, hz⟩ := H1.out.2; show Ch _ _ _ _ _; rw [hz]; exact (Ch.refl _ _ _ _).drewN z
  clear H1
  go_wp2_with fail
  refine (svk a ka w1 hka ha0 ha1).mono ?_
  rintro e w0 ⟨rfl, rfl⟩
  go_wp2_with fail
  refine (svk b kb w1 hkb hb0 hb1).mono ?_
  rintro e w0 ⟨rfl, rfl⟩
  go_wp2_with fail
  refine (svk (m : Nat) km w1 hkm hh0 hh1).mono ?_
  rintro e w0 ⟨rfl, rfl⟩
  obtain ⟨⟨-, -, c4, -⟩, f4⟩ := HW1.out.cells
  have HA := Lib.hid (HW1.out.alloc (.cells #[.int .u8 15] 5 (0, 0)))
  have HR := Lib.hid (Rd.new w1 [15] (Bs.nil.cons (by omega)) 5)
  have HM : Hid (List.length [(15 : Int)] = 1) := rfl
  have HN : Hid (List.length ([] : List Int) = 0) := rfl
  have HL : Hid (List.length ([] ++ [(15 : Int)]) = 1) := rfl
  have HZ : Hid ((some ⟨w1.heap.size, 0, none⟩ : Option Addr) = none → 1 = 0) := fun h => by cases h
  go_wp2_with (at_builtin; refine wpList_appR (p + 1) _ rfl _ _ rfl g 0 c [] rfl HA.out.own HN (some ⟨w1.heap.size, 0, none⟩) 1 1 [15] rfl HM (by exact HR.out) HZ (by omega) ?_; intro w2 ho2 hg2; obtain ⟨y1, y2, HQ2⟩ := HA.out.app (n1 := 1) ho2.out hg2.out HL)
  have HC2 := Lib.hid ((HC1.out.trans (Ch.of_below ((Below.refl _ _).alloc (Nat.le_refl _) _))).trans HQ2.out.2)
  have HW2 := Lib.hid HQ2.out.1
  clear HA HR HM HN HZ HQ2 HC1 HW1 ho2 hg2 c4 f4
  obtain ⟨n3, hn3⟩ : ∃ N, Hid (1 + esz a = N) := ⟨_, Lib.hid rfl⟩
  have b3 : n3 ≤ 9 := by have := hn3.out; have := hka.out; omega
  have HL3 : Hid (List.length ([] ++ [15] ++ enc a) = n3) := by show _ = _; rw [List.length_append, enc_length, HL.out]; exact hn3.out
  refine (avr (p + 1) g 1 c n3 ([] ++ [15]) a _ HW2.out.own HL hn3 (by omega) hc1 ha0 ha1).mono ?_
  rintro e w3 ⟨rfl, H3⟩
  clear y1 y2
  obtain ⟨y1, y2, HQ3⟩ := HW2.out.app H3.out.1 H3.out.2 HL3
  have HC3 := Lib.hid (HC2.out.trans HQ3.out.2)
  have HW3 := Lib.hid HQ3.out.1
  clear H3 HQ3 HC2 HW2 HL
  go_wp2_with fail
  obtain ⟨n4, hn4⟩ : ∃ N, Hid (n3 + esz b = N) := ⟨_, Lib.hid rfl⟩
  have b4 : n4 ≤ 17 := by have := hn4.out; have := hkb.out; omega
  have HL4 : Hid (List.length ([] ++ [15] ++ enc a ++ enc b) = n4) := by show _ = _; rw [List.length_append, enc_length, HL3.out]; exact hn4.out
  refine (avr (p + 1) g n3 c n4 ([] ++ [15] ++ enc a) b _ HW3.out.own HL3 hn4 (by omega) hc1 hb0 hb1).mono ?_
  rintro e w4 ⟨rfl, H4⟩
  clear y1 y2
  obtain ⟨y1, y2, HQ4⟩ := HW3.out.app H4.out.1 H4.out.2 HL4
  have HC4 := Lib.hid (HC3.out.trans HQ4.out.2)
  have HW4 := Lib.hid HQ4.out.1
  clear H4 HQ4 HC3 HW3 HL3
  go_wp2_with fail
  obtain ⟨n5, hn5⟩ : ∃ N, Hid (n4 + esz (m : Nat) = N) := ⟨_, Lib.hid rfl⟩
  have b5 : n5 ≤ 25 := by have := hn5.out; have := hkm.out; omega
  have HL5 : Hid (List.length ([] ++ [15] ++ enc a ++ enc b ++ enc (m : Nat)) = n5) := by show _ = _; rw [List.length_append, enc_length, HL4.out]; exact hn5.out
  refine (avr (p + 1) g n4 c n5 ([] ++ [15] ++ enc a ++ enc b) (m : Nat) _ HW4.out.own HL4 hn5 (by omega) hc1 hh0 hh1).mono ?_
  rintro e w5 ⟨rfl, H5⟩
  clear y1 y2
  obtain ⟨y1, y2, HQ5⟩ := HW4.out.app H5.out.1 H5.out.2 HL5
  have HC5 := Lib.hid (HC4.out.trans HQ5.out.2)
  have HW5 := Lib.hid HQ5.out.1
  clear H5 HQ5 HC4 HW4 HL4
  obtain ⟨N, hN⟩ : ∃ N, Hid (n5 + m = N) := ⟨_, Lib.hid rfl⟩
  have hNi : (n5 : Int) + (m : Int) = (N : Int) := by have := hN.out; omega
  have bN : N ≤ 2000 := by have := hN.out; omega
  have bN2 : n5 ≤ N := by have := hN.out; omega
  obtain ⟨hX, hCX⟩ := HW5.out.longer N
  have HX := Lib.hid hX
  have HCX := Lib.hid (HC5.out.trans hCX)
  clear hX hCX
  obtain ⟨⟨-, -, x4, -⟩, xf⟩ := HW5.out.cells
  obtain ⟨-, x5, x6⟩ := HX.out.cells
  have hNm : (N : Int) - (n5 : Int) = (m : Int) := by omega
  have hcn : ¬ c = n5 := by omega
  go_wp2_with fail
  clear y1 y2 x4 xf x5 x6
  refine (snt_ack _ s 0 9 _ HX.out.ts (by omega) (by omega)).mono ?_
  rintro e w6 ⟨rfl, H6⟩
  obtain ⟨⟨-, d4, d5⟩, -⟩ := HX.out.fo H6.out.2
  have HF := Lib.hid H6.out.2
  have HT := Lib.hid H6.out.1
  clear H6
  go_wp2_with fail
  refine (snt_int _ s 1 a _ HT.out (by omega) ha0 ha1).mono ?_
  rintro e w7 ⟨rfl, H7⟩
  have HF := Lib.hid (HF.out.trans H7.out.2)
  have HT := Lib.hid H7.out.1
  clear d4 d5
  obtain ⟨⟨-, d4, d5⟩, -⟩ := HX.out.fo HF.out
  clear H7
  go_wp2_with fail
  refine (snt_off _ s 9 b (m : Nat) _ HT.out (by omega) hb0 hb1 hh0 hh1).mono ?_
  rintro e w8 ⟨rfl, H8⟩
  have HF := Lib.hid (HF.out.trans H8.out.2)
  clear d4 d5
  obtain ⟨⟨-, d4, d5⟩, -⟩ := HX.out.fo HF.out
  clear H8
  go_wp2_with fail
  go_ret2
  exact ⟨n5, XEnd.mk' HW.out HX.out hN HL5 (by omega) HCX.out HF.out⟩
end

end Go.Proofs.Ytggcnepdeaijoaa

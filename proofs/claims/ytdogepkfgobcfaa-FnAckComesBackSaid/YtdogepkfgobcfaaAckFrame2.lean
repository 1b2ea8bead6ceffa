/- The walk of appendAckFrame, no counts of ECN. Conditions: the writer was made by the call itself; the ranges are the statement's. -/
import Derived.Test.YtdogepkfgobcfaaAckFacts
import Derived.Deep.RegionHeld3
import Derived.Deep.RegionLaw
namespace Go.Proofs.Ytdogepkfgobcfaa
open Go.RowKit
set_option linter.unusedVariables false

set_option maxRecDepth 100000 in
set_option maxHeartbeats 8000000 in
theorem apk2 (p s B g n c : Nat) (S0 : Value) (lim d : Int) (L : Rgs) (w : World) (hW : Wr w S0 B p s lim w S0 []) (hr : RdE ER w (some ⟨g, 0, none⟩) L) (hn : Hid (L.length = n)) (h1 : 1 ≤ n) (h64 : n ≤ 64) (hg : Hid (g ≠ p ∧ g ≠ s ∧ S0.ownBlock ≠ some g ∧ g < w.heap.size)) (hL : Hid (AscI (-1) L)) (hd0 : 0 ≤ d) (hd1 : d ≤ 4611686018427387903) (hl0 : 0 ≤ lim) (hl1 : lim ≤ 10000) :
    Calls Try.prog 91 #[.pointer (some ⟨p, 0, none⟩), .slice (some ⟨g, 0, none⟩) n c, .int .i64 d, .agg #[.int .i64 0, .int .i64 0, .int .i64 0]] w fun e w' => ApEnd w S0 B p s lim L d 0 0 0 e w' := by
  obtain ⟨W0, hW0⟩ : ∃ W0, Hid (w.alloc (.cells #[.int .i64 0, .int .i64 0, .int .i64 0] 115 (0, 0)) = W0) := ⟨_, Lib.hid rfl⟩
  have HF : Hid (AF W0 S0 p s w.heap.size g L 0 0 0) := by
    have hp := cell_in hW.pc.choose_spec
    have hs := cell_in hW.sc
    obtain ⟨g1, g2, g3, g4⟩ := hg.out
    show AF _ _ _ _ _ _ _ _ _ _
    rw [← hW0.out]
    exact ⟨heap_alloc_new w _, ⟨by omega, by omega, fun e => by have := (hW.own.lt _ e).2; omega⟩, RdE.below hr ((Below.refl _ _).alloc (Nat.le_refl _) _), ⟨g1, g2, g3, by simp; omega⟩⟩
  have HW : Hid (Wr W0 S0 B p s lim W0 S0 []) := by show Wr _ _ _ _ _ _ _ _ _; rw [← hW0.out]; exact (hW.alloc _).fresh
  have HB0 : Hid (Below s w W0) := by show Below _ _ _; rw [← hW0.out]; exact (Below.refl _ _).alloc (Nat.le_of_lt (cell_in hW.sc)) _
  obtain ⟨tf0, tf1, tf2, tf3⟩ := top_facts (by rw [hn.out]; exact h1) hL.out
  have HD := Lib.hid tf3
  obtain ⟨x0, hx0⟩ : ∃ x, Hid ((topR L).1 = x) := ⟨_, Lib.hid rfl⟩
  obtain ⟨x1, hx1⟩ : ∃ x, Hid ((topR L).2 = x) := ⟨_, Lib.hid rfl⟩
  rw [hx0.out] at tf0 tf1 HD
  rw [hx1.out] at tf1 tf2
  obtain ⟨M, hM⟩ : ∃ x, Hid (x1 - 1 = x) := ⟨_, Lib.hid rfl⟩
  obtain ⟨z, hz⟩ : ∃ x, Hid (x1 - x0 = x) := ⟨_, Lib.hid rfl⟩
  have hM0 : 0 ≤ M ∧ M ≤ 4611686018427387903 := by have := hM.out; omega
  have hz0 : 1 ≤ z ∧ z ≤ 4611686018427387903 := by have := hz.out; omega
  obtain ⟨kM, hkM, hkM0, hkM1⟩ := eszk M
  obtain ⟨kd, hkd, hkd0, hkd1⟩ := eszk d
  obtain ⟨kz, hkz, hkz0, hkz1⟩ := eszk (z - 1)
  have hat : Hid (∀ (i : Nat) (w' : World) (S : Value) (l : List Int), Wr W0 S0 B p s lim w' S l → i < n → w'.cell? ⟨g, i * 2, none⟩ = some (.int .i64 (L.getD i (0, 0)).1) ∧ w'.cell? ⟨g, i * 2 + 1, none⟩ = some (.int .i64 (L.getD i (0, 0)).2)) := by
    intro i w' S l hw hi
    exact HF.out.at_ hw i (by rw [hn.out]; exact hi)
  have htop : Hid (∀ (w' : World) (S : Value) (l : List Int), Wr W0 S0 B p s lim w' S l → w'.cell? ⟨g, (n - 1) * 2, none⟩ = some (.int .i64 x0) ∧ w'.cell? ⟨g, (n - 1) * 2 + 1, none⟩ = some (.int .i64 x1)) := by
    intro w' S l hw
    have := hat.out (n - 1) w' S l hw (by omega)
    rw [← hn.out] at this ⊢
    rw [← hx0.out, ← hx1.out]
    exact this
  obtain ⟨d0, d1⟩ := htop.out _ _ _ HW.out
  have y0 : ((n : Int) == 0) = false := by simp; omega
  have e1 : (n : Int) - 1 = ((n - 1 : Nat) : Int) := by omega
  have e2' : n - 1 < n := by omega
  clear hW hr hg tf3
  have hneq := run_neq_ecn0
  go_enter Try.func91, Try.ntmps91
  go_wp2_with fail
  rw [hW0.out]
  refine (amax g n c x1 M W0 h1 (by omega) d1 hM hM0.1 hM0.2).mono ?_
  rintro e w1 ⟨rfl, rfl⟩
  go_wp2_with fail
  refine (rgsz' x0 x1 z W0 tf0 tf1 tf2 hz).mono ?_
  rintro e w2 ⟨rfl, H2⟩
  have HW2 : Hid (Wr W0 S0 B p s lim w2 S0 []) := by obtain ⟨ob, zz, rfl⟩ := H2.out; exact (HW.out.alloc ob).drewN zz
  clear d0 d1 H2
  obtain ⟨q0, q1, q2⟩ := HF.out.ecn HW2.out
  go_wp2_with fail
  clear q0 q1 q2 hneq
  refine (availV S0 [] w2 HW2.out 0 lim rfl (by omega) hl0 hl1 (by show _ = _; simp)).mono ?_
  rintro e w3 ⟨rfl, HW3⟩
  clear HW2
  go_wp2_with fail
  refine (svk M kM w3 hkM hM0.1 hM0.2).mono ?_
  rintro e w4 ⟨rfl, rfl⟩
  go_wp2_with fail
  refine (svk d kd w3 hkd hd0 hd1).mono ?_
  rintro e w4 ⟨rfl, rfl⟩
  go_wp2_with fail
  refine (svk (z - 1) kz w3 hkz (by omega) (by omega)).mono ?_
  rintro e w4 ⟨rfl, rfl⟩
  by_cases hfit : lim < 1 + (kM : Int) + kd + 1 + kz
  · go_wp2_with fail
    go_ret
    exact .inl ⟨by omega, rfl, (HW3.out.done (Fo.refl _ _ _)).back HB0.out⟩
  have hlen1 : Hid (List.length ([] ++ [(2 : Int)]) = 1) := rfl
  obtain ⟨⟨-, -, c4, -⟩, f4⟩ := HW3.out.cells
  have HA := Lib.hid (HW3.out.alloc (.cells #[.int .u8 2] 5 (0, 0)))
  have HR := Lib.hid (Rd.new w3 [2] (Bs.nil.cons (by omega)) 5)
  go_wp2_with (at_builtin; refine wpList_app B _ rfl (.tmp 70) (.tmp 72) rfl _ [] rfl HA.out.own (some ⟨w3.heap.size, 0, none⟩) 1 1 [2] rfl rfl (by exact HR.out) (by simp) (by simp) HA.out.le ?_; intro v1 w5 ho1 hg1 ha1 hb1 hn1; obtain ⟨g5, c5, rfl, z1, z2, HW5⟩ := HA.out.app (n1 := 1) ho1 hg1 (ha1.imp id fun h => ⟨_, h, Nat.le_refl _⟩) hlen1 (by omega); clear ho1 hg1 ha1 hb1 hn1)
  clear HA HR HW3 hlen1 c4 f4
  have hln5 : Hid (List.length ([] ++ [(2 : Int)]) = 1) := rfl
  refine (av B _ ([] ++ [(2 : Int)]) (M) _ HW5.out.own HW5.out.le (by have := hln5.out; omega) hM0.1 hM0.2).mono ?_
  rintro e w6 hE
  obtain ⟨N6, hN6⟩ : ∃ N, Hid (1 + kM = N) := ⟨_, Lib.hid rfl⟩
  have bN6 : 1 < N6 ∧ N6 ≤ 9 := by have := hN6.out; omega
  have hln6 : Hid (List.length ([] ++ [(2 : Int)] ++ enc (M)) = N6) := by show _ = _; rw [List.length_append, hln5.out, enc_length, hkM.out]; exact hN6.out
  obtain ⟨g6, c6, rfl, y1, y2, HW6⟩ := HW5.out.appE hE hln6 (by omega)
  clear hE z1 z2 HW5 hln5
  have z1 := y1
  have z2 := y2
  clear y1 y2
  go_wp2_with fail
  refine (av B _ ([] ++ [(2 : Int)] ++ enc (M)) (d) _ HW6.out.own HW6.out.le (by have := hln6.out; omega) hd0 hd1).mono ?_
  rintro e w7 hE
  obtain ⟨N7, hN7⟩ : ∃ N, Hid (N6 + kd = N) := ⟨_, Lib.hid rfl⟩
  have bN7 : N6 < N7 ∧ N7 ≤ 17 := by have := hN7.out; omega
  have hln7 : Hid (List.length ([] ++ [(2 : Int)] ++ enc (M) ++ enc (d)) = N7) := by show _ = _; rw [List.length_append, hln6.out, enc_length, hkd.out]; exact hN7.out
  obtain ⟨g7, c7, rfl, y1, y2, HW7⟩ := HW6.out.appE hE hln7 (by omega)
  clear hE z1 z2 HW6 hln6
  have z1 := y1
  have z2 := y2
  clear y1 y2
  have HA := Lib.hid (HW7.out.alloc (.cells #[.int .u8 0] 5 (0, 0)))
  have HR := Lib.hid (Rd.new (w7.setCell ⟨p, 4, none⟩ (.slice (some ⟨g7, 0, none⟩) N7 c7)) [0] (Bs.nil.cons (by omega)) 5)
  rw [size_cell] at HR
  have hln8 : Hid (List.length ([] ++ [(2 : Int)] ++ enc (M) ++ enc (d) ++ [0]) = N7 + 1) := by show _ = _; rw [List.length_append, hln7.out]; rfl
  go_wp2_with (at_builtin; refine wpList_app B _ rfl (.tmp 104) (.tmp 105) rfl _ _ rfl HA.out.own (some ⟨w7.heap.size, 0, none⟩) 1 1 [0] rfl rfl (by exact HR.out) (by simp) (by have := hln7.out; omega) HA.out.le ?_; intro v1 w8 ho1 hg1 ha1 hb1 hn1; obtain ⟨g8, c8, rfl, y1, y2, HW8⟩ := HA.out.app (n1 := N7 + 1) ho1 hg1 (ha1.imp id fun h => ⟨_, h, Nat.le_refl _⟩) hln8 (by omega); clear ho1 hg1 ha1 hb1 hn1 z1 z2; have z1 := y1; have z2 := y2; clear y1 y2)
  clear HA HR HW7 hln7
  refine (av B _ ([] ++ [(2 : Int)] ++ enc (M) ++ enc (d) ++ [0]) (z - 1) _ HW8.out.own HW8.out.le (by have := hln8.out; omega) (by omega) (by omega)).mono ?_
  rintro e w9 hE
  obtain ⟨N9, hN9⟩ : ∃ N, Hid (N7 + 1 + kz = N) := ⟨_, Lib.hid rfl⟩
  have bN9 : N7 + 1 < N9 ∧ N9 ≤ 26 := by have := hN9.out; omega
  have hln9 : Hid (List.length ([] ++ [(2 : Int)] ++ enc (M) ++ enc (d) ++ [0] ++ enc (z - 1)) = N9) := by show _ = _; rw [List.length_append, hln8.out, enc_length, hkz.out]; exact hN9.out
  obtain ⟨g9, c9, rfl, y1, y2, HW9⟩ := HW8.out.appE hE hln9 (by omega)
  clear hE z1 z2 HW8 hln8
  have z1 := y1
  have z2 := y2
  clear y1 y2
  go_wp2_with fail
  have hH : Hid ([] ++ [(2 : Int)] ++ enc (M) ++ enc (d) ++ [0] ++ enc (z - 1) = ackH L 2 d 0) := by
    show _ = _
    unfold ackH
    rw [hx1.out, hx0.out, hM.out, hz.out]
    simp [gapsW]
  rw [hH.out] at HW9 hln9
  have hT7 : Hid (1 + esz ((topR L).2 - 1) + esz d = N7) := by show _ = _; rw [hx1.out, hM.out, hkM.out, hkd.out, hN6.out, hN7.out]
  have hfit' : (N9 : Int) + 0 ≤ lim := by have := hN6.out; have := hN7.out; have := hN9.out; omega
  clear hH hz hkM hkd hkz hN9 hx0 hx1
  go_loopw [14, 15] (fun cnt i wr => ∃ (k m gx cx : Nat) (I : Int), k + 1 ≤ n ∧ cnt = .int .u8 k ∧ i = .int .i64 I ∧ I = (n : Int) - 2 - k ∧ (m : Int) + 0 ≤ lim ∧ m ≤ 26 + 16 * k ∧ N7 < m ∧ Hid ((ackH L 2 d k).length = m) ∧ Hid (Wr W0 S0 B p s lim wr (.slice (some ⟨gx, 0, none⟩) m cx) (ackH L 2 d k))) (fun _ i _ => (intOf i + 1).toNat)
  case atStart => exact ⟨0, N9, g9, c9, (n : Int) - 2, h1, rfl, by go_num, by omega, hfit', by omega, by omega, hln9, HW9⟩
  case round =>
    clear HW9 hln9 z1 z2
    obtain ⟨k, m, gx, cx, I, hk, rfl, rfl, hI, hfm, hmk, hNm, hlm, HX⟩ := hrel
    by_cases hkn : k + 1 = n
    · have hI1 : I = -1 := by omega
      subst hI1
      obtain ⟨⟨-, -, c4, c5⟩, f4⟩ := HX.out.cells
      have HS := Lib.hid (HX.out.set N7 k (by rw [hlm.out]; omega) (by omega))
      have cN : wr.cell? ⟨gx, N7, none⟩ = some (.int .u8 _) := HX.out.own.cell N7 (by rw [hlm.out]; omega)
      have fN := HX.out.own.free N7
      have iN : (N7 : Int) < (m : Int) := by omega
      have hgp : gx ≠ p := fun e => HX.out.off.1 (by rw [← e]; rfl)
      have hpg : p ≠ gx := fun e => hgp e.symm
      have kN := ackH_set L 2 d k N7 hT7.out (by rw [hn.out]; omega) 0 0 0 (by simp [ecnT])
      simp only [ecnW, and_self, if_true, List.append_nil] at kN
      have KN := Lib.hid kN
      clear kN
      go_wp2_with fail
      refine (snt_typ _ s 0 2 _ HS.out.ts (by omega) (by omega)).mono ?_
      rintro e wa ⟨rfl, HT⟩
      have HDn := Lib.hid (HS.out.done HT.out.2)
      have c5' := HDn.out.c5
      have hgs := HF.out.gn
      have cx := (World.cell?_of_block (a := ⟨g, (n - 1) * 2 + 1, none⟩) (HT.out.2.blk g (Nat.lt_of_lt_of_le hgs.2.2.2 HS.out.size) hgs.2.1)).trans (htop.out _ _ _ HS.out).2
      have HG := Lib.hid hgs
      have HT1 := Lib.hid (HT.out.1.drewN 1)
      clear c4 c5 f4 cN fN hgs
      go_wp2_with fail
      have hMw := IntWalk.u64_in M (by omega)
      have hMm : M % 18446744073709551616 = M := by omega
      go_region_held3 (fun w' => w'.cell? ⟨p, 5, none⟩ = some (.pointer (some ⟨s, 0, none⟩)) ∧ w'.cell? ⟨g, (n - 1) * 2 + 1, none⟩ = some (.int .i64 x1)) (first | (exact ⟨c5', cx⟩) | (exact ⟨(HS.out.done ((HT.out.2.drewN 1).trans HT2.out.2)).c5, (World.cell?_of_block (a := ⟨g, (n - 1) * 2 + 1, none⟩) (HT2.out.2.blk g (Nat.lt_of_lt_of_le HG.out.2.2.2 HS.out.size) HG.out.2.1)).trans cx⟩)) ((first | (go_at_call 85; refine (amax g n c x1 M _ h1 (by omega) (by exact cx) hM hM0.1 hM0.2).mono ?_; rintro e wx ⟨rfl, rfl⟩) | (go_at_call 111; refine (snt_int _ s 1 M _ (by exact HT1.out) (by omega) hM0.1 hM0.2).mono ?_; rintro e wb ⟨rfl, HT2⟩)))
      clear c5' cx hMw hMm
      go_wp2_with fail
      go_ret
      refine .inr ⟨k, _, by rw [hn.out]; omega, rfl, ((KN.out ▸ HS.out.done ((HT.out.2.drewN 1).trans HT2.out.2)).back HB0.out), ?_, fun hl => by rw [hn.out]; omega⟩
      rw [← KN.out]
      rw [List.length_set, hlm.out]
      omega
    obtain ⟨j, hj⟩ : ∃ j : Nat, j + k + 2 = n := ⟨n - 2 - k, by omega⟩
    obtain rfl : I = (j : Int) := by omega
    obtain ⟨J, hJ⟩ : ∃ J : Nat, J = j + 1 := ⟨_, rfl⟩
    have hJi : (j : Int) + 1 = (J : Int) := by omega
    obtain ⟨a0, a1⟩ := hat.out j _ _ _ HX.out (by omega)
    obtain ⟨b0, -⟩ := hat.out J _ _ _ HX.out (by omega)
    have hsucc := Lib.hid (ackH_succ L 2 d k (by rw [hn.out]; omega))
    have hb1 := AscI.at_ hL.out j (by rw [hn.out]; omega)
    have hb2 := AscI.bd (by omega) hL.out j (by rw [hn.out]; omega)
    have hb3 := AscI.bd (by omega) hL.out J (by rw [hn.out]; omega)
    rw [hn.out, show n - 1 - k = J by omega, show n - 2 - k = j by omega] at hsucc
    rw [← hJ] at hb1
    obtain ⟨s0, hs0⟩ : ∃ x, Hid ((L.getD j (0, 0)).1 = x) := ⟨_, Lib.hid rfl⟩
    obtain ⟨s1, hs1⟩ : ∃ x, Hid ((L.getD j (0, 0)).2 = x) := ⟨_, Lib.hid rfl⟩
    obtain ⟨r0, hr0⟩ : ∃ x, Hid ((L.getD J (0, 0)).1 = x) := ⟨_, Lib.hid rfl⟩
    rw [hs0.out, hs1.out, hr0.out] at hsucc
    rw [hs0.out, hs1.out] at hb2
    rw [hr0.out] at hb3
    rw [hs1.out, hr0.out] at hb1
    rw [hs0.out] at a0
    rw [hs1.out] at a1
    rw [hr0.out] at b0
    obtain ⟨hb2a, hb2b, hb2c⟩ := hb2
    have hb3a : r0 ≤ 4611686018427387903 := by omega
    have hJ2 : j < J ∧ J ≤ j + 1 := by omega
    clear hb3 hs0 hs1 hr0 hI hJ
    obtain ⟨zz, hzz⟩ : ∃ x, Hid (s1 - s0 = x) := ⟨_, Lib.hid rfl⟩
    have hzz0 : 1 ≤ zz ∧ zz ≤ 4611686018427387903 := by have := hzz.out; omega
    rw [hzz.out] at hsucc
    obtain ⟨ka, hka, hka0, hka1⟩ := eszk (r0 - s1 - 1)
    obtain ⟨kb, hkb, hkb0, hkb1⟩ := eszk (zz - 1)
    obtain ⟨V, hV⟩ : ∃ V, Hid (lim - (m : Int) = V) := ⟨_, Lib.hid rfl⟩
    have hV0 : V ≤ lim - m ∧ lim - m ≤ V := by have := hV.out; omega
    have g1 : IntKind.i64.wrap (r0 - s1) = r0 - s1 := IntWalk.i64_in _ (by omega)
    have g2 : IntKind.i64.wrap (r0 - s1 - 1) = r0 - s1 - 1 := IntWalk.i64_in _ (by omega)
    have g3 : IntKind.u64.wrap (r0 - s1 - 1) = r0 - s1 - 1 := IntWalk.u64_in _ (by omega)
    have g4 : IntKind.i64.wrap (J : Int) = (J : Int) := IntWalk.i64_in _ (by omega)
    have i1 : (j : Int) < (n : Int) := by omega
    have i2 : (J : Int) < (n : Int) := by omega
    go_wp2_with fail
    go_quiet (fail)
    go_wp2_with fail
    refine (rgsz' s0 s1 zz _ hb2a hb2b hb2c hzz).mono ?_
    rintro e wp ⟨rfl, H2⟩
    have HX2 : Hid (Wr W0 S0 B p s lim wp (.slice (some ⟨gx, 0, none⟩) m cx) (ackH L 2 d k)) := by obtain ⟨ob, zq, rfl⟩ := H2.out; exact ((HX.out.drewN _).alloc ob).drewN zq
    clear H2 HX a0 a1 b0 g1 g2 g3 g4 hJi
    go_wp2_with fail
    refine (availV _ _ wp HX2.out m V hlm (by omega) hl0 hl1 hV).mono ?_
    rintro e wq ⟨rfl, HX3⟩
    clear HX2
    go_wp2_with fail
    refine (svk (r0 - s1 - 1) ka wq hka (by omega) (by omega)).mono ?_
    rintro e wz ⟨rfl, rfl⟩
    go_wp2_with fail
    refine (svk (zz - 1) kb wq hkb (by omega) (by omega)).mono ?_
    rintro e wz ⟨rfl, rfl⟩
    by_cases hft : V < (ka : Int) + kb + 0
    · have hk63 : k + 2 ≤ n := by omega
      obtain ⟨⟨-, -, c4, c5⟩, f4⟩ := HX3.out.cells
      have HS := Lib.hid (HX3.out.set N7 k (by rw [hlm.out]; omega) (by omega))
      have cN : wq.cell? ⟨gx, N7, none⟩ = some (.int .u8 _) := HX3.out.own.cell N7 (by rw [hlm.out]; omega)
      have fN := HX3.out.own.free N7
      have iN : (N7 : Int) < (m : Int) := by omega
      have hgp : gx ≠ p := fun e => HX3.out.off.1 (by rw [← e]; rfl)
      have hpg : p ≠ gx := fun e => hgp e.symm
      have kN := ackH_set L 2 d k N7 hT7.out (by rw [hn.out]; omega) 0 0 0 (by simp [ecnT])
      simp only [ecnW, and_self, if_true, List.append_nil] at kN
      have KN := Lib.hid kN
      clear kN
      go_wp2_with fail
      refine (snt_typ _ s 0 2 _ HS.out.ts (by omega) (by omega)).mono ?_
      rintro e wa ⟨rfl, HT⟩
      have HDn := Lib.hid (HS.out.done HT.out.2)
      have c5' := HDn.out.c5
      have hgs := HF.out.gn
      have cx := (World.cell?_of_block (a := ⟨g, (n - 1) * 2 + 1, none⟩) (HT.out.2.blk g (Nat.lt_of_lt_of_le hgs.2.2.2 HS.out.size) hgs.2.1)).trans (htop.out _ _ _ HS.out).2
      have HG := Lib.hid hgs
      have HT1 := Lib.hid (HT.out.1.drewN 1)
      clear c4 c5 f4 cN fN hgs
      go_wp2_with fail
      have hMw := IntWalk.u64_in M (by omega)
      have hMm : M % 18446744073709551616 = M := by omega
      go_region_held3 (fun w' => w'.cell? ⟨p, 5, none⟩ = some (.pointer (some ⟨s, 0, none⟩)) ∧ w'.cell? ⟨g, (n - 1) * 2 + 1, none⟩ = some (.int .i64 x1)) (first | (exact ⟨c5', cx⟩) | (exact ⟨(HS.out.done ((HT.out.2.drewN 1).trans HT2.out.2)).c5, (World.cell?_of_block (a := ⟨g, (n - 1) * 2 + 1, none⟩) (HT2.out.2.blk g (Nat.lt_of_lt_of_le HG.out.2.2.2 HS.out.size) HG.out.2.1)).trans cx⟩)) ((first | (go_at_call 85; refine (amax g n c x1 M _ h1 (by omega) (by exact cx) hM hM0.1 hM0.2).mono ?_; rintro e wx ⟨rfl, rfl⟩) | (go_at_call 111; refine (snt_int _ s 1 M _ (by exact HT1.out) (by omega) hM0.1 hM0.2).mono ?_; rintro e wb ⟨rfl, HT2⟩)))
      clear c5' cx hMw hMm
      go_wp2_with fail
      go_ret
      refine .inr ⟨k, _, by rw [hn.out]; omega, rfl, ((KN.out ▸ HS.out.done ((HT.out.2.drewN 1).trans HT2.out.2)).back HB0.out), ?_, fun hl => by rw [hn.out]; omega⟩
      rw [← KN.out]
      rw [List.length_set, hlm.out]
      omega
    obtain ⟨⟨-, -, c4, -⟩, f4⟩ := HX3.out.cells
    have hk62 : ¬ (62 : Int) < (k : Int) := by omega
    go_wp2_with fail
    refine (av B _ (ackH L 2 d k) (r0 - s1 - 1) _ HX3.out.own HX3.out.le (by have := hlm.out; omega) (by omega) (by omega)).mono ?_
    rintro e wt hE
    obtain ⟨m1, hm1⟩ : ∃ N, Hid (m + ka = N) := ⟨_, Lib.hid rfl⟩
    have bm1 : m < m1 ∧ m1 ≤ m + 8 := by have := hm1.out; omega
    have hl1' : Hid (List.length (ackH L 2 d k ++ enc (r0 - s1 - 1)) = m1) := by show _ = _; rw [List.length_append, hlm.out, enc_length, hka.out]; exact hm1.out
    obtain ⟨ga, ca, rfl, y1, y2, HX4⟩ := HX3.out.appE hE hl1' (by omega)
    clear hE HX3 c4 f4
    go_wp2_with fail
    refine (av B _ (ackH L 2 d k ++ enc (r0 - s1 - 1)) (zz - 1) _ HX4.out.own HX4.out.le (by have := hl1'.out; omega) (by omega) (by omega)).mono ?_
    rintro e wu hE
    obtain ⟨m2, hm2⟩ : ∃ N, Hid (m1 + kb = N) := ⟨_, Lib.hid rfl⟩
    have bm2 : m1 < m2 ∧ m2 ≤ m1 + 8 := by have := hm2.out; omega
    have hl2' : Hid (List.length (ackH L 2 d k ++ enc (r0 - s1 - 1) ++ enc (zz - 1)) = m2) := by show _ = _; rw [List.length_append, hl1'.out, enc_length, hkb.out]; exact hm2.out
    obtain ⟨gb, cb, rfl, z1, z2, HX5⟩ := HX4.out.appE hE hl2' (by omega)
    clear hE HX4 y1 y2 hl1'
    rw [← hsucc.out] at hl2' HX5
    go_wp2_with fail
    go_roundw
    case rel => exact ⟨k + 1, m2, gb, cb, (j : Int) - 1, by omega, by go_num, by go_num, by omega, by have := hm1.out; have := hm2.out; omega, by omega, by omega, hl2', HX5⟩
    case measure => simp [intOf]

end Go.Proofs.Ytdogepkfgobcfaa

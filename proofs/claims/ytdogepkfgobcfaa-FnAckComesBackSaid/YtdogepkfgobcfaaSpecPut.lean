/- Contract of spec.PutAck. Conditions: the ranges and numbers are the statement's. -/
import Derived.Test.YtdogepkfgobcfaaAcked
import Derived.Test.YtdogepkfgobcfaaAckFacts
import Derived.Test.YtdogepkfgobcfaaSva
import Derived.Test.YtdogepkfgobcfaaArr
import Derived.Deep.RegionHeld3
import Derived.Deep.RegionLaw
namespace Go.Proofs.Ytdogepkfgobcfaa
open Go.RowKit
set_option linter.unusedVariables false

theorem run_neq3 (x y z : Int) (w : World) : (binOp .neq 56 (.agg #[.int .i64 x, .int .i64 y, .int .i64 z]) (.agg #[.int .i64 0, .int .i64 0, .int .i64 0])).run Try.prog w = .ok (.bool (!([x, y, z] == [(0 : Int), 0, 0]))) w := by
  rw [run_neq_struct]
  have := run_equalIn_i64s w 9998 56 3 Try.underlying56 [x, y, z] [0, 0, 0] rfl rfl
  simp only [i64s, List.map_cons, List.map_nil] at this
  rw [this]
  rfl
theorem grown_of_below {w w' : World} (h : Below w.heap.size w w') (row : Option Nat) : w.grownBy w' row := ⟨h.os, h.tape, h.output, h.size, fun i hi _ => h.block i hi⟩
theorem AppEnd.keep {B : Nat} {w w' : World} {s : Value} {l : List Int} {e : Ending} {g : Nat} {ob : Obj} (h : AppEnd B w s l e w') (hg : w.heap[g]? = some ob) (hs : s.ownBlock ≠ some g) : w'.heap[g]? = some ob := by
  obtain ⟨s', _, _, h2, _⟩ := h
  exact (h2.block g (cell_in hg) (fun e => hs e.symm)).trans hg
theorem AppEnd.keep2 {B : Nat} {w w1 w2 : World} {s s1 : Value} {l l2 : List Int} {e : Ending} {g : Nat} {ob : Obj} (h : AppEnd B w s l (.returned s1) w1) (h2 : AppEnd B w1 s1 l2 e w2) (hg : w.heap[g]? = some ob) (hs : s.ownBlock ≠ some g) : w2.heap[g]? = some ob := by
  refine h2.keep (h.keep hg hs) ?_
  obtain ⟨s', e', _, _, ha, _⟩ := h
  obtain rfl : s1 = s' := by simpa using e'
  intro e
  rcases ha with h3 | ⟨g', h3, hge⟩
  · exact hs (h3.symm.trans e)
  · have : g' = g := by simpa using h3.symm.trans e
    have := cell_in hg
    omega

set_option maxRecDepth 100000 in
set_option maxHeartbeats 1000000 in
/-- The closure: a number is appended. -/
theorem sput1 (B : Nat) (s : Value) (l : List Int) (v : Int) (w : World) (hown : Own B w s l) (hB : B ≤ w.heap.size) (hlen : l.length ≤ 1099511627776) (h0 : 0 ≤ v) (h1 : v ≤ 4611686018427387903) :
    Calls Try.prog 68 #[s, .int .i64 v] w fun e w' => AppEnd B w s (l ++ enc v) e w' := by
  have HO := Lib.hid hown
  clear hown
  go_enter Try.func68, Try.ntmps68
  go_wp2_with fail
  refine (sva v w h0 h1).mono ?_
  rintro e w1 ⟨s1, rfl, ho1, hb1⟩
  obtain ⟨A, c, rfl, hr, hlc, hcm, hz⟩ := ho1.rd
  have HR := Lib.hid hr
  have HZ := Lib.hid hz
  have HO1 := Lib.hid (HO.out.below hb1)
  have HG := Lib.hid (grown_of_below hb1 s.ownBlock)
  have HB1 := Lib.hid hb1
  obtain ⟨m, hm⟩ : ∃ m, Hid ((enc v).length = m) := ⟨_, Lib.hid rfl⟩
  rw [hm.out] at hlc ⊢
  have hm8 : m ≤ 8 := by have := esz_bd v; have := hm.out; rw [enc_length] at this; omega
  clear ho1 hb1 hr hz hlc hcm
  go_wp2_with (at_builtin; refine wpList_app B _ rfl (.tmp 5) (.tmp 8) rfl _ l rfl HO1.out A m c (enc v) rfl hm.out HR.out (fun h => (HZ.out h).2) (by omega) (Nat.le_trans hB HB1.out.size) ?_; intro v1 w2 ho2 hg2 ha2 hb2 hn2; have HE : Hid (AppEnd B w s (l ++ enc v) (.returned v1) w2) := ⟨v1, rfl, ho2, grownBy_trans HG.out hg2 (.inl rfl), ha2.imp id (fun h => ⟨_, h, HB1.out.size⟩), (HB1.out.mono hB).trans hb2, fun h => (hn2.1 h).1⟩; clear ho2 hg2 ha2 hb2 hn2)
  go_ret
  exact HE.out

/-- The bytes so far, the count already told. -/
def ackS (L : Rgs) (t d c : Int) (k : Nat) : List Int := [t] ++ enc ((topR L).2 - 1) ++ enc d ++ enc c ++ enc ((topR L).2 - (topR L).1 - 1) ++ gapsW (topR L).1 ((below_ L).take k)
theorem ackS_succ (L : Rgs) (t d c : Int) (k : Nat) (h : k + 1 < L.length) : ackS L t d c (k + 1) = ackS L t d c k ++ enc ((L.getD (L.length - 1 - k) (0, 0)).1 - (L.getD (L.length - 2 - k) (0, 0)).2 - 1) ++ enc ((L.getD (L.length - 2 - k) (0, 0)).2 - (L.getD (L.length - 2 - k) (0, 0)).1 - 1) := by
  have hp := below_pv L k (by omega)
  rw [← topR_eq (by omega)] at hp
  have hq := below_get L k h
  unfold ackS
  rw [gaps_take _ _ k (by rw [below_len]; omega), hp, hq]
  have a : L.getD (L.length - 1 - k) (0, 0) = L[L.length - 1 - k]'(by omega) := by simp [List.getD, List.getElem?_eq_getElem (show L.length - 1 - k < L.length by omega)]
  have b : L.getD (L.length - 2 - k) (0, 0) = L[L.length - 2 - k]'(by omega) := by simp [List.getD, List.getElem?_eq_getElem (show L.length - 2 - k < L.length by omega)]
  rw [a, b]
  simp only [List.append_assoc]
theorem ackS_zero (L : Rgs) (t d c : Int) : ackS L t d c 0 = [t] ++ enc ((topR L).2 - 1) ++ enc d ++ enc c ++ enc ((topR L).2 - (topR L).1 - 1) := by simp [ackS, gapsW]
theorem ackS_len (L : Rgs) (t d c : Int) (k : Nat) : (ackS L t d c k).length ≤ 33 + 16 * k := by
  have := gaps_len ((below_ L).take k) (topR L).1
  have h2 : ((below_ L).take k).length ≤ k := by rw [List.length_take]; omega
  have a := esz_bd ((topR L).2 - 1)
  have b := esz_bd d
  have e := esz_bd c
  have f := esz_bd ((topR L).2 - (topR L).1 - 1)
  simp only [ackS, List.length_append, enc_length, List.length_cons, List.length_nil]
  omega
theorem ackS_done (L : Rgs) (d e0 e1 e2 : Int) (k : Nat) (hk : k + 1 = L.length) (h64 : L.length ≤ 64) : ackS L (ecnT e0 e1 e2) d (k : Nat) k ++ ecnW e0 e1 e2 = ackW (topR L) (below_ L) d e0 e1 e2 := by
  have hl : (below_ L).length = k := by rw [below_len]; omega
  unfold ackS ackW
  rw [List.take_of_length_le (by omega), hl, show enc (k : Int) = [(k : Int)] from enc_small (by omega)]

/-- The state of spec.PutAck: the bytes so far; the blocks of the counts and of the greatest range. -/
structure Sp (W0 : World) (h : Nat) (r q : Obj) (wr : World) (v : Value) (l : List Int) (N : Nat) : Prop where
  own : Own (h + 2) wr v l
  rr : wr.heap[h + 1]? = some r
  qq : wr.heap[h]? = some q
  bel : Below (h + 1) W0 wr
  len : l.length ≤ N
theorem Sp.le {W0 wr : World} {h N : Nat} {r q : Obj} {v : Value} {l : List Int} (H : Sp W0 h r q wr v l N) : h + 2 ≤ wr.heap.size := cell_in H.rr
theorem Sp.drewN {W0 wr : World} {h N : Nat} {r q : Obj} {v : Value} {l : List Int} (H : Sp W0 h r q wr v l N) (z : Nat) : Sp W0 h r q (wr.drewN z) v l N := ⟨H.own.drewN z, H.rr, H.qq, below_drewN H.bel z, H.len⟩
theorem Sp.alloc {W0 wr : World} {h N : Nat} {r q : Obj} {v : Value} {l : List Int} (H : Sp W0 h r q wr v l N) (o : Obj) : Sp W0 h r q (wr.alloc o) v l N :=
  ⟨H.own.alloc o, (heap_alloc_old wr o (cell_in H.rr)).trans H.rr, (heap_alloc_old wr o (cell_in H.qq)).trans H.qq, H.bel.alloc (by have := H.le; omega) o, H.len⟩
theorem Sp.step {W0 wr w1 : World} {h N : Nat} {r q : Obj} {v : Value} {l : List Int} {e : Ending} {x : Int} (H : Sp W0 h r q wr v l N) (hE : AppEnd (h + 2) wr v (l ++ enc x) e w1) : ∃ v1, e = .returned v1 ∧ Hid (Sp W0 h r q w1 v1 (l ++ enc x) (N + 8)) := by
  obtain ⟨v1, rfl, ho, _, _, hb, _⟩ := hE
  refine ⟨v1, rfl, ho, (hb.block _ (by omega)).trans H.rr, (hb.block _ (by omega)).trans H.qq, H.bel.trans (hb.mono (by omega)), ?_⟩
  have := H.len
  have := esz_bd x
  rw [List.length_append, enc_length]
  omega
theorem Sp.off {W0 wr : World} {h N : Nat} {r q : Obj} {v : Value} {l : List Int} (H : Sp W0 h r q wr v l N) : v.ownBlock ≠ some wr.heap.size := fun e => by have := (H.own.lt _ e).2; omega
theorem pair_cells {w : World} {g : Nat} {a b : Value} {t : TypeId} (h : w.heap[g]? = some (.cells #[a, b] t (0, 0))) : w.cell? ⟨g, 0, none⟩ = some a ∧ w.cell? ⟨g, 1, none⟩ = some b := by
  refine ⟨?_, ?_⟩
  · rw [cell_of_row _ _ 0 _ _ (0, 0) h]; rfl
  · rw [cell_of_row _ _ 1 _ _ (0, 0) h]; rfl

set_option maxRecDepth 100000 in
set_option maxHeartbeats 4000000 in
theorem sput_2 (A : Option Addr) (n c : Nat) (L : Rgs) (d : Int) (w : World) (hr : RdE EPr w A L) (hn : Hid (L.length = n)) (hF : Hid (AckedF L d 0 0 0)) :
    Calls Try.prog 43 #[.slice A n c, .int .i64 d, .agg #[.int .i64 0, .int .i64 0, .int .i64 0]] w fun e w' => MadeEnd w (ackW (topR L) (below_ L) d 0 0 0) e w' := by
  obtain ⟨W0, hW0⟩ : ∃ W0, Hid (w.alloc (.cells #[.int .i64 0, .int .i64 0, .int .i64 0] 56 (0, 0)) = W0) := ⟨_, Lib.hid rfl⟩
  have HQ : Hid (W0.heap[w.heap.size]? = some (.cells #[.int .i64 0, .int .i64 0, .int .i64 0] 56 (0, 0))) := by show _ = _; rw [← hW0.out]; exact heap_alloc_new w _
  have HR : Hid (RdE EPr W0 A L) := by show RdE _ _ _ _; rw [← hW0.out]; exact hr.below ((Below.refl _ _).alloc (Nat.le_refl _) _)
  have HB0 : Hid (Below w.heap.size w W0) := by show Below _ _ _; rw [← hW0.out]; exact (Below.refl _ _).alloc (Nat.le_refl _) _
  have HZ : W0.heap.size = w.heap.size + 1 := by rw [← hW0.out]; simp
  have hZ := Lib.hid HZ
  have hn64 : 1 ≤ n ∧ n ≤ 64 := by rw [← hn.out]; exact ⟨hF.out.pos, hF.out.le⟩
  clear hr HZ
  have hq0 : W0.cell? ⟨w.heap.size, 0, none⟩ = some (.int .i64 0) := by rw [cell_of_row _ _ 0 _ _ (0, 0) HQ.out]; rfl
  have hq1 : W0.cell? ⟨w.heap.size, 1, none⟩ = some (.int .i64 0) := by rw [cell_of_row _ _ 1 _ _ (0, 0) HQ.out]; rfl
  have hq2 : W0.cell? ⟨w.heap.size, 2, none⟩ = some (.int .i64 0) := by rw [cell_of_row _ _ 2 _ _ (0, 0) HQ.out]; rfl
  have hneq := fun w => run_neq3 0 0 0 w
  have hnb : (!([(0 : Int), 0, 0] == [(0 : Int), 0, 0])) = false := rfl
  rw [hnb] at hneq
  obtain ⟨tf0, tf1, tf2, tf3⟩ := top_facts (by rw [hn.out]; exact hn64.1) hF.out.asc
  have HD := Lib.hid tf3
  have hgt : Hid (topR L = L.getD (n - 1) (0, 0)) := by show _ = _; unfold topR; rw [hn.out]
  obtain ⟨x0, hx0⟩ : ∃ x, Hid ((topR L).1 = x) := ⟨_, Lib.hid rfl⟩
  obtain ⟨x1, hx1⟩ : ∃ x, Hid ((topR L).2 = x) := ⟨_, Lib.hid rfl⟩
  rw [hx0.out] at tf0 tf1 HD
  rw [hx1.out] at tf1 tf2
  obtain ⟨b, o, rfl, hc⟩ := HR.out (by rw [hn.out]; omega)
  have hat : Hid (∀ (w' : World), Below W0.heap.size W0 w' → ∀ i, i < n → w'.cell? ⟨b, o + i * 2, none⟩ = some (.int .i64 (L.getD i (0, 0)).1) ∧ w'.cell? ⟨b, o + i * 2 + 1, none⟩ = some (.int .i64 (L.getD i (0, 0)).2) ∧ b < W0.heap.size) := by
    intro w' hb i hi
    have hi' : i < L.length := by rw [hn.out]; exact hi
    obtain ⟨a0, a1⟩ := rg_cells rfl rfl hc i hi'
    have hbb := World.block_lt_of_cell? _ _ a0
    rw [hb.cell (p := ⟨b, o + i * 2, none⟩) hbb, hb.cell (p := ⟨b, o + i * 2 + 1, none⟩) hbb, a0, a1]
    simp only [List.getD, List.getElem?_eq_getElem hi', Option.getD_some, true_and]
    exact hbb
  clear hc
  obtain ⟨d0, d1, hbb⟩ := hat.out W0 (Below.refl _ _) (n - 1) (by omega)
  rw [← hgt.out] at d0 d1
  rw [hx0.out] at d0
  rw [hx1.out] at d1
  rw [← hW0.out] at d0 d1
  have en1 : (n : Int) - 1 = ((n - 1 : Nat) : Int) := by omega
  obtain ⟨hd0, hd1⟩ := hF.out.d
  have hn1 : n - 1 < n := by omega
  go_enter Try.func43, Try.ntmps43

  go_wp2_with fail
  obtain ⟨W3, hW3⟩ : ∃ W3, Hid (((w.alloc (.cells #[.int .i64 0, .int .i64 0, .int .i64 0] 56 (0, 0))).alloc (.cells #[.int .i64 x0, .int .i64 x1] 47 (0, 0))).alloc (.cells #[.int .u8 2] 5 (0, 0)) = W3) := ⟨_, Lib.hid rfl⟩
  rw [hW3.out]
  have HS3 : Hid (Sp W0 w.heap.size (.cells #[.int .i64 x0, .int .i64 x1] 47 (0, 0)) (.cells #[.int .i64 0, .int .i64 0, .int .i64 0] 56 (0, 0)) W3 (.slice (some ⟨w.heap.size + 1 + 1, 0, none⟩) 1 1) [2] 1) := by
    show Sp _ _ _ _ _ _ _ _
    rw [← hW3.out, hW0.out]
    have e1 : (W0.alloc (.cells #[.int .i64 x0, .int .i64 x1] 47 (0, 0))).heap.size = w.heap.size + 1 + 1 := by simp [hZ.out]
    have hn2 := Own.new (W0.alloc (.cells #[.int .i64 x0, .int .i64 x1] 47 (0, 0))) [2] (Bs.nil.cons (by omega)) (by simp [maxLen])
    rw [e1] at hn2
    refine ⟨hn2, (heap_alloc_old _ _ (by rw [e1]; omega)).trans ?_, (heap_alloc_old _ _ (by rw [e1]; omega)).trans ((heap_alloc_old _ _ (by rw [hZ.out]; omega)).trans HQ.out), ((Below.refl _ _).alloc (by rw [hZ.out]; omega) _).alloc (by rw [e1]; omega) _, by simp⟩
    have := heap_alloc_new W0 (.cells #[.int .i64 x0, .int .i64 x1] 47 (0, 0))
    rwa [hZ.out] at this
  clear d0 d1 hq0 hq1 hq2 hneq
  refine (sput1 (w.heap.size + 2) _ [2] (x1 - 1) W3 HS3.out.own HS3.out.le (by simp) (by omega) (by omega)).mono ?_
  rintro e w4 hE
  obtain ⟨v4, rfl, HS4⟩ := HS3.out.step hE
  clear hE HS3
  go_wp2_with fail
  refine (sput1 (w.heap.size + 2) v4 _ d w4 HS4.out.own HS4.out.le (by have := HS4.out.len; omega) (by omega) (by omega)).mono ?_
  rintro e w5 hE
  obtain ⟨v5, rfl, HS5⟩ := HS4.out.step hE
  clear hE HS4
  go_wp2_with fail
  refine (sput1 (w.heap.size + 2) v5 _ ((n - 1 : Nat) : Int) w5 HS5.out.own HS5.out.le (by have := HS5.out.len; omega) (by omega) (by omega)).mono ?_
  rintro e w6 hE
  obtain ⟨v6, rfl, HS6⟩ := HS5.out.step hE
  clear hE HS5
  obtain ⟨p0, p1⟩ := pair_cells HS6.out.rr
  go_wp2_with fail
  refine (sput1 (w.heap.size + 2) v6 _ (x1 - x0 - 1) w6 HS6.out.own HS6.out.le (by have := HS6.out.len; omega) (by omega) (by omega)).mono ?_
  rintro e w7 hE
  obtain ⟨v7, rfl, HS7⟩ := HS6.out.step hE
  clear hE HS6 p0 p1
  obtain ⟨p0, p1⟩ := pair_cells HS7.out.rr
  go_wp2_with fail
  have h0 := ackS_zero L 2 d ((n - 1 : Nat) : Int)
  rw [hx0.out, hx1.out] at h0
  rw [← h0] at HS7
  clear p0 p1 h0
  go_loopw [10, 11, 12] (fun v y i wr => ∃ (k : Nat) (I Y : Int) (V : Value), V = v ∧ k + 1 ≤ n ∧ i = .int .i64 I ∧ I = (n : Int) - 2 - k ∧ y = .int .i64 Y ∧ Hid ((L.getD (n - 1 - k) (0, 0)).1 = Y) ∧ Hid (Sp W0 w.heap.size (.cells #[.int .i64 x0, .int .i64 x1] 47 (0, 0)) (.cells #[.int .i64 0, .int .i64 0, .int .i64 0] 56 (0, 0)) wr V (ackS L 2 d ((n - 1 : Nat) : Int) k) (33 + 16 * k))) (fun _ _ i _ => (intOf i + 1).toNat)
  case atStart => exact ⟨0, (n : Int) - 2, x0, _, rfl, by omega, by go_num, by omega, rfl, by show _ = _; rw [Nat.sub_zero, ← hgt.out]; exact hx0.out, HS7⟩
  case round =>
    clear HS7
    obtain ⟨k, I, r0, v, rfl, hk, rfl, hI, rfl, hr0, HX⟩ := hrel
    by_cases hkn : k + 1 = n
    · have hI1 : I = -1 := by omega
      subst hI1
      clear hI
      have hkk : Hid (((n - 1 : Nat) : Int) = (k : Nat)) := by show _ = _; omega
      rw [hkk.out] at HX
      have hD := Lib.hid (ackS_done L d 0 0 0 k (by rw [hn.out]; exact hkn) (by rw [hn.out]; omega))
      go_wp2_with fail
      go_ret
      refine ⟨v, rfl, ?_, HB0.out.trans (HX.out.bel.mono (by omega))⟩
      rw [← hD.out]
      exact (List.append_nil _ ▸ HX.out.own.lower (by omega) : Own w.heap.size wr v (ackS L (ecnT 0 0 0) d (k : Nat) k ++ ecnW 0 0 0))
    obtain ⟨j, hj⟩ : ∃ j : Nat, j + k + 2 = n := ⟨n - 2 - k, by omega⟩
    obtain rfl : I = (j : Int) := by omega
    obtain ⟨a0, a1, -⟩ := hat.out wr (by rw [hZ.out]; exact HX.out.bel) j (by omega)
    have hsucc := Lib.hid (ackS_succ L 2 d ((n - 1 : Nat) : Int) k (by rw [hn.out]; omega))
    have hb1 := AscI.at_ hF.out.asc j (by rw [hn.out]; omega)
    have hb2 := AscI.bd (by omega) hF.out.asc j (by rw [hn.out]; omega)
    have hb3 := AscI.bd (by omega) hF.out.asc (j + 1) (by rw [hn.out]; omega)
    rw [hn.out, show n - 1 - k = j + 1 by omega, show n - 2 - k = j by omega] at hsucc
    rw [show n - 1 - k = j + 1 by omega] at hr0
    obtain ⟨s0, hs0⟩ : ∃ x, Hid ((L.getD j (0, 0)).1 = x) := ⟨_, Lib.hid rfl⟩
    obtain ⟨s1, hs1⟩ : ∃ x, Hid ((L.getD j (0, 0)).2 = x) := ⟨_, Lib.hid rfl⟩
    rw [hs0.out, hs1.out, hr0.out] at hsucc
    rw [hs0.out, hs1.out] at hb2
    rw [hr0.out] at hb3
    rw [hs1.out, hr0.out] at hb1
    rw [hs0.out] at a0
    rw [hs1.out] at a1
    obtain ⟨hb2a, hb2b, hb2c⟩ := hb2
    have hb3a : r0 ≤ 4611686018427387903 := by omega
    clear hb3 hI hr0
    have i1 : (j : Int) < (n : Int) := by omega
    obtain ⟨X, hX⟩ : ∃ X, Hid (wr.alloc (.cells #[.int .i64 s0, .int .i64 s1] 47 (0, 0)) = X) := ⟨_, Lib.hid rfl⟩
    have HX2 : Hid (Sp W0 w.heap.size (.cells #[.int .i64 x0, .int .i64 x1] 47 (0, 0)) (.cells #[.int .i64 0, .int .i64 0, .int .i64 0] 56 (0, 0)) (X.drewN 1) v (ackS L 2 d ((n - 1 : Nat) : Int) k) (33 + 16 * k)) := by show Sp _ _ _ _ _ _ _ _; rw [← hX.out]; exact (HX.out.alloc _).drewN 1
    have HP : Hid ((X.drewN 1).heap[wr.heap.size]? = some (.cells #[.int .i64 s0, .int .i64 s1] 47 (0, 0))) := by show X.heap[wr.heap.size]? = _; rw [← hX.out]; exact heap_alloc_new _ _
    have hoff := Lib.hid HX.out.off
    have hszw : Hid (w.heap.size + 2 ≤ wr.heap.size) := HX.out.le
    go_wp2_with fail
    rw [hX.out]
    have g1 : IntKind.i64.wrap (r0 - s1) = r0 - s1 := IntWalk.i64_in _ (by omega)
    have g2 : IntKind.i64.wrap (r0 - s1 - 1) = r0 - s1 - 1 := IntWalk.i64_in _ (by omega)
    have g3 : IntKind.i64.wrap (s1 - s0) = s1 - s0 := IntWalk.i64_in _ (by omega)
    have g4 : IntKind.i64.wrap (s1 - s0 - 1) = s1 - s0 - 1 := IntWalk.i64_in _ (by omega)
    have pc := pair_cells HP.out
    go_region_held3 (fun w' => w'.cell? ⟨wr.heap.size, 0, none⟩ = some (.int .i64 s0) ∧ w'.cell? ⟨wr.heap.size, 1, none⟩ = some (.int .i64 s1)) (first | exact pc | exact pair_cells (hE1.keep HP.out hoff.out) | exact pair_cells (hE1.keep2 hE2 HP.out hoff.out)) ((first | (go_simp; go_at_call_of 68 v; (refine (sput1 (w.heap.size + 2) v (ackS L 2 d ((n - 1 : Nat) : Int) k) (r0 - s1 - 1) _ (by exact HX2.out.own) (by exact HX2.out.le) (by have := HX2.out.len; omega) (by omega) (by omega)).mono ?_); rintro e w8 hE1; obtain ⟨v8, rfl, HS8⟩ := HX2.out.step hE1) | (go_simp; go_at_call_of 68 v8; (refine (sput1 (w.heap.size + 2) v8 (ackS L 2 d ((n - 1 : Nat) : Int) k ++ enc (r0 - s1 - 1)) (s1 - s0 - 1) _ (by exact HS8.out.own) (by exact HS8.out.le) (by have := HS8.out.len; omega) (by omega) (by omega)).mono ?_); rintro e w9 hE2; obtain ⟨v9, rfl, HS9⟩ := HS8.out.step hE2)))
    clear pc g1 g2 g3 g4
    obtain ⟨pc0, pc1⟩ := pair_cells (hE1.keep2 hE2 HP.out hoff.out)
    rw [← hsucc.out] at HS9
    clear hE1 hE2 HS8
    go_wp2_with fail
    go_roundw
    case rel => exact ⟨k + 1, (j : Int) - 1, s0, v9, rfl, by omega, by go_num, by omega, rfl, by show _ = _; rw [show n - 1 - (k + 1) = j by omega]; exact hs0.out, by rw [show 33 + 16 * (k + 1) = 33 + 16 * k + 8 + 8 by omega]; exact HS9⟩
    case measure => simp [intOf]

set_option maxRecDepth 100000 in
set_option maxHeartbeats 4000000 in
theorem sput_3 (A : Option Addr) (n c : Nat) (L : Rgs) (d : Int) (e0 e1 e2 : Int) (hne : Hid (¬ (e0 = 0 ∧ e1 = 0 ∧ e2 = 0))) (w : World) (hr : RdE EPr w A L) (hn : Hid (L.length = n)) (hF : Hid (AckedF L d e0 e1 e2)) :
    Calls Try.prog 43 #[.slice A n c, .int .i64 d, .agg #[.int .i64 e0, .int .i64 e1, .int .i64 e2]] w fun e w' => MadeEnd w (ackW (topR L) (below_ L) d e0 e1 e2) e w' := by
  obtain ⟨W0, hW0⟩ : ∃ W0, Hid (w.alloc (.cells #[.int .i64 e0, .int .i64 e1, .int .i64 e2] 56 (0, 0)) = W0) := ⟨_, Lib.hid rfl⟩
  have HQ : Hid (W0.heap[w.heap.size]? = some (.cells #[.int .i64 e0, .int .i64 e1, .int .i64 e2] 56 (0, 0))) := by show _ = _; rw [← hW0.out]; exact heap_alloc_new w _
  have HR : Hid (RdE EPr W0 A L) := by show RdE _ _ _ _; rw [← hW0.out]; exact hr.below ((Below.refl _ _).alloc (Nat.le_refl _) _)
  have HB0 : Hid (Below w.heap.size w W0) := by show Below _ _ _; rw [← hW0.out]; exact (Below.refl _ _).alloc (Nat.le_refl _) _
  have HZ : W0.heap.size = w.heap.size + 1 := by rw [← hW0.out]; simp
  have hZ := Lib.hid HZ
  have hn64 : 1 ≤ n ∧ n ≤ 64 := by rw [← hn.out]; exact ⟨hF.out.pos, hF.out.le⟩
  clear hr HZ
  have hq0 : W0.cell? ⟨w.heap.size, 0, none⟩ = some (.int .i64 e0) := by rw [cell_of_row _ _ 0 _ _ (0, 0) HQ.out]; rfl
  have hq1 : W0.cell? ⟨w.heap.size, 1, none⟩ = some (.int .i64 e1) := by rw [cell_of_row _ _ 1 _ _ (0, 0) HQ.out]; rfl
  have hq2 : W0.cell? ⟨w.heap.size, 2, none⟩ = some (.int .i64 e2) := by rw [cell_of_row _ _ 2 _ _ (0, 0) HQ.out]; rfl
  have hneq := fun w => run_neq3 e0 e1 e2 w
  have hnb : (!([e0, e1, e2] == [(0 : Int), 0, 0])) = true := by have := hne.out; simp; omega
  rw [hnb] at hneq
  clear hnb
  obtain ⟨tf0, tf1, tf2, tf3⟩ := top_facts (by rw [hn.out]; exact hn64.1) hF.out.asc
  have HD := Lib.hid tf3
  have hgt : Hid (topR L = L.getD (n - 1) (0, 0)) := by show _ = _; unfold topR; rw [hn.out]
  obtain ⟨x0, hx0⟩ : ∃ x, Hid ((topR L).1 = x) := ⟨_, Lib.hid rfl⟩
  obtain ⟨x1, hx1⟩ : ∃ x, Hid ((topR L).2 = x) := ⟨_, Lib.hid rfl⟩
  rw [hx0.out] at tf0 tf1 HD
  rw [hx1.out] at tf1 tf2
  obtain ⟨b, o, rfl, hc⟩ := HR.out (by rw [hn.out]; omega)
  have hat : Hid (∀ (w' : World), Below W0.heap.size W0 w' → ∀ i, i < n → w'.cell? ⟨b, o + i * 2, none⟩ = some (.int .i64 (L.getD i (0, 0)).1) ∧ w'.cell? ⟨b, o + i * 2 + 1, none⟩ = some (.int .i64 (L.getD i (0, 0)).2) ∧ b < W0.heap.size) := by
    intro w' hb i hi
    have hi' : i < L.length := by rw [hn.out]; exact hi
    obtain ⟨a0, a1⟩ := rg_cells rfl rfl hc i hi'
    have hbb := World.block_lt_of_cell? _ _ a0
    rw [hb.cell (p := ⟨b, o + i * 2, none⟩) hbb, hb.cell (p := ⟨b, o + i * 2 + 1, none⟩) hbb, a0, a1]
    simp only [List.getD, List.getElem?_eq_getElem hi', Option.getD_some, true_and]
    exact hbb
  clear hc
  obtain ⟨d0, d1, hbb⟩ := hat.out W0 (Below.refl _ _) (n - 1) (by omega)
  rw [← hgt.out] at d0 d1
  rw [hx0.out] at d0
  rw [hx1.out] at d1
  rw [← hW0.out] at d0 d1
  have en1 : (n : Int) - 1 = ((n - 1 : Nat) : Int) := by omega
  obtain ⟨hd0, hd1⟩ := hF.out.d
  have hn1 : n - 1 < n := by omega
  go_enter Try.func43, Try.ntmps43

  go_wp2_with fail
  obtain ⟨W3, hW3⟩ : ∃ W3, Hid (((w.alloc (.cells #[.int .i64 e0, .int .i64 e1, .int .i64 e2] 56 (0, 0))).alloc (.cells #[.int .i64 x0, .int .i64 x1] 47 (0, 0))).alloc (.cells #[.int .u8 3] 5 (0, 0)) = W3) := ⟨_, Lib.hid rfl⟩
  rw [hW3.out]
  have HS3 : Hid (Sp W0 w.heap.size (.cells #[.int .i64 x0, .int .i64 x1] 47 (0, 0)) (.cells #[.int .i64 e0, .int .i64 e1, .int .i64 e2] 56 (0, 0)) W3 (.slice (some ⟨w.heap.size + 1 + 1, 0, none⟩) 1 1) [3] 1) := by
    show Sp _ _ _ _ _ _ _ _
    rw [← hW3.out, hW0.out]
    have e1 : (W0.alloc (.cells #[.int .i64 x0, .int .i64 x1] 47 (0, 0))).heap.size = w.heap.size + 1 + 1 := by simp [hZ.out]
    have hn2 := Own.new (W0.alloc (.cells #[.int .i64 x0, .int .i64 x1] 47 (0, 0))) [3] (Bs.nil.cons (by omega)) (by simp [maxLen])
    rw [e1] at hn2
    refine ⟨hn2, (heap_alloc_old _ _ (by rw [e1]; omega)).trans ?_, (heap_alloc_old _ _ (by rw [e1]; omega)).trans ((heap_alloc_old _ _ (by rw [hZ.out]; omega)).trans HQ.out), ((Below.refl _ _).alloc (by rw [hZ.out]; omega) _).alloc (by rw [e1]; omega) _, by simp⟩
    have := heap_alloc_new W0 (.cells #[.int .i64 x0, .int .i64 x1] 47 (0, 0))
    rwa [hZ.out] at this
  clear d0 d1 hq0 hq1 hq2 hneq
  refine (sput1 (w.heap.size + 2) _ [3] (x1 - 1) W3 HS3.out.own HS3.out.le (by simp) (by omega) (by omega)).mono ?_
  rintro e w4 hE
  obtain ⟨v4, rfl, HS4⟩ := HS3.out.step hE
  clear hE HS3
  go_wp2_with fail
  refine (sput1 (w.heap.size + 2) v4 _ d w4 HS4.out.own HS4.out.le (by have := HS4.out.len; omega) (by omega) (by omega)).mono ?_
  rintro e w5 hE
  obtain ⟨v5, rfl, HS5⟩ := HS4.out.step hE
  clear hE HS4
  go_wp2_with fail
  refine (sput1 (w.heap.size + 2) v5 _ ((n - 1 : Nat) : Int) w5 HS5.out.own HS5.out.le (by have := HS5.out.len; omega) (by omega) (by omega)).mono ?_
  rintro e w6 hE
  obtain ⟨v6, rfl, HS6⟩ := HS5.out.step hE
  clear hE HS5
  obtain ⟨p0, p1⟩ := pair_cells HS6.out.rr
  go_wp2_with fail
  refine (sput1 (w.heap.size + 2) v6 _ (x1 - x0 - 1) w6 HS6.out.own HS6.out.le (by have := HS6.out.len; omega) (by omega) (by omega)).mono ?_
  rintro e w7 hE
  obtain ⟨v7, rfl, HS7⟩ := HS6.out.step hE
  clear hE HS6 p0 p1
  obtain ⟨p0, p1⟩ := pair_cells HS7.out.rr
  go_wp2_with fail
  have h0 := ackS_zero L 3 d ((n - 1 : Nat) : Int)
  rw [hx0.out, hx1.out] at h0
  rw [← h0] at HS7
  clear p0 p1 h0
  go_loopw [10, 11, 12] (fun v y i wr => ∃ (k : Nat) (I Y : Int) (V : Value), V = v ∧ k + 1 ≤ n ∧ i = .int .i64 I ∧ I = (n : Int) - 2 - k ∧ y = .int .i64 Y ∧ Hid ((L.getD (n - 1 - k) (0, 0)).1 = Y) ∧ Hid (Sp W0 w.heap.size (.cells #[.int .i64 x0, .int .i64 x1] 47 (0, 0)) (.cells #[.int .i64 e0, .int .i64 e1, .int .i64 e2] 56 (0, 0)) wr V (ackS L 3 d ((n - 1 : Nat) : Int) k) (33 + 16 * k))) (fun _ _ i _ => (intOf i + 1).toNat)
  case atStart => exact ⟨0, (n : Int) - 2, x0, _, rfl, by omega, by go_num, by omega, rfl, by show _ = _; rw [Nat.sub_zero, ← hgt.out]; exact hx0.out, HS7⟩
  case round =>
    clear HS7
    obtain ⟨k, I, r0, v, rfl, hk, rfl, hI, rfl, hr0, HX⟩ := hrel
    by_cases hkn : k + 1 = n
    · have hI1 : I = -1 := by omega
      subst hI1
      clear hI
      have hkk : Hid (((n - 1 : Nat) : Int) = (k : Nat)) := by show _ = _; omega
      rw [hkk.out] at HX
      have hD := Lib.hid (ackS_done L d e0 e1 e2 k (by rw [hn.out]; exact hkn) (by rw [hn.out]; omega))
      have Q := HX.out.qq
      have q0 : wr.cell? ⟨w.heap.size, 0, none⟩ = some (.int .i64 e0) := by rw [cell_of_row _ _ 0 _ _ (0, 0) Q]; rfl
      have q1 : wr.cell? ⟨w.heap.size, 1, none⟩ = some (.int .i64 e1) := by rw [cell_of_row _ _ 1 _ _ (0, 0) Q]; rfl
      have q2 : wr.cell? ⟨w.heap.size, 2, none⟩ = some (.int .i64 e2) := by rw [cell_of_row _ _ 2 _ _ (0, 0) Q]; rfl
      obtain ⟨he00, he01⟩ := hF.out.e0
      obtain ⟨he10, he11⟩ := hF.out.e1
      obtain ⟨he20, he21⟩ := hF.out.e2
      rw [show ecnT e0 e1 e2 = 3 from if_neg hne.out, show ecnW e0 e1 e2 = enc e0 ++ enc e1 ++ enc e2 from if_neg hne.out] at hD
      clear Q
      have ix0 : ∀ w, (Instr.index 56 (.agg #[.int .i64 e0, .int .i64 e1, .int .i64 e2]) (.int .i64 0)).run Try.prog w = .ok (.int .i64 e0) w := fun _ => by kernel_rfl
      have ix1 : ∀ w, (Instr.index 56 (.agg #[.int .i64 e0, .int .i64 e1, .int .i64 e2]) (.int .i64 1)).run Try.prog w = .ok (.int .i64 e1) w := fun _ => by kernel_rfl
      have ix2 : ∀ w, (Instr.index 56 (.agg #[.int .i64 e0, .int .i64 e1, .int .i64 e2]) (.int .i64 2)).run Try.prog w = .ok (.int .i64 e2) w := fun _ => by kernel_rfl
      go_wp2_with fail
      refine wp_loop_rounds 4 ?_
      rw [rounds_succ]
      go_wp2_with fail
      refine (sput1 (w.heap.size + 2) v _ e0 wr HX.out.own HX.out.le (by have := HX.out.len; omega) he00 he01).mono ?_
      rintro e w8 hE
      obtain ⟨v8, rfl, HS8⟩ := HX.out.step hE
      clear hE
      go_wp2_with fail
      rw [rounds_succ]
      go_wp2_with fail
      refine (sput1 (w.heap.size + 2) v8 _ e1 w8 HS8.out.own HS8.out.le (by have := HS8.out.len; omega) he10 he11).mono ?_
      rintro e w9 hE
      obtain ⟨v9, rfl, HS9⟩ := HS8.out.step hE
      clear hE
      go_wp2_with fail
      rw [rounds_succ]
      go_wp2_with fail
      refine (sput1 (w.heap.size + 2) v9 _ e2 w9 HS9.out.own HS9.out.le (by have := HS9.out.len; omega) he20 he21).mono ?_
      rintro e w10 hE
      obtain ⟨v10, rfl, HS10⟩ := HS9.out.step hE
      clear hE
      go_wp2_with fail
      rw [rounds_succ]
      go_wp2_with fail
      go_ret
      refine ⟨v10, rfl, ?_, HB0.out.trans (HS10.out.bel.mono (by omega))⟩
      rw [← hD.out, ← List.append_assoc, ← List.append_assoc]
      exact HS10.out.own.lower (by omega)
    obtain ⟨j, hj⟩ : ∃ j : Nat, j + k + 2 = n := ⟨n - 2 - k, by omega⟩
    obtain rfl : I = (j : Int) := by omega
    obtain ⟨a0, a1, -⟩ := hat.out wr (by rw [hZ.out]; exact HX.out.bel) j (by omega)
    have hsucc := Lib.hid (ackS_succ L 3 d ((n - 1 : Nat) : Int) k (by rw [hn.out]; omega))
    have hb1 := AscI.at_ hF.out.asc j (by rw [hn.out]; omega)
    have hb2 := AscI.bd (by omega) hF.out.asc j (by rw [hn.out]; omega)
    have hb3 := AscI.bd (by omega) hF.out.asc (j + 1) (by rw [hn.out]; omega)
    rw [hn.out, show n - 1 - k = j + 1 by omega, show n - 2 - k = j by omega] at hsucc
    rw [show n - 1 - k = j + 1 by omega] at hr0
    obtain ⟨s0, hs0⟩ : ∃ x, Hid ((L.getD j (0, 0)).1 = x) := ⟨_, Lib.hid rfl⟩
    obtain ⟨s1, hs1⟩ : ∃ x, Hid ((L.getD j (0, 0)).2 = x) := ⟨_, Lib.hid rfl⟩
    rw [hs0.out, hs1.out, hr0.out] at hsucc
    rw [hs0.out, hs1.out] at hb2
    rw [hr0.out] at hb3
    rw [hs1.out, hr0.out] at hb1
    rw [hs0.out] at a0
    rw [hs1.out] at a1
    obtain ⟨hb2a, hb2b, hb2c⟩ := hb2
    have hb3a : r0 ≤ 4611686018427387903 := by omega
    clear hb3 hI hr0
    have i1 : (j : Int) < (n : Int) := by omega
    obtain ⟨X, hX⟩ : ∃ X, Hid (wr.alloc (.cells #[.int .i64 s0, .int .i64 s1] 47 (0, 0)) = X) := ⟨_, Lib.hid rfl⟩
    have HX2 : Hid (Sp W0 w.heap.size (.cells #[.int .i64 x0, .int .i64 x1] 47 (0, 0)) (.cells #[.int .i64 e0, .int .i64 e1, .int .i64 e2] 56 (0, 0)) (X.drewN 1) v (ackS L 3 d ((n - 1 : Nat) : Int) k) (33 + 16 * k)) := by show Sp _ _ _ _ _ _ _ _; rw [← hX.out]; exact (HX.out.alloc _).drewN 1
    have HP : Hid ((X.drewN 1).heap[wr.heap.size]? = some (.cells #[.int .i64 s0, .int .i64 s1] 47 (0, 0))) := by show X.heap[wr.heap.size]? = _; rw [← hX.out]; exact heap_alloc_new _ _
    have hoff := Lib.hid HX.out.off
    have hszw : Hid (w.heap.size + 2 ≤ wr.heap.size) := HX.out.le
    go_wp2_with fail
    rw [hX.out]
    have g1 : IntKind.i64.wrap (r0 - s1) = r0 - s1 := IntWalk.i64_in _ (by omega)
    have g2 : IntKind.i64.wrap (r0 - s1 - 1) = r0 - s1 - 1 := IntWalk.i64_in _ (by omega)
    have g3 : IntKind.i64.wrap (s1 - s0) = s1 - s0 := IntWalk.i64_in _ (by omega)
    have g4 : IntKind.i64.wrap (s1 - s0 - 1) = s1 - s0 - 1 := IntWalk.i64_in _ (by omega)
    have pc := pair_cells HP.out
    go_region_held3 (fun w' => w'.cell? ⟨wr.heap.size, 0, none⟩ = some (.int .i64 s0) ∧ w'.cell? ⟨wr.heap.size, 1, none⟩ = some (.int .i64 s1)) (first | exact pc | exact pair_cells (hE1.keep HP.out hoff.out) | exact pair_cells (hE1.keep2 hE2 HP.out hoff.out)) ((first | (go_simp; go_at_call_of 68 v; (refine (sput1 (w.heap.size + 2) v (ackS L 3 d ((n - 1 : Nat) : Int) k) (r0 - s1 - 1) _ (by exact HX2.out.own) (by exact HX2.out.le) (by have := HX2.out.len; omega) (by omega) (by omega)).mono ?_); rintro e w8 hE1; obtain ⟨v8, rfl, HS8⟩ := HX2.out.step hE1) | (go_simp; go_at_call_of 68 v8; (refine (sput1 (w.heap.size + 2) v8 (ackS L 3 d ((n - 1 : Nat) : Int) k ++ enc (r0 - s1 - 1)) (s1 - s0 - 1) _ (by exact HS8.out.own) (by exact HS8.out.le) (by have := HS8.out.len; omega) (by omega) (by omega)).mono ?_); rintro e w9 hE2; obtain ⟨v9, rfl, HS9⟩ := HS8.out.step hE2)))
    clear pc g1 g2 g3 g4
    obtain ⟨pc0, pc1⟩ := pair_cells (hE1.keep2 hE2 HP.out hoff.out)
    rw [← hsucc.out] at HS9
    clear hE1 hE2 HS8
    go_wp2_with fail
    go_roundw
    case rel => exact ⟨k + 1, (j : Int) - 1, s0, v9, rfl, by omega, by go_num, by omega, rfl, by show _ = _; rw [show n - 1 - (k + 1) = j by omega]; exact hs0.out, by rw [show 33 + 16 * (k + 1) = 33 + 16 * k + 8 + 8 by omega]; exact HS9⟩
    case measure => simp [intOf]

theorem sput (A : Option Addr) (n c : Nat) (L : Rgs) (d e0 e1 e2 : Int) (w : World) (hr : RdE EPr w A L) (hn : Hid (L.length = n)) (hF : Hid (AckedF L d e0 e1 e2)) :
    Calls Try.prog 43 #[.slice A n c, .int .i64 d, .agg #[.int .i64 e0, .int .i64 e1, .int .i64 e2]] w fun e w' => MadeEnd w (ackW (topR L) (below_ L) d e0 e1 e2) e w' := by
  by_cases hz : e0 = 0 ∧ e1 = 0 ∧ e2 = 0
  · obtain ⟨rfl, rfl, rfl⟩ := hz
    exact sput_2 A n c L d w hr hn hF
  · exact sput_3 A n c L d e0 e1 e2 hz w hr hn hF

end Go.Proofs.Ytdogepkfgobcfaa

/- The walk of FnAckComesBack. Conditions: none. -/
import Derived.Test.YtdogepkfgobcfaaAckWrittenLaw
import Derived.Test.YtdogepkfgobcfaaAckImpl
import Derived.Test.YtdogepkfgobcfaaCop
import Derived.Deep.Cut
namespace Go.Proofs.Ytdogepkfgobcfaa
open Go.RowKit
set_option linter.unusedVariables false

theorem back_get (L : Rgs) (k i : Nat) (hk : k + 1 ≤ L.length) (hi : i < k + 1) : (topR L :: (below_ L).take k).getD i (0, 0) = L.getD (L.length - 1 - i) (0, 0) := by
  cases i with
  | zero => rfl
  | succ i =>
    have hb := below_get L i (by omega)
    rw [List.getD_cons_succ]
    rw [show ((below_ L).take k).getD i (0, 0) = (below_ L).getD i (0, 0) by simp only [List.getD, List.getElem?_take, if_pos (show i < k by omega)], hb]
    simp [List.getD, List.getElem?_eq_getElem (show L.length - 1 - (i + 1) < L.length by omega)]
    congr 1
    omega
theorem getD_get {α : Type} (l : List α) (i : Nat) (h : i < l.length) (d : α) : l[i] = l.getD i d := by simp [List.getD, List.getElem?_eq_getElem h]

theorem run_neq3_same (x y z : Int) (w : World) : (binOp .neq 56 (.agg #[.int .i64 x, .int .i64 y, .int .i64 z]) (.agg #[.int .i64 x, .int .i64 y, .int .i64 z])).run Try.prog w = .ok (.bool false) w := by
  rw [run_neq_struct]
  have := run_equalIn_i64s w 9998 56 3 Try.underlying56 [x, y, z] [x, y, z] rfl rfl
  simp only [i64s, List.map_cons, List.map_nil] at this
  rw [this]
  simp

/-- What FnAckComesBack's variables hold. -/
structure Bx (h : Nat) (A : Option Addr) (n c : Nat) (d e0 e1 e2 : Int) (w : World) : Prop where
  b0 : w.heap[h]? = some (.cells #[.slice A n c] 45 (0, 0))
  b1 : w.heap[h + 1]? = some (.cells #[.int .i64 d] 2 (0, 0))
  b2 : w.heap[h + 1 + 1]? = some (.cells #[.int .i64 e0, .int .i64 e1, .int .i64 e2] 56 (0, 0))
theorem Bx.below {h : Nat} {A : Option Addr} {n c : Nat} {d e0 e1 e2 : Int} {w w' : World} (b : Bx h A n c d e0 e1 e2 w) (hb : Below w.heap.size w w') : Bx h A n c d e0 e1 e2 w' :=
  ⟨(hb.block _ (cell_in b.b0)).trans b.b0, (hb.block _ (cell_in b.b1)).trans b.b1, (hb.block _ (cell_in b.b2)).trans b.b2⟩
theorem Bx.cells {h : Nat} {A : Option Addr} {n c : Nat} {d e0 e1 e2 : Int} {w : World} (b : Bx h A n c d e0 e1 e2 w) : w.cell? ⟨h, 0, none⟩ = some (.slice A n c) ∧ w.cell? ⟨h + 1, 0, none⟩ = some (.int .i64 d) ∧ w.cell? ⟨h + 1 + 1, 0, none⟩ = some (.int .i64 e0) ∧ w.cell? ⟨h + 1 + 1, 1, none⟩ = some (.int .i64 e1) ∧ w.cell? ⟨h + 1 + 1, 2, none⟩ = some (.int .i64 e2) := by
  refine ⟨?_, ?_, ?_, ?_, ?_⟩
  · rw [cell_of_row _ _ 0 _ _ (0, 0) b.b0]; rfl
  · rw [cell_of_row _ _ 0 _ _ (0, 0) b.b1]; rfl
  · rw [cell_of_row _ _ 0 _ _ (0, 0) b.b2]; rfl
  · rw [cell_of_row _ _ 1 _ _ (0, 0) b.b2]; rfl
  · rw [cell_of_row _ _ 2 _ _ (0, 0) b.b2]; rfl

set_option maxRecDepth 100000 in
set_option maxHeartbeats 1000000 in
/-- The closure: there is room in a larger packet. -/
theorem acb_clo (h : Nat) (A : Option Addr) (n c : Nat) (L : Rgs) (d e0 e1 e2 : Int) (w : World) (b : Bx h A n c d e0 e1 e2 w) (hr : RdE EPr w A L) (hn : Hid (L.length = n)) (hF : Hid (AckedF L d e0 e1 e2)) :
    Calls Try.prog 44 #[.pointer (some ⟨h, 0, none⟩), .pointer (some ⟨h + 1, 0, none⟩), .pointer (some ⟨h + 1 + 1, 0, none⟩)] w fun e w' => e = .returned (.bool true) ∧ Hid (Below w.heap.size w w') := by
  obtain ⟨q0, q1, q2, q3, q4⟩ := b.cells
  have HR := Lib.hid hr
  clear hr b
  go_enter Try.func44, Try.ntmps44
  go_wp2_with fail
  refine (iput A n c L d e0 e1 e2 10000 w HR.out hn hF.out (by omega)).mono ?_
  rintro e w1 ⟨hb, h⟩
  rcases h with ⟨h100, -⟩ | ⟨k, A1, N, c1, hk, rfl, -⟩
  · omega
  have HB := Lib.hid hb
  clear hb q0 q1 q2 q3 q4 hk
  go_wp2_with fail
  go_ret
  exact ⟨rfl, HB⟩

set_option maxRecDepth 100000 in
set_option maxHeartbeats 1000000 in
theorem acb_big (A A' : Option Addr) (n c n' c' : Nat) (d e0 e1 e2 sz : Int) (w : World) (hn : 2147483647 < n ∨ 2147483647 < n') (hn2 : n ≤ 9223372036854775807) (hn2' : n' ≤ 9223372036854775807) :
    Calls Try.prog 13 #[.slice A n c, .int .i64 d, .agg #[.int .i64 e0, .int .i64 e1, .int .i64 e2], .int .i64 sz, .slice A' n' c'] w fun e w' => e = .returned (.bool true) ∧ Below w.heap.size w w' := by
  by_cases h : 2147483647 < n
  · go_enter Try.func13, Try.ntmps13
    go_wp2
    go_ret
    exact ⟨rfl, (((Below.refl _ _).alloc (Nat.le_refl _) _).alloc (by simp) _).alloc (by simp; omega) _⟩
  · have h' : 2147483647 < n' := by omega
    go_enter Try.func13, Try.ntmps13
    go_wp2
    go_ret
    exact ⟨rfl, (((Below.refl _ _).alloc (Nat.le_refl _) _).alloc (by simp) _).alloc (by simp; omega) _⟩

set_option maxRecDepth 100000 in
set_option maxHeartbeats 4000000 in
theorem acb_in (A A' : Option Addr) (n c n' c' : Nat) (L : Rgs) (d e0 e1 e2 sz : Int) (l' : List Int) (w : World) (hr : RdE EPr w A L) (hn : Hid (L.length = n)) (hn2 : n ≤ 2147483647) (hr' : Rd w A' l') (hn' : Hid (l'.length = n')) (hn2' : n' ≤ 2147483647) (hz' : Hid (A' = none → c' = 0)) :
    Calls Try.prog 13 #[.slice A n c, .int .i64 d, .agg #[.int .i64 e0, .int .i64 e1, .int .i64 e2], .int .i64 sz, .slice A' n' c'] w fun e w' => e = .returned (.bool true) ∧ Below w.heap.size w w' := by
  obtain ⟨W0, hW0⟩ : ∃ W0, Hid (((w.alloc (.cells #[.slice A n c] 45 (0, 0))).alloc (.cells #[.int .i64 d] 2 (0, 0))).alloc (.cells #[.int .i64 e0, .int .i64 e1, .int .i64 e2] 56 (0, 0)) = W0) := ⟨_, Lib.hid rfl⟩
  have HB0 : Hid (Below w.heap.size w W0) := by show Below _ _ _; rw [← hW0.out]; exact (((Below.refl _ _).alloc (Nat.le_refl _) _).alloc (by simp) _).alloc (by simp; omega) _
  have HQ : Hid (Bx w.heap.size A n c d e0 e1 e2 W0) := by
    show Bx _ _ _ _ _ _ _ _ _
    rw [← hW0.out]
    have k0 := heap_alloc_new w (.cells #[.slice A n c] 45 (0, 0))
    have k1 := heap_alloc_new (w.alloc (.cells #[.slice A n c] 45 (0, 0))) (.cells #[.int .i64 d] 2 (0, 0))
    have k2 := heap_alloc_new ((w.alloc (.cells #[.slice A n c] 45 (0, 0))).alloc (.cells #[.int .i64 d] 2 (0, 0))) (.cells #[.int .i64 e0, .int .i64 e1, .int .i64 e2] 56 (0, 0))
    have z1 : (w.alloc (.cells #[.slice A n c] 45 (0, 0))).heap.size = w.heap.size + 1 := by simp
    have z2 : ((w.alloc (.cells #[.slice A n c] 45 (0, 0))).alloc (.cells #[.int .i64 d] 2 (0, 0))).heap.size = w.heap.size + 1 + 1 := by simp
    rw [z1] at k1
    rw [z2] at k2
    exact ⟨(heap_alloc_old _ _ (by simp; omega)).trans ((heap_alloc_old _ _ (by simp)).trans k0), (heap_alloc_old _ _ (by simp)).trans k1, k2⟩
  have HR : Hid (RdE EPr W0 A L) := hr.below HB0.out
  have HR' : Hid (Rd W0 A' l') := hr'.below HB0.out
  clear hr hr'
  go_enter Try.func13, Try.ntmps13
  go_wp2_with fail
  rw [hW0.out]
  refine (acked_ A n c L d e0 e1 e2 W0 HR.out hn hn2).mono ?_
  rintro e w1 ⟨ok, rfl, H1⟩
  obtain ⟨hok, hb1⟩ := H1.out
  have HK := Lib.hid hok
  have HB1 := Lib.hid (HB0.out.trans (hb1.mono HB0.out.size))
  have HR1 := Lib.hid (HR.out.below hb1)
  have HR1' := Lib.hid (HR'.out.below hb1)
  have HQ1 := Lib.hid (HQ.out.below hb1)
  clear H1 hok hb1
  cases ok
  · go_wp2_with fail
    go_ret
    exact ⟨rfl, HB1.out⟩
  have HF := Lib.hid (HK.out rfl)
  by_cases hs0 : sz < 0
  · go_wp2_with fail
    go_ret
    exact ⟨rfl, HB1.out⟩
  by_cases hs1 : 10000 < sz
  · go_wp2_with fail
    go_ret
    exact ⟨rfl, HB1.out⟩
  obtain ⟨lim, rfl⟩ : ∃ lim : Nat, sz = lim := ⟨sz.toNat, by omega⟩
  have hlim : lim ≤ 10000 := by omega
  have hn64 : 1 ≤ n ∧ n ≤ 64 := by rw [← hn.out]; exact ⟨HF.out.pos, HF.out.le⟩
  obtain ⟨q0, q1, q2, q3, q4⟩ := HQ1.out.cells
  go_wp2_with fail
  refine (iput A n c L d e0 e1 e2 lim w1 HR1.out hn HF.out (by omega)).mono ?_
  rintro e w2 ⟨hb2, h⟩
  have HB2 := Lib.hid (HB1.out.trans (hb2.mono HB1.out.size))
  have HR2 := Lib.hid (HR1.out.below hb2)
  have HR2' := Lib.hid (HR1'.out.below hb2)
  have HQ2 := Lib.hid (HQ1.out.below hb2)
  clear hb2 q0 q1 q2 q3 q4
  rcases h with ⟨h100, A2, c2, rfl⟩ | ⟨k, A2, N, c2, hk, rfl, ho, hN, hle, hfull⟩
  · go_wp2_with fail
    refine (acb_clo w.heap.size A n c L d e0 e1 e2 w2 HQ2.out HR2.out hn HF.out).mono ?_
    rintro e w3 ⟨rfl, hb3⟩
    go_wp2_with fail
    go_ret
    exact ⟨rfl, HB2.out.trans (hb3.out.mono HB2.out.size)⟩
  have hz2 : Hid (A2 = none → c2 = 0) := by
    obtain ⟨A3, c3, e3, _, _, _, hz⟩ := ho.rd
    obtain ⟨rfl, _, rfl⟩ : A2 = A3 ∧ _ ∧ c2 = c3 := by simpa using e3
    exact fun h => (hz h).2
  obtain ⟨tf0, tf1, tf2, tf3⟩ := top_facts (by rw [hn.out]; exact hn64.1) HF.out.asc
  have hP := Lib.hid (ackP_put (topR L) ((below_ L).take k) d e0 e1 e2 l' ⟨tf0, tf1, tf2⟩ (tf3.take k) (by rw [List.length_take]; rw [hn.out] at hk; omega) HF.out.d HF.out.e0 HF.out.e1 HF.out.e2)
  have hX1 : Hid (1 ≤ (ackW (topR L) ((below_ L).take k) d e0 e1 e2).length) := by show _ ≤ _; simp [ackW]
  obtain ⟨m, hm⟩ : ∃ m, Hid (k + 1 = m) := ⟨_, Lib.hid rfl⟩
  obtain ⟨R, hRd⟩ : ∃ R, Hid (topR L :: (below_ L).take k = R) := ⟨_, Lib.hid rfl⟩
  have hRm : Hid (R.length = m) := by show _ = _; rw [← hRd.out, List.length_cons, List.length_take, below_len, ← hm.out]; omega
  have hback : Hid (∀ q, q < m → R.getD q (0, 0) = L.getD (n - 1 - q) (0, 0)) := fun q hq => by
    rw [← hRd.out, ← hn.out]
    exact back_get L k q hk (by have := hm.out; omega)
  have hmn : m ≤ n := by rw [← hm.out, ← hn.out]; exact hk
  have hm1 : 1 ≤ m := by rw [← hm.out]; omega
  have hful : Hid (10000 ≤ lim → m = n) := fun h => by rw [← hm.out, ← hn.out]; exact hfull h
  rw [hRd.out] at hP
  obtain ⟨x1, hx1⟩ : ∃ x, Hid ((topR L).2 = x) := ⟨_, Lib.hid rfl⟩
  rw [hx1.out] at hP tf1 tf2
  have hx1b : 1 ≤ x1 ∧ x1 ≤ 4611686018427387903 := by omega
  have htop : Hid ((L.getD (n - 1) (0, 0)).2 = x1) := by show _ = _; rw [← hx1.out]; unfold topR; rw [hn.out]
  obtain ⟨X, hXX⟩ : ∃ X, Hid (ackW (topR L) ((below_ L).take k) d e0 e1 e2 = X) := ⟨_, Lib.hid rfl⟩
  rw [hXX.out] at hP ho hN hX1
  have HO := Lib.hid ho
  have HN : Hid (X.length = N) := hN
  have hN1 : 1 ≤ N := by rw [← hN]; exact hX1.out
  clear ho hN hk hfull hXX tf0 tf1 tf2 tf3 hm hX1
  go_wp2_with fail
  refine (cop A2 N c2 X A' n' c' l' w2 (Rd.of_own HO.out) HN hz2.out HR2'.out hn' hz'.out (by omega) (by omega)).mono ?_
  rintro e w3 ⟨s3, rfl, ho3, hb3⟩
  obtain ⟨M, hM⟩ : ∃ M, Hid ((X ++ l').length = M) := ⟨_, Lib.hid rfl⟩
  have hMN : N + n' ≤ M ∧ M ≤ N + n' := by rw [← hM.out, List.length_append, HN.out, hn'.out]; omega
  obtain ⟨g3, c3, rfl⟩ := ho3.nonempty (by rw [hM.out]; omega)
  have hf3 : g3 < w3.heap.size ∧ M ≤ c3 ∧ c3 ≤ 9223372036854775807 := by
    rcases ho3.form with ⟨h, _⟩ | ⟨g, cc, h, _, h2, h3, h4⟩
    · cases h
    · obtain ⟨rfl, rfl⟩ : g3 = g ∧ c3 = cc := by simpa using h
      unfold maxLen at h4
      rw [hM.out] at h3
      exact ⟨h2, h3, by omega⟩
  rw [hM.out] at ho3 ⊢
  have HR3a := Lib.hid (Rd.of_own ho3)
  obtain ⟨y, hy⟩ : ∃ y, Hid ((X ++ l').getD 0 0 = y) := ⟨_, Lib.hid rfl⟩
  have hyb := ho3.bs.getD 0
  rw [hy.out] at hyb
  have HB3 := Lib.hid (HB2.out.trans (hb3.mono HB2.out.size))
  have HR3 := Lib.hid (HR2.out.below hb3)
  have HQ3 := Lib.hid (HQ2.out.below hb3)
  clear ho3 hb3
  go_wp2_with fail
  refine (iack g3 0 M c3 (X ++ l') w3 HR3a.out hM hf3.2.1 hf3.2.2 (by omega) (by omega) hf3.1 y hy hyb.1 hyb.2).mono ?_
  rintro e w4 ⟨hb4, h4⟩
  rcases h4 with ⟨hnone, -⟩ | ⟨r, A4, c4, hsome, he, ho4⟩
  · rw [hP.out] at hnone; cases hnone
  rw [hP.out] at hsome
  obtain rfl := Option.some.inj hsome
  simp only at he ho4
  rw [hRm.out] at he ho4
  rw [HN.out] at he
  subst he
  obtain ⟨ob, hob⟩ : ∃ ob, ob = (Obj.cells #[.int .i64 e0, .int .i64 e1, .int .i64 e2] 56 (0, 0)) := ⟨_, rfl⟩
  have hba : Below w4.heap.size w4 (w4.alloc ob) := (Below.refl _ _).alloc (Nat.le_refl _) _
  have HB4 := Lib.hid ((HB3.out.trans (hb4.mono HB3.out.size)).alloc (Nat.le_trans HB3.out.size hb4.size) ob)
  have HR4 := Lib.hid ((HR3.out.below hb4).below hba)
  have HQ4 := Lib.hid ((HQ3.out.below hb4).below hba)
  have HG4 := Lib.hid (ho4.rdE.below hba)
  obtain ⟨b, o, rfl, hc⟩ := HR4.out (by rw [hn.out]; omega)
  have hnl : n - 1 < L.length := by rw [hn.out]; omega
  obtain ⟨a0, a1⟩ := rg_cells rfl rfl hc (n - 1) hnl
  rw [getD_get L (n - 1) hnl (0, 0)] at a0 a1
  rw [htop.out] at a1
  obtain ⟨q0, q1, q2, q3, q4⟩ := HQ4.out.cells
  rw [hob] at a1 q0 q1 q2 q3 q4 HB4 HR4 HQ4 HG4
  obtain ⟨w5, HD4⟩ : ∃ w5, Hid (w5 = w4.alloc (.cells #[.int .i64 e0, .int .i64 e1, .int .i64 e2] 56 (0, 0))) := ⟨_, Lib.hid rfl⟩
  have en1 : (n : Int) - 1 = ((n - 1 : Nat) : Int) := by omega
  have hn1 : n - 1 < n := by omega
  have f1 : ((m : Int) == 0) = false := by simp; omega
  have f2 : ¬ (n : Int) < (m : Int) := by omega
  have f3 : ¬ (lim : Int) < (N : Int) := by omega
  have hneq := run_neq3_same e0 e1 e2
  clear hc hnl a0 hba hob hb4 ho4 hsome
  go_wp2_with fail
  clear q0 q1 q2 q3 q4 a1 en1 hn1 hneq f1 f2 f3
  rw [← HD4.out] at HB4 HR4 HQ4 HG4 ⊢
  go_loopw [118] (fun i wr => ∃ q : Nat, q ≤ m ∧ i = .int .i64 q ∧ Hid (Bx w.heap.size (some ⟨b, o, none⟩) n c d e0 e1 e2 wr) ∧ Hid (RdE EPr wr (some ⟨b, o, none⟩) L) ∧ Hid (RdE EPr wr A4 R) ∧ Hid (Below w.heap.size w wr)) (fun i _ => m - (intOf i).toNat)
  case atStart => exact ⟨0, by omega, rfl, HQ4, HR4, HG4, HB4⟩
  case round =>
    clear HB4 HR4 HQ4 HG4
    obtain ⟨q, hq, rfl, HQ5, HR5, HG5, HB5⟩ := hrel
    by_cases hlt : q < m
    · have hqR : q < R.length := by rw [hRm.out]; exact hlt
      obtain ⟨g, o4, rfl, hc4⟩ := HG5.out (by omega)
      obtain ⟨d0, d1⟩ := rg_cells rfl rfl hc4 q hqR
      obtain ⟨j, hj⟩ : ∃ j : Nat, j + q + 1 = n := ⟨n - 1 - q, by omega⟩
      have hjL : j < L.length := by rw [hn.out]; omega
      obtain ⟨b', o', hbo, hc5⟩ := HR5.out (by omega)
      obtain ⟨rfl, rfl⟩ : b = b' ∧ o = o' := by simpa using hbo
      obtain ⟨t0, t1⟩ := rg_cells rfl rfl hc5 j hjL
      rw [getD_get R q hqR (0, 0), hback.out q hlt, show n - 1 - q = j by omega] at d0 d1
      rw [getD_get L j hjL (0, 0)] at t0 t1
      obtain ⟨y0, hy0⟩ : ∃ x, x = (L.getD j (0, 0)).1 := ⟨_, rfl⟩
      obtain ⟨y1, hy1⟩ : ∃ x, x = (L.getD j (0, 0)).2 := ⟨_, rfl⟩
      rw [← hy0] at d0 t0
      rw [← hy1] at d1 t1
      obtain ⟨X5, hX5⟩ : ∃ X5, Hid (wr.alloc (.cells #[.int .i64 y0, .int .i64 y1] 47 (0, 0)) = X5) := ⟨_, Lib.hid rfl⟩
      have hb5 : Below wr.heap.size wr X5 := by rw [← hX5.out]; exact (Below.refl _ _).alloc (Nat.le_refl _) _
      have u0 := (hb5.cell (p := ⟨b, o + j * 2, none⟩) (World.block_lt_of_cell? _ _ t0)).trans t0
      have u1 := (hb5.cell (p := ⟨b, o + j * 2 + 1, none⟩) (World.block_lt_of_cell? _ _ t1)).trans t1
      have HQ6 := Lib.hid (HQ5.out.below hb5)
      have HR6 := Lib.hid (HR5.out.below hb5)
      have HG6 := Lib.hid (HG5.out.below hb5)
      have HB6 : Hid (Below w.heap.size w X5) := by show Below _ _ _; rw [← hX5.out]; exact HB5.out.alloc HB5.out.size _
      have v0 := (HQ6.out.cells).1
      have hX6 : X5.heap[wr.heap.size]? = some (.cells #[.int .i64 y0, .int .i64 y1] 47 (0, 0)) := by rw [← hX5.out]; exact heap_alloc_new _ _
      obtain ⟨v1, v2⟩ := pair_cells hX6
      have hj1 : IntKind.i64.wrap ((n : Int) - 1) = (n : Int) - 1 := IntWalk.i64_in _ (by omega)
      have hj2 : (n : Int) - 1 - (q : Int) = (j : Int) := by omega
      have hj3 : IntKind.i64.wrap (j : Int) = (j : Int) := IntWalk.i64_in _ (by omega)
      have hj4 : (j : Int) < (n : Int) := by omega
      have hns := run_neq_same y0 y1
      clear hc4 hc5 hy0 hy1 hqR hjL hbo hX6 hb5 t0 t1
      go_upto_region 14 with fail
      rw [hX5.out]
      go_quiet (fail)
      clear hns hj1 hj2 hj3 u0 u1 v0 v1 v2
      go_wp2_with fail
      go_roundw
      case rel => exact ⟨q + 1, by omega, by go_num, ⟨HQ6.out.b0, HQ6.out.b1, HQ6.out.b2⟩, HR6.out.drewN nq, HG6.out.drewN nq, below_drewN HB6.out nq⟩
      case measure => simp [intOf]; omega
    · obtain rfl : q = m := by omega
      by_cases hl : lim < 10000
      · go_wp2_with fail
        go_ret
        exact ⟨rfl, HB5.out⟩
      · have hqn := hful.out (by omega)
        subst hqn
        have v0 := (HQ5.out.cells).1
        go_wp2_with fail
        go_ret
        exact ⟨rfl, HB5.out⟩

theorem fnAckComesBack_walk (A : Option Addr) (l : Rgs) (c : Nat) (d : Int) (hd : -9223372036854775808 ≤ d ∧ d ≤ 9223372036854775807) (x y z : Int) (sz : Int) (hsz : -9223372036854775808 ≤ sz ∧ sz ≤ 9223372036854775807) (A' : Option Addr) (l' : List Int) (c' : Nat) (w : World) (h : PairsArg w A l c) (hx : I64 x) (hy : I64 y) (hz : I64 z) (h' : ByteArg w A' l' c') :
    Calls Try.prog 13 #[.slice A l.length c, .int .i64 d, .agg #[.int .i64 x, .int .i64 y, .int .i64 z], .int .i64 sz, .slice A' l'.length c'] w fun e w' => e = .returned (.bool true) ∧ Below w.heap.size w w' := by
  have h1 := h.le
  have h2 := h.max
  have h1' := h'.le
  have h2' := h'.max
  unfold maxLen at h2 h2'
  by_cases hb : 2147483647 < l.length ∨ 2147483647 < l'.length
  · exact acb_big A A' _ c _ c' d x y z sz w hb (by omega) (by omega)
  · exact acb_in A A' _ c _ c' l d x y z sz l' w h.rd rfl (by omega) h'.rd rfl (by omega) fun e => (h'.nil e).2

end Go.Proofs.Ytdogepkfgobcfaa

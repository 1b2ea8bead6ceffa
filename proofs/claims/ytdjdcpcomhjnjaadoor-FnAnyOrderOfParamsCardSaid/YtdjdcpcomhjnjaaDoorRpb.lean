/- ZZReadParams, impl.ReadParams. Conditions: the variables of netip read as told. -/
import Derived.Test.YtdjdcpcomhjnjaaDoorRpa
import Derived.Test.YtdjdcpcomhjnjaaDoorUmg
import Derived.Test.YtdjdcpcomhjnjaaDoorClone
namespace Go.Proofs.YtdjdcpcomhjnjaaDoor
open Go.RowKit
set_option linter.unusedVariables false
set_option linter.unusedSimpArgs false

/-- The numbers that are turned. -/
structure Bd (S : SP) : Prop where
  i0 : 0 ≤ S.idle
  i1 : S.idle ≤ 4294967296
  d0 : 0 ≤ S.ad
  d1 : S.ad ≤ 16384
  e0 : 0 ≤ S.ae
  e1 : S.ae ≤ 20
theorem Bd.usual : Bd usual := ⟨by decide, by decide, by decide, by decide, by decide, by decide⟩
theorem num_bds {v : List Int} (hv : Bs v) : 0 ≤ num v ∧ num v ≤ 4611686018427387903 := by
  unfold num
  split
  · omega
  · rename_i h
    have := rv_bd hv h
    omega
theorem Bd.ite {p : Prop} [Decidable p] {A B : SP} (ha : Bd A) (hb : Bd B) : Bd (if p then A else B) := by
  by_cases h : p
  · rw [if_pos h]; exact ha
  · rw [if_neg h]; exact hb
theorem Bd.updI {S : SP} {id : Int} {v : List Int} (h : Bd S) (hv : Bs v) (hk : iok id v) : Bd (updI S id v) := by
  obtain ⟨b0, b1⟩ := num_bds hv
  obtain ⟨i0, i1, d0, d1, e0, e1⟩ := h
  unfold Go.Proofs.YtdjdcpcomhjnjaaDoor.updI
  split
  · exact ⟨Int.le_refl 0, by show (0 : Int) ≤ _; omega, d0, d1, e0, e1⟩
  · rename_i hi
    by_cases h1 : id = 1
    · subst h1
      exact ⟨b0, by simp at hi; exact hi, d0, d1, e0, e1⟩
    by_cases h10 : id = 10
    · subst h10
      have := (hk.2.2.2 (by unfold isNum; omega)).2
      simp [rng] at this
      exact ⟨i0, i1, d0, d1, b0, this⟩
    by_cases h11 : id = 11
    · subst h11
      have := (hk.2.2.2 (by unfold isNum; omega)).2
      simp [rng] at this
      exact ⟨i0, i1, b0, by show num v ≤ _; omega, e0, e1⟩
    unfold upd pref
    rw [if_neg h1, if_neg h10, if_neg h11]
    repeat' (first | exact ⟨i0, i1, d0, d1, e0, e1⟩ | refine Bd.ite ?_ ?_)
theorem pstep_bs {l : List Int} (hl : Bs l) {k : Nat} {id : Int} {v : List Int} {k' : Nat} (h : pstep l k = some (id, v, k')) : Bs v := by
  unfold pstep at h
  split at h
  · cases h
  · split at h
    · cases h
    · rename_i hr
      obtain ⟨rfl, rfl, rfl⟩ : _ ∧ _ ∧ _ := by simpa using h
      exact (rvb_bd (hl.drop _) hr).2.2.2
theorem Path.bs {l : List Int} (hl : Bs l) : ∀ {ps : List (Int × List Int)} {j k : Nat}, Path l j ps k → ∀ p ∈ ps, Bs p.2
  | [], _, _, _, p, hp => absurd hp (by simp)
  | (id, v) :: ps, j, k, ⟨j', h1, h2⟩, p, hp => by
    rcases List.mem_cons.1 hp with rfl | hp
    · exact pstep_bs hl h1
    · exact h2.bs hl p hp
theorem bd_fold : ∀ {ps : List (Int × List Int)} {S : SP}, Bd S → (∀ p ∈ ps, Bs p.2) → (∀ p ∈ ps, iok p.1 p.2) → Bd (foldI S ps)
  | [], S, h, _, _ => h
  | p :: ps, S, h, hb, hk => bd_fold (ps := ps) (h.updI (hb p (by simp)) (hk p (by simp))) (fun q hq => hb q (List.mem_cons_of_mem _ hq)) (fun q hq => hk q (List.mem_cons_of_mem _ hq))
theorem GoodI.bd {l : List Int} {S : SP} (hl : Bs l) (h : GoodI l S) : Bd S := by
  obtain ⟨ps, hp, hk, rfl⟩ := h
  exact bd_fold Bd.usual (hp.bs hl) hk
theorem ad4_pb {a4 : Addr} {A : PA} {v : List Int} {p : Int} (h : Ad4 a4 A v p) : 0 ≤ p ∧ p ≤ 65535 := by
  rcases h with ⟨_, _, rfl⟩ | ⟨_, _, _, _, _, h, _⟩
  · omega
  · exact h
theorem ad6_pb {a6 : Addr} {A : PA} {v : List Int} {p : Int} (h : Ad6 a6 A v p) : 0 ≤ p ∧ p ≤ 65535 := by
  rcases h with ⟨_, _, rfl⟩ | ⟨_, _, _, _, _, _, _, _, _, _, _, _, _, _, _, _, _, h, _⟩
  · omega
  · exact h

/-- bytes.Clone of any slice. -/
theorem cln (A : Option Addr) (n c : Nat) (l : List Int) (w : World) (hr : Rd w A l) (hn : Hid (l.length = n)) (hz : Hid (A = none → c = 0)) (hnc : n ≤ c) (hb : n ≤ 140737488355328) :
    Calls Tryd.prog 30 #[.slice A n c] w fun e w' => ∃ A' c', e = .returned (.slice A' n c') ∧ Hid (Rt w' (A', n, c') l ∧ Below w.heap.size w w' ∧ ∀ a, A' = some a → w.heap.size ≤ a.block) := by
  cases A with
  | none =>
    have h0 := hz.out rfl
    subst h0
    obtain rfl : n = 0 := by omega
    refine (clone_nil 0 0 w).mono ?_
    rintro e w' ⟨rfl, rfl⟩
    exact ⟨none, 0, rfl, ⟨hr, hn.out, by omega, by simp, fun _ => rfl⟩, Below.refl _ _, fun a h => by cases h⟩
  | some ad =>
    refine (clone_some ad n c l w hr hn hb).mono ?_
    rintro e w' ⟨⟨g, cap, rfl, ho, h1, h2⟩, hb'⟩
    exact ⟨_, _, rfl, ⟨Rd.of_own ho, hn.out, h1, h2, fun h => by cases h⟩, hb', fun a h => by obtain rfl : (⟨g, 0, none⟩ : Addr) = a := (by simpa using h); exact (ho.lt g rfl).1⟩

def qz : QP := ⟨(none, 0, 0), (none, 0, 0), (none, 0, 0), (none, 0, 0), 0, 0, 0, 0, 0, 0, 0, 0, 0, 0, false, (none, 0, 0), (none, 0, 0), 0, 0, (none, 0, 0), (none, 0, 0), 0⟩
/-- The frame of a call as a literal. -/
theorem lit_ofN (n : Nat) (a : Act) (hs : a.tmps.size = n) (hd : a.defers = []) : ∃ f : Nat → Value, (∀ i, i < n → a.tmps[i]? = some (f i)) ∧ a = ⟨((List.range n).map f).toArray, []⟩ := by
  obtain ⟨t, d⟩ := a
  simp only at hs hd
  subst hd
  refine ⟨fun i => t.getD i undef, fun i hi => ?_, ?_⟩
  · simp only [Array.getD_eq_getD_getElem?]
    rw [Array.getElem?_eq_getElem (by omega)]
    rfl
  · congr 1
    apply Array.ext
    · simp [hs]
    · intro i h1 h2
      simp [Array.getD_eq_getD_getElem?, h1]

set_option maxRecDepth 100000 in
theorem lit71 {a : Act} {R P : Nat} (hs : a.tmps.size = 71) (hd : a.defers = []) (h2 : a.tmps[2]? = some (.pointer (some ⟨R, 0, none⟩))) (h4 : a.tmps[4]? = some (.pointer (some ⟨P, 0, none⟩))) : ∃ f : Nat → Value, a = ⟨#[f 0, f 1, .pointer (some ⟨R, 0, none⟩), f 3, .pointer (some ⟨P, 0, none⟩), f 5, f 6, f 7, f 8, f 9, f 10, f 11, f 12, f 13, f 14, f 15, f 16, f 17, f 18, f 19, f 20, f 21, f 22, f 23, f 24, f 25, f 26, f 27, f 28, f 29, f 30, f 31, f 32, f 33, f 34, f 35, f 36, f 37, f 38, f 39, f 40, f 41, f 42, f 43, f 44, f 45, f 46, f 47, f 48, f 49, f 50, f 51, f 52, f 53, f 54, f 55, f 56, f 57, f 58, f 59, f 60, f 61, f 62, f 63, f 64, f 65, f 66, f 67, f 68, f 69, f 70], []⟩ := by
  obtain ⟨f, hf, e⟩ := lit_ofN 71 a hs hd
  have e2 := (hf 2 (by decide)).symm.trans h2
  have e4 := (hf 4 (by decide)).symm.trans h4
  simp only [Option.some.injEq] at e2 e4
  refine ⟨f, ?_⟩
  have hl : ((List.range 71).map f).toArray = #[f 0, f 1, f 2, f 3, f 4, f 5, f 6, f 7, f 8, f 9, f 10, f 11, f 12, f 13, f 14, f 15, f 16, f 17, f 18, f 19, f 20, f 21, f 22, f 23, f 24, f 25, f 26, f 27, f 28, f 29, f 30, f 31, f 32, f 33, f 34, f 35, f 36, f 37, f 38, f 39, f 40, f 41, f 42, f 43, f 44, f 45, f 46, f 47, f 48, f 49, f 50, f 51, f 52, f 53, f 54, f 55, f 56, f 57, f 58, f 59, f 60, f 61, f 62, f 63, f 64, f 65, f 66, f 67, f 68, f 69, f 70] := by kernel_rfl
  rw [e, hl, e2, e4]

theorem wp_lit71 {P : Program} {code : Code} {Q : Exit → Act → World → Prop} {a : Act} {w : World} {R P1 : Nat} (hs : a.tmps.size = 71) (hd : a.defers = []) (h2 : a.tmps[2]? = some (.pointer (some ⟨R, 0, none⟩))) (h4 : a.tmps[4]? = some (.pointer (some ⟨P1, 0, none⟩))) (h : ∀ f : Nat → Value, Code.wp P code Q ⟨#[f 0, f 1, .pointer (some ⟨R, 0, none⟩), f 3, .pointer (some ⟨P1, 0, none⟩), f 5, f 6, f 7, f 8, f 9, f 10, f 11, f 12, f 13, f 14, f 15, f 16, f 17, f 18, f 19, f 20, f 21, f 22, f 23, f 24, f 25, f 26, f 27, f 28, f 29, f 30, f 31, f 32, f 33, f 34, f 35, f 36, f 37, f 38, f 39, f 40, f 41, f 42, f 43, f 44, f 45, f 46, f 47, f 48, f 49, f 50, f 51, f 52, f 53, f 54, f 55, f 56, f 57, f 58, f 59, f 60, f 61, f 62, f 63, f 64, f 65, f 66, f 67, f 68, f 69, f 70], []⟩ w) : Code.wp P code Q a w := by
  obtain ⟨f, rfl⟩ := lit71 hs hd h2 h4
  exact h f

theorem res_zr (V : Array Value) (w : World) (p : Addr) (x y : Value) (hp : V[2]? = some (.pointer (some p))) (hy : V[3]? = some y) (hx : (loadVar 49 p).run Tryd.prog w = .ok x w) :
    (results Tryd.f21 V).run Tryd.prog w = .ok (.tuple #[x, y]) w := by
  unfold results
  rw [Tryd.results21]
  simp [hp, hy, hx, asAddr]
theorem res_ir (V : Array Value) (w : World) (p : Addr) (x y : Value) (hp : V[2]? = some (.pointer (some p))) (hy : V[3]? = some y) (hx : (loadVar 27 p).run Tryd.prog w = .ok x w) :
    (results Tryd.f8 V).run Tryd.prog w = .ok (.tuple #[x, y]) w := by
  unfold results
  rw [Tryd.results8]
  simp [hp, hy, hx, asAddr]
theorem load_zq (w : World) (g : Nat) (Q : QP) (h : w.heap[g]? = some (.cells Q.cells 49 (0, 0))) : (loadVar 49 ⟨g, 0, none⟩).run Tryd.prog w = .ok (.agg Q.cells) w :=
  run_loadVar_mid (P := Tryd.prog) _ _ _ 49 Q.cells.toList _ (range_row h) Tryd.underlying49 rfl size_zq
theorem load_iq (w : World) (g : Nat) (Q : QP) (h : w.heap[g]? = some (.cells Q.cells 27 (0, 0))) : (loadVar 27 ⟨g, 0, none⟩).run Tryd.prog w = .ok (.agg Q.cells) w :=
  run_loadVar_mid (P := Tryd.prog) _ _ _ 27 Q.cells.toList _ (range_row h) Tryd.underlying27 rfl size_iq
theorem there_tp (w : World) (T : TP) : (w.alloc (.cells T.cells 76 (0, 0))).there w.heap.size 0 26 := there_new w T _
theorem there_newq (w : World) (Q : QP) (t : TypeId) : (w.alloc (.cells Q.cells t (0, 0))).there w.heap.size 0 22 := there_row (heap_alloc_new w _) (Nat.le_refl 22)

theorem um_wp' (A : Option Addr) (n c : Nat) (l : List Int) (w : World) (a4 a6 : Addr) (hr : Rd w A l) (hn : Hid (l.length = n)) (hnc : n ≤ c) (hc2 : c ≤ 9223372036854775807) (hz : Hid (A = none → c = 0)) (hg : Gl w a4 a6) :
    Calls Tryd.prog 29 #[.slice A n c] w fun e w' => ∃ (T : TP) (y : Value), e = .returned (.tuple #[.agg T.cells, y]) ∧ Hid ((y = .nilIface ∧ ∃ S : SP, Tp w' a4 a6 T S ∧ GoodI l S) ∨ ∃ x, y = .iface 92 x ∧ BadI l) ∧ Hid (Below w.heap.size w w') := by
  refine (um_wp A n c l w a4 a6 hr hn hnc hc2 hz hg).mono ?_
  rintro e w' ⟨⟨T, S, rfl, h⟩ | ⟨T, x, rfl, h⟩, hb⟩
  · exact ⟨T, _, rfl, .inl ⟨rfl, S, h⟩, hb⟩
  · exact ⟨T, _, rfl, .inr ⟨x, rfl, h⟩, hb⟩
set_option maxRecDepth 1000000 in
set_option maxHeartbeats 8000000 in
/-- ZZReadParams. -/
theorem zr_wp (A : Option Addr) (n c : Nat) (l : List Int) (w : World) (a4 a6 : Addr) (hr : Rd w A l) (hn : Hid (l.length = n)) (hnc : n ≤ c) (hc2 : c ≤ 9223372036854775807) (hnb : n ≤ 140737488355328) (hz : Hid (A = none → c = 0)) (hg : Gl w a4 a6) :
    Calls Tryd.prog 21 #[.slice A n c] w fun e w' => ((∃ (Q : QP) (S : SP), e = .returned (.tuple #[.agg Q.cells, .bool true]) ∧ Hid (Qp w' Q S ∧ GoodI l S)) ∨ ∃ (V : QP), e = .returned (.tuple #[.agg V.cells, .bool false]) ∧ Hid (BadI l)) ∧ Hid (Below w.heap.size w w') := by
  have HG := Lib.hid hg
  have HBs := Lib.hid hr.1
  have HR := Lib.hid (hr.alloc (.cells qz.cells 49 (0, 0)))
  have HB0 : Hid (Below w.heap.size w (w.alloc (.cells qz.cells 49 (0, 0)))) := (Below.refl _ _).alloc (Nat.le_refl _) _
  have HR0 := Lib.hid (heap_alloc_new w (.cells qz.cells 49 (0, 0)))
  clear hg hr
  go_enter Tryd.func21, Tryd.ntmps21
  go_upto_region 2 with (first | (go_at_call 30; refine (cln A n c l _ (by exact HR.out) hn hz hnc hnb).mono ?_; rintro e w1 ⟨A1, c1, rfl, H1⟩; have HB1 := Lib.hid (HB0.out.trans (H1.out.2.1.mono HB0.out.size)); have HR1 := Lib.hid ((H1.out.2.1.block w.heap.size (by simp)).trans HR0.out); clear HB0 HR0 HR) | (go_at_call 29; refine (um_wp' A1 n c1 l w1 a4 a6 H1.out.1.1 hn H1.out.1.2.2.1 H1.out.1.2.2.2.1 (Lib.hid H1.out.1.2.2.2.2) (HG.out.below HB1.out (Nat.le_refl _))).mono ?_; rintro e w2 ⟨T, y, rfl, H2, HB2⟩) | (refine wpList_store_mid (op := ⟨none, .store 76 (.tmp 4) (.tmp 10), _, _, _, none⟩) rfl 76 (.tmp 4) (.tmp 10) rfl w2.heap.size 0 T.cells rfl rfl (there_new w2 tpz 76) size_tp (TP.one T) ?_))
  have HT := Lib.hid (setCells_all (w := w2.alloc (.cells tpz.cells 76 (0, 0))) (vs := T.cells) (heap_alloc_new w2 (.cells tpz.cells 76 (0, 0))) rfl).1
  have hs12 : w.heap.size < w1.heap.size := cell_in HR1.out
  have hs2 : w1.heap.size ≤ w2.heap.size := HB2.out.size
  have HB3 : Hid (Below w2.heap.size w2 ((w2.alloc (.cells tpz.cells 76 (0, 0))).setCells w2.heap.size 0 T.cells.toList)) := below_setCells (Nat.le_refl _) (Nat.le_refl _) _ _ ((Below.refl _ _).alloc (Nat.le_refl _) _)
  have HB4 : Hid (Below w.heap.size w ((w2.alloc (.cells tpz.cells 76 (0, 0))).setCells w2.heap.size 0 T.cells.toList)) := (HB1.out.trans (HB2.out.mono HB1.out.size)).trans (HB3.out.mono (by omega))
  have HR4 : Hid (((w2.alloc (.cells tpz.cells 76 (0, 0))).setCells w2.heap.size 0 T.cells.toList).heap[w.heap.size]? = some (.cells qz.cells 49 (0, 0))) := (HB3.out.block _ (by omega)).trans ((HB2.out.block _ hs12).trans HR1.out)
  clear HR1
  obtain ⟨w4, hw4⟩ : ∃ w4, (w2.alloc (.cells tpz.cells 76 (0, 0))).setCells w2.heap.size 0 T.cells.toList = w4 := ⟨_, rfl⟩
  rw [hw4] at HT HB3 HB4 HR4
  change Code.wp _ _ _ _ ((w2.alloc (.cells tpz.cells 76 (0, 0))).setCells w2.heap.size 0 T.cells.toList)
  rw [hw4]
  clear hw4
  rcases H2.out with ⟨rfl, S, hT, hGI⟩ | ⟨x, rfl, hBI⟩
  · go_upto_region 4 with fail
    have hbd := hGI.bd HBs.out
    have hT' := Lib.hid (hT.below HB3.out)
    have hGL := Lib.hid (HG.out.below HB4.out (Nat.le_refl _))
    have h44 := ad4_pb hT'.out.v4
    have h66 := ad6_pb hT'.out.v6
    have hne : w.heap.size ≠ w2.heap.size := by omega
    have hsz4 : w.heap.size ≤ w4.heap.size := HB4.out.size
    obtain ⟨⟨Aod, nod, cod⟩, idle, ⟨Art, nrt, crt⟩, udp, data, bl, br, un, sb, su, ae, ad, nomig, ⟨h4, l4, z4, p4⟩, ⟨h6, l6, z6, p6⟩, ⟨Apid, npid, cpid⟩, ⟨Aptok, nptok, cptok⟩, act, ⟨Ais, nis, cis⟩, ⟨Ars, nrs, crs⟩⟩ := T
    have hid : idle = S.idle * 1000000 := hT'.out.idle
    have had : ad = S.ad * 1000000 := hT'.out.ad
    have hae : ae = S.ae := hT'.out.ae
    have hp4 : p4 = S.p4 := ad4_pt hT'.out.v4
    have hp6 : p6 = S.p6 := ad6_pt hT'.out.v6
    clear H2 hT
    subst idle ad
    subst ae p4 p6
    refine wp_lit71 (R := w.heap.size) (P1 := w2.heap.size) rfl rfl rfl rfl (fun f => ?_)
    refine wp_then (E := fun _ _ => False) (K := fun a' w' => ∃ Q' : QP, a'.tmps[2]? = some (.pointer (some ⟨w.heap.size, 0, none⟩)) ∧ a'.tmps[3]? = some (.bool true) ∧ a'.defers = [] ∧ w'.heap[w.heap.size]? = some (.cells Q'.cells 49 (0, 0)) ∧ Qp w' Q' S ∧ Below w.heap.size w4 w') (rp4_wp f HT.out HR4.out hT'.out hGL.out hbd.e0 hbd.e1 hbd.i0 hbd.i1 hbd.d0 hbd.d1 h44.1 h44.2 h66.1 h66.2 (Nat.le_refl _) hne hsz4 (fun a' w' Q' h2 h3 hd hb hq hbel => ⟨Q', h2, h3, hd, hb, hq, hbel⟩)) (fun _ _ h => h.elim) ?_
    rintro a' w' ⟨Q', h2, h3, hd, hb, hq, hbel⟩
    simp only [Exit.then]
    go_wp2_with fail
    refine bodyPost_ret (v := .tuple #[.agg Q'.cells, .bool true]) (res_zr _ _ _ _ _ h2 h3 (load_zq _ _ _ hb)) hd ?_
    exact ⟨.inl ⟨Q', S, rfl, hq, hGI⟩, HB4.out.trans hbel⟩
  · go_wp2_with (refine wpList_store_mid (op := ⟨none, .store 49 (.tmp 2) (.tmp 14), _, _, _, none⟩) rfl 49 (.tmp 2) (.tmp 14) rfl w.heap.size 0 qz.cells rfl rfl (there_row HR4.out (Nat.le_refl _)) size_zq (QP.one qz) ?_)
    have hw := setCells_all (vs := qz.cells) HR4.out rfl
    refine bodyPost_ret (v := .tuple #[.agg qz.cells, .bool false]) (res_zr _ _ _ _ _ rfl rfl (load_zq _ _ qz hw.1)) rfl ?_
    exact ⟨.inr ⟨qz, rfl, hBI⟩, below_setCells (Nat.le_refl _) (Nat.le_refl _) _ _ HB4.out⟩

theorem zr_wp' (A : Option Addr) (n c : Nat) (l : List Int) (w : World) (a4 a6 : Addr) (hr : Rd w A l) (hn : Hid (l.length = n)) (hnc : n ≤ c) (hc2 : c ≤ 9223372036854775807) (hnb : n ≤ 140737488355328) (hz : Hid (A = none → c = 0)) (hg : Gl w a4 a6) :
    Calls Tryd.prog 21 #[.slice A n c] w fun e w' => ∃ (Q : QP) (y : Bool), e = .returned (.tuple #[.agg Q.cells, .bool y]) ∧ Hid ((y = true ∧ ∃ S : SP, Qp w' Q S ∧ GoodI l S) ∨ (y = false ∧ BadI l)) ∧ Hid (Below w.heap.size w w') := by
  refine (zr_wp A n c l w a4 a6 hr hn hnc hc2 hnb hz hg).mono ?_
  rintro e w' ⟨⟨T, S, rfl, h⟩ | ⟨T, rfl, h⟩, hb⟩
  · exact ⟨T, _, rfl, .inl ⟨rfl, S, h⟩, hb⟩
  · exact ⟨T, _, rfl, .inr ⟨rfl, h⟩, hb⟩
set_option maxRecDepth 1000000 in
set_option maxHeartbeats 8000000 in
/-- impl.ReadParams. -/
theorem ir_wp (A : Option Addr) (n c : Nat) (l : List Int) (w : World) (a4 a6 : Addr) (hr : Rd w A l) (hn : Hid (l.length = n)) (hnc : n ≤ c) (hc2 : c ≤ 9223372036854775807) (hnb : n ≤ 140737488355328) (hz : Hid (A = none → c = 0)) (hg : Gl w a4 a6) :
    Calls Tryd.prog 8 #[.slice A n c] w fun e w' => ∃ (Q : QP) (y : Bool), e = .returned (.tuple #[.agg Q.cells, .bool y]) ∧ Hid ((y = true ∧ ∃ S : SP, Qp w' Q S ∧ GoodI l S) ∨ (y = false ∧ BadI l)) ∧ Hid (Below w.heap.size w w') := by
  have HG := Lib.hid hg
  have HR := Lib.hid (hr.alloc (.cells qz.cells 27 (0, 0)))
  have HB0 : Hid (Below w.heap.size w (w.alloc (.cells qz.cells 27 (0, 0)))) := (Below.refl _ _).alloc (Nat.le_refl _) _
  have HR0 := Lib.hid (heap_alloc_new w (.cells qz.cells 27 (0, 0)))
  clear hg hr
  go_enter Tryd.func8, Tryd.ntmps8
  go_upto_region 2 with (first | (go_at_call 21; refine (zr_wp' A n c l _ a4 a6 (by exact HR.out) hn hnc hc2 hnb hz (HG.out.below HB0.out (Nat.le_refl _))).mono ?_; rintro e w1 ⟨Q, y, rfl, H1, HB1⟩) | (refine wpList_store_mid (op := ⟨none, .store 49 (.tmp 4) (.tmp 8), _, _, _, none⟩) rfl 49 (.tmp 4) (.tmp 8) rfl w1.heap.size 0 Q.cells rfl rfl (there_newq w1 qz 49) size_zq (QP.one Q) ?_))
  have hs1 : w.heap.size < w1.heap.size := by have := HB1.out.size; simp at this; omega
  have HW := Lib.hid (setCells_all (w := w1.alloc (.cells qz.cells 49 (0, 0))) (vs := Q.cells) (heap_alloc_new w1 (.cells qz.cells 49 (0, 0))) rfl)
  have HB3 : Hid (Below w1.heap.size w1 ((w1.alloc (.cells qz.cells 49 (0, 0))).setCells w1.heap.size 0 Q.cells.toList)) := below_setCells (Nat.le_refl _) (Nat.le_refl _) _ _ ((Below.refl _ _).alloc (Nat.le_refl _) _)
  have HB4 : Hid (Below w.heap.size w ((w1.alloc (.cells qz.cells 49 (0, 0))).setCells w1.heap.size 0 Q.cells.toList)) := (HB0.out.trans (HB1.out.mono (by simp))).trans (HB3.out.mono (by omega))
  have HR4 : Hid (((w1.alloc (.cells qz.cells 49 (0, 0))).setCells w1.heap.size 0 Q.cells.toList).heap[w.heap.size]? = some (.cells qz.cells 27 (0, 0))) := (HB3.out.block _ (by omega)).trans ((HB1.out.block _ (by simp)).trans HR0.out)
  obtain ⟨w4, hw4⟩ : ∃ w4, (w1.alloc (.cells qz.cells 49 (0, 0))).setCells w1.heap.size 0 Q.cells.toList = w4 := ⟨_, rfl⟩
  rw [hw4] at HW HB3 HB4 HR4
  change Code.wp _ _ _ _ ((w1.alloc (.cells qz.cells 49 (0, 0))).setCells w1.heap.size 0 Q.cells.toList)
  rw [hw4]
  clear hw4
  go_wp2_with (first | (refine wpList_load_mid (op := ⟨some 10, .load 49 (.tmp 4), _, _, _, none⟩) rfl 49 (.tmp 4) rfl w1.heap.size 0 rfl _ _ (by exact HW.out.2) Tryd.underlying49 rfl (size_zq.trans (congrArg some (QP.size Q).symm)) ?_) | (refine wpList_store_mid (op := ⟨none, .store 27 (.tmp 2) (.tmp 10), _, _, _, none⟩) rfl 27 (.tmp 2) (.tmp 10) rfl w.heap.size 0 Q.cells rfl rfl (there_row HR4.out (Nat.le_refl _)) size_iq (QP.one Q) ?_))
  have hw := setCells_all (vs := Q.cells) HR4.out rfl
  refine bodyPost_ret (v := .tuple #[.agg Q.cells, .bool y]) (res_ir _ _ _ _ _ rfl rfl (load_iq _ _ Q hw.1)) rfl ?_
  refine ⟨Q, y, rfl, ?_, below_setCells (Nat.le_refl _) (Nat.le_refl _) _ _ HB4.out⟩
  rcases H1.out with ⟨h, S, hq, hs⟩ | h
  · exact .inl ⟨h, S, (hq.below HB3.out).keep fun t d ht => rt_setCells HR4.out qz.no_u8 0 _ ht, hs⟩
  · exact .inr h

end Go.Proofs.YtdjdcpcomhjnjaaDoor

/- unmarshalTransportParams: the loop. Conditions: none. -/
import Derived.Test.YtdjdcpcomhjnjaaDoorUmf
import Derived.Test.YtdjdcpcomhjnjaaDoorUmb
import Derived.Test.YtdjdcpcomhjnjaaDoorUmc
import Derived.Test.YtdjdcpcomhjnjaaDoorReaderU
namespace Go.Proofs.YtdjdcpcomhjnjaaDoor
open Go.RowKit
set_option linter.unusedVariables false
set_option linter.unusedSimpArgs false



set_option maxHeartbeats 2000000 in
/-- The switch, whatever the parameter. -/
theorem um_sw {w0 w : World} {R P : Nat} {T : TP} {S : SP} {a4 a6 : Addr} {x0 : Value} {A : Option Addr} {n c : Nat} {v : List Int} (id : Int) (a : Act) (hf : Fs a R P x0 (.int .i64 0) (.slice A n c) (.int .u64 id)) (hu : Ub w0 R P w T) (ht : Tp w a4 a6 T S) (hv : Rt w (A, n, c) v) (hg : Gl w0 a4 a6)
    {K : Act → World → Prop} {Q : Exit → Act → World → Prop} (hK : HK w0 R P x0 a4 a6 S id v K) (hE : HE w0 R id v Q) :
    Code.wp Tryd.prog umSw (Exit.then K Q) a w := by
  by_cases hx : id < 0 ∨ 16 < id
  · exact um_cx hx a hf hu ht hv hg hK hE
  by_cases h0 : id = 0
  · subst h0
    exact um_c0 a hf hu ht hv hg hK hE
  by_cases h1 : id = 1
  · subst h1
    exact um_c1 a hf hu ht hv hg hK hE
  by_cases h2 : id = 2
  · subst h2
    exact um_c2 a hf hu ht hv hg hK hE
  by_cases h3 : id = 3
  · subst h3
    exact um_c3 a hf hu ht hv hg hK hE
  by_cases h4 : id = 4
  · subst h4
    exact um_c4 a hf hu ht hv hg hK hE
  by_cases h5 : id = 5
  · subst h5
    exact um_c5 a hf hu ht hv hg hK hE
  by_cases h6 : id = 6
  · subst h6
    exact um_c6 a hf hu ht hv hg hK hE
  by_cases h7 : id = 7
  · subst h7
    exact um_c7 a hf hu ht hv hg hK hE
  by_cases h8 : id = 8
  · subst h8
    exact um_c8 a hf hu ht hv hg hK hE
  by_cases h9 : id = 9
  · subst h9
    exact um_c9 a hf hu ht hv hg hK hE
  by_cases h10 : id = 10
  · subst h10
    exact um_c10 a hf hu ht hv hg hK hE
  by_cases h11 : id = 11
  · subst h11
    exact um_c11 a hf hu ht hv hg hK hE
  by_cases h12 : id = 12
  · subst h12
    exact um_c12 a hf hu ht hv hg hK hE
  by_cases h13 : id = 13
  · subst h13
    exact um_c13 a hf hu ht hv hg hK hE
  by_cases h14 : id = 14
  · subst h14
    exact um_c14 a hf hu ht hv hg hK hE
  by_cases h15 : id = 15
  · subst h15
    exact um_c15 a hf hu ht hv hg hK hE
  by_cases h16 : id = 16
  · subst h16
    exact um_c16 a hf hu ht hv hg hK hE
  omega
def tp0 : TP := ⟨(none, 0, 0), 0, (none, 0, 0), 65527, 0, 0, 0, 0, 0, 0, 3, 25000000, false, pa0, pa0, (none, 0, 0), (none, 0, 0), 2, (none, 0, 0), (none, 0, 0)⟩
theorem Tp.usual (w : World) (a4 a6 : Addr) : Tp w a4 a6 tp0 usual :=
  ⟨Rt.nil_ _, Rt.nil_ _, Rt.nil_ _, Rt.nil_ _, Rt.nil_ _, Rt.nil_ _, rfl, rfl, rfl, rfl, rfl, rfl, rfl, rfl, rfl, rfl, rfl, rfl, .inl ⟨rfl, rfl, rfl⟩, .inl ⟨rfl, rfl, rfl⟩⟩
def tpz : TP := ⟨(none, 0, 0), 0, (none, 0, 0), 0, 0, 0, 0, 0, 0, 0, 0, 0, false, pa0, pa0, (none, 0, 0), (none, 0, 0), 0, (none, 0, 0), (none, 0, 0)⟩
theorem there_new (w : World) (T : TP) (t : TypeId) : (w.alloc (.cells T.cells t (0, 0))).there w.heap.size 0 26 := by
  intro j hj
  refine ⟨?_, cell_free _ (heap_alloc_new w _)⟩
  rw [Nat.zero_add, cell_of_row _ _ j _ _ (0, 0) (heap_alloc_new w _), Array.getElem?_eq_getElem (by rw [T.size]; omega)]
  rfl
theorem setCells_off {g h : Nat} (hg : h ≠ g) {ob : Obj} : ∀ (vs : List Value) (o : Nat) {w : World}, w.heap[h]? = some ob → (w.setCells g o vs).heap[h]? = some ob
  | [], o, w, e => e
  | v :: vs, o, w, e => setCells_off hg vs (o + 1) (cell_off g o v e hg)
theorem Ub.rtR {w0 w : World} {R P : Nat} {T : TP} (h : Ub w0 R P w T) (vs : List Value) {t : Tri} {d : List Int} (ht : Rt w t d) : Rt (w.setCells R 0 vs) t d := by
  refine ⟨⟨ht.1.1, fun hl => ?_⟩, ht.2⟩
  obtain ⟨b, o, e, hc⟩ := ht.1.2 hl
  obtain ⟨Z, hZ⟩ := h.hr
  have hb : b ≠ R := by
    intro e
    subst e
    have := hc 0 hl
    rw [cell_of_row _ _ _ _ _ (0, 0) hZ] at this
    exact Z.no_u8 _ _ this
  refine ⟨b, o, e, fun i hi => ?_⟩
  have h1 := hc i hi
  have h2 : b < w.heap.size := World.block_lt_of_cell? _ _ h1
  have h3 : (w.setCells R 0 vs).heap[b]? = w.heap[b]? := by
    rw [setCells_off hb vs 0 (Array.getElem?_eq_getElem h2), Array.getElem?_eq_getElem h2]
  rw [World.cell?_of_block h3]
  exact h1
theorem size_setCells {g : Nat} : ∀ (vs : List Value) (o : Nat) (w : World), (w.setCells g o vs).heap.size = w.heap.size
  | [], o, w => rfl
  | v :: vs, o, w => (size_setCells vs (o + 1) _).trans (size_cell _ _ _)
theorem res_def (V : Array Value) (w : World) (p : Addr) (x : Value) (hp : V.getD 0 undef = .pointer (some p)) (hx : (loadVar 76 p).run Tryd.prog w = .ok x w) :
    (results Tryd.f37 V).run Tryd.prog w = .ok x w := by
  unfold results
  rw [Tryd.results37]
  have hp' : V[0]?.getD undef = .pointer (some p) := by simpa using hp
  simp [hp', hx, asAddr]
theorem res_um (V : Array Value) (w : World) (p : Addr) (x y : Value) (hp : V[2]? = some (.pointer (some p))) (hy : V[3]? = some y) (hx : (loadVar 76 p).run Tryd.prog w = .ok x w) :
    (results Tryd.f29 V).run Tryd.prog w = .ok (.tuple #[x, y]) w := by
  unfold results
  rw [Tryd.results29]
  simp [hp, hy, hx, asAddr]
set_option maxRecDepth 100000 in
theorem def_wp (w : World) : Calls Tryd.prog 37 #[] w fun e w' => e = .returned (.agg tp0.cells) ∧ Hid (Below w.heap.size w w') := by
  go_enter Tryd.func37, Tryd.ntmps37
  go_wp2_with (refine wpList_store_mid rfl 76 (.tmp 0) _ rfl w.heap.size 0 tp0.cells rfl rfl (there_new w tpz 76) size_tp (TP.one tp0) ?_)
  have hw := setCells_whole tp0 (heap_alloc_new w (.cells tpz.cells 76 (0, 0))) rfl
  exact bodyPost_ret (res_def _ _ _ _ rfl (run_loadVar_mid (P := Tryd.prog) _ _ _ 76 tp0.cells.toList _ hw.2 Tryd.underlying76 rfl size_tp)) rfl ⟨rfl, below_setCells (Nat.le_refl _) (Nat.le_refl _) _ _ ((Below.refl _ _).alloc (Nat.le_refl _) _)⟩

/-- The loop's relation. -/
def LI (w0 : World) (R P : Nat) (a4 a6 : Addr) (l : List Int) (a : Act) (w : World) : Prop :=
  ∃ (T : TP) (ps : List (Int × List Int)) (k : Nat) (A : Option Addr) (n c : Nat) (x6 x7 : Value), Fr a R P (.slice A n c) x6 x7 ∧ Ub w0 R P w T ∧ Tp w a4 a6 T (foldI usual ps) ∧ Path l 0 ps k ∧ (∀ p ∈ ps, iok p.1 p.2) ∧ k ≤ l.length ∧ Rt w0 (A, n, c) (l.drop k)
def Lmu (a : Act) (w : World) : Nat := match a.tmps[0]? with
  | some (Value.slice _ n _) => n
  | _ => 0
/-- Behind the loop. -/
def LX (w0 : World) (R P : Nat) (a4 a6 : Addr) (l : List Int) (a : Act) (w : World) : Prop :=
  ∃ (T : TP) (S : SP) (x0 x6 x7 : Value), Fr a R P x0 x6 x7 ∧ Ub w0 R P w T ∧ Tp w a4 a6 T S ∧ GoodI l S

set_option maxRecDepth 1000000 in
set_option maxHeartbeats 8000000 in
/-- The tail of a round. -/
theorem um_round {w0 w : World} {R P : Nat} {a4 a6 : Addr} {l : List Int} (hbs : Bs l) (hg : Gl w0 a4 a6) (a : Act) (hI : LI w0 R P a4 a6 l a w) {Q : Exit → Act → World → Prop} (hX : ∀ a' w', LX w0 R P a4 a6 l a' w' → Q (.exit 0) a' w') (hE : ∀ a' w', Er a' w0 R w' → BadI l → Q .ret a' w') :
    Code.wp Tryd.prog umLoop (Exit.then (fun a' w' => LI w0 R P a4 a6 l a' w' ∧ Lmu a' w' < Lmu a w) Q) a w := by
  obtain ⟨T, ps, k, A, n, c, x6, x7, hf, hu, ht, hp, hok, hk, hv⟩ := hI
  have HU := Lib.hid hu
  have HT := Lib.hid ht
  have HP := Lib.hid hp
  have HO := Lib.hid hok
  have HR0 : Hid (Rd w0 A (l.drop k)) := hv.1
  have HR : Hid (Rd w A (l.drop k)) := hv.1.below hu.bel
  have hn : Hid ((l.drop k).length = n) := hv.2.1
  have hnc : n ≤ c := hv.2.2.1
  have hc2 : c ≤ 9223372036854775807 := hv.2.2.2.1
  have HG := Lib.hid hg
  have HX := Lib.hid hX
  have HE' := Lib.hid hE
  have HB := Lib.hid hbs
  have hmu : Lmu a w = n := by simp [Lmu, hf.t0]
  rw [hmu]
  have hlk : Hid (k + n = l.length) := by have := hn.out; rw [List.length_drop] at this; show _ = _; omega
  clear hu ht hp hok hv hg hX hE hbs hmu
  obtain ⟨f, rfl⟩ := hf.lit
  clear hf
  conv => arg 2; whnf
  by_cases h0 : n = 0
  · subst h0
    have hkl : k = l.length := by have := hlk.out; omega
    have hk' : Hid (k = l.length) := hkl
    clear hkl hk
    go_wp2_with fail
    refine HX.out _ _ ⟨T, _, _, _, _, ⟨rfl, rfl, rfl, rfl, rfl, rfl, rfl, rfl⟩, HU.out, HT.out, ps, ?_, HO.out, rfl⟩
    rw [← hk'.out]
    exact HP.out
  · have hnp : (0 : Int) < (n : Int) := by omega
    obtain ⟨b, o, rfl, -⟩ := HR.out.2 (by have := hn.out; omega)
    cases hrv : rv (l.drop k) with
    | none =>
      have HV := Lib.hid hrv
      have HBad : Hid (BadI l) := ⟨ps, k, HP.out, by have := hlk.out; omega, fun id v k' h => by rw [pstep_none hrv] at h; cases h⟩
      clear hrv
      go_wp2_with (first | (go_at_call 38; refine (cv_none _ _ _ (l.drop k) _ (by exact HR.out) hn (by omega) HV).mono ?_; rintro e w' ⟨rfl, q, rfl⟩; have HU1 := Lib.hid (HU.out.drewN q)) | (refine wpList_load_mid rfl 76 (.tmp 4) rfl P 0 rfl _ _ (by exact HU1.out.range) Tryd.underlying76 rfl (size_tp.trans (congrArg some (TP.size _).symm)) ?_) | (refine wpList_store_mid rfl 76 (.tmp 2) _ rfl R 0 _ rfl rfl (by exact HU1.out.thereR) size_tp (TP.one _) ?_))
      exact HE'.out _ _ ⟨rfl, rfl, ⟨_, rfl⟩, (HU1.out.err _).1, (HU1.out.err _).2⟩ HBad.out
    | some p =>
      obtain ⟨id, m⟩ := p
      have hb := rv_bd HR.out.1 hrv
      rw [List.length_drop] at hb
      have HV := Lib.hid hrv
      have hmn : (m : Int) ≤ (n : Int) := by have := hlk.out; omega
      have hm1 : 1 ≤ m := by omega
      have hid0 : 0 ≤ id := by omega
      have hid1 : id < 4611686018427387904 := by omega
      have HR1 : Hid (Rd w0 (if c = m then some ⟨b, o, none⟩ else some ⟨b, o + m, none⟩) ((l.drop k).drop m)) := HR0.out.cut_at (by rw [hn.out]; exact hnc)
      rw [List.drop_drop] at HR1
      obtain ⟨A1, hA⟩ : ∃ A1, (if c = m then (some ⟨b, o, none⟩ : Option Addr) else some ⟨b, o + m, none⟩) = A1 := ⟨_, rfl⟩
      rw [hA] at HR1
      have HR1w : Hid (Rd w A1 (l.drop (k + m))) := HR1.out.below HU.out.bel
      obtain ⟨C1, hC1⟩ : ∃ C1, c - m = C1 := ⟨_, rfl⟩
      obtain ⟨N1, hN1⟩ : ∃ N1, n - m = N1 := ⟨_, rfl⟩
      have HN1 := Lib.hid hN1
      have HC1 := Lib.hid hC1
      have hNC1 : N1 ≤ C1 := by omega
      have hC1m : C1 ≤ 9223372036854775807 := by omega
      have hl1 : Hid ((l.drop (k + m)).length = N1) := by have := hlk.out; show _ = _; rw [List.length_drop]; omega
      clear hb hrv
      cases hrb : rvb (l.drop (k + m)) with
      | none =>
        have HV2 := Lib.hid hrb
        have HBad : Hid (BadI l) := ⟨ps, k, HP.out, by have := hlk.out; omega, fun id v k' h => by rw [pstep_none2 HV.out hrb] at h; cases h⟩
        clear hrb
        go_wp2_with (first | (go_at_call 38; refine (cv_some _ _ _ (l.drop k) _ id m (by exact HR.out) hn (by omega) HV).mono ?_; rintro e w' ⟨rfl, q, rfl⟩) | (go_at_call 39; refine (cvb _ _ _ (l.drop (k + m)) _ (by exact HR1w.out) hl1 hNC1 hC1m).mono ?_; rintro e w' ⟨h, q2, rfl⟩; obtain rfl := h.none_ HV2.out; have HU1 := Lib.hid (HU.out.drewN (q + q2)); clear h) | (refine wpList_load_mid rfl 76 (.tmp 4) rfl P 0 rfl _ _ (by exact HU1.out.range) Tryd.underlying76 rfl (size_tp.trans (congrArg some (TP.size _).symm)) ?_) | (refine wpList_store_mid rfl 76 (.tmp 2) _ rfl R 0 _ rfl rfl (by exact HU1.out.thereR) size_tp (TP.one _) ?_))
        exact HE'.out _ _ ⟨rfl, rfl, ⟨_, rfl⟩, (HU1.out.err _).1, (HU1.out.err _).2⟩ HBad.out
      | some p =>
        obtain ⟨v, j⟩ := p
        have hb := rvb_bd (HB.out.drop (k + m)) hrb
        rw [List.length_drop] at hb
        have HV2 := Lib.hid hrb
        have HS := Lib.hid (pstep_some HV.out hrb)
        obtain ⟨L, hL⟩ : ∃ L, Hid (v.length = L) := ⟨_, Lib.hid rfl⟩
        have hl2 : Hid ((l.drop (k + m + j)).length = N1 - j) := by have := hlk.out; show _ = _; rw [List.length_drop]; omega
        have hj1 : Hid (1 ≤ j) := by show _ ≤ _; omega
        have hjnh : Hid (j ≤ N1) := by have := hlk.out; show _ ≤ _; omega
        clear hb hrb
        go_upto_region 10 with (first | (go_at_call 38; refine (cv_some _ _ _ (l.drop k) _ id m (by exact HR.out) hn (by omega) HV).mono ?_; rintro e w' ⟨rfl, q, rfl⟩) | (go_at_call 39; refine (cvb _ _ _ (l.drop (k + m)) _ (by exact HR1w.out) hl1 hNC1 hC1m).mono ?_; rintro e w' ⟨h, q2, rfl⟩; obtain ⟨Av, cv, rfl, r1, r2, r3, r4⟩ := h.some_ HV2.out; rw [hL.out]; rw [hL.out] at r2; have HRv := Lib.hid r1; have HRv4 := Lib.hid r4; clear h r1 r4))
        clear hA hC1 hN1
        have hj1' := hj1.out
        have hjn' := hjnh.out
        obtain ⟨b1, o1, rfl, -⟩ := HR1.out.2 (by rw [hl1.out]; omega)
        have hjn : (j : Int) ≤ (N1 : Int) := by omega
        have HR2 : Hid (Rd w0 (if C1 = j then some ⟨b1, o1, none⟩ else some ⟨b1, o1 + j, none⟩) ((l.drop (k + m)).drop j)) := HR1.out.cut_at (by rw [hl1.out]; exact hNC1)
        rw [List.drop_drop] at HR2
        obtain ⟨A2, hA2⟩ : ∃ A2, (if C1 = j then (some ⟨b1, o1, none⟩ : Option Addr) else some ⟨b1, o1 + j, none⟩) = A2 := ⟨_, rfl⟩
        have hA2n : Hid (A2 ≠ none) := by intro e; rw [e] at hA2; split at hA2 <;> cases hA2
        rw [hA2] at HR2
        obtain ⟨C2, hC2⟩ : ∃ C2, C1 - j = C2 := ⟨_, rfl⟩
        obtain ⟨N2, hN2⟩ : ∃ N2, N1 - j = N2 := ⟨_, rfl⟩
        rw [hN2] at hl2
        have HN2 := Lib.hid hN2
        have HC2 := Lib.hid hC2
        clear hj1' hjn'
        go_upto_block 2 with fail
        refine wp_block ?_
        refine wp_then (E := fun a' w' => Er a' w0 R w' ∧ ¬ iok id v) (K := fun a' w' => ∃ (T' : TP) (n' : Int) (A' : Option Addr) (L' c' : Nat), Fr a' R P (.slice A2 N2 C2) (.int .i64 n') (.slice A' L' c') ∧ Ub w0 R P w' T' ∧ Tp w' a4 a6 T' (updI (foldI usual ps) id v) ∧ (n' = (L' : Nat) ↔ iok id v)) (um_sw (T := T) (A := Av) (n := L) (c := cv) (v := v) (S := foldI usual ps) id _ ⟨⟨rfl, rfl, rfl, rfl, rfl, rfl, rfl, rfl⟩, rfl⟩ (HU.out.drewN (q + q2)) (HT.out.drewN (q + q2)) ⟨HRv.out, hL.out, r2, r3, HRv4.out⟩ HG.out (fun a' w' T' n' A' L' c' h1 h2 h3 h4 => ⟨T', n', A', L', c', h1, h2, h3, h4⟩) (fun a' w' h1 h2 => ⟨h1, h2⟩)) ?_ ?_
        · rintro a' w' ⟨h1, h2⟩
          exact HE'.out _ _ h1 ⟨ps, k, HP.out, by have := hlk.out; omega, fun id' v' k' h => by
            rw [HS.out] at h
            obtain ⟨rfl, rfl, rfl⟩ : id = id' ∧ v = v' ∧ k + m + j = k' := by simpa using h
            exact h2⟩
        · rintro a' w' ⟨T', n', A', L', c', h1, h2, h3, h4⟩
          have HU2 := Lib.hid h2
          have HT2 := Lib.hid h3
          have HI := Lib.hid h4
          clear h2 h3 h4
          obtain ⟨f2, rfl⟩ := h1.lit
          clear h1
          simp only [Exit.inBlock, Exit.then]
          clear hA2 hC2 hN2
          by_cases hnl : n' = (L' : Nat)
          · have HK := Lib.hid (HI.out.1 hnl)
            subst hnl
            go_wp2_with fail
            refine ⟨⟨T', ps ++ [(id, v)], k + m + j, A2, N2, C2, _, _, ⟨rfl, rfl, rfl, rfl, rfl, rfl, rfl, rfl⟩, HU2.out, ?_, HP.out.snoc HS.out, ?_, ?_, ?_⟩, ?_⟩
            · rw [foldI_snoc]; exact HT2.out
            · intro p hp
              rcases List.mem_append.1 hp with hp | hp
              · exact HO.out p hp
              · obtain rfl : p = (id, v) := by simpa using hp
                exact HK.out
            · have := hlk.out; have := HN1.out; have := hjnh.out; omega
            · exact ⟨HR2.out, hl2.out, by have := HC2.out; have := HN2.out; simp only; omega, by have := HC2.out; simp only; omega, fun h => absurd h hA2n.out⟩
            · show N2 < n
              have := HN1.out
              have := HN2.out
              have := hjnh.out
              have := hj1.out
              omega
          · have HK : Hid (¬ iok id v) := fun h => hnl (HI.out.2 h)
            have HBad : Hid (BadI l) := ⟨ps, k, HP.out, by have := hlk.out; omega, fun id' v' k' h => by
              rw [HS.out] at h
              obtain ⟨rfl, rfl, rfl⟩ : id = id' ∧ v = v' ∧ k + m + j = k' := by simpa using h
              exact HK.out⟩
            go_wp2_with (first | (refine wpList_load_mid rfl 76 (.tmp 4) rfl P 0 rfl _ _ (by exact HU2.out.range) Tryd.underlying76 rfl (size_tp.trans (congrArg some (TP.size _).symm)) ?_) | (refine wpList_store_mid rfl 76 (.tmp 2) _ rfl R 0 _ rfl rfl (by exact HU2.out.thereR) size_tp (TP.one _) ?_))
            exact HE'.out _ _ ⟨rfl, rfl, ⟨_, rfl⟩, (HU2.out.err _).1, (HU2.out.err _).2⟩ HBad.out
theorem um_loop {w0 w : World} {R P : Nat} {a4 a6 : Addr} {l : List Int} (hbs : Bs l) (hg : Gl w0 a4 a6) (a : Act) (hI : LI w0 R P a4 a6 l a w) {Q : Exit → Act → World → Prop} (hX : ∀ a' w', LX w0 R P a4 a6 l a' w' → Q (.exit 0) a' w') (hE : ∀ a' w', Er a' w0 R w' → BadI l → Q .ret a' w') :
    Code.wp Tryd.prog (Code.loop umLoop) Q a w := wp_loop (LI w0 R P a4 a6 l) Lmu hI fun a w hI => um_round hbs hg a hI hX hE

set_option maxRecDepth 1000000 in
set_option maxHeartbeats 8000000 in
/-- unmarshalTransportParams. -/
theorem um_wp (A : Option Addr) (n c : Nat) (l : List Int) (w : World) (a4 a6 : Addr) (hr : Rd w A l) (hn : Hid (l.length = n)) (hnc : n ≤ c) (hc2 : c ≤ 9223372036854775807) (hz : Hid (A = none → c = 0)) (hg : Gl w a4 a6) :
    Calls Tryd.prog 29 #[.slice A n c] w fun e w' => ((∃ (T : TP) (S : SP), e = .returned (.tuple #[.agg T.cells, .nilIface]) ∧ Hid (Tp w' a4 a6 T S ∧ GoodI l S)) ∨ ∃ (V : TP) (x : Value), e = .returned (.tuple #[.agg V.cells, .iface 92 x]) ∧ Hid (BadI l)) ∧ Hid (Below w.heap.size w w') := by
  have HG := Lib.hid hg
  have HR := Lib.hid hr
  clear hg hr
  go_enter Tryd.func29, Tryd.ntmps29
  go_upto_block 0 with (first | (go_at_call 37; refine (def_wp _).mono ?_; rintro e w1 ⟨rfl, H1⟩) | (refine wpList_store_mid rfl 76 (.tmp 4) _ rfl w1.heap.size 0 tp0.cells rfl rfl (there_new w1 tpz 76) size_tp (TP.one tp0) ?_))
  refine wp_block ?_
  have hB1 : Below w.heap.size w w1 := ((Below.refl _ _).alloc (Nat.le_refl _) _).trans (H1.out.mono (by simp))
  have hs1 : w.heap.size < w1.heap.size := by have := H1.out.size; simp at this; omega
  have hR1 := (H1.out.block w.heap.size (by simp)).trans (heap_alloc_new w (.cells tpz.cells 76 (0, 0)))
  have hR2 := setCells_off (g := w1.heap.size) (h := w.heap.size) (by omega) tp0.cells.toList 0 (heap_alloc_old w1 (.cells tpz.cells 76 (0, 0)) hs1 |>.trans hR1)
  have hP := setCells_whole tp0 (heap_alloc_new w1 (.cells tpz.cells 76 (0, 0))) rfl
  have hU : Ub w w.heap.size w1.heap.size ((w1.alloc (.cells tpz.cells 76 (0, 0))).setCells w1.heap.size 0 tp0.cells.toList) tp0 :=
    ⟨below_setCells (by omega) (Nat.le_refl _) _ _ (hB1.alloc (by omega) _), hP.1, ⟨tpz, hR2⟩, by omega, Nat.le_refl _, by omega⟩
  refine um_loop (l := l) (w0 := w) (R := w.heap.size) (P := w1.heap.size) (a4 := a4) (a6 := a6) HR.out.1 HG.out _ ⟨tp0, [], 0, A, n, c, _, _, ⟨rfl, rfl, rfl, rfl, rfl, rfl, rfl, rfl⟩, hU, Tp.usual _ _ _, rfl, by simp, by simp, ⟨HR.out, hn.out, hnc, hc2, hz.out⟩⟩ ?_ ?_
  · rintro a' w' ⟨T, S, x0, x6, x7, h1, h2, h3, h4⟩
    obtain ⟨f2, rfl⟩ := h1.lit
    have HU2 := Lib.hid h2
    have HT2 := Lib.hid h3
    have HS2 := Lib.hid h4
    clear h1 h2 h3 h4 hB1 hs1 hR1 hR2 hP hU
    simp only [Exit.inBlock, Exit.then, if_true]
    go_wp2_with (first | (refine wpList_load_mid rfl 76 (.tmp 4) rfl w1.heap.size 0 rfl _ _ (by exact HU2.out.range) Tryd.underlying76 rfl (size_tp.trans (congrArg some (TP.size _).symm)) ?_) | (refine wpList_store_mid rfl 76 (.tmp 2) _ rfl w.heap.size 0 _ rfl rfl (by exact HU2.out.thereR) size_tp (TP.one _) ?_))
    obtain ⟨Z, hZ⟩ := HU2.out.hr
    have hW := setCells_whole T hZ rfl
    refine bodyPost_ret (v := .tuple #[.agg T.cells, .nilIface]) (res_um _ _ _ _ _ rfl rfl (run_loadVar_mid (P := Tryd.prog) _ _ _ 76 T.cells.toList _ hW.2 Tryd.underlying76 rfl size_tp)) rfl ?_
    exact ⟨.inl ⟨T, S, rfl, HT2.out.keep fun t d ht => HU2.out.rtR _ ht, HS2.out⟩, (HU2.out.err _).2⟩
  · rintro a' w' he hb
    obtain ⟨Z, hrc⟩ := he.hr
    obtain ⟨x, hx⟩ := he.t3
    have hrg : w'.rangeAt w.heap.size 0 Z.cells.toList := fun j v hv => by
      rw [Nat.zero_add, cell_of_row _ _ j _ _ (0, 0) hrc]
      simpa using hv
    simp only [Exit.inBlock, Exit.then]
    refine bodyPost_ret (v := .tuple #[.agg Z.cells, .iface 92 x]) (res_um _ _ _ _ _ he.t2 hx (run_loadVar_mid (P := Tryd.prog) _ _ _ 76 Z.cells.toList _ hrg Tryd.underlying76 rfl size_tp)) he.df ?_
    exact ⟨.inr ⟨Z, x, rfl, hb⟩, he.bel⟩

end Go.Proofs.YtdjdcpcomhjnjaaDoor

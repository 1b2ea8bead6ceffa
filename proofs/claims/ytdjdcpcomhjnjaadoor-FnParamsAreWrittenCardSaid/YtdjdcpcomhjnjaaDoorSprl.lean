/- The reference's reading of parameters: the loop. Conditions: none. -/
import Derived.Test.YtdjdcpcomhjnjaaDoorSpra
import Derived.Test.YtdjdcpcomhjnjaaDoorSprb
import Derived.Test.YtdjdcpcomhjnjaaDoorSpro
import Derived.Test.YtdjdcpcomhjnjaaDoorSprp
import Derived.Test.YtdjdcpcomhjnjaaDoorReaderU
namespace Go.Proofs.YtdjdcpcomhjnjaaDoor
open Go.RowKit
set_option linter.unusedVariables false
set_option linter.unusedSimpArgs false

set_option maxRecDepth 1000000 in
/-- Numbers of 64 bits. -/
def EU : Elt Int where
  t := 39
  e := 43
  k := 1
  f := fun x => [.int .u64 x]
  len := fun _ => rfl
  one := fun a u hu => by
    simp at hu
    subst hu
    rfl
  pos := by decide
  und := Tryd.underlying39
  info := ⟨_, _, rfl, rfl, rfl, rfl, by decide⟩
theorem u_cell {B : Nat} {w : World} {g n c : Nat} {l : List Int} (h : OwnE EU B w (.slice (some ⟨g, 0, none⟩) n c) l) (i : Nat) (x : Int) (hi : i < l.length) (hx : l[i]'hi = x) : w.cell? ⟨g, i, none⟩ = some (.int .u64 x) := by
  have := OwnE.cell h i 0 (.int .u64 x) hi (by decide) (by show ([Value.int .u64 (l[i]'hi)])[0]? = _; rw [hx]; rfl)
  rw [show i * EU.k + 0 = i from by show i * 1 + 0 = _; omega] at this
  exact this
/-- The cases of a parameter's number. -/
theorem sp_all {w0 w : World} {R P G : Nat} {Q : QP} {S : SP} {x0 x5 : Value} {A : Option Addr} {n c : Nat} {v : List Int} {op : Bool} (id : Int) (h0 : 0 ≤ id) (a : Act) (hf : Fgs a R P G x0 x5 op (.int .u64 id) (.slice A n c)) (hu : Us w0 R P w Q) (hq : Qp w Q S) (hv : Rt w (A, n, c) v)
    {Qx : Exit → Act → World → Prop} (hK : SK w w0 R P G x0 x5 Q S (A, n, c) id v op Qx) (hE : SE w0 R id v Qx) :
    Code.wp Tryd.prog sp7 Qx a w := by
  by_cases e0 : id = 0
  · subst e0; exact sp_c0 a hf hu hq hv hK hE
  by_cases e1 : id = 1
  · subst e1; exact sp_c1 a hf hu hq hv hK hE
  by_cases e2 : id = 2
  · subst e2; exact sp_c2 a hf hu hq hv hK hE
  by_cases e3 : id = 3
  · subst e3; exact sp_c3 a hf hu hq hv hK hE
  by_cases e4 : id = 4
  · subst e4; exact sp_c4 a hf hu hq hv hK hE
  by_cases e5 : id = 5
  · subst e5; exact sp_c5 a hf hu hq hv hK hE
  by_cases e6 : id = 6
  · subst e6; exact sp_c6 a hf hu hq hv hK hE
  by_cases e7 : id = 7
  · subst e7; exact sp_c7 a hf hu hq hv hK hE
  by_cases e8 : id = 8
  · subst e8; exact sp_c8 a hf hu hq hv hK hE
  by_cases e9 : id = 9
  · subst e9; exact sp_c9 a hf hu hq hv hK hE
  by_cases e10 : id = 10
  · subst e10; exact sp_c10 a hf hu hq hv hK hE
  by_cases e11 : id = 11
  · subst e11; exact sp_c11 a hf hu hq hv hK hE
  by_cases e12 : id = 12
  · subst e12; exact sp_c12 a hf hu hq hv hK hE
  by_cases e13 : id = 13
  · subst e13; exact sp_c13 a hf hu hq hv hK hE
  by_cases e14 : id = 14
  · subst e14; exact sp_c14 a hf hu hq hv hK hE
  by_cases e15 : id = 15
  · subst e15; exact sp_c15 a hf hu hq hv hK hE
  by_cases e16 : id = 16
  · subst e16; exact sp_c16 a hf hu hq hv hK hE
  refine sp_o (fun k hk e => ?_) a hf hu hq hv hK hE
  subst e
  omega
noncomputable def spB : Code := cl (cr spLoop)
noncomputable def spIn : Code := cl (cr (cr (cr spB)))
set_option maxRecDepth 1000000 in
set_option maxHeartbeats 8000000 in
/-- Has the number been told? -/
theorem spIn_wp {w : World} {R P G B m cv : Nat} {AV : Option Addr} {x0 x9 : Value} {op : Bool} {id : Int} {ids : List Int} (a : Act) (hf : Fgs a R P G x0 (.slice AV m cv) op (.int .u64 id) x9) (ho : OwnE EU B w (.slice AV m cv) ids) (hm : Hid (ids.length = m)) (hm2 : m ≤ 4611686018427387904)
    {K : Act → World → Prop} {Qe : Exit → Act → World → Prop} (hK : ∀ a' op', Fgs a' R P G x0 (.slice AV m cv) op' (.int .u64 id) x9 → op' = (op || ids.any (· == id)) → K a' w) :
    Code.wp Tryd.prog spIn (Exit.then K Qe) a w := by
  have HK := Lib.hid hK
  have HO := Lib.hid ho
  clear hK ho
  obtain ⟨f, rfl⟩ := hf.lit
  clear hf
  conv => arg 2; whnf
  go_wp2_with fail
  go_loopw [7, 41] (fun s i wr => ∃ (q : Nat) (x : Bool), q ≤ m ∧ i = .int .i64 q ∧ s = .bool x ∧ Hid (wr = w) ∧ Hid (x = (op || (ids.take q).any (· == id)))) (fun _ i _ => m - (intOf i).toNat)
  case atStart => exact ⟨0, op, by omega, rfl, rfl, Lib.hid rfl, by show _ = _; simp⟩
  case round =>
    obtain ⟨q, x, hq, rfl, rfl, HW, HX⟩ := hrel
    obtain rfl := HW.out
    by_cases hlt : q < m
    · have hlt' : q < ids.length := by rw [hm.out]; exact hlt
      rcases HO.out.form with ⟨h, _⟩ | ⟨g, cap, h, _⟩
      · obtain ⟨rfl, rfl, rfl⟩ : AV = none ∧ m = 0 ∧ cv = 0 := by simpa using h
        omega
      · obtain ⟨rfl, -, rfl⟩ : AV = some ⟨g, 0, none⟩ ∧ m = ids.length ∧ cv = cap := by simpa using h
        obtain ⟨e, he⟩ : ∃ e, ids[q]'hlt' = e := ⟨_, rfl⟩
        have c0 := u_cell HO.out q e hlt' he
        have hqi : (q : Int) < (m : Int) := by omega
        have hstep : Hid ((ids.take (q + 1)).any (· == id) = ((ids.take q).any (· == id) || (e == id))) := by
          show _ = _
          rw [List.take_succ_eq_append_getElem hlt', List.any_append, he]
          simp
        clear h hlt' he
        cases x
        · cases hei : (e == id)
          · go_wp2_with fail
            go_roundw
            case rel => exact ⟨q + 1, false, by omega, by go_num, rfl, Lib.hid trivial, by show _ = _; rw [hstep.out, hei, Bool.or_false]; exact HX.out⟩
            case measure => simp [intOf]; omega
          · go_wp2_with fail
            go_roundw
            case rel => exact ⟨q + 1, true, by omega, by go_num, rfl, Lib.hid trivial, by show _ = _; rw [hstep.out, hei]; simp⟩
            case measure => simp [intOf]; omega
        · go_wp2_with fail
          go_roundw
          case rel => exact ⟨q + 1, true, by omega, by go_num, rfl, Lib.hid trivial, by show _ = _; rw [hstep.out, ← Bool.or_assoc, ← HX.out]; simp⟩
          case measure => simp [intOf]; omega
    · obtain rfl : q = m := by omega
      have hx : Hid (x = (op || ids.any (· == id))) := by
        have := HX.out
        rw [List.take_of_length_le (by rw [hm.out]; exact Nat.le_refl _)] at this
        exact Lib.hid this
      clear HX
      go_wp2_with fail
      exact HK.out _ x ⟨⟨rfl, rfl, rfl, rfl, rfl, rfl, rfl, rfl⟩, rfl, rfl⟩ hx.out
theorem Us.belowB {w0 w w' : World} {R P B : Nat} {Q : QP} (h : Us w0 R P w Q) (hb : Below B w w') (hP : P < B) (hR : R < B) (h0 : w0.heap.size ≤ B) : Us w0 R P w' Q := by
  refine ⟨h.bel.trans (hb.mono h0), (hb.block _ hP).trans h.hp, ?_, h.lp, h.lr, h.ne⟩
  obtain ⟨Z, h2⟩ := h.hr
  exact ⟨Z, (hb.block _ hR).trans h2⟩
theorem or_ff {a b : Bool} (h : false = (a || b)) : a = false ∧ b = false := by cases a <;> cases b <;> simp_all
/-- The state of the loop: at place k. -/
structure LK (w0 : World) (R P G B : Nat) (A : Option Addr) (n c : Nat) (l : List Int) (a : Act) (w : World) (k : Nat) (ps : List (Int × List Int)) (Q : QP) (S : SP) (op : Bool) (AV : Option Addr) (m cv : Nat) : Prop where
  fg : Fg a R P G (.slice A n c) (.slice AV m cv) op
  us : Us w0 R P w Q
  qp : Qp w0 Q S
  path : Path l 0 ps k
  len : ps.length ≤ k
  kn : k ≤ n
  rd : Rdr w G A n c k false
  own : OwnE EU B w (.slice AV m cv) (ps.map Prod.fst)
  no : op = false → Nice ps ∧ S = foldS usual ps
  yes : op = true → ¬ Nice ps
  bw : B ≤ w.heap.size
/-- What holds all the while. -/
structure LF (w0 : World) (R P G B : Nat) (A : Option Addr) (n c : Nat) (l : List Int) : Prop where
  hr : Rd w0 A l
  hn : l.length = n
  hnc : n ≤ c
  hc2 : c ≤ 9223372036854775807
  hnb : n ≤ 100000000000
  pB : P < B
  rB : R < B
  gB : G < B
  gP : G ≠ P
  gR : G ≠ R
  lg : w0.heap.size ≤ G
noncomputable def spT : Code := cr (cr (cr spB))
set_option maxRecDepth 1000000 in
set_option maxHeartbeats 8000000 in
/-- A parameter that has been read. -/
theorem spT_wp {w0 w : World} {R P G B n c k k3 m cv nv cw : Nat} {A AV Av : Option Addr} {l : List Int} {ps : List (Int × List Int)} {Q : QP} {S : SP} {op : Bool} {id : Int} {v : List Int} (hF : LF w0 R P G B A n c l) (h0 : 0 ≤ id) (a : Act) (hf : Fgs a R P G (.slice A n c) (.slice AV m cv) op (.int .u64 id) (.slice Av nv cw))
    (hu : Us w0 R P w Q) (hq : Qp w0 Q S) (hp : Path l 0 ps k) (hlen : ps.length ≤ k) (hk3 : k < k3) (hk3n : k3 ≤ n) (hs : pstep l k = some (id, v, k3)) (hrd : Rdr w G A n c k3 false) (ho : OwnE EU B w (.slice AV m cv) (ps.map Prod.fst)) (hno : op = false → Nice ps ∧ S = foldS usual ps) (hyes : op = true → ¬ Nice ps) (hbw : B ≤ w.heap.size)
    (hv : Rt w0 (Av, nv, cw) v)
    {Qx : Exit → Act → World → Prop} (hK : ∀ a' w' ps' Q' S' op' AV' m' cv', LK w0 R P G B A n c l a' w' k3 ps' Q' S' op' AV' m' cv' → Qx .normal a' w' ∧ Qx (.exit 1) a' w') (hE : ∀ a' w', Es a' w0 R w' → BadI l → Qx .ret a' w') :
    Code.wp Tryd.prog spT Qx a w := by
  have hm : Hid ((ps.map Prod.fst).length = m) := by
    rcases ho.form with ⟨h, e⟩ | ⟨g, cap, h, _⟩
    · obtain ⟨_, rfl, _⟩ : AV = none ∧ m = 0 ∧ cv = 0 := by simpa using h
      rw [e]; rfl
    · have : m = (ps.map Prod.fst).length := by simp at h; simpa using h.2.1
      exact Lib.hid this.symm
  have hml : m ≤ 100000000000 := by
    have h1 := hm.out
    have h2 := hF.hnb
    rw [List.length_map] at h1
    omega
  have HU := Lib.hid hu
  have HF := Lib.hid hF
  have HO := Lib.hid ho
  have HKK := Lib.hid hK
  have HEE := Lib.hid hE
  have HRD := Lib.hid hrd
  have HV := Lib.hid hv
  have HQ := Lib.hid hq
  have HP := Lib.hid hp
  have HS := Lib.hid hs
  have HNO := Lib.hid hno
  have HYES := Lib.hid hyes
  clear hu hF ho hK hE hrd hv hq hp hs hno hyes
  conv => arg 2; whnf
  refine wp_seq ?_
  refine spIn_wp (B := B) a hf HO.out hm (by omega) (fun a' opx hf' hopx => ?_)
  have HOX := Lib.hid hopx
  clear hopx hf
  obtain ⟨f, rfl⟩ := hf'.lit
  clear hf'
  refine wp_seq_k (fun K hK' => ?_)
  have HK' := Lib.hid hK'
  clear hK'
  go_wp2_with (at_builtin; refine wpList_appE (E := EU) B _ rfl (.tmp 52) (.tmp 54) rfl _ (ps.map Prod.fst) rfl (HO.out.alloc _) ⟨w.heap.size, 0, none⟩ 1 1 [id] rfl rfl (by exact new_cells (E := EU) w [id] 43) (by have := hm.out; omega) (by simp; omega) ?_; intro v1 w1 ho1 hg1 ha1 hb1 hn1)
  have hB0 : w0.heap.size ≤ B := by have := HF.out.lg; have := HF.out.gB; omega
  have HB : Below B w w1 := ((Below.refl _ _).alloc hbw _).trans hb1
  have hU1 := HU.out.belowB HB HF.out.pB HF.out.rB hB0
  have hR1 := HRD.out.below HB HF.out.gB
  have hbw1 : B ≤ w1.heap.size := Nat.le_trans hbw HB.size
  have hl3 := HF.out.hn
  have hox := HOX.out
  rcases ho1.form with ⟨_, e⟩ | ⟨g, cap, rfl, _, _, _, _⟩
  · simp at e
  refine HK'.out _ _ ?_
  refine sp_all id h0 _ ⟨⟨rfl, rfl, rfl, rfl, rfl, rfl, rfl, rfl⟩, rfl, rfl⟩ hU1 (HQ.out.below hU1.bel) (HV.out.below hU1.bel) ?_ ?_
  · intro a' w' Q' S' op' hfg hus hqq hgr hyn
    refine HKK.out a' w' (ps ++ [(id, v)]) Q' S' op' _ _ _ ⟨hfg, hus, hqq w0 HQ.out HV.out, HP.out.snoc HS.out, by rw [List.length_append]; simp; omega, hk3n, hR1.kept hgr (fun e => HF.out.gP (by simpa using e)), ?_, ?_, ?_, Nat.le_trans hbw1 hgr.size⟩
    · have h2 := ho1.kept hgr (.inr fun e => by have h3 := (ho1.lt P e).1; have := HF.out.pB; omega)
      rw [List.map_append]
      exact h2
    · intro h
      obtain ⟨e1, e2, e3⟩ := hyn.1 h
      rw [e1] at hox
      obtain ⟨hop, hany⟩ := or_ff hox
      obtain ⟨n1, n2⟩ := HNO.out hop
      refine ⟨n1.snoc e2 fun hi => ?_, by rw [foldS_snoc, e3, n2]⟩
      rw [List.any_eq_false] at hany
      exact hany id hi (by simp)
    · intro h hnice
      obtain ⟨g1, g2⟩ := hnice.last
      rcases hyn.2 h with e1 | e1
      · rw [e1] at hox
        cases op
        · have hany : (ps.map Prod.fst).any (· == id) = true := by simpa using hox.symm
          rw [List.any_eq_true] at hany
          obtain ⟨y, h1, h2⟩ := hany
          have : y = id := by simpa using h2
          exact g2 (this ▸ h1)
        · exact HYES.out rfl hnice.init
      · exact e1 g1
  · intro a' w' he hni
    refine HEE.out a' w' he ⟨ps, k, HP.out, by omega, fun id' v' k' h => ?_⟩
    rw [HS.out] at h
    obtain ⟨rfl, rfl, rfl⟩ : id = id' ∧ v = v' ∧ k3 = k' := by simpa using h
    exact hni
theorem rd_none {l : List Int} {k k1 k2 k3 : Nat} {id s : Int} {b1 b2 : Bool} (h1 : NumSt l k false id k1 b1) (h2 : NumSt l k1 b1 s k2 b2) (h3 : BytSt l k2 b2 s k3 true) : pstep l k = none := by
  rcases h1.2.2.2.2 with ⟨_, _, e1⟩ | ⟨_, _, e | e⟩
  · have hm : k + (k1 - k) = k1 := by have := h1.1; omega
    rcases h2.2.2.2.2 with ⟨_, _, e2⟩ | ⟨e, _, e2 | e2⟩
    · rcases h3.2.2 with ⟨e, _⟩ | ⟨_, e3 | e3⟩
      · cases e
      · have := h2.2.2.2.2; simp_all
      · refine pstep_none2 e1 (rvb_short (by rw [hm]; exact e2) ?_)
        rw [hm, List.length_drop]
        have := h2.1
        omega
    · simp_all
    · exact pstep_none2 e1 (by rw [hm]; exact rvb_none e2)
  · cases e
  · exact pstep_none e
theorem rd_some {l : List Int} (hl : Bs l) {k k1 k2 k3 : Nat} {id s : Int} {b1 b2 : Bool} (h1 : NumSt l k false id k1 b1) (h2 : NumSt l k1 b1 s k2 b2) (h3 : BytSt l k2 b2 s k3 false) : pstep l k = some (id, (l.drop k2).take s.toNat, k3) ∧ k < k3 := by
  rcases h3.2.2 with ⟨_, e3, hs, hk⟩ | ⟨e, _⟩
  · rcases h2.2.2.2.2 with ⟨_, e2, r2⟩ | ⟨e, _⟩
    · rcases h1.2.2.2.2 with ⟨_, _, r1⟩ | ⟨e, _⟩
      · have hb := rv_bd (hl.drop k) r1
        have hm : k + (k1 - k) = k1 := by have := h1.1; omega
        have hm2 : k1 + (k2 - k1) = k2 := by have := h2.1; omega
        refine ⟨?_, by have := h2.1; omega⟩
        have r3 := rvb_some (l := l.drop k1) r2 (by rw [List.length_drop]; have := h2.1; omega)
        have := pstep_some r1 (by rw [hm]; exact r3)
        rw [this, List.drop_drop, hm2, hm]
        congr 3
        have := h2.1
        omega
      · rw [e2] at e; cases e
    · rw [e3] at e; cases e
  · cases e
theorem rd_back {w0 w : World} {A : Option Addr} {v : List Int} {B b : Nat} (h : Rd w A v) (hb : Below B w0 w) (hA : ∃ a, A = some a ∧ a.block = b) (hlt : b < B) : Rd w0 A v := by
  refine ⟨h.1, fun hl => ?_⟩
  obtain ⟨b', o, e, hc⟩ := h.2 hl
  obtain ⟨a, ha, hab⟩ := hA
  rw [e] at ha
  obtain rfl : (⟨b', o, none⟩ : Addr) = a := by simpa using ha
  refine ⟨b', o, e, fun i hi => ?_⟩
  have := hc i hi
  rw [World.cell?_of_block (hb.block b' (by rw [show b' = b from hab]; exact hlt))] at this
  exact this
def LJ (w0 : World) (R P G B : Nat) (A : Option Addr) (n c : Nat) (l : List Int) (a : Act) (w : World) : Prop := ∃ k ps Q S op AV m cv, LK w0 R P G B A n c l a w k ps Q S op AV m cv
def Smu (G n : Nat) (_ : Act) (w : World) : Nat := match w.cell? ⟨G, 1, none⟩ with
  | some (.int _ k) => n - k.toNat
  | _ => 0
theorem Smu.of {G n k : Nat} {a : Act} {w : World} {A : Option Addr} {n' c : Nat} {bad : Bool} (h : Rdr w G A n' c k bad) : Smu G n a w = n - k := by
  unfold Smu
  rw [h.cell1]
  simp
set_option maxRecDepth 1000000 in
set_option maxHeartbeats 8000000 in
/-- A round. -/
theorem sr_round {w0 w : World} {R P G B n c k m cv : Nat} {A AV : Option Addr} {l : List Int} {ps : List (Int × List Int)} {Q : QP} {S : SP} {op : Bool} (hF : LF w0 R P G B A n c l) (a : Act) (hI : LK w0 R P G B A n c l a w k ps Q S op AV m cv)
    {Qx : Exit → Act → World → Prop} (hX : ∀ a' w' ps' Q' S' op' AV' m' cv', LK w0 R P G B A n c l a' w' n ps' Q' S' op' AV' m' cv' → Qx (.exit 0) a' w') (hE : ∀ a' w', Es a' w0 R w' → BadI l → Qx .ret a' w') :
    Code.wp Tryd.prog spLoop (Exit.then (fun a' w' => LJ w0 R P G B A n c l a' w' ∧ Smu G n a' w' < Smu G n a w) Qx) a w := by
  obtain ⟨hfg, hus, hqp, hpath, hlen, hkn, hrd, hown, hno, hyes, hbw⟩ := hI
  rw [Smu.of hrd]
  have HF := Lib.hid hF
  have HU := Lib.hid hus
  have HQ := Lib.hid hqp
  have HP := Lib.hid hpath
  have HLen := Lib.hid hlen
  have HRD := Lib.hid hrd
  have HO := Lib.hid hown
  have HNO := Lib.hid hno
  have HYES := Lib.hid hyes
  have HX := Lib.hid hX
  have HE := Lib.hid hE
  have r1 := hrd.cell1
  have hn : Hid (l.length = n) := hF.hn
  have hnc := hF.hnc
  have hc2 := hF.hc2
  clear hF hus hqp hpath hlen hrd hown hno hyes hX hE
  obtain ⟨f, rfl⟩ := hfg.lit
  clear hfg
  conv => arg 2; whnf
  by_cases hlt : k < n
  · have hlti : (k : Int) < (n : Int) := by omega
    obtain ⟨b, o, rfl, hc0⟩ := HF.out.hr.2 (by rw [hn.out]; omega)
    have hb0 : b < w0.heap.size := World.block_lt_of_cell? _ _ (hc0 0 (by rw [hn.out]; omega))
    have hbG : Hid (b ≠ G) := by have := HF.out.lg; show _ ≠ _; omega
    have HRW : Hid (Rd w (some ⟨b, o, none⟩) l) := HF.out.hr.below HU.out.bel
    clear hc0
    go_upto_region 7 with (go_at_call 16; refine (num_u b o n c k G l false w HRW.out hn hnc hc2 hkn HRD).mono ?_; rintro e w1 ⟨id, k1, b1, rfl, hs1, hrd1, hg1⟩; have HS1 := Lib.hid hs1; have HRD1 := Lib.hid hrd1; have HG1 := Lib.hid hg1; have hid0 := hs1.2.2.1; have hid1 := hs1.2.2.2.1; have hk1 : k1 ≤ n := (by have := hs1.2.1; rw [hn.out] at this; exact this); have HRW1 := Lib.hid (HRW.out.grown hg1 fun _ => sep_ne hbG.out); clear hs1 hrd1 hg1)
    go_upto_if 37 with (first | (go_at_call 16; refine (num_u b o n c k1 G l b1 w1 HRW1.out hn hnc hc2 hk1 HRD1).mono ?_; rintro e w2 ⟨s, k2, b2, rfl, hs2, hrd2, hg2⟩; have HS2 := Lib.hid hs2; have HRD2 := Lib.hid hrd2; have HG2 := Lib.hid (grown_trans HG1.out hg2); have hs0 := hs2.2.2.1; have hk2 : k2 ≤ n := (by have := hs2.2.1; rw [hn.out] at this; exact this); have HRW2 := Lib.hid (HRW1.out.grown hg2 fun _ => sep_ne hbG.out); clear hs2 hrd2 hg2) | (go_at_call 17; refine (byt_u b o n c k2 G s l b2 w2 HRW2.out hn hnc hc2 hk2 hs0 HRD2 hbG).mono ?_; rintro e w3 ⟨Av, nv, cw, k3, b3, rfl, hs3, hv3, hrd3, hg3⟩; have HS3 := Lib.hid hs3; have HRD3 := Lib.hid hrd3; have HG3 := Lib.hid (grown_trans HG2.out hg3); have HV3 := Lib.hid hv3; have r3 := hrd3.cell2; have hk3 : k3 ≤ n := (by have := hs3.2.1; rw [hn.out] at this; exact this); clear hs3 hv3 hrd3 hg3))
    have HU3 := Lib.hid (HU.out.kept HG3.out HF.out.lg HF.out.gP HF.out.gR)
    rename_i Ka hKa
    cases b3
    · obtain ⟨hps, hkk⟩ := rd_some HF.out.hr.1 HS1.out HS2.out HS3.out
      obtain ⟨hnv, hrv, hnc3, hc3, hav⟩ := HV3.out rfl
      have hB0 : w0.heap.size ≤ B := by have := HF.out.lg; have := HF.out.gB; omega
      have hvl : ((l.drop k2).take s.toNat).length = nv := by
        rcases HS3.out.2.2 with ⟨_, _, h1, h2⟩ | ⟨e, _⟩
        · rw [List.length_take, List.length_drop, hnv]
          have := hn.out
          omega
        · cases e
      have hv0 : Rt w0 (Av, nv, cw) ((l.drop k2).take s.toNat) := ⟨rd_back hrv HU3.out.bel hav hb0, hvl, hnc3, hc3, fun e => by obtain ⟨a, h1, _⟩ := hav; have e' : Av = none := e; rw [e'] at h1; cases h1⟩
      refine wp_cond_false rfl ?_
      refine wp_skip ?_
      simp only [Exit.then]
      refine hKa _ _ ?_
      refine spT_wp (B := B) HF.out hid0 _ ⟨⟨rfl, rfl, rfl, rfl, rfl, rfl, rfl, rfl⟩, rfl, rfl⟩ HU3.out HQ.out HP.out HLen.out hkk hk3 hps HRD3.out (HO.out.kept HG3.out (.inr fun e => by have h3 := (HO.out.lt G e).1; have := HF.out.gB; omega)) HNO.out HYES.out (Nat.le_trans hbw HG3.out.size) hv0 ?_ ?_
      · intro a' w' ps' Q' S' op' AV' m' cv' hk'
        have hmu : Smu G n a' w' < n - k := by rw [Smu.of hk'.rd]; omega
        refine ⟨?_, ?_⟩ <;> (simp only [Exit.inBlock, Exit.then, if_true]; exact ⟨⟨_, _, _, _, _, _, _, _, hk'⟩, hmu⟩)
      · intro a' w' he hbad
        simp only [Exit.inBlock, Exit.then]
        exact HE.out _ _ he hbad
    · have hps := rd_none HS1.out HS2.out HS3.out
      have hbad : BadI l := ⟨ps, k, HP.out, by rw [hn.out]; exact hlt, fun id' v' k' h => by rw [hps] at h; cases h⟩
      have HBad := Lib.hid hbad
      clear hps hbad
      refine wp_cond_true rfl ?_
      go_upto_region 9 with fail
      refine wp_region_lit ?_
      refine wpList_load_mid (op := ⟨some 38, .load 24 (.tmp 4), _, _, _, none⟩) rfl 24 (.tmp 4) rfl P 0 rfl _ _ (by exact HU3.out.range) Tryd.underlying24 rfl (size_sq.trans (congrArg some (QP.size _).symm)) ?_
      refine wpList_store_mid (op := ⟨none, .store 24 (.tmp 2) (.tmp 38), _, _, _, none⟩) rfl 24 (.tmp 2) (.tmp 38) rfl R 0 _ rfl rfl (by exact HU3.out.thereR) size_sq (QP.one _) ?_
      go_wp2_with fail
      exact HE.out _ _ ⟨rfl, rfl, rfl, (HU3.out.fin _).1, (HU3.out.fin _).2⟩ HBad.out
  · obtain rfl : k = n := by omega
    go_wp2_with fail
    exact HX.out _ _ _ _ _ _ _ _ _ ⟨⟨rfl, rfl, rfl, rfl, rfl, rfl, rfl, rfl⟩, HU.out, HQ.out, HP.out, HLen.out, hkn, HRD.out, HO.out, HNO.out, HYES.out, hbw⟩
theorem sr_loop {w0 w : World} {R P G B n c : Nat} {A : Option Addr} {l : List Int} (hF : LF w0 R P G B A n c l) (a : Act) (hI : LJ w0 R P G B A n c l a w)
    {Qx : Exit → Act → World → Prop} (hX : ∀ a' w' ps' Q' S' op' AV' m' cv', LK w0 R P G B A n c l a' w' n ps' Q' S' op' AV' m' cv' → Qx (.exit 0) a' w') (hE : ∀ a' w', Es a' w0 R w' → BadI l → Qx .ret a' w') :
    Code.wp Tryd.prog (Code.loop spLoop) Qx a w := wp_loop (LJ w0 R P G B A n c l) (Smu G n) hI fun a w ⟨k, ps, Q, S, op, AV, m, cv, h⟩ => sr_round hF a h hX hE
theorem res_sr (V : Array Value) (w : World) (p : Addr) (x y : Value) (hp : V[2]? = some (.pointer (some p))) (hy : V[3]? = some y) (hx : (loadVar 24 p).run Tryd.prog w = .ok x w) :
    (results Tryd.f7 V).run Tryd.prog w = .ok (.tuple #[x, y]) w := by
  unfold results
  rw [Tryd.results7]
  simp [hp, hy, hx, asAddr]
set_option maxRecDepth 1000000 in
set_option maxHeartbeats 8000000 in
/-- spec.ReadParams. -/
theorem sr_wp (A : Option Addr) (n c : Nat) (l : List Int) (w : World) (hr : Rd w A l) (hn : Hid (l.length = n)) (hnc : n ≤ c) (hc2 : c ≤ 9223372036854775807) (hnb : n ≤ 100000000000) :
    Calls Tryd.prog 7 #[.slice A n c] w fun e w' => ∃ (Q : QP) (t : Int), e = .returned (.tuple #[.agg Q.cells, .int .i64 t]) ∧ Hid ((t = 0 ∧ ∃ S : SP, Qp w' Q S ∧ GoodS l S) ∨ (t = 1 ∧ BadI l) ∨ (t = 2 ∧ OpenS l)) ∧ Hid (Below w.heap.size w w') := by
  have HR := Lib.hid hr
  have HB0 : Hid (Below w.heap.size w (w.alloc (.cells qz.cells 24 (0, 0)))) := (Below.refl _ _).alloc (Nat.le_refl _) _
  have HR0 := Lib.hid (heap_alloc_new w (.cells qz.cells 24 (0, 0)))
  clear hr
  go_enter Tryd.func7, Tryd.ntmps7
  go_upto_region 2 with (first | (go_at_call 15; refine (usual_wp _).mono ?_; rintro e w1 ⟨rfl, H1⟩; have HB1 := Lib.hid (HB0.out.trans (H1.out.mono HB0.out.size)); have HR1 := Lib.hid ((H1.out.block w.heap.size (by simp)).trans HR0.out)) | (refine wpList_store_mid (op := ⟨none, .store 24 (.tmp 4) (.tmp 16), _, _, _, none⟩) rfl 24 (.tmp 4) (.tmp 16) rfl w1.heap.size 0 qu.cells rfl rfl (there_newq w1 qz 24) size_sq (QP.one qu) ?_))
  have HW := Lib.hid (setCells_all (w := w1.alloc (.cells qz.cells 24 (0, 0))) (vs := qu.cells) (heap_alloc_new w1 (.cells qz.cells 24 (0, 0))) rfl).1
  have hs1 : w.heap.size < w1.heap.size := cell_in HR1.out
  have HB3 : Hid (Below w1.heap.size w1 ((w1.alloc (.cells qz.cells 24 (0, 0))).setCells w1.heap.size 0 qu.cells.toList)) := below_setCells (Nat.le_refl _) (Nat.le_refl _) _ _ ((Below.refl _ _).alloc (Nat.le_refl _) _)
  obtain ⟨w4, hw4⟩ : ∃ w4, (w1.alloc (.cells qz.cells 24 (0, 0))).setCells w1.heap.size 0 qu.cells.toList = w4 := ⟨_, rfl⟩
  rw [hw4] at HW HB3
  change Code.wp _ _ _ _ ((w1.alloc (.cells qz.cells 24 (0, 0))).setCells w1.heap.size 0 qu.cells.toList)
  rw [hw4]
  clear hw4
  have HB4 := Lib.hid (HB1.out.trans (HB3.out.mono HB1.out.size))
  have HR4 := Lib.hid ((HB3.out.block _ hs1).trans HR1.out)
  have hs4 : w1.heap.size < w4.heap.size := cell_in HW.out
  clear HB0 HR0 H1 HB1 HR1 HB3
  go_upto_block 0 with fail
  refine wp_block ?_
  have hLF : LF w w.heap.size w1.heap.size w4.heap.size (w4.heap.size + 1) A n c l := ⟨HR.out, hn.out, hnc, hc2, hnb, by omega, by omega, by omega, by omega, by omega, by omega⟩
  have hB5 : Below w.heap.size w (w4.alloc (.cells #[.slice A n c, .int .i64 ((0 : Nat) : Int), .bool false] 42 (0, 0))) := HB4.out.alloc (by omega) _
  refine sr_loop hLF _ ⟨0, [], qu, usual, false, none, 0, 0, ⟨⟨rfl, rfl, rfl, rfl, rfl, rfl, rfl, rfl⟩, ⟨hB5, heap_alloc_old _ _ (by omega) |>.trans HW.out, ⟨qz, heap_alloc_old _ _ (by omega) |>.trans HR4.out⟩, by omega, Nat.le_refl _, by omega⟩, Qp.usual _, rfl, Nat.le_refl _, Nat.zero_le _, heap_alloc_new _ _, OwnE.nil_ _ _, fun _ => ⟨⟨fun p hp => by simp at hp, by simp⟩, rfl⟩, fun h => (by cases h), by simp⟩⟩ ?_ ?_
  · intro a' w' ps' Q' S' op' AV' m' cv' hk
    have HU := Lib.hid hk.us
    have HQ := Lib.hid (hk.qp.below hk.us.bel)
    have HP := Lib.hid hk.path
    have HNO := Lib.hid hk.no
    have HYES := Lib.hid hk.yes
    have hfg := hk.fg
    have hnl := hn.out
    clear hLF hB5 hk
    obtain ⟨f, rfl⟩ := hfg.lit
    clear hfg
    simp only [Exit.inBlock, Exit.then, if_true]
    cases op'
    · obtain ⟨h1, h2⟩ := HNO.out rfl
      have HG : Hid (GoodS l S') := ⟨ps', by rw [hnl]; exact HP.out, h1, h2⟩
      clear h1 h2
      go_upto_region 80 with fail
      refine wp_region_lit ?_
      refine wpList_load_mid (op := ⟨some 234, .load 24 (.tmp 4), _, _, _, none⟩) rfl 24 (.tmp 4) rfl w1.heap.size 0 rfl _ _ (by exact HU.out.range) Tryd.underlying24 rfl (size_sq.trans (congrArg some (QP.size _).symm)) ?_
      refine wpList_store_mid (op := ⟨none, .store 24 (.tmp 2) (.tmp 234), _, _, _, none⟩) rfl 24 (.tmp 2) (.tmp 234) rfl w.heap.size 0 _ rfl rfl (by exact HU.out.thereR) size_sq (QP.one _) ?_
      go_wp2_with fail
      obtain ⟨Z, hZ⟩ := HU.out.hr
      have hw := setCells_all (vs := Q'.cells) hZ rfl
      refine bodyPost_ret (v := .tuple #[.agg Q'.cells, .int .i64 0]) (res_sr _ _ _ _ _ rfl rfl (load_sq _ _ Q' hw.1)) rfl ?_
      exact ⟨Q', 0, rfl, .inl ⟨rfl, S', (HQ.out.keep fun t d ht => rt_setCells hZ Z.no_u8 0 _ ht), HG.out⟩, (HU.out.fin _).2⟩
    · have HG : Hid (OpenS l) := ⟨ps', by rw [hnl]; exact HP.out, HYES.out rfl⟩
      go_upto_region 79 with fail
      refine wp_region_lit ?_
      refine wpList_load_mid (op := ⟨some 233, .load 24 (.tmp 4), _, _, _, none⟩) rfl 24 (.tmp 4) rfl w1.heap.size 0 rfl _ _ (by exact HU.out.range) Tryd.underlying24 rfl (size_sq.trans (congrArg some (QP.size _).symm)) ?_
      refine wpList_store_mid (op := ⟨none, .store 24 (.tmp 2) (.tmp 233), _, _, _, none⟩) rfl 24 (.tmp 2) (.tmp 233) rfl w.heap.size 0 _ rfl rfl (by exact HU.out.thereR) size_sq (QP.one _) ?_
      go_wp2_with fail
      obtain ⟨Z, hZ⟩ := HU.out.hr
      have hw := setCells_all (vs := Q'.cells) hZ rfl
      refine bodyPost_ret (v := .tuple #[.agg Q'.cells, .int .i64 2]) (res_sr _ _ _ _ _ rfl rfl (load_sq _ _ Q' hw.1)) rfl ?_
      exact ⟨Q', 2, rfl, .inr (.inr ⟨rfl, HG.out⟩), (HU.out.fin _).2⟩
  · intro a' w' he hbad
    simp only [Exit.inBlock, Exit.then]
    obtain ⟨Z, hZ⟩ := he.hr
    refine bodyPost_ret (v := .tuple #[.agg Z.cells, .int .i64 1]) (res_sr _ _ _ _ _ he.t2 he.t3 (load_sq _ _ Z hZ)) he.df ?_
    exact ⟨Z, 1, rfl, .inr (.inl ⟨rfl, hbad⟩), he.bel⟩
end Go.Proofs.YtdjdcpcomhjnjaaDoor

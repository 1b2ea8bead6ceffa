/- The reference's small readers of parameters: Usual, alone, zero. The block of the parameters. Conditions: none. -/
import Derived.Test.YtdjdcpcomhjnjaaDoorRpb
import Derived.Test.YtdjdcpcomhjnjaaDoorReaderU
import Derived.Test.YtdjdcpcomhjnjaaDoorElt
namespace Go.Proofs.YtdjdcpcomhjnjaaDoor
open Go.RowKit
set_option linter.unusedVariables false
set_option linter.unusedSimpArgs false

/-- The reference's block of parameters, and that of its result. -/
structure Us (w0 : World) (R P : Nat) (w : World) (Q : QP) : Prop where
  bel : Below w0.heap.size w0 w
  hp : w.heap[P]? = some (.cells Q.cells 24 (0, 0))
  hr : ∃ Z : QP, w.heap[R]? = some (.cells Z.cells 24 (0, 0))
  lp : w0.heap.size ≤ P
  lr : w0.heap.size ≤ R
  ne : P ≠ R
section
variable {w0 w w' : World} {R P : Nat} {Q : QP}
theorem Us.cell (h : Us w0 R P w Q) (i : Nat) (v : Value) (hv : Q.cells[i]? = some v) : w.cell? ⟨P, i, none⟩ = some v := by
  rw [cell_of_row _ _ i _ _ (0, 0) h.hp]; exact hv
theorem Us.free (h : Us w0 R P w Q) (i : Nat) : w.frozen? ⟨P, i, none⟩ = false := cell_free i h.hp
theorem Us.lt (h : Us w0 R P w Q) : P < w.heap.size := cell_in h.hp
theorem Us.ltr (h : Us w0 R P w Q) : R < w.heap.size := by obtain ⟨Z, hr⟩ := h.hr; exact cell_in hr
theorem Us.set (h : Us w0 R P w Q) {Q' : QP} (i : Nat) (v : Value) (hv : Q.cells.setIfInBounds i v = Q'.cells) : Us w0 R P (w.setCell ⟨P, i, none⟩ v) Q' := by
  refine ⟨below_cell h.bel h.bel.size _ _ _ h.lp, cell_at i v h.hp hv, ?_, h.lp, h.lr, h.ne⟩
  obtain ⟨Z, h2⟩ := h.hr
  exact ⟨Z, cell_off P i v h2 h.ne.symm⟩
theorem Us.below (h : Us w0 R P w Q) (hb : Below w.heap.size w w') : Us w0 R P w' Q := by
  refine ⟨h.bel.trans (hb.mono h.bel.size), (hb.block _ h.lt).trans h.hp, ?_, h.lp, h.lr, h.ne⟩
  obtain ⟨Z, h2⟩ := h.hr
  exact ⟨Z, (hb.block _ (cell_in h2)).trans h2⟩
theorem Us.drewN (h : Us w0 R P w Q) (n : Nat) : Us w0 R P (w.drewN n) Q := h.below (below_drewN (Below.refl _ _) n)
/-- Another block of the call's own changes. -/
theorem Us.kept (h : Us w0 R P w Q) {G : Nat} (hg : w.grownBy w' (some G)) (hG : w0.heap.size ≤ G) (hP : G ≠ P) (hR : G ≠ R) : Us w0 R P w' Q := by
  refine ⟨h.bel.grown hg h.bel.size (fun k hk => by obtain rfl : G = k := (by simpa using hk); exact hG), (hg.block P h.lt (fun e => hP (by simpa using e.symm))).trans h.hp, ?_, h.lp, h.lr, h.ne⟩
  obtain ⟨Z, h2⟩ := h.hr
  exact ⟨Z, (hg.block R (cell_in h2) (fun e => hR (by simpa using e.symm))).trans h2⟩
/-- The block itself changes. -/
theorem Us.own (h : Us w0 R P w Q) (hg : w.grownBy w' (some P)) {Q' : QP} (hp : w'.heap[P]? = some (.cells Q'.cells 24 (0, 0))) : Us w0 R P w' Q' := by
  refine ⟨h.bel.grown hg h.bel.size (fun k hk => by obtain rfl : P = k := (by simpa using hk); exact h.lp), hp, ?_, h.lp, h.lr, h.ne⟩
  obtain ⟨Z, h2⟩ := h.hr
  exact ⟨Z, (hg.block R (cell_in h2) (fun e => h.ne (by simpa using e.symm))).trans h2⟩
theorem rt_grown {t : Tri} {d : List Int} {ty : TypeId} (hp : w.heap[P]? = some (.cells Q.cells ty (0, 0))) (hg : w.grownBy w' (some P)) (ht : Rt w t d) : Rt w' t d :=
  ⟨ht.1.grown hg fun hl ad ha e => by
    obtain ⟨b, o, e', hc⟩ := ht.1.2 hl
    rw [ha] at e'
    obtain rfl : ad = ⟨b, o, none⟩ := by simpa using e'
    obtain rfl : P = b := by simpa using e
    have := hc 0 hl
    rw [cell_of_row _ _ _ _ _ (0, 0) hp] at this
    exact Q.no_u8 _ _ this, ht.2⟩
/-- A slice of bytes lies not in the block. -/
theorem Us.rt (h : Us w0 R P w Q) (i : Nat) (v : Value) {t : Tri} {d : List Int} (ht : Rt w t d) : Rt (w.setCell ⟨P, i, none⟩ v) t d := rt_grown h.hp (grownBy_set w P i v) ht
theorem Us.qp (h : Us w0 R P w Q) (i : Nat) (v : Value) {Q' : QP} {S : SP} (ht : Qp w Q' S) : Qp (w.setCell ⟨P, i, none⟩ v) Q' S := ht.keep fun _ _ k => h.rt i v k
theorem Us.range (h : Us w0 R P w Q) : w.rangeAt P 0 Q.cells.toList := range_row h.hp
theorem Us.thereR (h : Us w0 R P w Q) : w.there R 0 22 := by
  obtain ⟨Z, h2⟩ := h.hr
  exact there_row h2 (Nat.le_refl 22)
theorem Us.fin (h : Us w0 R P w Q) (Q' : QP) : (∃ Z : QP, (w.setCells R 0 Q'.cells.toList).heap[R]? = some (.cells Z.cells 24 (0, 0))) ∧ Below w0.heap.size w0 (w.setCells R 0 Q'.cells.toList) := by
  obtain ⟨Z, h2⟩ := h.hr
  exact ⟨⟨Q', (setCells_all (vs := Q'.cells) h2 rfl).1⟩, below_setCells h.lr (Nat.le_refl _) _ _ h.bel⟩
end

/-- The usual parameters. -/
def qu : QP := ⟨(none, 0, 0), (none, 0, 0), (none, 0, 0), (none, 0, 0), 0, 65527, 0, 0, 0, 0, 0, 0, 3, 25, false, (none, 0, 0), (none, 0, 0), 0, 0, (none, 0, 0), (none, 0, 0), 2⟩
theorem Qp.usual (w : World) : Qp w qu usual :=
  ⟨Rt.nil_ w, Rt.nil_ w, Rt.nil_ w, Rt.nil_ w, rfl, rfl, rfl, rfl, rfl, rfl, rfl, rfl, rfl, rfl, rfl, Rt.nil_ w, Rt.nil_ w, rfl, rfl, Rt.nil_ w, Rt.nil_ w, rfl⟩
theorem load_sq (w : World) (g : Nat) (Q : QP) (h : w.heap[g]? = some (.cells Q.cells 24 (0, 0))) : (loadVar 24 ⟨g, 0, none⟩).run Tryd.prog w = .ok (.agg Q.cells) w :=
  run_loadVar_mid (P := Tryd.prog) _ _ _ 24 Q.cells.toList _ (range_row h) Tryd.underlying24 rfl size_sq
theorem res_us (V : Array Value) (w : World) (p : Addr) (x : Value) (hp : V[0]? = some (.pointer (some p))) (hx : (loadVar 24 p).run Tryd.prog w = .ok x w) :
    (results Tryd.f15 V).run Tryd.prog w = .ok x w := by
  unfold results
  rw [Tryd.results15]
  simp [hp, hx, asAddr]
set_option maxRecDepth 100000 in
theorem usual_wp (w : World) : Calls Tryd.prog 15 #[] w fun e w' => e = .returned (.agg qu.cells) ∧ Hid (Below w.heap.size w w') := by
  go_enter Tryd.func15, Tryd.ntmps15
  go_wp2_with (refine wpList_store_mid (op := ⟨none, .store 24 (.tmp 0) (.tmp 1), _, _, _, none⟩) rfl 24 (.tmp 0) (.tmp 1) rfl w.heap.size 0 qu.cells rfl rfl (there_newq w qz 24) size_sq (QP.one qu) ?_)
  have h := setCells_all (w := w.alloc (.cells qz.cells 24 (0, 0))) (vs := qu.cells) (heap_alloc_new w (.cells qz.cells 24 (0, 0))) rfl
  refine bodyPost_ret (v := .agg qu.cells) (res_us _ _ _ _ rfl (load_sq _ _ _ h.1)) rfl ?_
  exact ⟨rfl, below_setCells (Nat.le_refl _) (Nat.le_refl _) _ _ ((Below.refl _ _).alloc (Nat.le_refl _) _)⟩

set_option maxHeartbeats 1000000 in
/-- The number that a value is, and whether it is just one. -/
theorem al_wp (A : Option Addr) (n c : Nat) (v : List Int) (w : World) (hr : Rd w A v) (hn : Hid (v.length = n)) (hnc : n ≤ c) (hc2 : c ≤ 9223372036854775807) :
    Calls Tryd.prog 20 #[.slice A n c] w fun e w' => ∃ y : Bool, e = .returned (.tuple #[.int .i64 (num v), .bool y]) ∧ Hid (y = true ↔ alone v) ∧ w' = w := by
  cases hv : rv v with
  | none =>
    have HV := Lib.hid hv
    have hnn : ((-1 : Int) == (n : Int)) = false := by rw [beq_eq_false_iff_ne]; omega
    go_enter Tryd.func20, Tryd.ntmps20
    go_wp2_with (go_at_call 28; refine (srv_none A n c v w hr hn hnc hc2 HV).mono ?_; rintro e w' ⟨rfl, rfl⟩)
    go_ret2
    refine ⟨false, ?_, ?_, rfl⟩
    · rw [num_none HV.out]; rfl
    · exact ⟨fun h => (by cases h), fun ⟨x, hx⟩ => by rw [HV.out] at hx; cases hx⟩
  | some p =>
    obtain ⟨x, k⟩ := p
    have HV := Lib.hid hv
    have hb := rv_bd hr.1 hv
    have hw : IntKind.i64.wrap x = x := IntWalk.i64_in _ (by omega)
    clear hv
    go_enter Tryd.func20, Tryd.ntmps20
    go_wp2_with (go_at_call 28; refine (srv_some A n c v w x k hr hn hnc hc2 HV).mono ?_; rintro e w' ⟨rfl, rfl⟩)
    go_ret2
    refine ⟨((k : Nat) : Int) == (n : Int), ?_, ?_, rfl⟩
    · rw [num_of HV.out]; rfl
    · constructor
      · intro h
        have : ((k : Nat) : Int) = (n : Int) := by simpa using h
        have : k = n := by omega
        exact ⟨x, by rw [HV.out, this, hn.out]⟩
      · rintro ⟨x', h⟩
        rw [HV.out] at h
        have : k = v.length := by simp at h; exact h.2
        simp [this, hn.out]

set_option maxHeartbeats 1000000 in
/-- Bytes are all 0. -/
theorem zero_wp (A : Option Addr) (n c : Nat) (v : List Int) (w : World) (hr : Rd w A v) (hn : Hid (v.length = n)) (hnc : n ≤ c) (hc2 : c ≤ 9223372036854775807) :
    Calls Tryd.prog 19 #[.slice A n c] w fun e w' => ∃ y : Bool, e = .returned (.bool y) ∧ Hid (y = true ↔ zeroB v) ∧ w' = w := by
  go_enter Tryd.func19, Tryd.ntmps19
  go_wp2_with fail
  go_loopw [7] (fun i wr => ∃ q : Nat, q ≤ n ∧ i = .int .i64 q ∧ Hid (wr = w) ∧ Hid (∀ x ∈ v.take q, x = 0)) (fun i _ => n - (intOf i).toNat)
  case atStart => exact ⟨0, by omega, rfl, Lib.hid rfl, Lib.hid (by simp)⟩
  case round =>
    obtain ⟨q, hq, rfl, HW, HZ⟩ := hrel
    obtain rfl := HW.out
    by_cases hlt : q < n
    · obtain ⟨b, o, rfl, hc⟩ := hr.2 (by rw [hn.out]; omega)
      have c0 := hc q (by rw [hn.out]; exact hlt)
      have hi : (q : Int) < (n : Int) := by omega
      by_cases hx : v.getD q 0 = 0
      · rw [hx] at c0
        go_wp2_with fail
        go_roundw
        case rel =>
          refine ⟨q + 1, by omega, by go_num, Lib.hid trivial, Lib.hid fun x h => ?_⟩
          rw [List.take_add_one] at h
          rcases List.mem_append.1 h with h | h
          · exact HZ.out x h
          · have e : v[q]?.getD 0 = 0 := hx
            rw [List.getElem?_eq_getElem (by rw [hn.out]; exact hlt)] at h e
            have h' : x = v[q]'(by rw [hn.out]; exact hlt) := by simpa using h
            rw [h']; simpa using e
        case measure => simp [intOf]; omega
      · obtain ⟨x, hxe⟩ : ∃ x, v.getD q 0 = x := ⟨_, rfl⟩
        rw [hxe] at c0 hx
        go_wp2_with fail
        go_ret
        refine .inl ⟨rfl, Lib.hid fun h => ?_, rfl⟩
        refine absurd (h x ?_) hx
        rw [← hxe, List.getD_eq_getElem?_getD, List.getElem?_eq_getElem (by rw [hn.out]; exact hlt)]
        simp
    · obtain rfl : q = n := by omega
      go_wp2_with fail
      go_ret
      refine .inr ⟨rfl, ?_, rfl⟩
      have h0 := HZ.out
      rw [List.take_of_length_le (by rw [hn.out]; exact Nat.le_refl _)] at h0
      exact Lib.hid h0
end Go.Proofs.YtdjdcpcomhjnjaaDoor

/- The walk of FnHas. Conditions: none. -/
import Derived.Test.YtdogepkfgobcfaaOrderLaw
import Derived.Test.YtdogepkfgobcfaaSpecRanges
import Derived.Test.YtdogepkfgobcfaaHas
namespace Go.Proofs.Ytdogepkfgobcfaa
open Go.RowKit
set_option linter.unusedVariables false

set_option maxRecDepth 100000 in
set_option maxHeartbeats 1000000 in
theorem hs_big (A : Option Addr) (n c : Nat) (v : Int) (w : World) (hn : 2147483647 < n) (hn2 : n ≤ 9223372036854775807) :
    Calls Try.prog 9 #[.slice A n c, .int .i64 v] w fun e w' => e = .returned (.bool true) ∧ Below w.heap.size w w' := by
  go_enter Try.func9, Try.ntmps9
  go_wp2
  go_ret
  exact ⟨rfl, Below.refl _ _⟩

/-- What holds in the law's search: the block of the range found so far, and the ranges' slice. -/
def Sea (w : World) (p : Nat) (L : Rgs) (A : Option Addr) (c : Nat) (wr : World) (r : Int × Int) : Prop :=
  wr.heap[p]? = some (.cells #[.int .i64 r.1, .int .i64 r.2] 47 (0, 0)) ∧ OwnE EPr (p + 1) wr (.slice A L.length c) L ∧ Below w.heap.size w wr ∧ w.heap.size ≤ p
section
variable {w wr : World} {p : Nat} {L : Rgs} {A : Option Addr} {c : Nat} {r : Int × Int}
theorem Sea.plt (h : Sea w p L A c wr r) : p < wr.heap.size := (Array.getElem?_eq_some_iff.1 h.1).1
theorem Sea.c0 (h : Sea w p L A c wr r) : wr.cell? ⟨p, 0, none⟩ = some (.int .i64 r.1) := by rw [cell_of_row wr p 0 _ _ (0, 0) h.1]; rfl
theorem Sea.c1 (h : Sea w p L A c wr r) : wr.cell? ⟨p, 1, none⟩ = some (.int .i64 r.2) := by rw [cell_of_row wr p 1 _ _ (0, 0) h.1]; rfl
theorem Sea.free (h : Sea w p L A c wr r) (i : Nat) : wr.frozen? ⟨p, i, none⟩ = false := by have := h.1; simp [World.frozen?, this]
theorem Sea.alloc (h : Sea w p L A c wr r) (o : Obj) : Sea w p L A c (wr.alloc o) r :=
  ⟨(heap_alloc_old _ _ h.plt).trans h.1, h.2.1.alloc o, h.2.2.1.alloc h.2.2.1.size _, h.2.2.2⟩
theorem Sea.set (h : Sea w p L A c wr r) (x y : Int) : Sea w p L A c ((wr.setCell ⟨p, 0, none⟩ (.int .i64 x)).setCell ⟨p, 1, none⟩ (.int .i64 y)) (x, y) := by
  have hne : ∀ k, (Value.slice A L.length c).ownBlock = some k → k ≠ p := fun k hk => by have := (h.2.1.lt k hk).1; omega
  have hne2 : (Value.slice A L.length c).ownBlock ≠ some p := fun e => hne p e rfl
  refine ⟨?_, (h.2.1.kept (gset _ _ _ _) (.inr hne2)).kept (gset _ _ _ _) (.inr hne2), Below.set_ (Below.set_ h.2.2.1 h.2.2.1.size _ _ _ h.2.2.2) (by have := h.2.2.1.size; simpa [World.setCell] using this) _ _ _ h.2.2.2, h.2.2.2⟩
  have := h.1
  simp [World.setCell, Array.getElem?_modify, this]
end

set_option maxRecDepth 100000 in
set_option maxHeartbeats 3000000 in
theorem hs_in (A : Option Addr) (n c : Nat) (l : List Opr) (v : Int) (w : World) (hr : RdE EOp w A l) (hn : Hid (l.length = n)) (hn2 : n ≤ 2147483647) (hbd : Hid (OpsBd l)) :
    Calls Try.prog 9 #[.slice A n c, .int .i64 v] w fun e w' => e = .returned (.bool true) ∧ Below w.heap.size w w' := by
  have HR := Lib.hid hr
  clear hr
  go_enter Try.func9, Try.ntmps9
  go_wp2_with fail
  refine (lops A n c l w HR.out hn hn2 hbd).mono ?_
  rintro e w1 ⟨s1, ok, rfl, hok, hb1⟩
  have HB1 := Lib.hid hb1
  have HR1 := Lib.hid (HR.out.below hb1)
  have HOK := Lib.hid hok
  clear hok hb1
  cases ok
  · go_wp2_with fail
    go_ret
    exact ⟨rfl, HB1.out⟩
  obtain ⟨h200, hopk, -, ho1⟩ := HOK.out rfl
  rw [hn.out] at h200
  obtain ⟨P, hP⟩ : ∃ P, Hid (P = l.map plainO) := ⟨_, Lib.hid rfl⟩
  have hPn : Hid (P.length = n) := by show _ = _; rw [hP.out, List.length_map]; exact hn.out
  rw [← hP.out] at hopk ho1
  have HOpk := Lib.hid hopk
  obtain ⟨A1, c1, hs1, hr1, -, -⟩ := ho1.shape
  rw [hPn.out] at hs1
  subst hs1
  have HS1 := Lib.hid hr1
  clear hopk HOK ho1 hr1
  go_wp2_with fail
  refine (pln A n c l w1 HR1.out hn hn2).mono ?_
  rintro e w2 ⟨s2, rfl, ho2, hb2⟩
  rw [← hP.out] at ho2
  obtain ⟨A2, c2, hs2, hr2, -, -⟩ := ho2.shape
  rw [hPn.out] at hs2
  subst hs2
  have HR2 := Lib.hid hr2
  have HS2 := Lib.hid (HS1.out.below hb2)
  have HB2 := Lib.hid (HB1.out.trans (hb2.mono HB1.out.size))
  clear ho2 hr2 hb2 HS1 HR1
  go_wp2_with fail
  refine (ihas A2 n c2 P v w2 HR2.out hPn h200 HOpk).mono ?_
  rintro e w3 ⟨rfl, hb3⟩
  have HR3 := Lib.hid (HR2.out.below hb3)
  have HS3 := Lib.hid (HS2.out.below hb3)
  have HB3 := Lib.hid (HB2.out.trans (hb3.mono HB2.out.size))
  clear hb3 HR2 HS2
  go_wp2_with fail
  refine (shas A1 n c1 P v w3 HS3.out hPn (by omega)).mono ?_
  rintro e w4 ⟨rfl, hb4⟩
  have HR4 := Lib.hid (HR3.out.below hb4)
  have HS4 := Lib.hid (HS3.out.below hb4)
  have HB4 := Lib.hid (HB3.out.trans (hb4.mono HB3.out.size))
  clear hb4 HR3 HS3
  obtain ⟨hh, hhe⟩ : ∃ b, Hid (has P v = b) := ⟨_, Lib.hid rfl⟩
  rw [hhe.out]
  have hb2' : ((hh != hh) = false) := by cases hh <;> rfl
  have S5 := Lib.hid (HS4.out.below' (Nat.le_refl _) ((Below.refl _ _).alloc (Nat.le_refl _) (.cells #[.int .i64 0, .int .i64 0] 47)))
  go_wp2_with fail
  refine (srng A1 n c1 P _ S5.out hPn h200).mono ?_
  rintro e w5 ⟨s5, rfl, ho5, hb5⟩
  rw [← set_eq_spec P HOpk.out] at ho5
  obtain ⟨L, hL⟩ : ∃ L, Hid (L = setP P) := ⟨_, Lib.hid rfl⟩
  obtain ⟨m, hm⟩ : ∃ m, Hid (L.length = m) := ⟨_, Lib.hid rfl⟩
  rw [← hL.out] at ho5
  obtain ⟨A5, c5, hs5, -, -, -⟩ := ho5.shape
  have hcan : Hid (Canon L) := by show Canon L; rw [hL.out]; exact HOpk.out.canon
  have hm200 : m ≤ 200 := by
    have := setP_len P P.length (Nat.le_refl _)
    rw [List.take_of_length_le (Nat.le_refl _), ← hL.out, hm.out, hPn.out] at this
    omega
  have hsz : (w4.alloc (.cells #[.int .i64 0, .int .i64 0] 47)).heap.size = w4.heap.size + 1 := by simp
  have SE : Hid (Sea w w4.heap.size L A5 c5 w5 (0, 0)) := by
    refine ⟨(hb5.block _ (by rw [hsz]; omega)).trans (heap_alloc_new _ _), ?_, (HB4.out.alloc HB4.out.size _).trans (hb5.mono (by rw [hsz]; have := HB4.out.size; omega)), HB4.out.size⟩
    rw [hsz] at ho5
    rw [← hs5]
    exact ho5
  have BW := Lib.hid (((Below.refl w4.heap.size w4).alloc (Nat.le_refl _) _).trans (hb5.mono (by rw [hsz]; omega)))
  rw [hm.out] at hs5
  subst hs5
  clear ho5 hb5 hsz HS4 S5 HB4 HB3 HB2 HB1
  go_wp2_with fail
  obtain ⟨p8, hp8⟩ : ∃ p, Hid (w4.heap.size = p) := ⟨_, Lib.hid rfl⟩
  have HRB : Hid (∀ wr : World, Below p8 w4 wr → RdE EOp wr A2 P) := by
    intro wr hb
    rw [← hp8.out] at hb
    exact HR4.out.below hb
  rw [hp8.out] at SE BW ⊢
  clear HR4
  go_loopw [34] (fun i wr => ∃ (q : Nat) (r : Int × Int), q ≤ m ∧ i = .int .i64 q ∧ Hid (r = lastP v (0, 0) (L.take q)) ∧ Hid (Sea w p8 L A5 c5 wr r) ∧ Hid (Below p8 w4 wr)) (fun i _ => m - (intOf i).toNat)
  case atStart => exact ⟨0, (0, 0), by omega, rfl, rfl, SE, BW⟩
  case round =>
    clear SE BW
    obtain ⟨q, r, hq, rfl, HL, SE, BW⟩ := hrel
    have hp8w : Hid (p8 ≤ wr.heap.size) := Nat.le_of_lt SE.out.plt
    obtain ⟨y0, y1⟩ := r
    have z0 := SE.out.c0
    have z1 := SE.out.c1
    have f0 := SE.out.free 0
    have f1 := SE.out.free 1
    have hlp := SE.out.plt
    simp only at z0 z1
    by_cases hlt : q < m
    · have hlt' : q < L.length := by rw [hm.out]; exact hlt
      obtain ⟨b5, o5, rfl, hc5⟩ := SE.out.2.1.rdE (by omega)
      obtain ⟨g0, g1⟩ := rg_cells rfl rfl hc5 q hlt'
      have hnext := Lib.hid (lastP_take v (0, 0) L q hlt')
      obtain ⟨xx, hxx⟩ : ∃ x, x = L[q] := ⟨_, rfl⟩
      rw [← hxx] at g0 g1 hnext
      obtain ⟨x0, x1⟩ := xx
      simp only at g0 g1
      have S1 := Lib.hid (SE.out.alloc (.cells #[.int .i64 x0, .int .i64 x1] 47))
      have S2 := Lib.hid ((SE.out.set x0 x1).alloc (.cells #[.int .i64 x0, .int .i64 x1] 47))
      have R1 := Lib.hid (BW.out.alloc hp8w.out (.cells #[.int .i64 x0, .int .i64 x1] 47))
      have R2 := Lib.hid ((Below.set_ (Below.set_ BW.out hp8w.out p8 0 (.int .i64 x0) (Nat.le_refl _)) (by have := hp8w.out; simpa [World.setCell] using this) p8 1 (.int .i64 x1) (Nat.le_refl _)).alloc (by have := hp8w.out; simpa [World.setCell] using this) (.cells #[.int .i64 x0, .int .i64 x1] 47))
      clear hc5 hxx hlt'
      by_cases h1 : x0 ≤ v
      · by_cases h2 : v < x1
        · go_wp2_with fail
          go_roundw
          case rel => exact ⟨q + 1, (x0, x1), by omega, by go_num, by show _ = _; rw [hnext.out, if_pos ⟨h1, h2⟩], S2, R2⟩
          case measure => simp [intOf]; omega
        · go_wp2_with fail
          go_roundw
          case rel => exact ⟨q + 1, (y0, y1), by omega, by go_num, by show _ = _; rw [hnext.out, if_neg (fun h => h2 h.2)]; exact HL.out, S1, R1⟩
          case measure => simp [intOf]; omega
      · go_wp2_with fail
        go_roundw
        case rel => exact ⟨q + 1, (y0, y1), by omega, by go_num, by show _ = _; rw [hnext.out, if_neg (fun h => h1 h.1)]; exact HL.out, S1, R1⟩
        case measure => simp [intOf]; omega
    · obtain rfl : q = m := by omega
      have he : Hid ((y0, y1) = rcP v (setP P)) := by
        show _ = _
        rw [HL.out, List.take_of_length_le (by rw [hm.out]; exact Nat.le_refl _), lastP_rc v L hcan.out, hL.out]
      have hes := run_eql_same y0 y1
      have hone : Hid (has [⟨false, 1, 2⟩] 1 = true) := rfl
      have hok1 : Hid (OpsOk [⟨false, 1, 2⟩]) := by intro o ho; simp at ho; subst ho; exact ⟨by decide, by decide⟩
      have irof' : Hid (∀ W : World, Below p8 w4 W → Calls Try.prog 31 #[.slice A2 n c2, .int .i64 v] W fun e w' => e = .returned (.agg #[.int .i64 y0, .int .i64 y1]) ∧ Hid (Below W.heap.size W w')) := by
        intro W hW
        refine (irof A2 n c2 P v W (HRB.out W hW) hPn h200 HOpk).mono fun e w' h => ?_
        rw [← he.out] at h
        exact h
      have ihas' : Hid (∀ W : World, Calls Try.prog 29 #[.slice (some ⟨W.heap.size, 0, none⟩) 1 1, .int .i64 1] (W.alloc (.cells #[.bool false, .int .i64 1, .int .i64 2] 41)) fun e w' => e = .returned (.bool true) ∧ Hid (Below W.heap.size W w')) := by
        intro W
        refine (ihas _ 1 _ [⟨false, 1, 2⟩] 1 _ (one_op W) rfl (by omega) hok1).mono fun e w' h => ?_
        rw [hone.out] at h
        exact ⟨h.1, ((Below.refl _ _).alloc (Nat.le_refl _) _).trans (h.2.mono (by simp))⟩
      go_wp2_with fail
      go_region_held3 (fun w' => w'.cell? ⟨p8, 0, none⟩ = some (.int .i64 y0) ∧ w'.cell? ⟨p8, 1, none⟩ = some (.int .i64 y1)) (first | go_keep | (exact ⟨(HB7.out.cell (p := ⟨p8, 0, none⟩) (Nat.lt_of_lt_of_le hlp HB6.out.size)).trans ((HB6.out.cell (p := ⟨p8, 0, none⟩) hlp).trans z0), (HB7.out.cell (p := ⟨p8, 1, none⟩) (Nat.lt_of_lt_of_le hlp HB6.out.size)).trans ((HB6.out.cell (p := ⟨p8, 1, none⟩) hlp).trans z1)⟩) | (exact ⟨(HB6.out.cell (p := ⟨p8, 0, none⟩) hlp).trans z0, (HB6.out.cell (p := ⟨p8, 1, none⟩) hlp).trans z1⟩)) ((first | (go_at_call 31; refine (irof'.out _ (below_drewN BW.out 1)).mono ?_; rintro e w6 ⟨rfl, HB6⟩) | (go_at_call 29; refine (ihas'.out _).mono ?_; rintro e w7 ⟨rfl, HB7⟩)))
      have HS := Lib.hid SE.out.2.2.1
      go_wp2
      go_ret
      exact ⟨rfl, (below_drewN HS.out 1).trans ((HB6.out.mono HS.out.size).trans (HB7.out.mono (Nat.le_trans HS.out.size HB6.out.size)))⟩

theorem fnHas_walk (A : Option Addr) (l : List Opr) (c : Nat) (v : Int) (hv : -9223372036854775808 ≤ v ∧ v ≤ 9223372036854775807) (w : World) (h : OpsArg w A l c) :
    Calls Try.prog 9 #[.slice A l.length c, .int .i64 v] w fun e w' => e = .returned (.bool true) ∧ Below w.heap.size w w' := by
  have h1 := h.le
  have h2 := h.max
  unfold maxLen at h2
  by_cases hb : 2147483647 < l.length
  · exact hs_big A _ c v w hb (by omega)
  · exact hs_in A _ c l v w h.rd rfl (by omega) h.bd

end Go.Proofs.Ytdogepkfgobcfaa

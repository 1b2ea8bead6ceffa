/- Contracts of ZZPutAck and impl.PutAck. Conditions: the ranges and numbers are the statement's, the size at most 10000. -/
import Derived.Test.YtdogepkfgobcfaaAckFrame2
import Derived.Test.YtdogepkfgobcfaaAckFrame3
import Derived.Test.YtdogepkfgobcfaaAcked
namespace Go.Proofs.Ytdogepkfgobcfaa
open Go.RowKit
set_option linter.unusedVariables false

theorem addP_last : ∀ (l : Rgs) (s e : Int), s < e → (∀ r ∈ l, r.2 < s) → (∀ r ∈ l, r.1 < r.2) → addP s e l = l ++ [(s, e)]
  | [], _, _, _, _, _ => rfl
  | r :: l, s, e, h0, h, h2 => by
    have a := h r (List.mem_cons_self ..)
    have b := h2 r (List.mem_cons_self ..)
    rw [addP, if_neg (by omega), if_pos a, addP_last l s e h0 (fun q hq => h q (List.mem_cons_of_mem _ hq)) (fun q hq => h2 q (List.mem_cons_of_mem _ hq))]
    rfl
theorem AscI.all : ∀ {L : Rgs} {m : Int}, AscI m L → ∀ r ∈ L, r.1 < r.2
  | [], _, _, r, h => by simp at h
  | p :: L, m, ⟨a, b, c, d⟩, r, h => by
    rcases List.mem_cons.1 h with rfl | h
    · exact b
    · exact AscI.all d r h
theorem asc_add {L : Rgs} {k : Nat} (h : AscI (-1) L) (hk : k < L.length) : (if L[k].1 = L[k].2 then L.take k else addP L[k].1 L[k].2 (L.take k)) = L.take (k + 1) := by
  have e : L = L.take k ++ L[k] :: L.drop (k + 1) := by
    rw [← List.drop_eq_getElem_cons hk, List.take_append_drop]
  have h' : AscI (-1) (L.take k ++ L[k] :: L.drop (k + 1)) := by rw [← e]; exact h
  obtain ⟨h1, m', ⟨h2, h3, h4, _⟩, _, h6⟩ := asc_append _ _ _ h'
  rw [if_neg (by omega), addP_last _ _ _ h3 (fun r hr => by have := h6 r hr; omega) h1.all]
  exact (List.take_succ_eq_append_getElem hk).symm

/-- A writer that was made in an older world. -/
theorem Wr.later {w0 w w1 : World} {S0 S : Value} {B p s : Nat} {lim : Int} {l : List Int} (h : Wr w0 S0 B p s lim w S l) (hb : Below w.heap.size w w1) : Wr w1 S B p s lim w1 S l := by
  obtain ⟨dg, hp⟩ := h.pc
  exact ⟨⟨dg, (hb.block p (cell_in hp)).trans hp⟩, (hb.block s (cell_in h.sc)).trans h.sc, h.own.below hb, h.sp, h.pB, Nat.le_trans h.le hb.size, Below.refl _ _, fun _ _ _ _ _ => rfl, .inl rfl, Nat.le_refl _⟩

/-- What PutAck answers. -/
def PutEnd (w : World) (L : Rgs) (d e0 e1 e2 : Int) (lim : Nat) (e : Ending) (w' : World) : Prop :=
  Below w.heap.size w w' ∧ ((lim < 100 ∧ ∃ A c, e = .returned (.tuple #[.slice A 0 c, .bool false])) ∨
  ∃ k A n c, k + 1 ≤ L.length ∧ e = .returned (.tuple #[.slice A n c, .bool true]) ∧ Own w.heap.size w' (.slice A n c) (ackW (topR L) ((below_ L).take k) d e0 e1 e2) ∧ (ackW (topR L) ((below_ L).take k) d e0 e1 e2).length = n ∧ n ≤ lim ∧ (10000 ≤ lim → k + 1 = L.length))

set_option maxRecDepth 100000 in
set_option maxHeartbeats 4000000 in
theorem zzput (A : Option Addr) (n c : Nat) (L : Rgs) (d e0 e1 e2 : Int) (lim : Nat) (w : World) (hr : RdE EPr w A L) (hn : Hid (L.length = n)) (hF : Hid (AckedF L d e0 e1 e2)) (hl : lim ≤ 10000) :
    Calls Try.prog 67 #[.slice A n c, .int .i64 d, .agg #[.int .i64 e0, .int .i64 e1, .int .i64 e2], .int .i64 lim] w fun e w' => PutEnd w L d e0 e1 e2 lim e w' := by
  obtain ⟨W0, hW0⟩ : ∃ W0, Hid (w.alloc (.cells #[.int .i64 e0, .int .i64 e1, .int .i64 e2] 56 (0, 0)) = W0) := ⟨_, Lib.hid rfl⟩
  have HQ : Hid (W0.heap[w.heap.size]? = some (.cells #[.int .i64 e0, .int .i64 e1, .int .i64 e2] 56 (0, 0))) := by show _ = _; rw [← hW0.out]; exact heap_alloc_new w _
  have HR : Hid (RdE EPr W0 A L) := by show RdE _ _ _ _; rw [← hW0.out]; exact hr.below ((Below.refl _ _).alloc (Nat.le_refl _) _)
  have HB0 : Hid (Below w.heap.size w W0) := by show Below _ _ _; rw [← hW0.out]; exact (Below.refl _ _).alloc (Nat.le_refl _) _
  have HZ : w.heap.size < W0.heap.size := by rw [← hW0.out]; simp
  have hn64 : 1 ≤ n ∧ n ≤ 64 := by rw [← hn.out]; exact ⟨hF.out.pos, hF.out.le⟩
  clear hr
  go_enter Try.func67, Try.ntmps67
  go_wp2_with fail
  rw [hW0.out]
  refine (zzw lim W0 hl).mono ?_
  rintro e w1 ⟨p, S, rfl, HW1⟩
  obtain ⟨w2, hw2⟩ : ∃ w2, Hid (w1.alloc (.cells #[.slice none 0 0] 80 (0, 0)) = w2) := ⟨_, Lib.hid rfl⟩
  have R2 : Hid (RS w1.heap.size w2 w1.heap.size none 0 []) := by
    show RS _ _ _ _ _ _
    rw [← hw2.out]
    exact ⟨heap_alloc_new w1 _, OwnE.nil_ _ _, Nat.le_refl _, fun a h => by cases h⟩
  have HB2 : Hid (Below w1.heap.size w1 w2) := by show Below _ _ _; rw [← hw2.out]; exact (Below.refl _ _).alloc (Nat.le_refl _) _
  have hz1 : W0.heap.size ≤ w1.heap.size := HW1.out.2.size
  have hz2 : w1.heap.size < w2.heap.size := R2.out.lt
  have HC := Lib.hid (HB0.out.trans (HW1.out.2.mono HB0.out.size))
  go_wp2_with fail
  rw [hw2.out]
  go_loopw [18] (fun i wr => ∃ k : Nat, k ≤ n ∧ i = .int .i64 k ∧ Hid (∃ A cap, RS w1.heap.size wr w1.heap.size A cap (L.take k)) ∧ Hid (Below w1.heap.size w1 wr)) (fun i _ => n - (intOf i).toNat)
  case atStart => exact ⟨0, by omega, rfl, ⟨none, 0, R2.out⟩, HB2⟩
  case round =>
    obtain ⟨k, hk, rfl, HS, HB⟩ := hrel
    by_cases hlt : k < n
    · have hkl : k < L.length := by rw [hn.out]; exact hlt
      obtain ⟨b, o, rfl, hc⟩ := ((HR.out.below (HW1.out.2)).below HB.out) (by omega)
      obtain ⟨a0, a1⟩ := rg_cells rfl rfl hc k hkl
      have hst := Lib.hid (asc_add hF.out.asc hkl)
      obtain ⟨x0, hx0⟩ : ∃ x, x = L[k].1 := ⟨_, rfl⟩
      obtain ⟨x1, hx1⟩ : ∃ x, x = L[k].2 := ⟨_, rfl⟩
      rw [← hx0] at a0 hst
      rw [← hx1] at a1 hst
      have hbb := World.block_lt_of_cell? _ _ a0
      have htk : Hid ((L.take k).length = k) := by show _ = _; rw [List.length_take]; omega
      clear hc hx0 hx1 hkl
      obtain ⟨A1, cap1, R1⟩ := HS.out
      have HR1 := Lib.hid R1
      have hwr : Hid (w1.heap.size ≤ wr.heap.size) := HB.out.size
      clear R1
      go_wp2_with fail
      refine (add_ w1.heap.size w1.heap.size cap1 A1 (L.take k) x0 x1 k _ (HR1.out.alloc _) htk (by omega)).mono ?_
      rintro e w4 ⟨rfl, hb4, A4, cap4, hr4⟩
      rw [hst.out] at hr4
      have HR4 := Lib.hid hr4
      have HB4 := Lib.hid (((HB.out).alloc hwr.out _).trans hb4)
      clear hb4 hr4
      go_wp2_with fail
      go_roundw
      case rel => exact ⟨k + 1, by omega, by go_num, ⟨A4, cap4, HR4.out⟩, HB4⟩
      case measure => simp [intOf]; omega
    · obtain rfl : k = n := by omega
      have he : Hid (L.take k = L) := List.take_of_length_le (by rw [hn.out]; exact Nat.le_refl _)
      rw [he.out] at HS
      obtain ⟨A1, cap1, R1⟩ := HS.out
      obtain ⟨g, rfl, k1, k2, k3, k4, k5⟩ := R1.addr (by rw [hn.out]; omega)
      have HR1 := Lib.hid R1
      have HWr := Lib.hid (HW1.out.1.later HB.out)
      have Q2 := ((HB.out.block w.heap.size (by omega)).trans ((HW1.out.2.block w.heap.size HZ).trans HQ.out))
      have q0 : wr.cell? ⟨w.heap.size, 0, none⟩ = some (.int .i64 e0) := by rw [cell_of_row _ _ 0 _ _ (0, 0) Q2]; rfl
      have q1 : wr.cell? ⟨w.heap.size, 1, none⟩ = some (.int .i64 e1) := by rw [cell_of_row _ _ 1 _ _ (0, 0) Q2]; rfl
      have q2 : wr.cell? ⟨w.heap.size, 2, none⟩ = some (.int .i64 e2) := by rw [cell_of_row _ _ 2 _ _ (0, 0) Q2]; rfl
      have c0 := R1.cell
      rw [hn.out] at c0
      have hg : Hid (g ≠ p ∧ g ≠ W0.heap.size ∧ S.ownBlock ≠ some g ∧ g < wr.heap.size) := by
        have h1 := HW1.out.1
        have hp := cell_in h1.pc.choose_spec
        have hs := cell_in h1.sc
        exact ⟨by omega, by omega, fun e => by have := (h1.own.lt _ e).2; omega, k2⟩
      have HRd := Lib.hid (OwnE.rdE R1.own)
      clear R1 Q2 k4 k5
      go_wp2_with fail
      have HK : Hid (Calls Try.prog 91 #[.pointer (some ⟨p, 0, none⟩), .slice (some ⟨g, 0, none⟩) k cap1, .int .i64 d, .agg #[.int .i64 e0, .int .i64 e1, .int .i64 e2]] wr fun e w' => ApEnd wr S (p + 1) p W0.heap.size lim L d e0 e1 e2 e w') := by
        by_cases hz : e0 = 0 ∧ e1 = 0 ∧ e2 = 0
        · obtain ⟨rfl, rfl, rfl⟩ := hz
          exact apk2 p W0.heap.size (p + 1) g k cap1 S lim d L wr HWr.out HRd.out hn hn64.1 hn64.2 hg hF.out.asc hF.out.d.1 hF.out.d.2 (by omega) (by omega)
        · exact apk3 p W0.heap.size (p + 1) g k cap1 S lim d L e0 e1 e2 hF.out.e0 hF.out.e1 hF.out.e2 hz wr HWr.out HRd.out hn hn64.1 hn64.2 hg hF.out.asc hF.out.d.1 hF.out.d.2 (by omega) (by omega)
      refine HK.out.mono ?_
      intro e w5 hE
      have hbw := Lib.hid (HC.out.trans (HB.out.mono (by have := HB0.out.size; omega)))
      rcases hE with ⟨h100, rfl, hd⟩ | ⟨j, S5, hj, rfl, hd, hle, hfull⟩
      · have HD := Lib.hid hd
        clear hd
        go_wp2_with fail
        refine (payload_ S [] w5 HD.out 0 rfl (by omega)).mono ?_
        rintro e w6 ⟨A6, c6, rfl, HO, z, rfl⟩
        go_wp2_with fail
        go_ret2
        exact ⟨below_drewN (hbw.out.trans (HD.out.bel.mono (by omega))) _, .inl ⟨by omega, A6, c6, rfl⟩⟩
      · obtain ⟨N, hN⟩ : ∃ N, Hid ((ackW (topR L) ((below_ L).take j) d e0 e1 e2).length = N) := ⟨_, Lib.hid rfl⟩
        rw [hN.out] at hle
        have HD := Lib.hid hd
        have HL := Lib.hid hfull
        clear hd hfull
        go_wp2_with fail
        refine (payload_ S5 _ w5 HD.out N hN (by omega)).mono ?_
        rintro e w6 ⟨A6, c6, rfl, HO, z, rfl⟩
        go_wp2_with fail
        go_ret2
        refine ⟨below_drewN (hbw.out.trans (HD.out.bel.mono (by omega))) _, .inr ⟨j, A6, N, c6, hj, rfl, HO.out.lower ?_, hN.out, by omega, fun h => HL.out (by omega)⟩⟩
        have := HW1.out.1.sp
        omega

set_option maxRecDepth 100000 in
set_option maxHeartbeats 1000000 in
theorem iput (A : Option Addr) (n c : Nat) (L : Rgs) (d e0 e1 e2 : Int) (lim : Nat) (w : World) (hr : RdE EPr w A L) (hn : Hid (L.length = n)) (hF : Hid (AckedF L d e0 e1 e2)) (hl : lim ≤ 10000) :
    Calls Try.prog 42 #[.slice A n c, .int .i64 d, .agg #[.int .i64 e0, .int .i64 e1, .int .i64 e2], .int .i64 lim] w fun e w' => PutEnd w L d e0 e1 e2 lim e w' := by
  have HR := Lib.hid (hr.below ((Below.refl _ _).alloc (Nat.le_refl _) (.cells #[.int .i64 e0, .int .i64 e1, .int .i64 e2] 56 (0, 0))))
  clear hr
  go_enter Try.func42, Try.ntmps42
  go_wp2_with fail
  refine (zzput A n c L d e0 e1 e2 lim _ HR.out hn hF hl).mono ?_
  rintro e w1 ⟨hb, h⟩
  have hs : (w.alloc (.cells #[.int .i64 e0, .int .i64 e1, .int .i64 e2] 56 (0, 0))).heap.size = w.heap.size + 1 := by simp
  have HB := Lib.hid (((Below.refl w.heap.size w).alloc (Nat.le_refl _) _).trans (hb.mono (by rw [hs]; omega)))
  clear hb
  rcases h with ⟨h100, A1, c1, rfl⟩ | ⟨k, A1, N, c1, hk, rfl, ho, hN, hle, hfull⟩
  · go_wp2_with fail
    go_ret2
    exact ⟨HB.out, .inl ⟨h100, A1, c1, rfl⟩⟩
  · have HO := Lib.hid (ho.lower (by rw [hs]; omega : w.heap.size ≤ _))
    have HN := Lib.hid hN
    have HL := Lib.hid hfull
    clear ho hN hfull hs
    go_wp2_with fail
    go_ret2
    exact ⟨HB.out, .inr ⟨k, A1, N, c1, hk, rfl, HO.out, HN.out, hle, HL.out⟩⟩

end Go.Proofs.Ytdogepkfgobcfaa

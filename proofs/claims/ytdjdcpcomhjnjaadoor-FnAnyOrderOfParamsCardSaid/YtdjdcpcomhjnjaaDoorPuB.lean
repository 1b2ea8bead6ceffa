/- spec.Chosen's closures. spec.Chosen's second closure. spec.Chosen: what its closures share. spec.Chosen's third closure. Conditions: as each part says. -/
import Derived.Test.YtdjdcpcomhjnjaaDoorKqA
import Derived.Test.YtdjdcpcomhjnjaaDoorSpr
import Derived.BigQuiet
import Derived.Test.YtdjdcpcomhjnjaaDoorSva
import Derived.Test.YtdjdcpcomhjnjaaDoorElt
import Derived.Deep.RegionHeld3
namespace Go.Proofs.YtdjdcpcomhjnjaaDoor
section
open Go.RowKit
set_option linter.unusedVariables false
set_option linter.unusedSimpArgs false
/-- A slice of ints. -/
def RdN (B : Nat) (w : World) (A : Option Addr) (n : Nat) : Prop := 0 < n → ∃ b o, A = some ⟨b, o, none⟩ ∧ b < B ∧ ∀ i, i < n → ∃ x, w.cell? ⟨b, o + i, none⟩ = some (.int .i64 x) ∧ -9223372036854775808 ≤ x ∧ x ≤ 9223372036854775807
theorem grown_drewN {a b : World} {r : Option Nat} (h : a.grownBy b r) (n : Nat) : a.grownBy (b.drewN n) r := ⟨h.os, h.tape, h.output, h.size, h.block⟩
set_option maxRecDepth 100000 in
set_option maxHeartbeats 2000000 in
/-- The next number below m. -/
theorem nx_wp (PN PT : Nat) (A : Option Addr) (n c : Nat) (t m : Int) (w : World) (hN : w.cell? ⟨PN, 0, none⟩ = some (.slice A n c)) (hT : w.heap[PT]? = some (.cells #[.int .i64 t] 3 (0, 0))) (B : Nat) (hBT : B ≤ PT) (hr : RdN B w A n) (hn : n ≤ 2147483647) (hNT : PN ≠ PT) (ht0 : 0 ≤ t) (ht1 : t ≤ 4611686018427387903) (hm0 : 0 < m) (hm1 : m ≤ 4611686018427387903) :
    Calls Tryd.prog 23 #[.int .i64 m, .pointer (some ⟨PN, 0, none⟩), .pointer (some ⟨PT, 0, none⟩)] w fun e w' => ∃ r t' : Int, e = .returned (.int .i64 r) ∧ Hid (0 ≤ r ∧ r < m ∧ t ≤ t' ∧ t' ≤ t + 1 ∧ w.grownBy w' (some PT) ∧ w'.heap[PT]? = some (.cells #[.int .i64 t'] 3 (0, 0))) := by
  have HT := Lib.hid hT
  by_cases h0 : n = 0
  · subst h0
    go_enter Tryd.func23, Tryd.ntmps23
    go_wp2_with fail
    go_ret
    exact ⟨0, t, rfl, by omega, hm0, by omega, by omega, grown_refl _ _, HT.out⟩
  · obtain ⟨b, o, rfl, hbB, hc⟩ := hr (by omega)
    have hni : ((n : Int) == 0) = false := by rw [beq_eq_false_iff_ne]; omega
    have c0 : w.cell? ⟨PT, 0, none⟩ = some (.int .i64 t) := (cell_of_row _ _ 0 _ _ (0, 0) hT).trans rfl
    have f0 : w.frozen? ⟨PT, 0, none⟩ = false := cell_free 0 hT
    have hwt : IntKind.i64.wrap (t + 1) = t + 1 := IntWalk.i64_in _ (by omega)
    obtain ⟨k, hk⟩ : ∃ k : Nat, t % (n : Int) = (k : Nat) := ⟨(t % (n : Int)).toNat, by have := Int.emod_nonneg t (show (n : Int) ≠ 0 by omega); omega⟩
    have hkn : k < n := by have := Int.emod_lt_of_pos t (show (0 : Int) < (n : Int) by omega); omega
    obtain ⟨x, hx, hx0, hx1⟩ := hc k hkn
    have HX := Lib.hid hx
    have HN := Lib.hid hN
    have HK := Lib.hid hk
    clear hT hx hc hN hr hk
    have u0 := HN.out
    go_enter Tryd.func23, Tryd.ntmps23
    go_upto_region 4 with fail
    have hbT : b ≠ PT := by omega
    have hg := grownBy_set w PT 0 (.int .i64 (t + 1))
    have v0 := cell_grown hg u0 hNT
    have v1 := cell_grown hg HX.out hbT
    have H1 := Lib.hid (cell_at 0 (.int .i64 (t + 1)) HT.out (r' := #[.int .i64 (t + 1)]) rfl)
    have v2 : (w.setCell ⟨PT, 0, none⟩ (.int .i64 (t + 1))).cell? ⟨PT, 0, none⟩ = some (.int .i64 (t + 1)) := (cell_of_row _ _ 0 _ _ (0, 0) H1.out).trans rfl
    have HGr := Lib.hid hg
    obtain ⟨w1, hw1⟩ : ∃ w1, w.setCell ⟨PT, 0, none⟩ (.int .i64 (t + 1)) = w1 := ⟨_, rfl⟩
    rw [hw1] at v0 v1 v2 H1 HGr ⊢
    clear hw1 u0 c0 f0 hg
    have hw1 : IntKind.i64.wrap (t + 1 - 1) = t := by rw [show t + 1 - 1 = t by omega]; exact IntWalk.i64_in _ (by omega)
    have hwt2 : IntKind.i64.wrap t = t := IntWalk.i64_in _ (by omega)
    have hk2 : t.tmod (n : Int) = (k : Nat) := by rw [Int.tmod_eq_emod_of_nonneg ht0]; exact HK.out
    have hwk : IntKind.i64.wrap (k : Int) = (k : Int) := IntWalk.i64_in _ (by omega)
    have hki : (k : Int) < (n : Int) := by omega
    have hy0 : 0 ≤ IntKind.u64.wrap x := by rw [IntKind.wrap_u64]; omega
    obtain ⟨z, hz⟩ : ∃ z, (IntKind.u64.wrap x).tmod m = z := ⟨_, rfl⟩
    have hz' : IntKind.u64.wrap x % m = z := by rw [← hz, Int.tmod_eq_emod_of_nonneg hy0]
    have hz0 : 0 ≤ z := by rw [← hz']; exact Int.emod_nonneg _ (by omega)
    have hz1 : z < m := by rw [← hz']; exact Int.emod_lt_of_pos _ hm0
    have hwz : wrap64 z = z := IntWalk.wrap64_in z (by omega)
    have hwz2 : IntKind.i64.wrap z = z := IntWalk.i64_in z (by omega)
    clear hz' hy0
    go_quiet (fail)
    go_wp2_with fail
    go_ret
    exact ⟨z, t + 1, rfl, hz0, hz1, by omega, by omega, grown_drewN HGr.out nq, H1.out⟩
end

section
open Go.RowKit
set_option linter.unusedVariables false
set_option linter.unusedSimpArgs false
def lenOf : Value → Nat
  | .slice _ n _ => n
  | _ => 0
theorem RdN.grown {B PT : Nat} {w w' : World} {A : Option Addr} {n : Nat} (h : RdN B w A n) (hg : w.grownBy w' (some PT)) (hB : B ≤ PT) : RdN B w' A n := fun hn => by
  obtain ⟨b, o, e, hb, hc⟩ := h hn
  refine ⟨b, o, e, hb, fun i hi => ?_⟩
  obtain ⟨x, h1, h2⟩ := hc i hi
  exact ⟨x, cell_grown hg h1 (by omega), h2⟩
set_option maxRecDepth 100000 in
set_option maxHeartbeats 4000000 in
/-- A number in some length. -/
theorem lg_wp (PN PT PF : Nat) (A : Option Addr) (n c : Nat) (t v : Int) (w : World) (B : Nat) (hF : w.cell? ⟨PF, 0, none⟩ = some (.func (Fn.func 23) #[] #[.pointer (some ⟨PN, 0, none⟩), .pointer (some ⟨PT, 0, none⟩)])) (hN : w.cell? ⟨PN, 0, none⟩ = some (.slice A n c)) (hT : w.heap[PT]? = some (.cells #[.int .i64 t] 3 (0, 0))) (hBT : B ≤ PT) (hr : RdN B w A n) (hn : n ≤ 2147483647) (hNT : PN ≠ PT) (hFT : PF ≠ PT) (ht0 : 0 ≤ t) (ht1 : t ≤ 1000000000000) (hv0 : 0 ≤ v) (hv1 : v ≤ 4611686018427387903) :
    Calls Tryd.prog 24 #[.int .u64 v, .pointer (some ⟨PF, 0, none⟩)] w fun e w' => ∃ (s : Value) (b : List Int) (t' : Int), e = .returned s ∧ Hid (Own w.heap.size w' s b ∧ isForm v b ∧ b.length ≤ 8 ∧ t ≤ t' ∧ t' ≤ t + 3 ∧ w.grownBy w' (some PT) ∧ w'.heap[PT]? = some (.cells #[.int .i64 t'] 3 (0, 0))) := by
  obtain ⟨j0, hj0, he0, hm0⟩ := enc_fm hv0 hv1
  have HF := Lib.hid hF
  have HN := Lib.hid hN
  have HT := Lib.hid hT
  have HR := Lib.hid hr
  have HE := Lib.hid he0
  clear hF hN hT hr he0
  go_enter Tryd.func24, Tryd.ntmps24
  go_upto_block 0 with (go_at_call 25; refine (sva v _ hv0 hv1).mono ?_; rintro e w1 ⟨s1, rfl, ho1, hb1⟩)
  have hT0 := cell_in HT.out
  have HG1 : Hid (w.grownBy w1 (some PT)) := Lib.hid ⟨hb1.os, hb1.tape, hb1.output, hb1.size, fun i hi _ => hb1.block i hi⟩
  have HT1 : Hid (w1.heap[PT]? = some (.cells #[.int .i64 t] 3 (0, 0))) := Lib.hid ((hb1.block _ hT0).trans HT.out)
  have HO1 : Hid (Own w.heap.size w1 s1 (fm j0 v)) := by rw [← HE.out]; exact Lib.hid ho1
  clear ho1 hb1
  refine wp_block ?_
  go_loopw [4] (fun s wr => ∃ (j : Nat) (t' : Int), j ≤ 3 ∧ v ≤ fmax j ∧ t ≤ t' ∧ t' ≤ t + (j : Int) ∧ Hid (Own w.heap.size wr s (fm j v)) ∧ Hid (w.grownBy wr (some PT)) ∧ Hid (wr.heap[PT]? = some (.cells #[.int .i64 t'] 3 (0, 0)))) (fun s _ => 8 - lenOf s)
  case atStart => exact ⟨j0, t, hj0, hm0, by omega, by omega, HO1, HG1, HT1⟩
  case round =>
    clear HO1 HG1 HT1
    obtain ⟨j, t1, hj, hm, ht1', ht2', HO, HG, HT1⟩ := hrel
    obtain ⟨A4, c4, rfl, hrd, hcc, hcm, hcz⟩ := HO.out.rd
    rw [fm_length hj] at *
    by_cases hj3 : j = 3
    · subst hj3
      go_wp2_with fail
      go_ret
      exact ⟨_, fm 3 v, t1, rfl, HO.out, fm_form hj hv0 hm, Nat.le_of_eq (fm_length hj v), by omega, by omega, HG.out, HT1.out⟩
    · have HNr := Lib.hid (cell_grown HG.out HN.out hNT)
      have uF := cell_grown HG.out HF.out hFT
      have HRr := Lib.hid (HR.out.grown HG.out hBT)
      have hpow : (2 ^ j : Nat) < 8 := by
        rcases (show j = 0 ∨ j = 1 ∨ j = 2 by omega) with rfl | rfl | rfl <;> decide
      obtain ⟨N, hN'⟩ : ∃ N : Nat, 2 ^ j = N := ⟨_, rfl⟩
      have hN8 : N < 8 := by rw [← hN']; exact hpow
      have HNj := Lib.hid hN'
      rw [hN'] at HO hcc ⊢
      clear hN' hpow
      have hNi : (N : Int) < 8 := by omega
      go_upto_if 18 with (go_at_call 23; refine (nx_wp PN PT A n c t1 2 _ HNr.out HT1.out B hBT HRr.out hn hNT (by omega) (by omega) (by omega) (by omega)).mono ?_; rintro e w2 ⟨r, t2, rfl, H2⟩)
      have hb4 : (Value.slice A4 N c4).ownBlock = none ∨ (Value.slice A4 N c4).ownBlock ≠ some PT := .inr fun e => by
        have h1 := (HO.out.lt PT e).1
        omega
      have HO2 := Lib.hid (HO.out.kept H2.out.2.2.2.2.1 hb4)
      have HG2 := Lib.hid (grown_trans HG.out H2.out.2.2.2.2.1)
      have hT2 := H2.out.2.2.2.2.2
      have HT2 := Lib.hid hT2
      have ht2a := H2.out.2.2.1
      have ht2b := H2.out.2.2.2.1
      clear hT2 hb4
      by_cases hr1 : r = 1
      · subst hr1
        rcases (show j = 0 ∨ j = 1 ∨ j = 2 by omega) with rfl | rfl | rfl
        · have hm : v ≤ 63 := hm
          have hNe : N = 1 := HNj.out.symm
          subst hNe
          have HBs : Hid (Bs (fm 1 v)) := Lib.hid (fm_bs (j := 1) (by omega) hv0 (by show v ≤ 16383; omega))
          have ho : bits .or .u8 (v / 256) 64 = 64 + v / 256 := or_u8_r 6 _ _ (by decide) (by omega) (by omega) (by decide) (by decide) (by omega)
          have ho' : bits .or .u8 (v / 256 % 256) 64 = 64 + v / 256 := by rw [show v / 256 % 256 = v / 256 by omega]; exact ho
          have hw1 : IntKind.u8.wrap (v / 256) = v / 256 % 256 := wrap_u8 _
          have hw0 : IntKind.u8.wrap v = v % 256 := wrap_u8 _
          have hmk : ∀ w, (Instr.makeSlice 22 (.int .i64 2) (.int .i64 2)).run Tryd.prog w = .ok (.slice (some ⟨w.heap.size, 0, none⟩) 2 2) (w.alloc (.cells #[.int .u8 0, .int .u8 0] 5)) := fun _ => by kernel_rfl
          go_wp2_with fail
          refine wp_loop_rounds 3 ?_
          iterate 3
            rw [rounds_succ]
            go_wp2_with fail
          refine wp_loop_rounds 2 ?_
          iterate 2
            rw [rounds_succ]
            go_wp2_with fail
          go_roundw
          case rel =>
            have hb := (Below.refl w2.heap.size w2).alloc (Nat.le_refl _) (.cells (vals (fm 1 v)).toArray 5)
            exact ⟨1, t2, by omega, by show v ≤ 16383; omega, by omega, by omega, Lib.hid ((Own.new w2 (fm 1 v) HBs.out (by simp [maxLen, fm])).lower HG2.out.size), Lib.hid (grown_trans HG2.out ⟨hb.os, hb.tape, hb.output, hb.size, fun i hi _ => hb.block i hi⟩), Lib.hid ((hb.block _ (cell_in HT2.out)).trans HT2.out)⟩
          case measure => simp [lenOf]
        · have hm : v ≤ 16383 := hm
          have hNe : N = 2 := HNj.out.symm
          subst hNe
          have HBs : Hid (Bs (fm 2 v)) := Lib.hid (fm_bs (j := 2) (by omega) hv0 (by show v ≤ 1073741823; omega))
          have ho : bits .or .u8 (v / 16777216) 128 = 128 + v / 16777216 := or_u8_r 6 _ _ (by decide) (by omega) (by omega) (by decide) (by decide) (by omega)
          have ho' : bits .or .u8 (v / 16777216 % 256) 128 = 128 + v / 16777216 := by rw [show v / 16777216 % 256 = v / 16777216 by omega]; exact ho
          have hw1 : IntKind.u8.wrap (v / 256) = v / 256 % 256 := wrap_u8 _
          have hw2 : IntKind.u8.wrap (v / 65536) = v / 65536 % 256 := wrap_u8 _
          have hw3 : IntKind.u8.wrap (v / 16777216) = v / 16777216 % 256 := wrap_u8 _
          have hw0 : IntKind.u8.wrap v = v % 256 := wrap_u8 _
          have hmk : ∀ w, (Instr.makeSlice 22 (.int .i64 4) (.int .i64 4)).run Tryd.prog w = .ok (.slice (some ⟨w.heap.size, 0, none⟩) 4 4) (w.alloc (.cells #[.int .u8 0, .int .u8 0, .int .u8 0, .int .u8 0] 5)) := fun _ => by kernel_rfl
          go_wp2_with fail
          refine wp_loop_rounds 5 ?_
          iterate 5
            rw [rounds_succ]
            go_wp2_with fail
          refine wp_loop_rounds 3 ?_
          iterate 3
            rw [rounds_succ]
            go_wp2_with fail
          go_roundw
          case rel =>
            have hb := (Below.refl w2.heap.size w2).alloc (Nat.le_refl _) (.cells (vals (fm 2 v)).toArray 5)
            exact ⟨2, t2, by omega, by show v ≤ 1073741823; omega, by omega, by omega, Lib.hid ((Own.new w2 (fm 2 v) HBs.out (by simp [maxLen, fm])).lower HG2.out.size), Lib.hid (grown_trans HG2.out ⟨hb.os, hb.tape, hb.output, hb.size, fun i hi _ => hb.block i hi⟩), Lib.hid ((hb.block _ (cell_in HT2.out)).trans HT2.out)⟩
          case measure => simp [lenOf]
        · have hm : v ≤ 1073741823 := hm
          have hNe : N = 4 := HNj.out.symm
          subst hNe
          have HBs : Hid (Bs (fm 3 v)) := Lib.hid (fm_bs (j := 3) (by omega) hv0 (by show v ≤ 4611686018427387903; omega))
          have ho : bits .or .u8 (v / 72057594037927936) 192 = 192 + v / 72057594037927936 := or_u8_r 6 _ _ (by decide) (by omega) (by omega) (by decide) (by decide) (by omega)
          have ho' : bits .or .u8 (v / 72057594037927936 % 256) 192 = 192 + v / 72057594037927936 := by rw [show v / 72057594037927936 % 256 = v / 72057594037927936 by omega]; exact ho
          have hw1 : IntKind.u8.wrap (v / 256) = v / 256 % 256 := wrap_u8 _
          have hw2 : IntKind.u8.wrap (v / 65536) = v / 65536 % 256 := wrap_u8 _
          have hw3 : IntKind.u8.wrap (v / 16777216) = v / 16777216 % 256 := wrap_u8 _
          have hw4 : IntKind.u8.wrap (v / 4294967296) = v / 4294967296 % 256 := wrap_u8 _
          have hw5 : IntKind.u8.wrap (v / 1099511627776) = v / 1099511627776 % 256 := wrap_u8 _
          have hw6 : IntKind.u8.wrap (v / 281474976710656) = v / 281474976710656 % 256 := wrap_u8 _
          have hw7 : IntKind.u8.wrap (v / 72057594037927936) = v / 72057594037927936 % 256 := wrap_u8 _
          have hw0 : IntKind.u8.wrap v = v % 256 := wrap_u8 _
          have hmk : ∀ w, (Instr.makeSlice 22 (.int .i64 8) (.int .i64 8)).run Tryd.prog w = .ok (.slice (some ⟨w.heap.size, 0, none⟩) 8 8) (w.alloc (.cells #[.int .u8 0, .int .u8 0, .int .u8 0, .int .u8 0, .int .u8 0, .int .u8 0, .int .u8 0, .int .u8 0] 5)) := fun _ => by kernel_rfl
          go_wp2_with fail
          refine wp_loop_rounds 9 ?_
          iterate 9
            rw [rounds_succ]
            go_wp2_with fail
          refine wp_loop_rounds 4 ?_
          iterate 4
            rw [rounds_succ]
            go_wp2_with fail
          go_roundw
          case rel =>
            have hb := (Below.refl w2.heap.size w2).alloc (Nat.le_refl _) (.cells (vals (fm 3 v)).toArray 5)
            exact ⟨3, t2, by omega, by show v ≤ 4611686018427387903; omega, by omega, by omega, Lib.hid ((Own.new w2 (fm 3 v) HBs.out (by simp [maxLen, fm])).lower HG2.out.size), Lib.hid (grown_trans HG2.out ⟨hb.os, hb.tape, hb.output, hb.size, fun i hi _ => hb.block i hi⟩), Lib.hid ((hb.block _ (cell_in HT2.out)).trans HT2.out)⟩
          case measure => simp [lenOf]
      · have hri : (r == 1) = false := by rw [beq_eq_false_iff_ne]; exact hr1
        go_wp2_with fail
        go_ret
        exact ⟨_, fm j v, t2, rfl, HO2.out, fm_form hj hv0 hm, by rw [fm_length hj]; have := HNj.out; omega, by omega, by omega, HG2.out, HT2.out⟩
end

section
open Go.RowKit
set_option linter.unusedVariables false
set_option linter.unusedSimpArgs false
theorem info_parts2 {e : TypeId} {z : Value} {s b : Nat} (h : (Tryd.prog.info? e).map (fun i => (i.zero, i.size, i.bytes)) = some (some z, s, b)) : ∃ i, Tryd.prog.info? e = some i ∧ i.zero = some z ∧ i.size = s ∧ i.bytes = b := by
  cases hi : Tryd.prog.info? e with
  | none => rw [hi] at h; cases h
  | some i =>
    rw [hi] at h
    simp only [Option.map_some, Option.some.injEq, Prod.mk.injEq] at h
    exact ⟨i, rfl, h.1, h.2.1, h.2.2⟩
theorem info_slb : (Tryd.prog.info? 22).map (fun i => (i.zero, i.size, i.bytes)) = some (some (.slice none 0 0), 1, 24) := by kernel_rfl
set_option maxRecDepth 100000 in
/-- Slices of bytes. -/
def EB : Elt Tri where
  t := 53
  e := 22
  k := 1
  f := fun x => [triV x]
  len := fun _ => rfl
  one := fun a u hu => by
    simp at hu
    subst hu
    rfl
  pos := by decide
  und := Tryd.underlying53
  info := by
    obtain ⟨i, hi, h0, h1, h2⟩ := info_parts2 info_slb
    exact ⟨i, _, hi, h0, h1, rfl, by omega⟩
theorem own_val {B : Nat} {w : World} {s : Value} {l : List Int} (h : Own B w s l) : ∃ A c, s = .slice A l.length c := by
  obtain ⟨A, c, e, _⟩ := h.rd
  exact ⟨A, c, e⟩
theorem ownE_val {B : Nat} {w : World} {s : Value} {l : List Tri} (h : OwnE EB B w s l) : ∃ A n c, s = .slice A n c := by
  rcases h.form with ⟨e, _⟩ | ⟨g, c, e, _⟩
  · exact ⟨_, _, _, e⟩
  · exact ⟨_, _, _, e⟩
/-- A block of bytes is none of slices. -/
theorem own_apart {B B' : Nat} {w : World} {s S : Value} {d : List Int} {l : List Tri} (h : Own B w s d) (k : OwnE EB B' w S l) : s.ownBlock = none ∨ s.ownBlock ≠ S.ownBlock := by
  rcases h.2.2 with ⟨rfl, _⟩ | ⟨g, cap, cur, rfl, _, hh, _⟩
  · exact .inl rfl
  · rcases k.2 with ⟨rfl, _⟩ | ⟨g', cap', cur', rfl, _, hh', _⟩
    · exact .inr (fun e => by cases e)
    · refine .inr fun e => ?_
      have e : g = g' := by
        have e' : some g = some g' := e
        simpa using e'
      subst e
      rw [hh] at hh'
      simp only [Option.some.injEq, Obj.cells.injEq] at hh'
      have h2 := hh'.2.1
      revert h2
      decide
/-- Slices of bytes, each of a block from B on, that read as bs. -/
def Rbs (B : Nat) (w : World) (ts : List Tri) (bs : List (List Int)) : Prop := ts.length = bs.length ∧ ∀ (i : Nat) (t : Tri) (d : List Int), ts[i]? = some t → bs[i]? = some d → Own B w (triV t) d
/-- Nothing below B changes but two blocks. -/
structure Two (B PT PA : Nat) (w w' : World) : Prop where
  os : w'.os = w.os
  tape : w'.tape = w.tape
  output : w'.output = w.output
  size : w.heap.size ≤ w'.heap.size
  block : ∀ j, j < B → j ≠ PT → j ≠ PA → w'.heap[j]? = w.heap[j]?
theorem Two.refl (B PT PA : Nat) (w : World) : Two B PT PA w w := ⟨rfl, rfl, rfl, Nat.le_refl _, fun _ _ _ _ => rfl⟩
theorem Two.trans {B PT PA : Nat} {a b c : World} (h : Two B PT PA a b) (k : Two B PT PA b c) : Two B PT PA a c :=
  ⟨k.os.trans h.os, k.tape.trans h.tape, k.output.trans h.output, Nat.le_trans h.size k.size, fun j h1 h2 h3 => (k.block j h1 h2 h3).trans (h.block j h1 h2 h3)⟩
theorem Two.cell {B PT PA b o : Nat} {w w' : World} (h : Two B PT PA w w') (hb : b < B) (h1 : b ≠ PT) (h2 : b ≠ PA) : w'.cell? ⟨b, o, none⟩ = w.cell? ⟨b, o, none⟩ := World.cell?_of_block (h.block b hb h1 h2)
/-- The closures' variables. -/
structure Cx (B PN PT PF PL PA : Nat) (A : Option Addr) (n c : Nat) (w0 : World) : Prop where
  o1 : PN < PT
  o2 : PT < PF
  o3 : PF < PL
  o4 : PL < PA
  o5 : PA < B
  hn : n ≤ 2147483647
  nn : w0.cell? ⟨PN, 0, none⟩ = some (.slice A n c)
  ff : w0.cell? ⟨PF, 0, none⟩ = some (.func (Fn.func 23) #[] #[.pointer (some ⟨PN, 0, none⟩), .pointer (some ⟨PT, 0, none⟩)])
  ll : w0.cell? ⟨PL, 0, none⟩ = some (.func (Fn.func 24) #[] #[.pointer (some ⟨PF, 0, none⟩)])
  rr : RdN PN w0 A n
/-- What put has laid by: slices ts, that read as bs; the place t in the numbers. -/
structure Cw (w0 : World) (B PT PA N : Nat) (w : World) (t : Int) (S : Value) (ts : List Tri) (bs : List (List Int)) : Prop where
  fr : Two B PT PA w0 w
  tt : w.heap[PT]? = some (.cells #[.int .i64 t] 3 (0, 0))
  aa : w.heap[PA]? = some (.cells #[S] 53 (0, 0))
  own : OwnE EB B w S ts
  rb : Rbs B w ts bs
  le : N ≤ w.heap.size
  bn : B ≤ N
  lo : ∀ k, S.ownBlock = some k → k < N
  lt : ∀ (i : Nat) (x : Tri), ts[i]? = some x → ∀ k, (triV x).ownBlock = some k → k < N
  t0 : 0 ≤ t
  pp : PT < PA ∧ PA < B
  lb : ∀ d ∈ bs, d.length ≤ 2000
theorem Cw.up {w0 : World} {B PT PA N : Nat} {w : World} {t : Int} {S : Value} {ts : List Tri} {bs : List (List Int)} (h : Cw w0 B PT PA N w t S ts bs) : Cw w0 B PT PA w.heap.size w t S ts bs :=
  { h with
    le := Nat.le_refl _
    bn := Nat.le_trans h.bn h.le
    lo := fun k hk => (h.own.lt k hk).2
    lt := fun i x hx k hk => Nat.lt_of_lt_of_le (h.lt i x hx k hk) h.le }
theorem Cw.ca {w0 : World} {B PT PA N : Nat} {w : World} {t : Int} {S : Value} {ts : List Tri} {bs : List (List Int)} (h : Cw w0 B PT PA N w t S ts bs) : w.cell? ⟨PA, 0, none⟩ = some S := (cell_of_row _ _ 0 _ _ (0, 0) h.aa).trans rfl
theorem Cw.fa {w0 : World} {B PT PA N : Nat} {w : World} {t : Int} {S : Value} {ts : List Tri} {bs : List (List Int)} (h : Cw w0 B PT PA N w t S ts bs) : w.frozen? ⟨PA, 0, none⟩ = false := cell_free 0 h.aa
theorem Cw.keep {w0 : World} {B PT PA N : Nat} {w w' : World} {t t' : Int} {S : Value} {ts : List Tri} {bs : List (List Int)} {row : Option Nat} (h : Cw w0 B PT PA N w t S ts bs) (hg : w.grownBy w' row) (hr : row = none ∨ row = some PT ∨ ∃ g, row = some g ∧ N ≤ g) (ht : w'.heap[PT]? = some (.cells #[.int .i64 t'] 3 (0, 0))) (ht0 : 0 ≤ t') : Cw w0 B PT PA N w' t' S ts bs := by
  have hle := h.le
  have hbn := h.bn
  have hp := h.pp
  have far : ∀ k, B ≤ k → k < N → some k ≠ row := fun k h1 h2 e => by
    rcases hr with rfl | rfl | ⟨g, rfl, hg⟩
    · cases e
    · have : k = PT := by simpa using e
      omega
    · have : k = g := by simpa using e
      omega
  refine ⟨h.fr.trans ⟨hg.os, hg.tape, hg.output, hg.size, fun j h1 h2 h3 => hg.block j (by omega) fun e => ?_⟩, ht, ?_, h.own.kept hg ?_, ⟨h.rb.1, fun i x d hx hd => (h.rb.2 i x d hx hd).kept hg ?_⟩, Nat.le_trans hle hg.size, hbn, h.lo, h.lt, ht0, hp, h.lb⟩
  · rcases hr with rfl | rfl | ⟨g, rfl, hg⟩
    · cases e
    · exact h2 (by simpa using e)
    · have : j = g := by simpa using e
      omega
  · rw [hg.block PA (by omega) fun e => ?_]
    · exact h.aa
    · rcases hr with rfl | rfl | ⟨g, rfl, hg⟩
      · cases e
      · have : PA = PT := by simpa using e
        omega
      · have : PA = g := by simpa using e
        omega
  · cases hs : S.ownBlock with
    | none => exact .inl rfl
    | some k => exact .inr (far k (h.own.lt k hs).1 (h.lo k hs))
  · cases hs : (triV x).ownBlock with
    | none => exact .inl rfl
    | some k => exact .inr (far k ((h.rb.2 i x d hx hd).lt k hs).1 (h.lt i x hx k hs))
theorem Cw.same {w0 : World} {B PT PA N : Nat} {w w' : World} {t : Int} {S : Value} {ts : List Tri} {bs : List (List Int)} {row : Option Nat} (h : Cw w0 B PT PA N w t S ts bs) (hg : w.grownBy w' row) (hr : row = none ∨ ∃ g, row = some g ∧ N ≤ g) : Cw w0 B PT PA N w' t S ts bs := by
  have hle := h.le
  have hbn := h.bn
  have hp := h.pp
  refine h.keep hg (hr.imp id .inr) ?_ h.t0
  rw [hg.block PT (by omega) fun e => ?_]
  · exact h.tt
  · rcases hr with rfl | ⟨g, rfl, hg⟩
    · cases e
    · have : PT = g := by simpa using e
      omega
theorem Cw.drewN {w0 : World} {B PT PA N : Nat} {w : World} {t : Int} {S : Value} {ts : List Tri} {bs : List (List Int)} (h : Cw w0 B PT PA N w t S ts bs) (q : Nat) : Cw w0 B PT PA N (w.drewN q) t S ts bs := h.same (row := none) ⟨rfl, rfl, rfl, Nat.le_refl _, fun _ _ _ => rfl⟩ (.inl rfl)
theorem Cw.alloc {w0 : World} {B PT PA N : Nat} {w : World} {t : Int} {S : Value} {ts : List Tri} {bs : List (List Int)} (h : Cw w0 B PT PA N w t S ts bs) (o : Obj) : Cw w0 B PT PA N (w.alloc o) t S ts bs := h.same (World.grownBy_alloc w o none) (.inl rfl)
/-- One slice more. -/
theorem Cw.push {w0 : World} {B PT PA N : Nat} {w w' : World} {t : Int} {S S' : Value} {ts : List Tri} {bs : List (List Int)} {x : Tri} {b : List Int} (h : Cw w0 B PT PA N w t S ts bs) (ho : OwnE EB B w' S' (ts ++ [x])) (hg : w.grownBy w' S.ownBlock) (hx : Own B w (triV x) b) (hbl : b.length ≤ 2000) : Cw w0 B PT PA w'.heap.size (w'.setCell ⟨PA, 0, none⟩ S') t S' (ts ++ [x]) (bs ++ [b]) := by
  have hle := h.le
  have hbn := h.bn
  have hp := h.pp
  have hne : ∀ j, j < B → some j ≠ S.ownBlock := fun j hj e => by have := (h.own.lt j e.symm).1; omega
  have hA : w'.heap[PA]? = some (.cells #[S] 53 (0, 0)) := (hg.block PA (by omega) (hne PA hp.2)).trans h.aa
  have hT : w'.heap[PT]? = some (.cells #[.int .i64 t] 3 (0, 0)) := (hg.block PT (by omega) (hne PT (by omega))).trans h.tt
  have hc := cgrown w' PA 0 S'
  have hsz : (w'.setCell ⟨PA, 0, none⟩ S').heap.size = w'.heap.size := size_cell _ _ _
  have farS : ∀ k, B ≤ k → some k ≠ some PA := fun k hk e => by
    have : k = PA := by simpa using e
    omega
  have kOwn : ∀ {s : Value} {d : List Int}, Own B w s d → Own B (w'.setCell ⟨PA, 0, none⟩ S') s d := fun {s d} hs => by
    have h1 := hs.kept hg (own_apart hs h.own)
    refine h1.kept hc ?_
    cases hs' : s.ownBlock with
    | none => exact .inl rfl
    | some k => exact .inr (farS k (h1.lt k hs').1)
  refine ⟨?_, ?_, cell_at 0 S' hA rfl, ho.kept hc ?_, ⟨by simp [h.rb.1], fun i y d hy hd => ?_⟩, by rw [hsz]; exact Nat.le_refl _, by have := hg.size; omega, fun k hk => (ho.lt k hk).2, fun i y hy k hk => ?_, h.t0, hp, fun d hd => (List.mem_append.1 hd).elim (h.lb d) (fun hd => by rw [List.mem_singleton.1 hd]; exact hbl)⟩
  · refine h.fr.trans ⟨hc.os.trans hg.os, hc.tape.trans hg.tape, hc.output.trans hg.output, by rw [hsz]; exact hg.size, fun j h1 h2 h3 => ?_⟩
    rw [hc.block j (by have := hg.size; omega) (fun e => h3 (by simpa using e))]
    exact hg.block j (by omega) (hne j h1)
  · rw [hc.block PT (by have := hg.size; omega) (fun e => by have : PT = PA := by simpa using e
                                                             omega)]
    exact hT
  · cases hs : S'.ownBlock with
    | none => exact .inl rfl
    | some k => exact .inr (farS k (ho.lt k hs).1)
  · rcases Nat.lt_trichotomy i ts.length with hi | hi | hi
    · rw [List.getElem?_append_left hi] at hy
      rw [List.getElem?_append_left (by rw [← h.rb.1]; exact hi)] at hd
      exact kOwn (h.rb.2 i y d hy hd)
    · subst hi
      rw [List.getElem?_append_right (Nat.le_refl _)] at hy
      rw [List.getElem?_append_right (by rw [h.rb.1]; exact Nat.le_refl _), ← h.rb.1] at hd
      simp at hy hd
      subst hy hd
      exact kOwn hx
    · rw [List.getElem?_eq_none (by simp; omega)] at hy
      cases hy
  · have hgs := hg.size
    rcases Nat.lt_trichotomy i ts.length with hi | hi | hi
    · rw [List.getElem?_append_left hi] at hy
      have := h.lt i y hy k hk
      omega
    · subst hi
      rw [List.getElem?_append_right (Nat.le_refl _)] at hy
      simp at hy
      subst hy
      have := (hx.lt k hk).2
      omega
    · rw [List.getElem?_eq_none (by simp; omega)] at hy
      cases hy
/-- What put changes besides. -/
structure Pg (PT PA : Nat) (S S' : Value) (w w' : World) : Prop where
  size : w.heap.size ≤ w'.heap.size
  blk : ∀ j, j < w.heap.size → j ≠ PT → j ≠ PA → some j ≠ S.ownBlock → w'.heap[j]? = w.heap[j]?
  own : S'.ownBlock = S.ownBlock ∨ ∃ k, S'.ownBlock = some k ∧ w.heap.size ≤ k
/-- Blocks from Z0 up to Z are as they were in wG. -/
structure Kp (PT PA Z0 Z : Nat) (wG w : World) (S : Value) : Prop where
  sz : Z ≤ w.heap.size
  blk : ∀ j, Z0 ≤ j → j < Z → w.heap[j]? = wG.heap[j]?
  own : ∀ k, S.ownBlock = some k → k < Z0 ∨ Z ≤ k
  lo : PT < Z0 ∧ PA < Z0
theorem Kp.pg {PT PA Z0 Z : Nat} {wG w w' : World} {S S' : Value} (h : Kp PT PA Z0 Z wG w S) (g : Pg PT PA S S' w w') : Kp PT PA Z0 Z wG w' S' := by
  have h1 := h.sz
  have h2 := h.lo
  refine ⟨Nat.le_trans h.sz g.size, fun j a b => (g.blk j (by omega) (by omega) (by omega) (fun e => ?_)).trans (h.blk j a b), fun k hk => ?_, h.lo⟩
  · have := h.own j e.symm
    omega
  · rcases g.own with e | ⟨k', e, hk'⟩
    · exact h.own k (e ▸ hk)
    · rw [hk] at e
      have : k = k' := by simpa using e
      omega
theorem Kp.gr {PT PA Z0 Z : Nat} {wG w w' : World} {S : Value} {row : Option Nat} (h : Kp PT PA Z0 Z wG w S) (g : w.grownBy w' row) (hr : row = none ∨ row = some PT ∨ ∃ k, row = some k ∧ Z ≤ k) : Kp PT PA Z0 Z wG w' S := by
  have h1 := h.sz
  have h2 := h.lo
  refine ⟨Nat.le_trans h.sz g.size, fun j a b => (g.block j (by omega) (fun e => ?_)).trans (h.blk j a b), h.own, h.lo⟩
  rcases hr with rfl | rfl | ⟨k, rfl, hk⟩
  · cases e
  · have : j = PT := by simpa using e
    omega
  · have : j = k := by simpa using e
    omega
section
variable {B PN PT PF PL PA : Nat} {A : Option Addr} {n c : Nat} {w0 : World}
theorem Cx.n_ (x : Cx B PN PT PF PL PA A n c w0) {w : World} (h : Two B PT PA w0 w) : w.cell? ⟨PN, 0, none⟩ = some (.slice A n c) := by
  have := x.o1; have := x.o2; have := x.o3; have := x.o4; have := x.o5
  rw [h.cell (by omega) (by omega) (by omega)]; exact x.nn
theorem Cx.f_ (x : Cx B PN PT PF PL PA A n c w0) {w : World} (h : Two B PT PA w0 w) : w.cell? ⟨PF, 0, none⟩ = some (.func (Fn.func 23) #[] #[.pointer (some ⟨PN, 0, none⟩), .pointer (some ⟨PT, 0, none⟩)]) := by
  have := x.o1; have := x.o2; have := x.o3; have := x.o4; have := x.o5
  rw [h.cell (by omega) (by omega) (by omega)]; exact x.ff
theorem Cx.l_ (x : Cx B PN PT PF PL PA A n c w0) {w : World} (h : Two B PT PA w0 w) : w.cell? ⟨PL, 0, none⟩ = some (.func (Fn.func 24) #[] #[.pointer (some ⟨PF, 0, none⟩)]) := by
  have := x.o1; have := x.o2; have := x.o3; have := x.o4; have := x.o5
  rw [h.cell (by omega) (by omega) (by omega)]; exact x.ll
theorem Cx.r_ (x : Cx B PN PT PF PL PA A n c w0) {w : World} (h : Two B PT PA w0 w) : RdN PN w A n := fun hn => by
  have := x.o1; have := x.o2; have := x.o3; have := x.o4; have := x.o5
  obtain ⟨b, o, e, hb, hc⟩ := x.rr hn
  refine ⟨b, o, e, hb, fun i hi => ?_⟩
  obtain ⟨y, h1, h2⟩ := hc i hi
  exact ⟨y, (h.cell (by omega) (by omega) (by omega)).trans h1, h2⟩
/-- What $2 leaves. -/
structure Lgd (w0 : World) (B PT PA N : Nat) (w w' : World) (v t t' : Int) (S : Value) (ts : List Tri) (bs : List (List Int)) (s : Value) (b : List Int) : Prop where
  own : Own w.heap.size w' s b
  form : isForm v b
  le : b.length ≤ 8
  t1 : t ≤ t'
  t2 : t' ≤ t + 3
  cw : Cw w0 B PT PA N w' t' S ts bs
  gr : w.grownBy w' (some PT)
theorem lg_cw (x : Cx B PN PT PF PL PA A n c w0) {N : Nat} {w : World} {t v : Int} {S : Value} {ts : List Tri} {bs : List (List Int)} (h : Cw w0 B PT PA N w t S ts bs) (ht1 : t ≤ 1000000000) (hv0 : 0 ≤ v) (hv1 : v ≤ 4611686018427387903) :
    Calls Tryd.prog 24 #[.int .u64 v, .pointer (some ⟨PF, 0, none⟩)] w fun e w' => ∃ (A' : Option Addr) (m' c' : Nat) (b : List Int) (t' : Int), e = .returned (.slice A' m' c') ∧ Hid (m' = b.length ∧ Lgd w0 B PT PA N w w' v t t' S ts bs (.slice A' m' c') b) := by
  have := x.o1; have := x.o2; have := x.o3; have := x.o4; have := x.o5
  refine (lg_wp PN PT PF A n c t v w PN (x.f_ h.fr) (x.n_ h.fr) h.tt (by omega) (x.r_ h.fr) x.hn (by omega) (by omega) h.t0 (by omega) hv0 hv1).mono ?_
  rintro e w' ⟨s, b, t', rfl, H⟩
  obtain ⟨h1, h2, h3, h4, h5, h6, h7⟩ := H.out
  obtain ⟨A', c', rfl⟩ := own_val h1
  have := h.t0
  exact ⟨A', b.length, c', b, t', rfl, rfl, h1, h2, h3, h4, h5, h.keep h6 (.inr (.inl rfl)) h7 (by omega), h6⟩
theorem nx_cw (x : Cx B PN PT PF PL PA A n c w0) {N : Nat} {w : World} {t m : Int} {S : Value} {ts : List Tri} {bs : List (List Int)} (h : Cw w0 B PT PA N w t S ts bs) (ht1 : t ≤ 1000000000) (hm0 : 0 < m) (hm1 : m ≤ 4611686018427387903) :
    Calls Tryd.prog 23 #[.int .i64 m, .pointer (some ⟨PN, 0, none⟩), .pointer (some ⟨PT, 0, none⟩)] w fun e w' => ∃ (r t' : Int), e = .returned (.int .i64 r) ∧ Hid (0 ≤ r ∧ r < m ∧ t ≤ t' ∧ t' ≤ t + 1 ∧ Cw w0 B PT PA N w' t' S ts bs ∧ w.grownBy w' (some PT)) := by
  have := x.o1; have := x.o2; have := x.o3; have := x.o4; have := x.o5
  refine (nx_wp PN PT A n c t m w (x.n_ h.fr) h.tt PN (by omega) (x.r_ h.fr) x.hn (by omega) h.t0 (by omega) hm0 hm1).mono ?_
  rintro e w' ⟨r, t', rfl, H⟩
  obtain ⟨h1, h2, h3, h4, h5, h6⟩ := H.out
  have := h.t0
  exact ⟨r, t', rfl, h1, h2, h3, h4, h.keep h5 (.inr (.inl rfl)) h6 (by omega), h5⟩
end
/-- append onto bytes of the call's own, as one step of a region that draws. -/
theorem step_app {ops : Array Oper} {o : Oper} {a : Act} {w : World} {K : Act → World → Prop} {Q : Exit → Act → World → Prop} {F : Prop} (hgd : o.guard = none) (s x : Operand)
    (ho : o.op = .call { callee := .builtin .append, args := #[s, x], argTypes := #[22, 22] })
    (B : Nat) (v : Value) (l : List Int) (hs : a.eval s = v) (hown : Own B w v l) (A : Option Addr) (m c : Nat) (news : List Int) (hx : a.eval x = .slice A m c) (hm : news.length = m) (hr : Rd w A news) (hnil : A = none → c = 0)
    (hbig : l.length + m ≤ 140737488355328) (hB : B ≤ w.heap.size)
    (h : ∀ (A' : Option Addr) (m' c' : Nat) w', Own B w' (.slice A' m' c') (l ++ news) → w.grownBy w' v.ownBlock → ((Value.slice A' m' c').ownBlock = v.ownBlock ∨ (Value.slice A' m' c').ownBlock = some w.heap.size) → K (a.put o.dst (.slice A' m' c')) w') :
    if Region.wanted o (yielded ops a.tmps) = true then Oper.wp Tryd.prog o a w K Q else F := by
  have hw : Region.wanted o (yielded ops a.tmps) = true := by simp [Region.wanted, hgd]
  rw [if_pos hw]
  obtain ⟨v', w', hrun, h2, h3, h4, h5⟩ := run_app B w o.type v l hown A m c news hm hr hnil hbig hB
  obtain ⟨A', c', rfl⟩ := own_val h2
  unfold Oper.wp execOp
  simp only [ho, resolve, invoke, builtin, Sem.run_bind, Sem.run_pure, Result.andThen_ok, List.map_toArray, List.map_cons, List.map_nil, hs, hx, hrun]
  exact h A' _ c' w' h2 h3 h4
end

section
open Go.RowKit
set_option linter.unusedVariables false
set_option linter.unusedSimpArgs false
theorem ob_far {B : Nat} {w : World} {s : Value} {l : List Int} (h : Own B w s l) {P : Nat} (hP : P < B) : s.ownBlock = none ∨ s.ownBlock ≠ some P := by
  cases hs : s.ownBlock with
  | none => exact .inl rfl
  | some k => exact .inr (fun e => by
      have h1 := (h.lt k hs).1
      have : k = P := by simpa using e
      omega)
theorem row_far {B N : Nat} {w : World} {s : Value} {l : List Int} (h : Own B w s l) (hN : N ≤ B) : s.ownBlock = none ∨ ∃ g, s.ownBlock = some g ∧ N ≤ g := by
  cases hs : s.ownBlock with
  | none => exact .inl rfl
  | some k => exact .inr ⟨k, rfl, Nat.le_trans hN (h.lt k hs).1⟩
theorem rd_lt {w : World} {A : Option Addr} {l : List Int} (h : Rd w A l) (hl : 0 < l.length) : ∀ a, A = some a → a.block < w.heap.size := fun a ha => by
  obtain ⟨b, o, e, hc⟩ := h.2 hl
  have : a = ⟨b, o, none⟩ := by rw [ha] at e; simpa using e
  subst this
  exact World.block_lt_of_cell? _ _ (hc 0 hl)
/-- Bytes that stood before s was made are none of s's. -/
theorem rd_sep {w : World} {A : Option Addr} {l : List Int} (h : Rd w A l) {w' : World} {B : Nat} {s : Value} {l' : List Int} (ho : Own B w' s l') (hB : w.heap.size ≤ B) : 0 < l.length → Sep A s.ownBlock := fun hl a ha e => by
  have h1 := rd_lt h hl a ha
  have h2 := (ho.lt a.block e).1
  omega
theorem pu_mid {w0 : World} {B PT PA N : Nat} {w w1 w2 : World} {id lv t t1 t2 : Int} {S : Value} {ts : List Tri} {bs : List (List Int)} {A1 A2 Av : Option Addr} {m1 c1 m2 c2 m cv : Nat} {b1 b2 d : List Int} (hPT : PT < w.heap.size) (hv : Rt w (Av, m, cv) d) (hvs : 0 < d.length → Sep Av (some PT)) (H1 : Lgd w0 B PT PA N w w1 id t t1 S ts bs (.slice A1 m1 c1) b1) (H2 : Lgd w0 B PT PA N w1 w2 lv t1 t2 S ts bs (.slice A2 m2 c2) b2) : Own w.heap.size w2 (.slice A1 m1 c1) b1 ∧ Rd w2 A2 b2 ∧ (A2 = none → c2 = 0) ∧ Rd w2 Av d ∧ w.heap.size ≤ w2.heap.size := by
  refine ⟨H1.own.kept H2.gr (ob_far H1.own hPT), Rd.of_own H2.own, ?_, (hv.1.grown H1.gr hvs).grown H2.gr hvs, Nat.le_trans H1.gr.size H2.gr.size⟩
  obtain ⟨A, c, e, _, _, _, hz⟩ := H2.own.rd
  simp only [Value.slice.injEq] at e
  obtain ⟨rfl, _, rfl⟩ := e
  exact fun e => (hz e).2
theorem pu_3 {w0 : World} {B PT PA N : Nat} {w2 w3 : World} {t2 : Int} {S s1 : Value} {ts : List Tri} {bs : List (List Int)} {Av : Option Addr} {b1 d : List Int} {w : World} {m cv : Nat} (hv : Rt w (Av, m, cv) d) (hv2 : Rd w2 Av d) (hN : N ≤ w.heap.size) (ho : Own w.heap.size w2 s1 b1) (hc : Cw w0 B PT PA N w2 t2 S ts bs) (hg : w2.grownBy w3 s1.ownBlock) : Rd w3 Av d ∧ Cw w0 B PT PA N w3 t2 S ts bs := ⟨hv2.grown hg (rd_sep hv.1 ho (Nat.le_refl _)), hc.same hg (row_far ho hN)⟩
theorem pu_5 {w0 : World} {B PN PT PF PL PA N : Nat} {A : Option Addr} {n c : Nat} {w w5 : World} {t : Int} {S : Value} {ts : List Tri} {bs : List (List Int)} (x : Cx B PN PT PF PL PA A n c w0) (h : Cw w0 B PT PA N w t S ts bs) (hg : w.grownBy w5 S.ownBlock) : w5.cell? ⟨PA, 0, none⟩ = some S ∧ w5.frozen? ⟨PA, 0, none⟩ = false ∧ w5.cell? ⟨PL, 0, none⟩ = some (.func (Fn.func 24) #[] #[.pointer (some ⟨PF, 0, none⟩)]) := by
  have o4 := x.o4
  have hle := h.le
  have hbn := h.bn
  have hp := h.pp
  have hb : ∀ j, j < B → w5.heap[j]? = w.heap[j]? := fun j hj => hg.block j (by omega) fun e => by have := (h.own.lt j e.symm).1; omega
  exact ⟨(World.cell?_of_block (hb PA hp.2)).trans h.ca, (World.frozen?_of_block (hb PA hp.2)).trans h.fa, (World.cell?_of_block (hb PL (by omega))).trans (x.l_ h.fr)⟩
theorem pu_fr {PT PA : Nat} {w w1 w2 w3 w4 w5 : World} {s1 s3 S S5 : Value} {b1 b3 : List Int} {o : Obj} (h1 : w.drew.grownBy w1 (some PT)) (h2 : w1.grownBy w2 (some PT)) (o1 : Own w.heap.size w2 s1 b1) (h3 : w2.grownBy w3 s1.ownBlock) (o3 : Own w.heap.size w3 s3 b3) (h4 : w3.grownBy w4 s3.ownBlock) (h5 : (w4.alloc o).grownBy w5 S.ownBlock) (a5 : S5.ownBlock = S.ownBlock ∨ S5.ownBlock = some (w4.alloc o).heap.size) : Pg PT PA S S5 w (w5.setCell ⟨PA, 0, none⟩ S5) := by
  have z1 : w.heap.size ≤ w1.heap.size := h1.size
  have z2 := h2.size
  have z3 := h3.size
  have z4 := h4.size
  have z5 := h5.size
  have za : (w4.alloc o).heap.size = w4.heap.size + 1 := by show (w4.heap.push o).size = _; simp
  have zs : (w5.setCell ⟨PA, 0, none⟩ S5).heap.size = w5.heap.size := size_cell _ _ _
  have hc := cgrown w5 PA 0 S5
  refine ⟨by omega, fun j hj n1 n2 n3 => ?_, a5.imp id fun e => ⟨_, e, by omega⟩⟩
  have q1 : some j ≠ some PT := fun e => n1 (by simpa using e)
  rw [hc.block j (by omega) (fun e => n2 (by simpa using e)), h5.block j (by omega) n3, heap_alloc_old w4 o (by omega), h4.block j (by omega) (fun e => by have := (o3.lt j e.symm).1; omega), h3.block j (by omega) (fun e => by have := (o1.lt j e.symm).1; omega), h2.block j (by omega) q1, h1.block j (show j < w.drew.heap.size from hj) q1]
  rfl
set_option maxRecDepth 100000 in
set_option maxHeartbeats 8000000 in
/-- put: one parameter more. -/
theorem pu_wp {B PN PT PF PL PA N : Nat} {A : Option Addr} {n c : Nat} {w0 w : World} {t id : Int} {S : Value} {ts : List Tri} {bs : List (List Int)} (Av : Option Addr) (m cv : Nat) (d : List Int) (x : Cx B PN PT PF PL PA A n c w0) (h : Cw w0 B PT PA N w t S ts bs) (ht1 : t ≤ 100000000) (hi0 : 0 ≤ id) (hi1 : id ≤ 4611686018427387903) (hv : Rt w (Av, m, cv) d) (hm : m ≤ 1000) (hvs : 0 < d.length → Sep Av (some PT)) (hl : ts.length ≤ 1000) :
    Calls Tryd.prog 26 #[.int .u64 id, .slice Av m cv, .pointer (some ⟨PA, 0, none⟩), .pointer (some ⟨PL, 0, none⟩)] w fun e w' => ∃ (t' : Int) (S' : Value) (y : Tri) (b : List Int), e = .returned (.tuple #[]) ∧ Hid (t ≤ t' ∧ t' ≤ t + 6 ∧ isP (id, d) b ∧ Cw w0 B PT PA w'.heap.size w' t' S' (ts ++ [y]) (bs ++ [b]) ∧ Pg PT PA S S' w w') := by
  obtain ⟨SA, Sn, Sc, rfl⟩ := ownE_val h.own
  have o1 := x.o1; have o2 := x.o2; have o3 := x.o3; have o4 := x.o4; have o5 := x.o5
  have h' : Cw w0 B PT PA w.heap.size w.drew t (.slice SA Sn Sc) ts bs := h.up.drewN 1
  have K1 := Lib.hid (lg_cw x h' (by omega) hi0 hi1)
  have K2 : Hid (∀ (w1 : World) (t1 : Int), Cw w0 B PT PA w.heap.size w1 t1 (.slice SA Sn Sc) ts bs → t1 ≤ t + 3 → _) := fun w1 t1 h1 h2 => lg_cw (v := (m : Int)) x h1 (by omega) (by omega) (by omega)
  have uA := h'.ca
  have uL := x.l_ h'.fr
  have fA := h'.fa
  have HX := Lib.hid x
  have HC := Lib.hid h
  have HV : Hid (Rt w.drew (Av, m, cv) d) := hv.drewN 1
  have HS := Lib.hid hvs
  have HD : Hid (d.length = m) := hv.2.1
  have HZ : Hid (Av = none → cv = 0) := hv.2.2.2.2
  have HBN : Hid (B ≤ w.heap.size) := Nat.le_trans h.bn h.le
  have HT0 := Lib.hid h.t0
  have HPT : Hid (PT < w.drew.heap.size) := by have h1 : B ≤ w.drew.heap.size := HBN.out; show PT < w.drew.heap.size; omega
  have hwm : IntKind.u64.wrap (m : Int) = (m : Int) := IntWalk.u64_in _ (by omega)
  have hne : PA ≠ PL := by omega
  clear h h' x hv hvs
  go_enter Tryd.func26, Tryd.ntmps26
  go_upto_region 0 with fail
  refine wp_region_held_drew (S := (fun w' => w'.cell? ⟨PL, 0, none⟩ = some (.func (Fn.func 24) #[] #[.pointer (some ⟨PF, 0, none⟩)]))) (by kernel_rfl) (by exact uL) (fun hHeld => ?_)
  refine wpAnyH_take (i := 1) (v := ?v1) rfl (by kernel_rfl) (by kernel_rfl) (by kernel_rfl) (fun _ _ _ h => h) (Or.inl ⟨by rfl, ?hy1⟩) (by assumption) ?rest1
  case hy1 => (intro wq hSw; (try dsimp only at hSw); go_simp; (try with_reducible rfl))
  try simp only [Act.put, List.setIfInBounds_toArray, List.set_cons_zero, List.set_cons_succ]
  refine wpAnyH_take (i := 2) (v := ?v2) rfl (by kernel_rfl) (by kernel_rfl) (by kernel_rfl) (fun _ _ _ h => h) (Or.inl ⟨by rfl, ?hy2⟩) (by assumption) ?rest2
  case hy2 => (intro wq hSw; (try dsimp only at hSw); go_simp; (try with_reducible rfl))
  try simp only [Act.put, List.setIfInBounds_toArray, List.set_cons_zero, List.set_cons_succ]
  refine wpAnyH_take (i := 4) (v := ?v4) rfl (by kernel_rfl) (by kernel_rfl) (by kernel_rfl) (fun _ _ _ h => h) (Or.inl ⟨by rfl, ?hy4⟩) (by assumption) ?rest4
  case hy4 => (intro wq hSw; (try dsimp only at hSw); go_simp; (try with_reducible rfl))
  try simp only [Act.put, List.setIfInBounds_toArray, List.set_cons_zero, List.set_cons_succ]
  refine wpAnyH_take (i := 5) (v := ?v5) rfl (by kernel_rfl) (by kernel_rfl) (by kernel_rfl) (fun _ _ _ h => h) (Or.inl ⟨by rfl, ?hy5⟩) (by assumption) ?rest5
  case hy5 => (intro wq hSw; (try dsimp only at hSw); go_simp; (try with_reducible rfl))
  try simp only [Act.put, List.setIfInBounds_toArray, List.set_cons_zero, List.set_cons_succ]
  refine wpAnyH_take (i := 6) (v := ?v6) rfl (by kernel_rfl) (by kernel_rfl) (by kernel_rfl) (fun _ _ _ h => h) (Or.inl ⟨by rfl, ?hy6⟩) (by assumption) ?rest6
  case hy6 => (intro wq hSw; (try dsimp only at hSw); go_simp; (try with_reducible rfl))
  try simp only [Act.put, List.setIfInBounds_toArray, List.set_cons_zero, List.set_cons_succ]
  refine wpAnyH_take (i := 7) (v := ?v7) rfl (by kernel_rfl) (by kernel_rfl) (by kernel_rfl) (fun _ _ _ h => h) (Or.inl ⟨by rfl, ?hy7⟩) (by assumption) ?rest7
  case hy7 => (intro wq hSw; (try dsimp only at hSw); go_simp; (try with_reducible rfl))
  try simp only [Act.put, List.setIfInBounds_toArray, List.set_cons_zero, List.set_cons_succ]
  refine wpAnyH_take (i := 10) (v := ?v10) rfl (by kernel_rfl) (by kernel_rfl) (by kernel_rfl) (fun _ _ _ h => h) (Or.inl ⟨by rfl, ?hy10⟩) (by assumption) ?rest10
  case hy10 => (intro wq hSw; (try dsimp only at hSw); go_simp; (try with_reducible rfl))
  try simp only [Act.put, List.setIfInBounds_toArray, List.set_cons_zero, List.set_cons_succ]
  refine wpAnyH_ready (rs := [0, 3]) (by kernel_rfl) (by simp) (AllReadyH.cons rfl (fun K hK => ?_) (AllReadyH.cons rfl (fun K hK => ?_) AllReadyH.nil))
  · go_simp
    refine hK.out _ _ (by assumption) (fun hHeld => ?_)
    clear hK K
    try simp only [Act.put, List.setIfInBounds_toArray, List.set_cons_zero, List.set_cons_succ]
    refine wpAnyH_ready (rs := [3]) (by kernel_rfl) (by simp) (AllReadyH.cons rfl (fun K hK => ?_) AllReadyH.nil)
    go_simp
    go_at_call_of 24 (Value.int IntKind.u64 id)
    refine K1.out.mono ?_
    rintro e w1 ⟨A1, m1, c1, b1, t1, rfl, H1⟩
    dsimp only
    have uA1 := H1.out.2.cw.ca
    have uL1 := HX.out.l_ H1.out.2.cw.fr
    refine hK.out _ _ (by exact uL1) (fun hHeld => ?_)
    clear hK K
    try simp only [Act.put, List.setIfInBounds_toArray, List.set_cons_zero, List.set_cons_succ]
    refine wpAnyH_ready (rs := [8]) (by kernel_rfl) (by simp) (AllReadyH.cons rfl (fun K hK => ?_) AllReadyH.nil)
    go_simp
    go_at_call_of 24 (Value.int IntKind.u64 (m : Int))
    refine (K2.out w1 t1 H1.out.2.cw H1.out.2.t2).mono ?_
    rintro e w2 ⟨A2, m2, c2, b2, t2, rfl, H2⟩
    dsimp only
    have uA2 := H2.out.2.cw.ca
    have uL2 := HX.out.l_ H2.out.2.cw.fr
    have HM := Lib.hid (pu_mid HPT.out HV.out HS.out H1.out.2 H2.out.2)
    have hb1 := H1.out.2.le
    have hb2 := H2.out.2.le
    refine hK.out _ _ (by exact uL2) (fun hHeld => ?_)
    clear hK K
    try simp only [Act.put, List.setIfInBounds_toArray, List.set_cons_zero, List.set_cons_succ]
    refine wpAnyH_ready (rs := [9]) (by kernel_rfl) (by simp) (AllReadyH.cons rfl (fun K hK => ?_) AllReadyH.nil)
    refine step_app (by rfl) (.tmp 9) (.tmp 14) (by rfl) w.heap.size (.slice A1 m1 c1) b1 (by rfl) (by exact HM.out.1) A2 m2 c2 b2 (by rfl) (by exact H2.out.1.symm) (by exact HM.out.2.1) (by exact HM.out.2.2.1) (by have := H2.out.1; omega) (by exact HM.out.2.2.2.2) ?_
    intro A3 m3 c3 w3 ho3 hg3 ha3
    have H3 := Lib.hid (pu_3 HV.out HM.out.2.2.2.1 (Nat.le_refl _) HM.out.1 H2.out.2.cw hg3)
    have HO3 := Lib.hid ho3
    have HG3 := Lib.hid hg3
    clear ho3 hg3 ha3
    have uA3 := H3.out.2.ca
    have uL3 := HX.out.l_ H3.out.2.fr
    refine hK.out _ _ (by exact uL3) (fun hHeld => ?_)
    clear hK K
    try simp only [Act.put, List.setIfInBounds_toArray, List.set_cons_zero, List.set_cons_succ]
    refine wpAnyH_ready (rs := [11]) (by kernel_rfl) (by simp) (AllReadyH.cons rfl (fun K hK => ?_) AllReadyH.nil)
    refine step_app (by rfl) (.tmp 15) (.tmp 16) (by rfl) w.heap.size (.slice A3 m3 c3) (b1 ++ b2) (by rfl) (by exact HO3.out) Av m cv d (by rfl) (by exact HD.out) (by exact H3.out.1) (by exact HZ.out) (by rw [List.length_append]; omega) (by exact H3.out.2.le) ?_
    intro A4 m4 c4 w4 ho4 hg4 ha4
    have H4 := Lib.hid (H3.out.2.same hg4 (row_far HO3.out (Nat.le_refl _)))
    have HO4 := Lib.hid ho4
    have HG4 := Lib.hid hg4
    clear ho4 hg4 ha4
    have uA4 := (H4.out.alloc (.cells #[.slice A4 m4 c4] 22 (0, 0))).ca
    have uA4b := H4.out.ca
    have uL4 := HX.out.l_ H4.out.fr
    refine hK.out _ _ (by exact uL4) (fun hHeld => ?_)
    clear hK K
    try simp only [Act.put, List.setIfInBounds_toArray, List.set_cons_zero, List.set_cons_succ]
    refine wpAnyH_ready (rs := [12]) (by kernel_rfl) (by simp) (AllReadyH.cons rfl (fun K hK => ?_) AllReadyH.nil)
    go_simp
    refine hK.out _ _ (by exact HX.out.l_ (H4.out.alloc _).fr) (fun hHeld => ?_)
    clear hK K
    try simp only [Act.put, List.setIfInBounds_toArray, List.set_cons_zero, List.set_cons_succ]
    refine wpAnyH_ready (rs := [13]) (by kernel_rfl) (by simp) (AllReadyH.cons rfl (fun K hK => ?_) AllReadyH.nil)
    refine step_appE (E := EB) (by rfl) (.tmp 6) (.tmp 18) (by rfl) B (.slice SA Sn Sc) ts (by rfl) (by exact (H4.out.alloc _).own) ⟨w4.heap.size, 0, none⟩ 1 1 [(A4, m4, c4)] (by rfl) (by rfl) (by exact new_cells (E := EB) w4 [(A4, m4, c4)] 22) (by omega) (by exact (Nat.le_trans HBN.out (H4.out.alloc _).le)) ?_
    intro S5 w5 ho5 hg5 ha5 hb5
    obtain ⟨A5, m5, c5, rfl⟩ := ownE_val ho5
    have H5 := Lib.hid (pu_5 HX.out (H4.out.alloc _) hg5)
    have HO5 := Lib.hid ho5
    have HG5 := Lib.hid hg5
    have HA5 := Lib.hid ha5
    clear ho5 hg5 ha5 hb5
    have uA5 := H5.out.1
    have fA5 := H5.out.2.1
    have uL5 := H5.out.2.2
    refine hK.out _ _ (by exact uL5) (fun hHeld => ?_)
    clear hK K
    try simp only [Act.put, List.setIfInBounds_toArray, List.set_cons_zero, List.set_cons_succ]
    refine wpAnyH_ready (rs := [14]) (by kernel_rfl) (by simp) (AllReadyH.cons rfl (fun K hK => ?_) AllReadyH.nil)
    go_simp
    refine hK.out _ _ (by rw [World.cell?_setCell_far _ _ _ _ hne]; exact uL5) (fun hHeld => ?_)
    clear hK K
    try simp only [Act.put, List.setIfInBounds_toArray, List.set_cons_zero, List.set_cons_succ]
    refine wpAnyH_done (by kernel_rfl) ?_ _
    go_end0
    exact ⟨t2, _, (A4, m4, c4), b1 ++ b2 ++ d, rfl, Lib.hid ⟨Int.le_trans H1.out.2.t1 H2.out.2.t1, by have := H1.out.2.t2; have := H2.out.2.t2; omega, ⟨b1, b2, List.append_assoc _ _ _, H1.out.2.form, by rw [HD.out]; exact H2.out.2.form⟩, ((H4.out.alloc _).push HO5.out HG5.out ((HO4.out.lower HBN.out).alloc _) (by rw [List.length_append, List.length_append, HD.out]; omega)).up, pu_fr H1.out.2.gr H2.out.2.gr HM.out.1 HG3.out HO3.out HG4.out HG5.out HA5.out⟩⟩
  · go_simp
    go_at_call_of 24 (Value.int IntKind.u64 id)
    refine K1.out.mono ?_
    rintro e w1 ⟨A1, m1, c1, b1, t1, rfl, H1⟩
    dsimp only
    have uA1 := H1.out.2.cw.ca
    have uL1 := HX.out.l_ H1.out.2.cw.fr
    refine hK.out _ _ (by exact uL1) (fun hHeld => ?_)
    clear hK K
    try simp only [Act.put, List.setIfInBounds_toArray, List.set_cons_zero, List.set_cons_succ]
    refine wpAnyH_ready (rs := [0, 8]) (by kernel_rfl) (by simp) (AllReadyH.cons rfl (fun K hK => ?_) (AllReadyH.cons rfl (fun K hK => ?_) AllReadyH.nil))
    · go_simp
      refine hK.out _ _ (by assumption) (fun hHeld => ?_)
      clear hK K
      try simp only [Act.put, List.setIfInBounds_toArray, List.set_cons_zero, List.set_cons_succ]
      refine wpAnyH_ready (rs := [8]) (by kernel_rfl) (by simp) (AllReadyH.cons rfl (fun K hK => ?_) AllReadyH.nil)
      go_simp
      go_at_call_of 24 (Value.int IntKind.u64 (m : Int))
      refine (K2.out w1 t1 H1.out.2.cw H1.out.2.t2).mono ?_
      rintro e w2 ⟨A2, m2, c2, b2, t2, rfl, H2⟩
      dsimp only
      have uA2 := H2.out.2.cw.ca
      have uL2 := HX.out.l_ H2.out.2.cw.fr
      have HM := Lib.hid (pu_mid HPT.out HV.out HS.out H1.out.2 H2.out.2)
      have hb1 := H1.out.2.le
      have hb2 := H2.out.2.le
      refine hK.out _ _ (by exact uL2) (fun hHeld => ?_)
      clear hK K
      try simp only [Act.put, List.setIfInBounds_toArray, List.set_cons_zero, List.set_cons_succ]
      refine wpAnyH_ready (rs := [9]) (by kernel_rfl) (by simp) (AllReadyH.cons rfl (fun K hK => ?_) AllReadyH.nil)
      refine step_app (by rfl) (.tmp 9) (.tmp 14) (by rfl) w.heap.size (.slice A1 m1 c1) b1 (by rfl) (by exact HM.out.1) A2 m2 c2 b2 (by rfl) (by exact H2.out.1.symm) (by exact HM.out.2.1) (by exact HM.out.2.2.1) (by have := H2.out.1; omega) (by exact HM.out.2.2.2.2) ?_
      intro A3 m3 c3 w3 ho3 hg3 ha3
      have H3 := Lib.hid (pu_3 HV.out HM.out.2.2.2.1 (Nat.le_refl _) HM.out.1 H2.out.2.cw hg3)
      have HO3 := Lib.hid ho3
      have HG3 := Lib.hid hg3
      clear ho3 hg3 ha3
      have uA3 := H3.out.2.ca
      have uL3 := HX.out.l_ H3.out.2.fr
      refine hK.out _ _ (by exact uL3) (fun hHeld => ?_)
      clear hK K
      try simp only [Act.put, List.setIfInBounds_toArray, List.set_cons_zero, List.set_cons_succ]
      refine wpAnyH_ready (rs := [11]) (by kernel_rfl) (by simp) (AllReadyH.cons rfl (fun K hK => ?_) AllReadyH.nil)
      refine step_app (by rfl) (.tmp 15) (.tmp 16) (by rfl) w.heap.size (.slice A3 m3 c3) (b1 ++ b2) (by rfl) (by exact HO3.out) Av m cv d (by rfl) (by exact HD.out) (by exact H3.out.1) (by exact HZ.out) (by rw [List.length_append]; omega) (by exact H3.out.2.le) ?_
      intro A4 m4 c4 w4 ho4 hg4 ha4
      have H4 := Lib.hid (H3.out.2.same hg4 (row_far HO3.out (Nat.le_refl _)))
      have HO4 := Lib.hid ho4
      have HG4 := Lib.hid hg4
      clear ho4 hg4 ha4
      have uA4 := (H4.out.alloc (.cells #[.slice A4 m4 c4] 22 (0, 0))).ca
      have uA4b := H4.out.ca
      have uL4 := HX.out.l_ H4.out.fr
      refine hK.out _ _ (by exact uL4) (fun hHeld => ?_)
      clear hK K
      try simp only [Act.put, List.setIfInBounds_toArray, List.set_cons_zero, List.set_cons_succ]
      refine wpAnyH_ready (rs := [12]) (by kernel_rfl) (by simp) (AllReadyH.cons rfl (fun K hK => ?_) AllReadyH.nil)
      go_simp
      refine hK.out _ _ (by exact HX.out.l_ (H4.out.alloc _).fr) (fun hHeld => ?_)
      clear hK K
      try simp only [Act.put, List.setIfInBounds_toArray, List.set_cons_zero, List.set_cons_succ]
      refine wpAnyH_ready (rs := [13]) (by kernel_rfl) (by simp) (AllReadyH.cons rfl (fun K hK => ?_) AllReadyH.nil)
      refine step_appE (E := EB) (by rfl) (.tmp 6) (.tmp 18) (by rfl) B (.slice SA Sn Sc) ts (by rfl) (by exact (H4.out.alloc _).own) ⟨w4.heap.size, 0, none⟩ 1 1 [(A4, m4, c4)] (by rfl) (by rfl) (by exact new_cells (E := EB) w4 [(A4, m4, c4)] 22) (by omega) (by exact (Nat.le_trans HBN.out (H4.out.alloc _).le)) ?_
      intro S5 w5 ho5 hg5 ha5 hb5
      obtain ⟨A5, m5, c5, rfl⟩ := ownE_val ho5
      have H5 := Lib.hid (pu_5 HX.out (H4.out.alloc _) hg5)
      have HO5 := Lib.hid ho5
      have HG5 := Lib.hid hg5
      have HA5 := Lib.hid ha5
      clear ho5 hg5 ha5 hb5
      have uA5 := H5.out.1
      have fA5 := H5.out.2.1
      have uL5 := H5.out.2.2
      refine hK.out _ _ (by exact uL5) (fun hHeld => ?_)
      clear hK K
      try simp only [Act.put, List.setIfInBounds_toArray, List.set_cons_zero, List.set_cons_succ]
      refine wpAnyH_ready (rs := [14]) (by kernel_rfl) (by simp) (AllReadyH.cons rfl (fun K hK => ?_) AllReadyH.nil)
      go_simp
      refine hK.out _ _ (by rw [World.cell?_setCell_far _ _ _ _ hne]; exact uL5) (fun hHeld => ?_)
      clear hK K
      try simp only [Act.put, List.setIfInBounds_toArray, List.set_cons_zero, List.set_cons_succ]
      refine wpAnyH_done (by kernel_rfl) ?_ _
      go_end0
      exact ⟨t2, _, (A4, m4, c4), b1 ++ b2 ++ d, rfl, Lib.hid ⟨Int.le_trans H1.out.2.t1 H2.out.2.t1, by have := H1.out.2.t2; have := H2.out.2.t2; omega, ⟨b1, b2, List.append_assoc _ _ _, H1.out.2.form, by rw [HD.out]; exact H2.out.2.form⟩, ((H4.out.alloc _).push HO5.out HG5.out ((HO4.out.lower HBN.out).alloc _) (by rw [List.length_append, List.length_append, HD.out]; omega)).up, pu_fr H1.out.2.gr H2.out.2.gr HM.out.1 HG3.out HO3.out HG4.out HG5.out HA5.out⟩⟩
    · go_simp
      go_at_call_of 24 (Value.int IntKind.u64 (m : Int))
      refine (K2.out w1 t1 H1.out.2.cw H1.out.2.t2).mono ?_
      rintro e w2 ⟨A2, m2, c2, b2, t2, rfl, H2⟩
      dsimp only
      have uA2 := H2.out.2.cw.ca
      have uL2 := HX.out.l_ H2.out.2.cw.fr
      have HM := Lib.hid (pu_mid HPT.out HV.out HS.out H1.out.2 H2.out.2)
      have hb1 := H1.out.2.le
      have hb2 := H2.out.2.le
      refine hK.out _ _ (by exact uL2) (fun hHeld => ?_)
      clear hK K
      try simp only [Act.put, List.setIfInBounds_toArray, List.set_cons_zero, List.set_cons_succ]
      refine wpAnyH_ready (rs := [0, 9]) (by kernel_rfl) (by simp) (AllReadyH.cons rfl (fun K hK => ?_) (AllReadyH.cons rfl (fun K hK => ?_) AllReadyH.nil))
      · go_simp
        refine hK.out _ _ (by assumption) (fun hHeld => ?_)
        clear hK K
        try simp only [Act.put, List.setIfInBounds_toArray, List.set_cons_zero, List.set_cons_succ]
        refine wpAnyH_ready (rs := [9]) (by kernel_rfl) (by simp) (AllReadyH.cons rfl (fun K hK => ?_) AllReadyH.nil)
        refine step_app (by rfl) (.tmp 9) (.tmp 14) (by rfl) w.heap.size (.slice A1 m1 c1) b1 (by rfl) (by exact HM.out.1) A2 m2 c2 b2 (by rfl) (by exact H2.out.1.symm) (by exact HM.out.2.1) (by exact HM.out.2.2.1) (by have := H2.out.1; omega) (by exact HM.out.2.2.2.2) ?_
        intro A3 m3 c3 w3 ho3 hg3 ha3
        have H3 := Lib.hid (pu_3 HV.out HM.out.2.2.2.1 (Nat.le_refl _) HM.out.1 H2.out.2.cw hg3)
        have HO3 := Lib.hid ho3
        have HG3 := Lib.hid hg3
        clear ho3 hg3 ha3
        have uA3 := H3.out.2.ca
        have uL3 := HX.out.l_ H3.out.2.fr
        refine hK.out _ _ (by exact uL3) (fun hHeld => ?_)
        clear hK K
        try simp only [Act.put, List.setIfInBounds_toArray, List.set_cons_zero, List.set_cons_succ]
        refine wpAnyH_ready (rs := [11]) (by kernel_rfl) (by simp) (AllReadyH.cons rfl (fun K hK => ?_) AllReadyH.nil)
        refine step_app (by rfl) (.tmp 15) (.tmp 16) (by rfl) w.heap.size (.slice A3 m3 c3) (b1 ++ b2) (by rfl) (by exact HO3.out) Av m cv d (by rfl) (by exact HD.out) (by exact H3.out.1) (by exact HZ.out) (by rw [List.length_append]; omega) (by exact H3.out.2.le) ?_
        intro A4 m4 c4 w4 ho4 hg4 ha4
        have H4 := Lib.hid (H3.out.2.same hg4 (row_far HO3.out (Nat.le_refl _)))
        have HO4 := Lib.hid ho4
        have HG4 := Lib.hid hg4
        clear ho4 hg4 ha4
        have uA4 := (H4.out.alloc (.cells #[.slice A4 m4 c4] 22 (0, 0))).ca
        have uA4b := H4.out.ca
        have uL4 := HX.out.l_ H4.out.fr
        refine hK.out _ _ (by exact uL4) (fun hHeld => ?_)
        clear hK K
        try simp only [Act.put, List.setIfInBounds_toArray, List.set_cons_zero, List.set_cons_succ]
        refine wpAnyH_ready (rs := [12]) (by kernel_rfl) (by simp) (AllReadyH.cons rfl (fun K hK => ?_) AllReadyH.nil)
        go_simp
        refine hK.out _ _ (by exact HX.out.l_ (H4.out.alloc _).fr) (fun hHeld => ?_)
        clear hK K
        try simp only [Act.put, List.setIfInBounds_toArray, List.set_cons_zero, List.set_cons_succ]
        refine wpAnyH_ready (rs := [13]) (by kernel_rfl) (by simp) (AllReadyH.cons rfl (fun K hK => ?_) AllReadyH.nil)
        refine step_appE (E := EB) (by rfl) (.tmp 6) (.tmp 18) (by rfl) B (.slice SA Sn Sc) ts (by rfl) (by exact (H4.out.alloc _).own) ⟨w4.heap.size, 0, none⟩ 1 1 [(A4, m4, c4)] (by rfl) (by rfl) (by exact new_cells (E := EB) w4 [(A4, m4, c4)] 22) (by omega) (by exact (Nat.le_trans HBN.out (H4.out.alloc _).le)) ?_
        intro S5 w5 ho5 hg5 ha5 hb5
        obtain ⟨A5, m5, c5, rfl⟩ := ownE_val ho5
        have H5 := Lib.hid (pu_5 HX.out (H4.out.alloc _) hg5)
        have HO5 := Lib.hid ho5
        have HG5 := Lib.hid hg5
        have HA5 := Lib.hid ha5
        clear ho5 hg5 ha5 hb5
        have uA5 := H5.out.1
        have fA5 := H5.out.2.1
        have uL5 := H5.out.2.2
        refine hK.out _ _ (by exact uL5) (fun hHeld => ?_)
        clear hK K
        try simp only [Act.put, List.setIfInBounds_toArray, List.set_cons_zero, List.set_cons_succ]
        refine wpAnyH_ready (rs := [14]) (by kernel_rfl) (by simp) (AllReadyH.cons rfl (fun K hK => ?_) AllReadyH.nil)
        go_simp
        refine hK.out _ _ (by rw [World.cell?_setCell_far _ _ _ _ hne]; exact uL5) (fun hHeld => ?_)
        clear hK K
        try simp only [Act.put, List.setIfInBounds_toArray, List.set_cons_zero, List.set_cons_succ]
        refine wpAnyH_done (by kernel_rfl) ?_ _
        go_end0
        exact ⟨t2, _, (A4, m4, c4), b1 ++ b2 ++ d, rfl, Lib.hid ⟨Int.le_trans H1.out.2.t1 H2.out.2.t1, by have := H1.out.2.t2; have := H2.out.2.t2; omega, ⟨b1, b2, List.append_assoc _ _ _, H1.out.2.form, by rw [HD.out]; exact H2.out.2.form⟩, ((H4.out.alloc _).push HO5.out HG5.out ((HO4.out.lower HBN.out).alloc _) (by rw [List.length_append, List.length_append, HD.out]; omega)).up, pu_fr H1.out.2.gr H2.out.2.gr HM.out.1 HG3.out HO3.out HG4.out HG5.out HA5.out⟩⟩
      · refine step_app (by rfl) (.tmp 9) (.tmp 14) (by rfl) w.heap.size (.slice A1 m1 c1) b1 (by rfl) (by exact HM.out.1) A2 m2 c2 b2 (by rfl) (by exact H2.out.1.symm) (by exact HM.out.2.1) (by exact HM.out.2.2.1) (by have := H2.out.1; omega) (by exact HM.out.2.2.2.2) ?_
        intro A3 m3 c3 w3 ho3 hg3 ha3
        have H3 := Lib.hid (pu_3 HV.out HM.out.2.2.2.1 (Nat.le_refl _) HM.out.1 H2.out.2.cw hg3)
        have HO3 := Lib.hid ho3
        have HG3 := Lib.hid hg3
        clear ho3 hg3 ha3
        have uA3 := H3.out.2.ca
        have uL3 := HX.out.l_ H3.out.2.fr
        refine hK.out _ _ (by exact uL3) (fun hHeld => ?_)
        clear hK K
        try simp only [Act.put, List.setIfInBounds_toArray, List.set_cons_zero, List.set_cons_succ]
        refine wpAnyH_ready (rs := [0, 11]) (by kernel_rfl) (by simp) (AllReadyH.cons rfl (fun K hK => ?_) (AllReadyH.cons rfl (fun K hK => ?_) AllReadyH.nil))
        · go_simp
          refine hK.out _ _ (by assumption) (fun hHeld => ?_)
          clear hK K
          try simp only [Act.put, List.setIfInBounds_toArray, List.set_cons_zero, List.set_cons_succ]
          refine wpAnyH_ready (rs := [11]) (by kernel_rfl) (by simp) (AllReadyH.cons rfl (fun K hK => ?_) AllReadyH.nil)
          refine step_app (by rfl) (.tmp 15) (.tmp 16) (by rfl) w.heap.size (.slice A3 m3 c3) (b1 ++ b2) (by rfl) (by exact HO3.out) Av m cv d (by rfl) (by exact HD.out) (by exact H3.out.1) (by exact HZ.out) (by rw [List.length_append]; omega) (by exact H3.out.2.le) ?_
          intro A4 m4 c4 w4 ho4 hg4 ha4
          have H4 := Lib.hid (H3.out.2.same hg4 (row_far HO3.out (Nat.le_refl _)))
          have HO4 := Lib.hid ho4
          have HG4 := Lib.hid hg4
          clear ho4 hg4 ha4
          have uA4 := (H4.out.alloc (.cells #[.slice A4 m4 c4] 22 (0, 0))).ca
          have uA4b := H4.out.ca
          have uL4 := HX.out.l_ H4.out.fr
          refine hK.out _ _ (by exact uL4) (fun hHeld => ?_)
          clear hK K
          try simp only [Act.put, List.setIfInBounds_toArray, List.set_cons_zero, List.set_cons_succ]
          refine wpAnyH_ready (rs := [12]) (by kernel_rfl) (by simp) (AllReadyH.cons rfl (fun K hK => ?_) AllReadyH.nil)
          go_simp
          refine hK.out _ _ (by exact HX.out.l_ (H4.out.alloc _).fr) (fun hHeld => ?_)
          clear hK K
          try simp only [Act.put, List.setIfInBounds_toArray, List.set_cons_zero, List.set_cons_succ]
          refine wpAnyH_ready (rs := [13]) (by kernel_rfl) (by simp) (AllReadyH.cons rfl (fun K hK => ?_) AllReadyH.nil)
          refine step_appE (E := EB) (by rfl) (.tmp 6) (.tmp 18) (by rfl) B (.slice SA Sn Sc) ts (by rfl) (by exact (H4.out.alloc _).own) ⟨w4.heap.size, 0, none⟩ 1 1 [(A4, m4, c4)] (by rfl) (by rfl) (by exact new_cells (E := EB) w4 [(A4, m4, c4)] 22) (by omega) (by exact (Nat.le_trans HBN.out (H4.out.alloc _).le)) ?_
          intro S5 w5 ho5 hg5 ha5 hb5
          obtain ⟨A5, m5, c5, rfl⟩ := ownE_val ho5
          have H5 := Lib.hid (pu_5 HX.out (H4.out.alloc _) hg5)
          have HO5 := Lib.hid ho5
          have HG5 := Lib.hid hg5
          have HA5 := Lib.hid ha5
          clear ho5 hg5 ha5 hb5
          have uA5 := H5.out.1
          have fA5 := H5.out.2.1
          have uL5 := H5.out.2.2
          refine hK.out _ _ (by exact uL5) (fun hHeld => ?_)
          clear hK K
          try simp only [Act.put, List.setIfInBounds_toArray, List.set_cons_zero, List.set_cons_succ]
          refine wpAnyH_ready (rs := [14]) (by kernel_rfl) (by simp) (AllReadyH.cons rfl (fun K hK => ?_) AllReadyH.nil)
          go_simp
          refine hK.out _ _ (by rw [World.cell?_setCell_far _ _ _ _ hne]; exact uL5) (fun hHeld => ?_)
          clear hK K
          try simp only [Act.put, List.setIfInBounds_toArray, List.set_cons_zero, List.set_cons_succ]
          refine wpAnyH_done (by kernel_rfl) ?_ _
          go_end0
          exact ⟨t2, _, (A4, m4, c4), b1 ++ b2 ++ d, rfl, Lib.hid ⟨Int.le_trans H1.out.2.t1 H2.out.2.t1, by have := H1.out.2.t2; have := H2.out.2.t2; omega, ⟨b1, b2, List.append_assoc _ _ _, H1.out.2.form, by rw [HD.out]; exact H2.out.2.form⟩, ((H4.out.alloc _).push HO5.out HG5.out ((HO4.out.lower HBN.out).alloc _) (by rw [List.length_append, List.length_append, HD.out]; omega)).up, pu_fr H1.out.2.gr H2.out.2.gr HM.out.1 HG3.out HO3.out HG4.out HG5.out HA5.out⟩⟩
        · refine step_app (by rfl) (.tmp 15) (.tmp 16) (by rfl) w.heap.size (.slice A3 m3 c3) (b1 ++ b2) (by rfl) (by exact HO3.out) Av m cv d (by rfl) (by exact HD.out) (by exact H3.out.1) (by exact HZ.out) (by rw [List.length_append]; omega) (by exact H3.out.2.le) ?_
          intro A4 m4 c4 w4 ho4 hg4 ha4
          have H4 := Lib.hid (H3.out.2.same hg4 (row_far HO3.out (Nat.le_refl _)))
          have HO4 := Lib.hid ho4
          have HG4 := Lib.hid hg4
          clear ho4 hg4 ha4
          have uA4 := (H4.out.alloc (.cells #[.slice A4 m4 c4] 22 (0, 0))).ca
          have uA4b := H4.out.ca
          have uL4 := HX.out.l_ H4.out.fr
          refine hK.out _ _ (by exact uL4) (fun hHeld => ?_)
          clear hK K
          try simp only [Act.put, List.setIfInBounds_toArray, List.set_cons_zero, List.set_cons_succ]
          refine wpAnyH_ready (rs := [0, 12]) (by kernel_rfl) (by simp) (AllReadyH.cons rfl (fun K hK => ?_) (AllReadyH.cons rfl (fun K hK => ?_) AllReadyH.nil))
          · go_simp
            refine hK.out _ _ (by assumption) (fun hHeld => ?_)
            clear hK K
            try simp only [Act.put, List.setIfInBounds_toArray, List.set_cons_zero, List.set_cons_succ]
            refine wpAnyH_ready (rs := [12]) (by kernel_rfl) (by simp) (AllReadyH.cons rfl (fun K hK => ?_) AllReadyH.nil)
            go_simp
            refine hK.out _ _ (by exact HX.out.l_ (H4.out.alloc _).fr) (fun hHeld => ?_)
            clear hK K
            try simp only [Act.put, List.setIfInBounds_toArray, List.set_cons_zero, List.set_cons_succ]
            refine wpAnyH_ready (rs := [13]) (by kernel_rfl) (by simp) (AllReadyH.cons rfl (fun K hK => ?_) AllReadyH.nil)
            refine step_appE (E := EB) (by rfl) (.tmp 6) (.tmp 18) (by rfl) B (.slice SA Sn Sc) ts (by rfl) (by exact (H4.out.alloc _).own) ⟨w4.heap.size, 0, none⟩ 1 1 [(A4, m4, c4)] (by rfl) (by rfl) (by exact new_cells (E := EB) w4 [(A4, m4, c4)] 22) (by omega) (by exact (Nat.le_trans HBN.out (H4.out.alloc _).le)) ?_
            intro S5 w5 ho5 hg5 ha5 hb5
            obtain ⟨A5, m5, c5, rfl⟩ := ownE_val ho5
            have H5 := Lib.hid (pu_5 HX.out (H4.out.alloc _) hg5)
            have HO5 := Lib.hid ho5
            have HG5 := Lib.hid hg5
            have HA5 := Lib.hid ha5
            clear ho5 hg5 ha5 hb5
            have uA5 := H5.out.1
            have fA5 := H5.out.2.1
            have uL5 := H5.out.2.2
            refine hK.out _ _ (by exact uL5) (fun hHeld => ?_)
            clear hK K
            try simp only [Act.put, List.setIfInBounds_toArray, List.set_cons_zero, List.set_cons_succ]
            refine wpAnyH_ready (rs := [14]) (by kernel_rfl) (by simp) (AllReadyH.cons rfl (fun K hK => ?_) AllReadyH.nil)
            go_simp
            refine hK.out _ _ (by rw [World.cell?_setCell_far _ _ _ _ hne]; exact uL5) (fun hHeld => ?_)
            clear hK K
            try simp only [Act.put, List.setIfInBounds_toArray, List.set_cons_zero, List.set_cons_succ]
            refine wpAnyH_done (by kernel_rfl) ?_ _
            go_end0
            exact ⟨t2, _, (A4, m4, c4), b1 ++ b2 ++ d, rfl, Lib.hid ⟨Int.le_trans H1.out.2.t1 H2.out.2.t1, by have := H1.out.2.t2; have := H2.out.2.t2; omega, ⟨b1, b2, List.append_assoc _ _ _, H1.out.2.form, by rw [HD.out]; exact H2.out.2.form⟩, ((H4.out.alloc _).push HO5.out HG5.out ((HO4.out.lower HBN.out).alloc _) (by rw [List.length_append, List.length_append, HD.out]; omega)).up, pu_fr H1.out.2.gr H2.out.2.gr HM.out.1 HG3.out HO3.out HG4.out HG5.out HA5.out⟩⟩
          · go_simp
            refine hK.out _ _ (by exact HX.out.l_ (H4.out.alloc _).fr) (fun hHeld => ?_)
            clear hK K
            try simp only [Act.put, List.setIfInBounds_toArray, List.set_cons_zero, List.set_cons_succ]
            refine wpAnyH_ready (rs := [0]) (by kernel_rfl) (by simp) (AllReadyH.cons rfl (fun K hK => ?_) AllReadyH.nil)
            go_simp
            refine hK.out _ _ (by assumption) (fun hHeld => ?_)
            clear hK K
            try simp only [Act.put, List.setIfInBounds_toArray, List.set_cons_zero, List.set_cons_succ]
            refine wpAnyH_ready (rs := [13]) (by kernel_rfl) (by simp) (AllReadyH.cons rfl (fun K hK => ?_) AllReadyH.nil)
            refine step_appE (E := EB) (by rfl) (.tmp 6) (.tmp 18) (by rfl) B (.slice SA Sn Sc) ts (by rfl) (by exact (H4.out.alloc _).own) ⟨w4.heap.size, 0, none⟩ 1 1 [(A4, m4, c4)] (by rfl) (by rfl) (by exact new_cells (E := EB) w4 [(A4, m4, c4)] 22) (by omega) (by exact (Nat.le_trans HBN.out (H4.out.alloc _).le)) ?_
            intro S5 w5 ho5 hg5 ha5 hb5
            obtain ⟨A5, m5, c5, rfl⟩ := ownE_val ho5
            have H5 := Lib.hid (pu_5 HX.out (H4.out.alloc _) hg5)
            have HO5 := Lib.hid ho5
            have HG5 := Lib.hid hg5
            have HA5 := Lib.hid ha5
            clear ho5 hg5 ha5 hb5
            have uA5 := H5.out.1
            have fA5 := H5.out.2.1
            have uL5 := H5.out.2.2
            refine hK.out _ _ (by exact uL5) (fun hHeld => ?_)
            clear hK K
            try simp only [Act.put, List.setIfInBounds_toArray, List.set_cons_zero, List.set_cons_succ]
            refine wpAnyH_ready (rs := [14]) (by kernel_rfl) (by simp) (AllReadyH.cons rfl (fun K hK => ?_) AllReadyH.nil)
            go_simp
            refine hK.out _ _ (by rw [World.cell?_setCell_far _ _ _ _ hne]; exact uL5) (fun hHeld => ?_)
            clear hK K
            try simp only [Act.put, List.setIfInBounds_toArray, List.set_cons_zero, List.set_cons_succ]
            refine wpAnyH_done (by kernel_rfl) ?_ _
            go_end0
            exact ⟨t2, _, (A4, m4, c4), b1 ++ b2 ++ d, rfl, Lib.hid ⟨Int.le_trans H1.out.2.t1 H2.out.2.t1, by have := H1.out.2.t2; have := H2.out.2.t2; omega, ⟨b1, b2, List.append_assoc _ _ _, H1.out.2.form, by rw [HD.out]; exact H2.out.2.form⟩, ((H4.out.alloc _).push HO5.out HG5.out ((HO4.out.lower HBN.out).alloc _) (by rw [List.length_append, List.length_append, HD.out]; omega)).up, pu_fr H1.out.2.gr H2.out.2.gr HM.out.1 HG3.out HO3.out HG4.out HG5.out HA5.out⟩⟩
end

end Go.Proofs.YtdjdcpcomhjnjaaDoor

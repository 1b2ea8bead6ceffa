/- marshalTransportParameters: the whole. Conditions: none. -/
import Derived.Test.YtdjdcpcomhjnjaaDoorMarp
namespace Go.Proofs.YtdjdcpcomhjnjaaDoor
open Go.RowKit
set_option linter.unusedVariables false
set_option linter.unusedSimpArgs false

/-- The bytes of parameters. -/
def mar (T : TP) (S : SP) : List Int := bsec 0 T.od.1 S.od ++ (nsec 1 0 S.idle ++ (bsec 2 T.rt.1 S.rt ++ (nsec 3 65527 S.udp ++ (nsec 4 0 S.data ++ (nsec 5 0 S.bl ++ (nsec 6 0 S.br ++ (nsec 7 0 S.un ++ (nsec 8 0 S.sb ++ (nsec 9 0 S.su ++ (nsec 10 3 S.ae ++ (nsec 11 25 S.ad ++ (fsec S.nomig ++ (psec T.pid.1 S.v4 S.v6 S.pid S.ptok S.p4 S.p6 ++ (nsec 14 2 S.act ++ (bsec 15 T.is.1 S.is ++ (bsec 16 T.rs.1 S.rs))))))))))))))))
/-- Parameters that can be written. -/
structure Mok (S : SP) : Prop where
  od : S.od.length ≤ 50
  idle : 0 ≤ S.idle ∧ S.idle ≤ 4611686018
  rt : S.rt.length ≤ 50
  udp : 0 ≤ S.udp ∧ S.udp ≤ 4611686018427387903
  data : 0 ≤ S.data ∧ S.data ≤ 4611686018427387903
  bl : 0 ≤ S.bl ∧ S.bl ≤ 4611686018427387903
  br : 0 ≤ S.br ∧ S.br ≤ 4611686018427387903
  un : 0 ≤ S.un ∧ S.un ≤ 4611686018427387903
  sb : 0 ≤ S.sb ∧ S.sb ≤ 4611686018427387903
  su : 0 ≤ S.su ∧ S.su ≤ 4611686018427387903
  ae : 0 ≤ S.ae ∧ S.ae ≤ 120
  ad : 0 ≤ S.ad ∧ S.ad ≤ 4611686018
  pid : S.pid.length ≤ 50
  ptok : S.ptok.length ≤ 50
  act : 0 ≤ S.act ∧ S.act ≤ 4611686018427387903
  is : S.is.length ≤ 50
  rs : S.rs.length ≤ 50
theorem ad4_eta {a4 : Addr} {A : PA} {v : List Int} {p : Int} (h : Ad4 a4 A v p) : Ad4 a4 ⟨A.hi, A.lo, A.z, p⟩ v p := by
  obtain ⟨hi, lo, z, pt⟩ := A
  obtain rfl : pt = p := ad4_pt h
  exact h
theorem ad6_eta {a4 : Addr} {A : PA} {v : List Int} {p : Int} (h : Ad6 a4 A v p) : Ad6 a4 ⟨A.hi, A.lo, A.z, p⟩ v p := by
  obtain ⟨hi, lo, z, pt⟩ := A
  obtain rfl : pt = p := ad6_pt h
  exact h
theorem ad4_len {a4 : Addr} {A : PA} {v : List Int} {p : Int} (h : Ad4 a4 A v p) : v.length ≤ 16 := by
  rcases h with ⟨rfl, _⟩ | ⟨_, _, _, _, _, _, rfl, _⟩ <;> simp
theorem ad6_len {a6 : Addr} {A : PA} {v : List Int} {p : Int} (h : Ad6 a6 A v p) : v.length ≤ 16 := by
  rcases h with ⟨rfl, _⟩ | ⟨_, _, _, _, _, _, _, _, _, _, _, _, _, _, _, _, _, _, rfl, _⟩ <;> simp
set_option maxRecDepth 1000000 in
set_option maxHeartbeats 8000000 in
/-- marshalTransportParameters. -/
theorem mar_wp (T : TP) (S : SP) (w : World) (a4 a6 : Addr) (ht : Tp w a4 a6 T S) (ho : Mok S) (hg : Gl w a4 a6) :
    Calls Tryd.prog 35 #[.agg T.cells] w fun e w' => ∃ s, e = .returned s ∧ Hid (Own w.heap.size w' s (mar T S) ∧ Below w.heap.size w w' ∧ (mar T S).length ≤ 3000) := by
  have hB1 : Below w.heap.size w (w.alloc (.cells T.cells 76 (0, 0))) := (Below.refl _ _).alloc (Nat.le_refl _) _
  have ht1 := ht.below hB1
  have hg1 := hg.below hB1 (Nat.le_refl _)
  have hP := heap_alloc_new w (.cells T.cells 76 (0, 0))
  have hsz : (w.alloc (.cells T.cells 76 (0, 0))).heap.size = w.heap.size + 1 := by simp
  have q4 := ad4_pt ht.v4
  have q6 := ad6_pt ht.v6
  go_enter Tryd.func35, Tryd.ntmps35
  refine wp_seq_k (fun K hK' => ?_)
  have HK' := Lib.hid hK'
  clear hK'
  go_wp2_with fail
  refine HK'.out _ _ ?_
  clear HK'
  refine wp_seq_k (fun K hK' => ?_)
  have HK' := Lib.hid hK'
  clear hK'
  go_wp2_with fail
  refine HK'.out _ _ ?_
  clear HK'
  change Code.wp _ _ _ _ (w.alloc (.cells T.cells 76 (0, 0)))
  obtain ⟨w1, hw1⟩ : ∃ w1, w.alloc (.cells T.cells 76 (0, 0)) = w1 := ⟨_, rfl⟩
  rw [hw1] at hB1 ht1 hg1 hP hsz ⊢
  clear hw1
  have hs0 : Ms w1 w1 (.slice none 0 0) [] 0 := ⟨Below.refl _ _, Own.nil_ _ _, Nat.le_refl _⟩
  refine wp_seq ?_
  refine ms1 (w1 := w1) (P := w.heap.size) (m := 0) (A := T.od.1) (n := T.od.2.1) (c := T.od.2.2) (d := S.od) _ ⟨rfl, rfl, rfl, rfl⟩ hs0 (by omega) ((cell_of_row _ _ 0 _ _ (0, 0) hP).trans rfl) ht1.od (by have h1 := ht1.od.2.1; have := ho.od; omega) (fun b1 w2 s1 hm1 hs1 => ?_)
  refine wp_seq ?_
  refine ms2 (w1 := w1) (P := w.heap.size) (m := 100) (x := S.idle) _ hm1 hs1 (by omega) ((cell_of_row _ _ 1 _ _ (0, 0) hP).trans (by rw [← ht.idle]; rfl)) ho.idle.1 ho.idle.2 (fun b2 w3 s2 hm2 hs2 => ?_)
  refine wp_seq ?_
  refine ms3 (w1 := w1) (P := w.heap.size) (m := 200) (A := T.rt.1) (n := T.rt.2.1) (c := T.rt.2.2) (d := S.rt) _ hm2 hs2 (by omega) ((cell_of_row _ _ 2 _ _ (0, 0) hP).trans rfl) ht1.rt (by have h1 := ht1.rt.2.1; have := ho.rt; omega) (fun b3 w4 s3 hm3 hs3 => ?_)
  refine wp_seq ?_
  refine ms4 (w1 := w1) (P := w.heap.size) (m := 300) (x := S.udp) _ hm3 hs3 (by omega) ((cell_of_row _ _ 3 _ _ (0, 0) hP).trans (by rw [← ht.udp]; rfl)) ho.udp.1 ho.udp.2 (fun b4 w5 s4 hm4 hs4 => ?_)
  refine wp_seq ?_
  refine ms5 (w1 := w1) (P := w.heap.size) (m := 400) (x := S.data) _ hm4 hs4 (by omega) ((cell_of_row _ _ 4 _ _ (0, 0) hP).trans (by rw [← ht.data]; rfl)) ho.data.1 ho.data.2 (fun b5 w6 s5 hm5 hs5 => ?_)
  refine wp_seq ?_
  refine ms6 (w1 := w1) (P := w.heap.size) (m := 500) (x := S.bl) _ hm5 hs5 (by omega) ((cell_of_row _ _ 5 _ _ (0, 0) hP).trans (by rw [← ht.bl]; rfl)) ho.bl.1 ho.bl.2 (fun b6 w7 s6 hm6 hs6 => ?_)
  refine wp_seq ?_
  refine ms7 (w1 := w1) (P := w.heap.size) (m := 600) (x := S.br) _ hm6 hs6 (by omega) ((cell_of_row _ _ 6 _ _ (0, 0) hP).trans (by rw [← ht.br]; rfl)) ho.br.1 ho.br.2 (fun b7 w8 s7 hm7 hs7 => ?_)
  refine wp_seq ?_
  refine ms8 (w1 := w1) (P := w.heap.size) (m := 700) (x := S.un) _ hm7 hs7 (by omega) ((cell_of_row _ _ 7 _ _ (0, 0) hP).trans (by rw [← ht.un]; rfl)) ho.un.1 ho.un.2 (fun b8 w9 s8 hm8 hs8 => ?_)
  refine wp_seq ?_
  refine ms9 (w1 := w1) (P := w.heap.size) (m := 800) (x := S.sb) _ hm8 hs8 (by omega) ((cell_of_row _ _ 8 _ _ (0, 0) hP).trans (by rw [← ht.sb]; rfl)) ho.sb.1 ho.sb.2 (fun b9 w10 s9 hm9 hs9 => ?_)
  refine wp_seq ?_
  refine ms10 (w1 := w1) (P := w.heap.size) (m := 900) (x := S.su) _ hm9 hs9 (by omega) ((cell_of_row _ _ 9 _ _ (0, 0) hP).trans (by rw [← ht.su]; rfl)) ho.su.1 ho.su.2 (fun b10 w11 s10 hm10 hs10 => ?_)
  refine wp_seq ?_
  refine ms11 (w1 := w1) (P := w.heap.size) (m := 1000) (x := S.ae) _ hm10 hs10 (by omega) ((cell_of_row _ _ 10 _ _ (0, 0) hP).trans (by rw [← ht.ae]; rfl)) ho.ae.1 ho.ae.2 (fun b11 w12 s11 hm11 hs11 => ?_)
  refine wp_seq ?_
  refine ms12 (w1 := w1) (P := w.heap.size) (m := 1100) (x := S.ad) _ hm11 hs11 (by omega) ((cell_of_row _ _ 11 _ _ (0, 0) hP).trans (by rw [← ht.ad]; rfl)) ho.ad.1 ho.ad.2 (fun b12 w13 s12 hm12 hs12 => ?_)
  refine wp_seq ?_
  refine ms13 (w1 := w1) (P := w.heap.size) (m := 1200) (x := S.nomig) _ hm12 hs12 (by omega) ((cell_of_row _ _ 12 _ _ (0, 0) hP).trans (by rw [← ht.nomig]; rfl)) (fun b13 w14 s13 hm13 hs13 => ?_)
  refine wp_seq ?_
  refine ms14 (w1 := w1) (P := w.heap.size) (m := 1300) (A21 := T.pid.1) (n21 := T.pid.2.1) (c21 := T.pid.2.2) (A22 := T.ptok.1) (n22 := T.ptok.2.1) (c22 := T.ptok.2.2) (h4 := T.v4.hi) (l4 := T.v4.lo) (z4 := T.v4.z) (p4 := S.p4) (h6 := T.v6.hi) (l6 := T.v6.lo) (z6 := T.v6.z) (p6 := S.p6) (v4 := S.v4) (v6 := S.v6) (pid := S.pid) (ptok := S.ptok) (a4 := a4) (a6 := a6) _ hm13 hs13 (by omega) ((cell_of_row _ _ 21 _ _ (0, 0) hP).trans rfl) ((cell_of_row _ _ 22 _ _ (0, 0) hP).trans rfl) ((cell_of_row _ _ 13 _ _ (0, 0) hP).trans rfl) ((cell_of_row _ _ 14 _ _ (0, 0) hP).trans rfl) ((cell_of_row _ _ 15 _ _ (0, 0) hP).trans rfl) ((cell_of_row _ _ 16 _ _ (0, 0) hP).trans (by rw [← q4]; rfl)) ((cell_of_row _ _ 17 _ _ (0, 0) hP).trans rfl) ((cell_of_row _ _ 18 _ _ (0, 0) hP).trans rfl) ((cell_of_row _ _ 19 _ _ (0, 0) hP).trans rfl) ((cell_of_row _ _ 20 _ _ (0, 0) hP).trans (by rw [← q6]; rfl)) ht1.pid ht1.ptok (by have h1 := ht1.pid.2.1; have := ho.pid; omega) (by have h1 := ht1.ptok.2.1; have := ho.ptok; omega) (ad4_eta ht.v4) (ad6_eta ht.v6) (ad4_len ht.v4) (ad6_len ht.v6) hg1 (fun b14 w15 s14 hm14 hs14 => ?_)
  refine wp_seq ?_
  refine ms15 (w1 := w1) (P := w.heap.size) (m := 1800) (x := S.act) _ hm14 hs14 (by omega) ((cell_of_row _ _ 23 _ _ (0, 0) hP).trans (by rw [← ht.act]; rfl)) ho.act.1 ho.act.2 (fun b15 w16 s15 hm15 hs15 => ?_)
  refine wp_seq ?_
  refine ms16 (w1 := w1) (P := w.heap.size) (m := 1900) (A := T.is.1) (n := T.is.2.1) (c := T.is.2.2) (d := S.is) _ hm15 hs15 (by omega) ((cell_of_row _ _ 24 _ _ (0, 0) hP).trans rfl) ht1.is (by have h1 := ht1.is.2.1; have := ho.is; omega) (fun b16 w17 s16 hm16 hs16 => ?_)
  refine wp_seq ?_
  refine ms17 (w1 := w1) (P := w.heap.size) (m := 2000) (A := T.rs.1) (n := T.rs.2.1) (c := T.rs.2.2) (d := S.rs) _ hm16 hs16 (by omega) ((cell_of_row _ _ 25 _ _ (0, 0) hP).trans rfl) ht1.rs (by have h1 := ht1.rs.2.1; have := ho.rs; omega) (fun b17 w18 s17 hm17 hs17 => ?_)
  have HS := Lib.hid hs17
  obtain ⟨f, rfl⟩ := lit283 hm17.sz hm17.df hm17.t1 hm17.t3
  clear hm1 hs1 hm2 hs2 hm3 hs3 hm4 hs4 hm5 hs5 hm6 hs6 hm7 hs7 hm8 hs8 hm9 hs9 hm10 hs10 hm11 hs11 hm12 hs12 hm13 hs13 hm14 hs14 hm15 hs15 hm16 hs16 hm17 hs17
  go_wp2_with fail
  go_ret
  have h := HS.out
  simp only [List.append_assoc, List.nil_append] at h
  have e : w.heap.size ≤ w1.heap.size := by omega
  exact ⟨_, rfl, h.own.lower e, hB1.trans (h.bel.mono e), Nat.le_trans h.len (by omega)⟩

end Go.Proofs.YtdjdcpcomhjnjaaDoor

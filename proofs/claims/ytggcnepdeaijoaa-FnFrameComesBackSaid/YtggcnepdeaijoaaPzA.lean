/- The state of ZZPutFrame and its two closures. The walk of ZZPutFrame, frames of numbers. The walk of ZZPutFrame, frames with bytes behind their length. The walk of ZZPutFrame, a path's challenge and its answer. The walk of ZZPutFrame, crypto and streams' frames. The walk of ZZPutFrame, new connections' IDs. Conditions: as each part says. -/
import Derived.Test.YtggcnepdeaijoaaSame
import Derived.Test.YtggcnepdeaijoaaPuA
import Derived.Deep.RegionLaw
import Derived.Deep.CutRange
import Derived.Deep.RegionHeld3
import Derived.Deep.MidRow
namespace Go.Proofs.Ytggcnepdeaijoaa
section
open Go.RowKit
set_option linter.unusedVariables false
set_option linter.unusedSimpArgs false

/-- ZZPutFrame behind its writer's making: its boxes (blocks H and H + 1, H the heap's size when it is called), the values, the data, the writer. -/
structure Ps (w W : World) (p s g c : Nat) (AV : Option Addr) (nV cV : Nat) (vs : List Int) (AD : Option Addr) (nD cD : Nat) (ds : List (List Int)) : Prop where
  wq : Wq p s g c W 0 []
  b0 : W.heap[w.heap.size]? = some (.cells #[.slice AV nV cV] 23 (0, 0))
  b1 : W.heap[w.heap.size + 1]? = some (.cells #[.slice AD nD cD] 24 (0, 0))
  rv : RdE EI W AV vs
  nv : vs.length = nV
  rd : RdD W AD nD ds
  bel : Below w.heap.size w W
  sb : w.heap.size + 2 ≤ s
section
variable {w W W' : World} {p s g c : Nat} {AV : Option Addr} {nV cV : Nat} {vs : List Int} {AD : Option Addr} {nD cD : Nat} {ds : List (List Int)}
theorem Ps.size (h : Ps w W p s g c AV nV cV vs AD nD cD ds) : w.heap.size + 2 ≤ W.heap.size := by have := cell_in h.b1; omega
theorem Ps.below (h : Ps w W p s g c AV nV cV vs AD nD cD ds) (hb : Below W.heap.size W W') : Ps w W' p s g c AV nV cV vs AD nD cD ds := by
  have h1 := h.size
  exact ⟨h.wq.below hb, (hb.block _ (by omega)).trans h.b0, (hb.block _ (by omega)).trans h.b1, h.rv.below hb, h.nv, h.rd.below hb, h.bel.trans (hb.mono (by omega)), h.sb⟩
theorem Ps.away (h : Ps w W p s g c AV nV cV vs AD nD cD ds) {A : Option Addr} (hA : ∀ a, A = some a → W.heap.size ≤ a.block) : ∀ x, A = some x → x.block ≠ p ∧ x.block ≠ s ∧ x.block ≠ g := fun x hx => by
  have h1 := hA x hx
  have h2 := h.wq.gp
  have h3 := h.wq.sp
  omega
end
/-- What ZZPutFrame answers. -/
def PfEnd (w : World) (l : List Int) (e : Ending) (w' : World) : Prop :=
  ∃ A n c, e = .returned (.tuple #[.slice A n c, .bool true]) ∧ Hid (l.length = n) ∧ Hid (Own w.heap.size w' (.slice A n c) l ∧ Below w.heap.size w w')
theorem PfEnd.mk' {w W W1 : World} {p s g c : Nat} {AV : Option Addr} {nV cV : Nat} {vs : List Int} {AD : Option Addr} {nD cD : Nat} {ds : List (List Int)} {l : List Int} {A : Option Addr} {n c' : Nat} (h : Ps w W p s g c AV nV cV vs AD nD cD ds) (hb : Below s W W1) (ho : Own (p + 1) W1 (.slice A n c') l) (hn : l.length = n) : PfEnd w l (.returned (.tuple #[.slice A n c', .bool true])) W1 := by
  have h1 := h.sb
  have h2 := h.wq.sp
  exact ⟨A, n, c', rfl, hn, ho.lower (by omega), h.bel.trans (hb.mono (by omega))⟩

set_option maxRecDepth 100000 in
set_option maxHeartbeats 1000000 in
theorem ptv (h : Nat) (AV : Option Addr) (nV cV : Nat) (vs : List Int) (i : Nat) (x : Int) (w : World) (hb : w.heap[h]? = some (.cells #[.slice AV nV cV] 23 (0, 0))) (hr : RdE EI w AV vs) (hn : Hid (vs.length = nV)) (hx : Hid (vs[i]? = some x)) (hn2 : nV ≤ 1000) :
    Calls Try.prog 37 #[.int .i64 (i : Nat), .pointer (some ⟨h, 0, none⟩)] w fun e w' => e = .returned (.int .i64 x) ∧ w = w' := by
  obtain ⟨hi, hxi⟩ := List.getElem?_eq_some_iff.1 hx.out
  obtain ⟨b, o, rfl, hc⟩ := hr (by omega)
  have a0 := RdE.at1 rfl rfl hc i hi
  rw [hxi] at a0
  have hlt : i < nV := by rw [← hn.out]; exact hi
  have c0 : w.cell? ⟨h, 0, none⟩ = some (.slice (some ⟨b, o, none⟩) nV cV) := by rw [cell_of_row _ _ 0 _ _ (0, 0) hb]; rfl
  have hi1 : (i : Int) < (nV : Int) := by omega
  clear hb hr hc hi hxi
  go_enter Try.func37, Try.ntmps37
  go_wp2_with fail
  go_ret
  exact ⟨rfl, rfl⟩

set_option maxRecDepth 100000 in
set_option maxHeartbeats 1000000 in
theorem ptd (h : Nat) (AD : Option Addr) (nD cD : Nat) (ds : List (List Int)) (i m : Nat) (d : List Int) (w : World) (hb : w.heap[h]? = some (.cells #[.slice AD nD cD] 24 (0, 0))) (hr : RdD w AD nD ds) (hd : Hid (ds[i]? = some d)) (hm : Hid (d.length = m)) (hm2 : m ≤ 100000) (hi : i < nD) (hn2 : nD ≤ 1000) :
    Calls Try.prog 38 #[.int .i64 (i : Nat), .pointer (some ⟨h, 0, none⟩)] w fun e w' => ∃ A c, e = .returned (.slice A m c) ∧ Hid (Rt w' (A, m, c) d ∧ Below w.heap.size w w' ∧ ∀ a, A = some a → w.heap.size ≤ a.block) := by
  obtain ⟨ts, h1, h2, h3⟩ := hr
  have hit : i < ts.length := by omega
  have hdi : i < ds.length := by rw [← h3.1]; exact hit
  obtain ⟨b, o, rfl, hc⟩ := h1 (by omega)
  have a0 := RdE.atB hc i hit
  have hte : ds[i] = d := by have := hd.out; rw [List.getElem?_eq_getElem hdi] at this; simpa using this
  have ht := h3.2 i ts[i] ds[i] (List.getElem?_eq_getElem hit) (List.getElem?_eq_getElem hdi)
  obtain ⟨⟨At, nt, ct⟩, hT⟩ : ∃ t, ts[i] = t := ⟨_, rfl⟩
  rw [hT, hte] at ht
  rw [hT] at a0
  obtain ⟨r1, r2, r3, r4, r5⟩ := ht
  simp only at r1 r2 r3 r4 r5 a0
  obtain rfl : m = nt := hm.out.symm.trans r2
  have HR := Lib.hid r1
  have HZ := Lib.hid r5
  have c0 : w.cell? ⟨h, 0, none⟩ = some (.slice (some ⟨b, o, none⟩) nD cD) := by rw [cell_of_row _ _ 0 _ _ (0, 0) hb]; rfl
  have hi1 : (i : Int) < (nD : Int) := by omega
  clear hb hc hit hdi hte hT h1 h2 h3 r1 r2 r5
  go_enter Try.func38, Try.ntmps38
  go_wp2_with fail
  refine (cln At m ct d w HR.out hm HZ r3 (by omega)).mono ?_
  rintro e w1 ⟨A', c', rfl, H1⟩
  go_wp2_with fail
  go_ret
  exact ⟨A', c', rfl, H1⟩
end

section
open Go.RowKit
set_option linter.unusedVariables false
set_option linter.unusedSimpArgs false

set_option maxRecDepth 100000 in
set_option maxHeartbeats 4000000 in
theorem pf_4 (a b d : Int) (ha0 : 0 ≤ a) (ha1 : a ≤ 4611686018427387903) (hb0 : 0 ≤ b) (hb1 : b ≤ 4611686018427387903) (hd0 : 0 ≤ d) (hd1 : d ≤ 4611686018427387903) (AV : Option Addr) (nV cV : Nat) (AD : Option Addr) (nD cD : Nat) (w : World) (hv : RdE EI w AV [a, b, d]) (hnV : Hid (([a, b, d] : List Int).length = nV)) (hd : RdD w AD nD []) :
    Calls Try.prog 14 #[.int .u8 4, .slice AV nV cV, .slice AD nD cD, .int .i64 10000] w fun e w' => PfEnd w ([] ++ [4] ++ enc a ++ enc b ++ enc d) e w' := by
  obtain ⟨w0, hw0⟩ : ∃ w0, Hid ((w.alloc (.cells #[.slice AV nV cV] 23 (0, 0))).alloc (.cells #[.slice AD nD cD] 24 (0, 0)) = w0) := ⟨_, Lib.hid rfl⟩
  have hs0 : w0.heap.size = w.heap.size + 2 := by rw [← hw0.out]; simp
  have HS0 := Lib.hid hs0
  have HB0 : Hid (Below w.heap.size w w0) := by show Below _ _ _; rw [← hw0.out]; exact ((Below.refl _ _).alloc (Nat.le_refl _) _).alloc (by simp) _
  have H0 : Hid (w0.heap[w.heap.size]? = some (.cells #[.slice AV nV cV] 23 (0, 0)) ∧ w0.heap[w.heap.size + 1]? = some (.cells #[.slice AD nD cD] 24 (0, 0))) := by
    show _ ∧ _
    rw [← hw0.out]
    have e1 : (w.alloc (.cells #[.slice AV nV cV] 23 (0, 0))).heap.size = w.heap.size + 1 := by simp
    have k1 := heap_alloc_new (w.alloc (.cells #[.slice AV nV cV] 23 (0, 0))) (.cells #[.slice AD nD cD] 24 (0, 0))
    rw [e1] at k1
    exact ⟨(heap_alloc_old _ _ (by rw [e1]; omega)).trans (heap_alloc_new w _), k1⟩
  have HV := Lib.hid (hv.below HB0.out)
  have HD := Lib.hid (hd.below HB0.out)
  clear hv hd hs0
  go_enter Try.func14, Try.ntmps14
  go_wp2_with fail
  rw [hw0.out]
  refine (zzq w0).mono ?_
  rintro e W ⟨p, g, rfl, H1⟩
  have HP : Hid (Ps w W p (w0.heap.size) g 10000 AV nV cV [a, b, d] AD nD cD []) := by
    obtain ⟨h1, h2⟩ := H1.out
    have hs := HS0.out
    exact ⟨h1, (h2.block _ (by omega)).trans H0.out.1, (h2.block _ (by omega)).trans H0.out.2, HV.out.below h2, hnV.out, HD.out.below h2, HB0.out.trans (h2.mono (by omega)), by omega⟩
  obtain ⟨s, hs⟩ : ∃ s, Hid (w0.heap.size = s) := ⟨_, Lib.hid rfl⟩
  rw [hs.out] at HP
  clear H1 HV HD H0
  go_wp2_with fail
  refine (ptv w.heap.size AV nV cV _ 0 a W HP.out.b0 HP.out.rv hnV rfl (by have := hnV.out; simp at this; omega)).mono ?_
  rintro e w9 ⟨rfl, rfl⟩
  go_wp2_with fail
  refine (ptv w.heap.size AV nV cV _ 1 b W HP.out.b0 HP.out.rv hnV rfl (by have := hnV.out; simp at this; omega)).mono ?_
  rintro e w9 ⟨rfl, rfl⟩
  go_wp2_with fail
  refine (ptv w.heap.size AV nV cV _ 2 d W HP.out.b0 HP.out.rv hnV rfl (by have := hnV.out; simp at this; omega)).mono ?_
  rintro e w9 ⟨rfl, rfl⟩
  go_wp2_with fail
  refine (ap_rs p s g 10000 a b d ha0 ha1 hb0 hb1 hd0 hd1 W HP.out.wq).mono ?_
  have hza := esz_bd a
  have hzb := esz_bd b
  have hzd := esz_bd d
  rintro e w7 ⟨rfl, H7⟩
  have HWd := Lib.hid H7.out.1
  clear H7
  obtain ⟨n7, hn7⟩ : ∃ n, Hid (List.length ([] ++ [4] ++ enc a ++ enc b ++ enc d) = n) := ⟨_, Lib.hid rfl⟩
  have hb7 : n7 ≤ 100000 := by have := hn7.out; simp only [List.length_append, List.length_cons, List.length_nil, enc_length] at this; omega
  go_wp2_with fail
  refine (payload_ _ _ w7 HWd.out n7 hn7 hb7).mono ?_
  rintro e w8 ⟨A8, c8, rfl, HO, z8, rfl⟩
  go_wp2_with fail
  go_ret2
  exact PfEnd.mk' HP.out (below_drewN HWd.out.bel _) HO.out hn7.out

set_option maxRecDepth 100000 in
set_option maxHeartbeats 4000000 in
theorem pf_5 (a b : Int) (ha0 : 0 ≤ a) (ha1 : a ≤ 4611686018427387903) (hb0 : 0 ≤ b) (hb1 : b ≤ 4611686018427387903) (AV : Option Addr) (nV cV : Nat) (AD : Option Addr) (nD cD : Nat) (w : World) (hv : RdE EI w AV [a, b]) (hnV : Hid (([a, b] : List Int).length = nV)) (hd : RdD w AD nD []) :
    Calls Try.prog 14 #[.int .u8 5, .slice AV nV cV, .slice AD nD cD, .int .i64 10000] w fun e w' => PfEnd w ([] ++ [5] ++ enc a ++ enc b) e w' := by
  obtain ⟨w0, hw0⟩ : ∃ w0, Hid ((w.alloc (.cells #[.slice AV nV cV] 23 (0, 0))).alloc (.cells #[.slice AD nD cD] 24 (0, 0)) = w0) := ⟨_, Lib.hid rfl⟩
  have hs0 : w0.heap.size = w.heap.size + 2 := by rw [← hw0.out]; simp
  have HS0 := Lib.hid hs0
  have HB0 : Hid (Below w.heap.size w w0) := by show Below _ _ _; rw [← hw0.out]; exact ((Below.refl _ _).alloc (Nat.le_refl _) _).alloc (by simp) _
  have H0 : Hid (w0.heap[w.heap.size]? = some (.cells #[.slice AV nV cV] 23 (0, 0)) ∧ w0.heap[w.heap.size + 1]? = some (.cells #[.slice AD nD cD] 24 (0, 0))) := by
    show _ ∧ _
    rw [← hw0.out]
    have e1 : (w.alloc (.cells #[.slice AV nV cV] 23 (0, 0))).heap.size = w.heap.size + 1 := by simp
    have k1 := heap_alloc_new (w.alloc (.cells #[.slice AV nV cV] 23 (0, 0))) (.cells #[.slice AD nD cD] 24 (0, 0))
    rw [e1] at k1
    exact ⟨(heap_alloc_old _ _ (by rw [e1]; omega)).trans (heap_alloc_new w _), k1⟩
  have HV := Lib.hid (hv.below HB0.out)
  have HD := Lib.hid (hd.below HB0.out)
  clear hv hd hs0
  go_enter Try.func14, Try.ntmps14
  go_wp2_with fail
  rw [hw0.out]
  refine (zzq w0).mono ?_
  rintro e W ⟨p, g, rfl, H1⟩
  have HP : Hid (Ps w W p (w0.heap.size) g 10000 AV nV cV [a, b] AD nD cD []) := by
    obtain ⟨h1, h2⟩ := H1.out
    have hs := HS0.out
    exact ⟨h1, (h2.block _ (by omega)).trans H0.out.1, (h2.block _ (by omega)).trans H0.out.2, HV.out.below h2, hnV.out, HD.out.below h2, HB0.out.trans (h2.mono (by omega)), by omega⟩
  obtain ⟨s, hs⟩ : ∃ s, Hid (w0.heap.size = s) := ⟨_, Lib.hid rfl⟩
  rw [hs.out] at HP
  clear H1 HV HD H0
  go_wp2_with fail
  refine (ptv w.heap.size AV nV cV _ 0 a W HP.out.b0 HP.out.rv hnV rfl (by have := hnV.out; simp at this; omega)).mono ?_
  rintro e w9 ⟨rfl, rfl⟩
  go_wp2_with fail
  refine (ptv w.heap.size AV nV cV _ 1 b W HP.out.b0 HP.out.rv hnV rfl (by have := hnV.out; simp at this; omega)).mono ?_
  rintro e w9 ⟨rfl, rfl⟩
  go_wp2_with fail
  refine (ap_ss p s g 10000 a b ha0 ha1 hb0 hb1 W HP.out.wq).mono ?_
  have hza := esz_bd a
  have hzb := esz_bd b
  rintro e w7 ⟨rfl, H7⟩
  have HWd := Lib.hid H7.out.1
  clear H7
  obtain ⟨n7, hn7⟩ : ∃ n, Hid (List.length ([] ++ [5] ++ enc a ++ enc b) = n) := ⟨_, Lib.hid rfl⟩
  have hb7 : n7 ≤ 100000 := by have := hn7.out; simp only [List.length_append, List.length_cons, List.length_nil, enc_length] at this; omega
  go_wp2_with fail
  refine (payload_ _ _ w7 HWd.out n7 hn7 hb7).mono ?_
  rintro e w8 ⟨A8, c8, rfl, HO, z8, rfl⟩
  go_wp2_with fail
  go_ret2
  exact PfEnd.mk' HP.out (below_drewN HWd.out.bel _) HO.out hn7.out

set_option maxRecDepth 100000 in
set_option maxHeartbeats 4000000 in
theorem pf_16 (a : Int) (ha0 : 0 ≤ a) (ha1 : a ≤ 4611686018427387903) (AV : Option Addr) (nV cV : Nat) (AD : Option Addr) (nD cD : Nat) (w : World) (hv : RdE EI w AV [a]) (hnV : Hid (([a] : List Int).length = nV)) (hd : RdD w AD nD []) :
    Calls Try.prog 14 #[.int .u8 16, .slice AV nV cV, .slice AD nD cD, .int .i64 10000] w fun e w' => PfEnd w ([] ++ [16] ++ enc a) e w' := by
  obtain ⟨w0, hw0⟩ : ∃ w0, Hid ((w.alloc (.cells #[.slice AV nV cV] 23 (0, 0))).alloc (.cells #[.slice AD nD cD] 24 (0, 0)) = w0) := ⟨_, Lib.hid rfl⟩
  have hs0 : w0.heap.size = w.heap.size + 2 := by rw [← hw0.out]; simp
  have HS0 := Lib.hid hs0
  have HB0 : Hid (Below w.heap.size w w0) := by show Below _ _ _; rw [← hw0.out]; exact ((Below.refl _ _).alloc (Nat.le_refl _) _).alloc (by simp) _
  have H0 : Hid (w0.heap[w.heap.size]? = some (.cells #[.slice AV nV cV] 23 (0, 0)) ∧ w0.heap[w.heap.size + 1]? = some (.cells #[.slice AD nD cD] 24 (0, 0))) := by
    show _ ∧ _
    rw [← hw0.out]
    have e1 : (w.alloc (.cells #[.slice AV nV cV] 23 (0, 0))).heap.size = w.heap.size + 1 := by simp
    have k1 := heap_alloc_new (w.alloc (.cells #[.slice AV nV cV] 23 (0, 0))) (.cells #[.slice AD nD cD] 24 (0, 0))
    rw [e1] at k1
    exact ⟨(heap_alloc_old _ _ (by rw [e1]; omega)).trans (heap_alloc_new w _), k1⟩
  have HV := Lib.hid (hv.below HB0.out)
  have HD := Lib.hid (hd.below HB0.out)
  clear hv hd hs0
  go_enter Try.func14, Try.ntmps14
  go_wp2_with fail
  rw [hw0.out]
  refine (zzq w0).mono ?_
  rintro e W ⟨p, g, rfl, H1⟩
  have HP : Hid (Ps w W p (w0.heap.size) g 10000 AV nV cV [a] AD nD cD []) := by
    obtain ⟨h1, h2⟩ := H1.out
    have hs := HS0.out
    exact ⟨h1, (h2.block _ (by omega)).trans H0.out.1, (h2.block _ (by omega)).trans H0.out.2, HV.out.below h2, hnV.out, HD.out.below h2, HB0.out.trans (h2.mono (by omega)), by omega⟩
  obtain ⟨s, hs⟩ : ∃ s, Hid (w0.heap.size = s) := ⟨_, Lib.hid rfl⟩
  rw [hs.out] at HP
  clear H1 HV HD H0
  go_wp2_with fail
  refine (ptv w.heap.size AV nV cV _ 0 a W HP.out.b0 HP.out.rv hnV rfl (by have := hnV.out; simp at this; omega)).mono ?_
  rintro e w9 ⟨rfl, rfl⟩
  go_wp2_with fail
  refine (ap_md p s g 10000 a ha0 ha1 W HP.out.wq).mono ?_
  have hza := esz_bd a
  rintro e w7 ⟨rfl, H7⟩
  have HWd := Lib.hid H7.out.1
  clear H7
  obtain ⟨n7, hn7⟩ : ∃ n, Hid (List.length ([] ++ [16] ++ enc a) = n) := ⟨_, Lib.hid rfl⟩
  have hb7 : n7 ≤ 100000 := by have := hn7.out; simp only [List.length_append, List.length_cons, List.length_nil, enc_length] at this; omega
  go_wp2_with fail
  refine (payload_ _ _ w7 HWd.out n7 hn7 hb7).mono ?_
  rintro e w8 ⟨A8, c8, rfl, HO, z8, rfl⟩
  go_wp2_with fail
  go_ret2
  exact PfEnd.mk' HP.out (below_drewN HWd.out.bel _) HO.out hn7.out

set_option maxRecDepth 100000 in
set_option maxHeartbeats 4000000 in
theorem pf_17 (a b : Int) (ha0 : 0 ≤ a) (ha1 : a ≤ 4611686018427387903) (hb0 : 0 ≤ b) (hb1 : b ≤ 4611686018427387903) (AV : Option Addr) (nV cV : Nat) (AD : Option Addr) (nD cD : Nat) (w : World) (hv : RdE EI w AV [a, b]) (hnV : Hid (([a, b] : List Int).length = nV)) (hd : RdD w AD nD []) :
    Calls Try.prog 14 #[.int .u8 17, .slice AV nV cV, .slice AD nD cD, .int .i64 10000] w fun e w' => PfEnd w ([] ++ [17] ++ enc a ++ enc b) e w' := by
  obtain ⟨w0, hw0⟩ : ∃ w0, Hid ((w.alloc (.cells #[.slice AV nV cV] 23 (0, 0))).alloc (.cells #[.slice AD nD cD] 24 (0, 0)) = w0) := ⟨_, Lib.hid rfl⟩
  have hs0 : w0.heap.size = w.heap.size + 2 := by rw [← hw0.out]; simp
  have HS0 := Lib.hid hs0
  have HB0 : Hid (Below w.heap.size w w0) := by show Below _ _ _; rw [← hw0.out]; exact ((Below.refl _ _).alloc (Nat.le_refl _) _).alloc (by simp) _
  have H0 : Hid (w0.heap[w.heap.size]? = some (.cells #[.slice AV nV cV] 23 (0, 0)) ∧ w0.heap[w.heap.size + 1]? = some (.cells #[.slice AD nD cD] 24 (0, 0))) := by
    show _ ∧ _
    rw [← hw0.out]
    have e1 : (w.alloc (.cells #[.slice AV nV cV] 23 (0, 0))).heap.size = w.heap.size + 1 := by simp
    have k1 := heap_alloc_new (w.alloc (.cells #[.slice AV nV cV] 23 (0, 0))) (.cells #[.slice AD nD cD] 24 (0, 0))
    rw [e1] at k1
    exact ⟨(heap_alloc_old _ _ (by rw [e1]; omega)).trans (heap_alloc_new w _), k1⟩
  have HV := Lib.hid (hv.below HB0.out)
  have HD := Lib.hid (hd.below HB0.out)
  clear hv hd hs0
  go_enter Try.func14, Try.ntmps14
  go_wp2_with fail
  rw [hw0.out]
  refine (zzq w0).mono ?_
  rintro e W ⟨p, g, rfl, H1⟩
  have HP : Hid (Ps w W p (w0.heap.size) g 10000 AV nV cV [a, b] AD nD cD []) := by
    obtain ⟨h1, h2⟩ := H1.out
    have hs := HS0.out
    exact ⟨h1, (h2.block _ (by omega)).trans H0.out.1, (h2.block _ (by omega)).trans H0.out.2, HV.out.below h2, hnV.out, HD.out.below h2, HB0.out.trans (h2.mono (by omega)), by omega⟩
  obtain ⟨s, hs⟩ : ∃ s, Hid (w0.heap.size = s) := ⟨_, Lib.hid rfl⟩
  rw [hs.out] at HP
  clear H1 HV HD H0
  go_wp2_with fail
  refine (ptv w.heap.size AV nV cV _ 0 a W HP.out.b0 HP.out.rv hnV rfl (by have := hnV.out; simp at this; omega)).mono ?_
  rintro e w9 ⟨rfl, rfl⟩
  go_wp2_with fail
  refine (ptv w.heap.size AV nV cV _ 1 b W HP.out.b0 HP.out.rv hnV rfl (by have := hnV.out; simp at this; omega)).mono ?_
  rintro e w9 ⟨rfl, rfl⟩
  go_wp2_with fail
  refine (ap_msd p s g 10000 a b ha0 ha1 hb0 hb1 W HP.out.wq).mono ?_
  have hza := esz_bd a
  have hzb := esz_bd b
  rintro e w7 ⟨rfl, H7⟩
  have HWd := Lib.hid H7.out.1
  clear H7
  obtain ⟨n7, hn7⟩ : ∃ n, Hid (List.length ([] ++ [17] ++ enc a ++ enc b) = n) := ⟨_, Lib.hid rfl⟩
  have hb7 : n7 ≤ 100000 := by have := hn7.out; simp only [List.length_append, List.length_cons, List.length_nil, enc_length] at this; omega
  go_wp2_with fail
  refine (payload_ _ _ w7 HWd.out n7 hn7 hb7).mono ?_
  rintro e w8 ⟨A8, c8, rfl, HO, z8, rfl⟩
  go_wp2_with fail
  go_ret2
  exact PfEnd.mk' HP.out (below_drewN HWd.out.bel _) HO.out hn7.out

set_option maxRecDepth 100000 in
set_option maxHeartbeats 4000000 in
theorem pf_18 (a : Int) (ha0 : 0 ≤ a) (ha1 : a ≤ 4611686018427387903) (AV : Option Addr) (nV cV : Nat) (AD : Option Addr) (nD cD : Nat) (w : World) (hv : RdE EI w AV [0, a]) (hnV : Hid (([0, a] : List Int).length = nV)) (hd : RdD w AD nD []) :
    Calls Try.prog 14 #[.int .u8 18, .slice AV nV cV, .slice AD nD cD, .int .i64 10000] w fun e w' => PfEnd w ([] ++ [18] ++ enc a) e w' := by
  obtain ⟨w0, hw0⟩ : ∃ w0, Hid ((w.alloc (.cells #[.slice AV nV cV] 23 (0, 0))).alloc (.cells #[.slice AD nD cD] 24 (0, 0)) = w0) := ⟨_, Lib.hid rfl⟩
  have hs0 : w0.heap.size = w.heap.size + 2 := by rw [← hw0.out]; simp
  have HS0 := Lib.hid hs0
  have HB0 : Hid (Below w.heap.size w w0) := by show Below _ _ _; rw [← hw0.out]; exact ((Below.refl _ _).alloc (Nat.le_refl _) _).alloc (by simp) _
  have H0 : Hid (w0.heap[w.heap.size]? = some (.cells #[.slice AV nV cV] 23 (0, 0)) ∧ w0.heap[w.heap.size + 1]? = some (.cells #[.slice AD nD cD] 24 (0, 0))) := by
    show _ ∧ _
    rw [← hw0.out]
    have e1 : (w.alloc (.cells #[.slice AV nV cV] 23 (0, 0))).heap.size = w.heap.size + 1 := by simp
    have k1 := heap_alloc_new (w.alloc (.cells #[.slice AV nV cV] 23 (0, 0))) (.cells #[.slice AD nD cD] 24 (0, 0))
    rw [e1] at k1
    exact ⟨(heap_alloc_old _ _ (by rw [e1]; omega)).trans (heap_alloc_new w _), k1⟩
  have HV := Lib.hid (hv.below HB0.out)
  have HD := Lib.hid (hd.below HB0.out)
  clear hv hd hs0
  go_enter Try.func14, Try.ntmps14
  go_wp2_with fail
  rw [hw0.out]
  refine (zzq w0).mono ?_
  rintro e W ⟨p, g, rfl, H1⟩
  have HP : Hid (Ps w W p (w0.heap.size) g 10000 AV nV cV [0, a] AD nD cD []) := by
    obtain ⟨h1, h2⟩ := H1.out
    have hs := HS0.out
    exact ⟨h1, (h2.block _ (by omega)).trans H0.out.1, (h2.block _ (by omega)).trans H0.out.2, HV.out.below h2, hnV.out, HD.out.below h2, HB0.out.trans (h2.mono (by omega)), by omega⟩
  obtain ⟨s, hs⟩ : ∃ s, Hid (w0.heap.size = s) := ⟨_, Lib.hid rfl⟩
  rw [hs.out] at HP
  clear H1 HV HD H0
  have fb : bits .and .i64 0 1 = 0 := by decide
  go_wp2_with fail
  refine (ptv w.heap.size AV nV cV _ 0 0 W HP.out.b0 HP.out.rv hnV rfl (by have := hnV.out; simp at this; omega)).mono ?_
  rintro e w9 ⟨rfl, rfl⟩
  go_wp2_with fail
  refine (ptv w.heap.size AV nV cV _ 1 a W HP.out.b0 HP.out.rv hnV rfl (by have := hnV.out; simp at this; omega)).mono ?_
  rintro e w9 ⟨rfl, rfl⟩
  go_wp2_with fail
  refine (ap_ms0 p s g 10000 a ha0 ha1 W HP.out.wq).mono ?_
  have hza := esz_bd a
  rintro e w7 ⟨rfl, H7⟩
  have HWd := Lib.hid H7.out.1
  clear H7
  obtain ⟨n7, hn7⟩ : ∃ n, Hid (List.length ([] ++ [18] ++ enc a) = n) := ⟨_, Lib.hid rfl⟩
  have hb7 : n7 ≤ 100000 := by have := hn7.out; simp only [List.length_append, List.length_cons, List.length_nil, enc_length] at this; omega
  go_wp2_with fail
  refine (payload_ _ _ w7 HWd.out n7 hn7 hb7).mono ?_
  rintro e w8 ⟨A8, c8, rfl, HO, z8, rfl⟩
  go_wp2_with fail
  go_ret2
  exact PfEnd.mk' HP.out (below_drewN HWd.out.bel _) HO.out hn7.out

set_option maxRecDepth 100000 in
set_option maxHeartbeats 4000000 in
theorem pf_19 (a : Int) (ha0 : 0 ≤ a) (ha1 : a ≤ 4611686018427387903) (AV : Option Addr) (nV cV : Nat) (AD : Option Addr) (nD cD : Nat) (w : World) (hv : RdE EI w AV [1, a]) (hnV : Hid (([1, a] : List Int).length = nV)) (hd : RdD w AD nD []) :
    Calls Try.prog 14 #[.int .u8 19, .slice AV nV cV, .slice AD nD cD, .int .i64 10000] w fun e w' => PfEnd w ([] ++ [19] ++ enc a) e w' := by
  obtain ⟨w0, hw0⟩ : ∃ w0, Hid ((w.alloc (.cells #[.slice AV nV cV] 23 (0, 0))).alloc (.cells #[.slice AD nD cD] 24 (0, 0)) = w0) := ⟨_, Lib.hid rfl⟩
  have hs0 : w0.heap.size = w.heap.size + 2 := by rw [← hw0.out]; simp
  have HS0 := Lib.hid hs0
  have HB0 : Hid (Below w.heap.size w w0) := by show Below _ _ _; rw [← hw0.out]; exact ((Below.refl _ _).alloc (Nat.le_refl _) _).alloc (by simp) _
  have H0 : Hid (w0.heap[w.heap.size]? = some (.cells #[.slice AV nV cV] 23 (0, 0)) ∧ w0.heap[w.heap.size + 1]? = some (.cells #[.slice AD nD cD] 24 (0, 0))) := by
    show _ ∧ _
    rw [← hw0.out]
    have e1 : (w.alloc (.cells #[.slice AV nV cV] 23 (0, 0))).heap.size = w.heap.size + 1 := by simp
    have k1 := heap_alloc_new (w.alloc (.cells #[.slice AV nV cV] 23 (0, 0))) (.cells #[.slice AD nD cD] 24 (0, 0))
    rw [e1] at k1
    exact ⟨(heap_alloc_old _ _ (by rw [e1]; omega)).trans (heap_alloc_new w _), k1⟩
  have HV := Lib.hid (hv.below HB0.out)
  have HD := Lib.hid (hd.below HB0.out)
  clear hv hd hs0
  go_enter Try.func14, Try.ntmps14
  go_wp2_with fail
  rw [hw0.out]
  refine (zzq w0).mono ?_
  rintro e W ⟨p, g, rfl, H1⟩
  have HP : Hid (Ps w W p (w0.heap.size) g 10000 AV nV cV [1, a] AD nD cD []) := by
    obtain ⟨h1, h2⟩ := H1.out
    have hs := HS0.out
    exact ⟨h1, (h2.block _ (by omega)).trans H0.out.1, (h2.block _ (by omega)).trans H0.out.2, HV.out.below h2, hnV.out, HD.out.below h2, HB0.out.trans (h2.mono (by omega)), by omega⟩
  obtain ⟨s, hs⟩ : ∃ s, Hid (w0.heap.size = s) := ⟨_, Lib.hid rfl⟩
  rw [hs.out] at HP
  clear H1 HV HD H0
  have fb : bits .and .i64 1 1 = 1 := by decide
  go_wp2_with fail
  refine (ptv w.heap.size AV nV cV _ 0 1 W HP.out.b0 HP.out.rv hnV rfl (by have := hnV.out; simp at this; omega)).mono ?_
  rintro e w9 ⟨rfl, rfl⟩
  go_wp2_with fail
  refine (ptv w.heap.size AV nV cV _ 1 a W HP.out.b0 HP.out.rv hnV rfl (by have := hnV.out; simp at this; omega)).mono ?_
  rintro e w9 ⟨rfl, rfl⟩
  go_wp2_with fail
  refine (ap_ms1 p s g 10000 a ha0 ha1 W HP.out.wq).mono ?_
  have hza := esz_bd a
  rintro e w7 ⟨rfl, H7⟩
  have HWd := Lib.hid H7.out.1
  clear H7
  obtain ⟨n7, hn7⟩ : ∃ n, Hid (List.length ([] ++ [19] ++ enc a) = n) := ⟨_, Lib.hid rfl⟩
  have hb7 : n7 ≤ 100000 := by have := hn7.out; simp only [List.length_append, List.length_cons, List.length_nil, enc_length] at this; omega
  go_wp2_with fail
  refine (payload_ _ _ w7 HWd.out n7 hn7 hb7).mono ?_
  rintro e w8 ⟨A8, c8, rfl, HO, z8, rfl⟩
  go_wp2_with fail
  go_ret2
  exact PfEnd.mk' HP.out (below_drewN HWd.out.bel _) HO.out hn7.out

set_option maxRecDepth 100000 in
set_option maxHeartbeats 4000000 in
theorem pf_20 (a : Int) (ha0 : 0 ≤ a) (ha1 : a ≤ 4611686018427387903) (AV : Option Addr) (nV cV : Nat) (AD : Option Addr) (nD cD : Nat) (w : World) (hv : RdE EI w AV [a]) (hnV : Hid (([a] : List Int).length = nV)) (hd : RdD w AD nD []) :
    Calls Try.prog 14 #[.int .u8 20, .slice AV nV cV, .slice AD nD cD, .int .i64 10000] w fun e w' => PfEnd w ([] ++ [20] ++ enc a) e w' := by
  obtain ⟨w0, hw0⟩ : ∃ w0, Hid ((w.alloc (.cells #[.slice AV nV cV] 23 (0, 0))).alloc (.cells #[.slice AD nD cD] 24 (0, 0)) = w0) := ⟨_, Lib.hid rfl⟩
  have hs0 : w0.heap.size = w.heap.size + 2 := by rw [← hw0.out]; simp
  have HS0 := Lib.hid hs0
  have HB0 : Hid (Below w.heap.size w w0) := by show Below _ _ _; rw [← hw0.out]; exact ((Below.refl _ _).alloc (Nat.le_refl _) _).alloc (by simp) _
  have H0 : Hid (w0.heap[w.heap.size]? = some (.cells #[.slice AV nV cV] 23 (0, 0)) ∧ w0.heap[w.heap.size + 1]? = some (.cells #[.slice AD nD cD] 24 (0, 0))) := by
    show _ ∧ _
    rw [← hw0.out]
    have e1 : (w.alloc (.cells #[.slice AV nV cV] 23 (0, 0))).heap.size = w.heap.size + 1 := by simp
    have k1 := heap_alloc_new (w.alloc (.cells #[.slice AV nV cV] 23 (0, 0))) (.cells #[.slice AD nD cD] 24 (0, 0))
    rw [e1] at k1
    exact ⟨(heap_alloc_old _ _ (by rw [e1]; omega)).trans (heap_alloc_new w _), k1⟩
  have HV := Lib.hid (hv.below HB0.out)
  have HD := Lib.hid (hd.below HB0.out)
  clear hv hd hs0
  go_enter Try.func14, Try.ntmps14
  go_wp2_with fail
  rw [hw0.out]
  refine (zzq w0).mono ?_
  rintro e W ⟨p, g, rfl, H1⟩
  have HP : Hid (Ps w W p (w0.heap.size) g 10000 AV nV cV [a] AD nD cD []) := by
    obtain ⟨h1, h2⟩ := H1.out
    have hs := HS0.out
    exact ⟨h1, (h2.block _ (by omega)).trans H0.out.1, (h2.block _ (by omega)).trans H0.out.2, HV.out.below h2, hnV.out, HD.out.below h2, HB0.out.trans (h2.mono (by omega)), by omega⟩
  obtain ⟨s, hs⟩ : ∃ s, Hid (w0.heap.size = s) := ⟨_, Lib.hid rfl⟩
  rw [hs.out] at HP
  clear H1 HV HD H0
  go_wp2_with fail
  refine (ptv w.heap.size AV nV cV _ 0 a W HP.out.b0 HP.out.rv hnV rfl (by have := hnV.out; simp at this; omega)).mono ?_
  rintro e w9 ⟨rfl, rfl⟩
  go_wp2_with fail
  refine (ap_db p s g 10000 a ha0 ha1 W HP.out.wq).mono ?_
  have hza := esz_bd a
  rintro e w7 ⟨rfl, H7⟩
  have HWd := Lib.hid H7.out.1
  clear H7
  obtain ⟨n7, hn7⟩ : ∃ n, Hid (List.length ([] ++ [20] ++ enc a) = n) := ⟨_, Lib.hid rfl⟩
  have hb7 : n7 ≤ 100000 := by have := hn7.out; simp only [List.length_append, List.length_cons, List.length_nil, enc_length] at this; omega
  go_wp2_with fail
  refine (payload_ _ _ w7 HWd.out n7 hn7 hb7).mono ?_
  rintro e w8 ⟨A8, c8, rfl, HO, z8, rfl⟩
  go_wp2_with fail
  go_ret2
  exact PfEnd.mk' HP.out (below_drewN HWd.out.bel _) HO.out hn7.out

set_option maxRecDepth 100000 in
set_option maxHeartbeats 4000000 in
theorem pf_21 (a b : Int) (ha0 : 0 ≤ a) (ha1 : a ≤ 4611686018427387903) (hb0 : 0 ≤ b) (hb1 : b ≤ 4611686018427387903) (AV : Option Addr) (nV cV : Nat) (AD : Option Addr) (nD cD : Nat) (w : World) (hv : RdE EI w AV [a, b]) (hnV : Hid (([a, b] : List Int).length = nV)) (hd : RdD w AD nD []) :
    Calls Try.prog 14 #[.int .u8 21, .slice AV nV cV, .slice AD nD cD, .int .i64 10000] w fun e w' => PfEnd w ([] ++ [21] ++ enc a ++ enc b) e w' := by
  obtain ⟨w0, hw0⟩ : ∃ w0, Hid ((w.alloc (.cells #[.slice AV nV cV] 23 (0, 0))).alloc (.cells #[.slice AD nD cD] 24 (0, 0)) = w0) := ⟨_, Lib.hid rfl⟩
  have hs0 : w0.heap.size = w.heap.size + 2 := by rw [← hw0.out]; simp
  have HS0 := Lib.hid hs0
  have HB0 : Hid (Below w.heap.size w w0) := by show Below _ _ _; rw [← hw0.out]; exact ((Below.refl _ _).alloc (Nat.le_refl _) _).alloc (by simp) _
  have H0 : Hid (w0.heap[w.heap.size]? = some (.cells #[.slice AV nV cV] 23 (0, 0)) ∧ w0.heap[w.heap.size + 1]? = some (.cells #[.slice AD nD cD] 24 (0, 0))) := by
    show _ ∧ _
    rw [← hw0.out]
    have e1 : (w.alloc (.cells #[.slice AV nV cV] 23 (0, 0))).heap.size = w.heap.size + 1 := by simp
    have k1 := heap_alloc_new (w.alloc (.cells #[.slice AV nV cV] 23 (0, 0))) (.cells #[.slice AD nD cD] 24 (0, 0))
    rw [e1] at k1
    exact ⟨(heap_alloc_old _ _ (by rw [e1]; omega)).trans (heap_alloc_new w _), k1⟩
  have HV := Lib.hid (hv.below HB0.out)
  have HD := Lib.hid (hd.below HB0.out)
  clear hv hd hs0
  go_enter Try.func14, Try.ntmps14
  go_wp2_with fail
  rw [hw0.out]
  refine (zzq w0).mono ?_
  rintro e W ⟨p, g, rfl, H1⟩
  have HP : Hid (Ps w W p (w0.heap.size) g 10000 AV nV cV [a, b] AD nD cD []) := by
    obtain ⟨h1, h2⟩ := H1.out
    have hs := HS0.out
    exact ⟨h1, (h2.block _ (by omega)).trans H0.out.1, (h2.block _ (by omega)).trans H0.out.2, HV.out.below h2, hnV.out, HD.out.below h2, HB0.out.trans (h2.mono (by omega)), by omega⟩
  obtain ⟨s, hs⟩ : ∃ s, Hid (w0.heap.size = s) := ⟨_, Lib.hid rfl⟩
  rw [hs.out] at HP
  clear H1 HV HD H0
  go_wp2_with fail
  refine (ptv w.heap.size AV nV cV _ 0 a W HP.out.b0 HP.out.rv hnV rfl (by have := hnV.out; simp at this; omega)).mono ?_
  rintro e w9 ⟨rfl, rfl⟩
  go_wp2_with fail
  refine (ptv w.heap.size AV nV cV _ 1 b W HP.out.b0 HP.out.rv hnV rfl (by have := hnV.out; simp at this; omega)).mono ?_
  rintro e w9 ⟨rfl, rfl⟩
  go_wp2_with fail
  refine (ap_sdb p s g 10000 a b ha0 ha1 hb0 hb1 W HP.out.wq).mono ?_
  have hza := esz_bd a
  have hzb := esz_bd b
  rintro e w7 ⟨rfl, H7⟩
  have HWd := Lib.hid H7.out.1
  clear H7
  obtain ⟨n7, hn7⟩ : ∃ n, Hid (List.length ([] ++ [21] ++ enc a ++ enc b) = n) := ⟨_, Lib.hid rfl⟩
  have hb7 : n7 ≤ 100000 := by have := hn7.out; simp only [List.length_append, List.length_cons, List.length_nil, enc_length] at this; omega
  go_wp2_with fail
  refine (payload_ _ _ w7 HWd.out n7 hn7 hb7).mono ?_
  rintro e w8 ⟨A8, c8, rfl, HO, z8, rfl⟩
  go_wp2_with fail
  go_ret2
  exact PfEnd.mk' HP.out (below_drewN HWd.out.bel _) HO.out hn7.out

set_option maxRecDepth 100000 in
set_option maxHeartbeats 4000000 in
theorem pf_22 (a : Int) (ha0 : 0 ≤ a) (ha1 : a ≤ 4611686018427387903) (AV : Option Addr) (nV cV : Nat) (AD : Option Addr) (nD cD : Nat) (w : World) (hv : RdE EI w AV [0, a]) (hnV : Hid (([0, a] : List Int).length = nV)) (hd : RdD w AD nD []) :
    Calls Try.prog 14 #[.int .u8 22, .slice AV nV cV, .slice AD nD cD, .int .i64 10000] w fun e w' => PfEnd w ([] ++ [22] ++ enc a) e w' := by
  obtain ⟨w0, hw0⟩ : ∃ w0, Hid ((w.alloc (.cells #[.slice AV nV cV] 23 (0, 0))).alloc (.cells #[.slice AD nD cD] 24 (0, 0)) = w0) := ⟨_, Lib.hid rfl⟩
  have hs0 : w0.heap.size = w.heap.size + 2 := by rw [← hw0.out]; simp
  have HS0 := Lib.hid hs0
  have HB0 : Hid (Below w.heap.size w w0) := by show Below _ _ _; rw [← hw0.out]; exact ((Below.refl _ _).alloc (Nat.le_refl _) _).alloc (by simp) _
  have H0 : Hid (w0.heap[w.heap.size]? = some (.cells #[.slice AV nV cV] 23 (0, 0)) ∧ w0.heap[w.heap.size + 1]? = some (.cells #[.slice AD nD cD] 24 (0, 0))) := by
    show _ ∧ _
    rw [← hw0.out]
    have e1 : (w.alloc (.cells #[.slice AV nV cV] 23 (0, 0))).heap.size = w.heap.size + 1 := by simp
    have k1 := heap_alloc_new (w.alloc (.cells #[.slice AV nV cV] 23 (0, 0))) (.cells #[.slice AD nD cD] 24 (0, 0))
    rw [e1] at k1
    exact ⟨(heap_alloc_old _ _ (by rw [e1]; omega)).trans (heap_alloc_new w _), k1⟩
  have HV := Lib.hid (hv.below HB0.out)
  have HD := Lib.hid (hd.below HB0.out)
  clear hv hd hs0
  go_enter Try.func14, Try.ntmps14
  go_wp2_with fail
  rw [hw0.out]
  refine (zzq w0).mono ?_
  rintro e W ⟨p, g, rfl, H1⟩
  have HP : Hid (Ps w W p (w0.heap.size) g 10000 AV nV cV [0, a] AD nD cD []) := by
    obtain ⟨h1, h2⟩ := H1.out
    have hs := HS0.out
    exact ⟨h1, (h2.block _ (by omega)).trans H0.out.1, (h2.block _ (by omega)).trans H0.out.2, HV.out.below h2, hnV.out, HD.out.below h2, HB0.out.trans (h2.mono (by omega)), by omega⟩
  obtain ⟨s, hs⟩ : ∃ s, Hid (w0.heap.size = s) := ⟨_, Lib.hid rfl⟩
  rw [hs.out] at HP
  clear H1 HV HD H0
  have fb : bits .and .i64 0 1 = 0 := by decide
  go_wp2_with fail
  refine (ptv w.heap.size AV nV cV _ 0 0 W HP.out.b0 HP.out.rv hnV rfl (by have := hnV.out; simp at this; omega)).mono ?_
  rintro e w9 ⟨rfl, rfl⟩
  go_wp2_with fail
  refine (ptv w.heap.size AV nV cV _ 1 a W HP.out.b0 HP.out.rv hnV rfl (by have := hnV.out; simp at this; omega)).mono ?_
  rintro e w9 ⟨rfl, rfl⟩
  go_wp2_with fail
  refine (ap_sb0 p s g 10000 a ha0 ha1 W HP.out.wq).mono ?_
  have hza := esz_bd a
  rintro e w7 ⟨rfl, H7⟩
  have HWd := Lib.hid H7.out.1
  clear H7
  obtain ⟨n7, hn7⟩ : ∃ n, Hid (List.length ([] ++ [22] ++ enc a) = n) := ⟨_, Lib.hid rfl⟩
  have hb7 : n7 ≤ 100000 := by have := hn7.out; simp only [List.length_append, List.length_cons, List.length_nil, enc_length] at this; omega
  go_wp2_with fail
  refine (payload_ _ _ w7 HWd.out n7 hn7 hb7).mono ?_
  rintro e w8 ⟨A8, c8, rfl, HO, z8, rfl⟩
  go_wp2_with fail
  go_ret2
  exact PfEnd.mk' HP.out (below_drewN HWd.out.bel _) HO.out hn7.out

set_option maxRecDepth 100000 in
set_option maxHeartbeats 4000000 in
theorem pf_23 (a : Int) (ha0 : 0 ≤ a) (ha1 : a ≤ 4611686018427387903) (AV : Option Addr) (nV cV : Nat) (AD : Option Addr) (nD cD : Nat) (w : World) (hv : RdE EI w AV [1, a]) (hnV : Hid (([1, a] : List Int).length = nV)) (hd : RdD w AD nD []) :
    Calls Try.prog 14 #[.int .u8 23, .slice AV nV cV, .slice AD nD cD, .int .i64 10000] w fun e w' => PfEnd w ([] ++ [23] ++ enc a) e w' := by
  obtain ⟨w0, hw0⟩ : ∃ w0, Hid ((w.alloc (.cells #[.slice AV nV cV] 23 (0, 0))).alloc (.cells #[.slice AD nD cD] 24 (0, 0)) = w0) := ⟨_, Lib.hid rfl⟩
  have hs0 : w0.heap.size = w.heap.size + 2 := by rw [← hw0.out]; simp
  have HS0 := Lib.hid hs0
  have HB0 : Hid (Below w.heap.size w w0) := by show Below _ _ _; rw [← hw0.out]; exact ((Below.refl _ _).alloc (Nat.le_refl _) _).alloc (by simp) _
  have H0 : Hid (w0.heap[w.heap.size]? = some (.cells #[.slice AV nV cV] 23 (0, 0)) ∧ w0.heap[w.heap.size + 1]? = some (.cells #[.slice AD nD cD] 24 (0, 0))) := by
    show _ ∧ _
    rw [← hw0.out]
    have e1 : (w.alloc (.cells #[.slice AV nV cV] 23 (0, 0))).heap.size = w.heap.size + 1 := by simp
    have k1 := heap_alloc_new (w.alloc (.cells #[.slice AV nV cV] 23 (0, 0))) (.cells #[.slice AD nD cD] 24 (0, 0))
    rw [e1] at k1
    exact ⟨(heap_alloc_old _ _ (by rw [e1]; omega)).trans (heap_alloc_new w _), k1⟩
  have HV := Lib.hid (hv.below HB0.out)
  have HD := Lib.hid (hd.below HB0.out)
  clear hv hd hs0
  go_enter Try.func14, Try.ntmps14
  go_wp2_with fail
  rw [hw0.out]
  refine (zzq w0).mono ?_
  rintro e W ⟨p, g, rfl, H1⟩
  have HP : Hid (Ps w W p (w0.heap.size) g 10000 AV nV cV [1, a] AD nD cD []) := by
    obtain ⟨h1, h2⟩ := H1.out
    have hs := HS0.out
    exact ⟨h1, (h2.block _ (by omega)).trans H0.out.1, (h2.block _ (by omega)).trans H0.out.2, HV.out.below h2, hnV.out, HD.out.below h2, HB0.out.trans (h2.mono (by omega)), by omega⟩
  obtain ⟨s, hs⟩ : ∃ s, Hid (w0.heap.size = s) := ⟨_, Lib.hid rfl⟩
  rw [hs.out] at HP
  clear H1 HV HD H0
  have fb : bits .and .i64 1 1 = 1 := by decide
  go_wp2_with fail
  refine (ptv w.heap.size AV nV cV _ 0 1 W HP.out.b0 HP.out.rv hnV rfl (by have := hnV.out; simp at this; omega)).mono ?_
  rintro e w9 ⟨rfl, rfl⟩
  go_wp2_with fail
  refine (ptv w.heap.size AV nV cV _ 1 a W HP.out.b0 HP.out.rv hnV rfl (by have := hnV.out; simp at this; omega)).mono ?_
  rintro e w9 ⟨rfl, rfl⟩
  go_wp2_with fail
  refine (ap_sb1 p s g 10000 a ha0 ha1 W HP.out.wq).mono ?_
  have hza := esz_bd a
  rintro e w7 ⟨rfl, H7⟩
  have HWd := Lib.hid H7.out.1
  clear H7
  obtain ⟨n7, hn7⟩ : ∃ n, Hid (List.length ([] ++ [23] ++ enc a) = n) := ⟨_, Lib.hid rfl⟩
  have hb7 : n7 ≤ 100000 := by have := hn7.out; simp only [List.length_append, List.length_cons, List.length_nil, enc_length] at this; omega
  go_wp2_with fail
  refine (payload_ _ _ w7 HWd.out n7 hn7 hb7).mono ?_
  rintro e w8 ⟨A8, c8, rfl, HO, z8, rfl⟩
  go_wp2_with fail
  go_ret2
  exact PfEnd.mk' HP.out (below_drewN HWd.out.bel _) HO.out hn7.out

set_option maxRecDepth 100000 in
set_option maxHeartbeats 4000000 in
theorem pf_25 (a : Int) (ha0 : 0 ≤ a) (ha1 : a ≤ 4611686018427387903) (AV : Option Addr) (nV cV : Nat) (AD : Option Addr) (nD cD : Nat) (w : World) (hv : RdE EI w AV [a]) (hnV : Hid (([a] : List Int).length = nV)) (hd : RdD w AD nD []) :
    Calls Try.prog 14 #[.int .u8 25, .slice AV nV cV, .slice AD nD cD, .int .i64 10000] w fun e w' => PfEnd w ([] ++ [25] ++ enc a) e w' := by
  obtain ⟨w0, hw0⟩ : ∃ w0, Hid ((w.alloc (.cells #[.slice AV nV cV] 23 (0, 0))).alloc (.cells #[.slice AD nD cD] 24 (0, 0)) = w0) := ⟨_, Lib.hid rfl⟩
  have hs0 : w0.heap.size = w.heap.size + 2 := by rw [← hw0.out]; simp
  have HS0 := Lib.hid hs0
  have HB0 : Hid (Below w.heap.size w w0) := by show Below _ _ _; rw [← hw0.out]; exact ((Below.refl _ _).alloc (Nat.le_refl _) _).alloc (by simp) _
  have H0 : Hid (w0.heap[w.heap.size]? = some (.cells #[.slice AV nV cV] 23 (0, 0)) ∧ w0.heap[w.heap.size + 1]? = some (.cells #[.slice AD nD cD] 24 (0, 0))) := by
    show _ ∧ _
    rw [← hw0.out]
    have e1 : (w.alloc (.cells #[.slice AV nV cV] 23 (0, 0))).heap.size = w.heap.size + 1 := by simp
    have k1 := heap_alloc_new (w.alloc (.cells #[.slice AV nV cV] 23 (0, 0))) (.cells #[.slice AD nD cD] 24 (0, 0))
    rw [e1] at k1
    exact ⟨(heap_alloc_old _ _ (by rw [e1]; omega)).trans (heap_alloc_new w _), k1⟩
  have HV := Lib.hid (hv.below HB0.out)
  have HD := Lib.hid (hd.below HB0.out)
  clear hv hd hs0
  go_enter Try.func14, Try.ntmps14
  go_wp2_with fail
  rw [hw0.out]
  refine (zzq w0).mono ?_
  rintro e W ⟨p, g, rfl, H1⟩
  have HP : Hid (Ps w W p (w0.heap.size) g 10000 AV nV cV [a] AD nD cD []) := by
    obtain ⟨h1, h2⟩ := H1.out
    have hs := HS0.out
    exact ⟨h1, (h2.block _ (by omega)).trans H0.out.1, (h2.block _ (by omega)).trans H0.out.2, HV.out.below h2, hnV.out, HD.out.below h2, HB0.out.trans (h2.mono (by omega)), by omega⟩
  obtain ⟨s, hs⟩ : ∃ s, Hid (w0.heap.size = s) := ⟨_, Lib.hid rfl⟩
  rw [hs.out] at HP
  clear H1 HV HD H0
  go_wp2_with fail
  refine (ptv w.heap.size AV nV cV _ 0 a W HP.out.b0 HP.out.rv hnV rfl (by have := hnV.out; simp at this; omega)).mono ?_
  rintro e w9 ⟨rfl, rfl⟩
  go_wp2_with fail
  refine (ap_rc p s g 10000 a ha0 ha1 W HP.out.wq).mono ?_
  have hza := esz_bd a
  rintro e w7 ⟨rfl, H7⟩
  have HWd := Lib.hid H7.out.1
  clear H7
  obtain ⟨n7, hn7⟩ : ∃ n, Hid (List.length ([] ++ [25] ++ enc a) = n) := ⟨_, Lib.hid rfl⟩
  have hb7 : n7 ≤ 100000 := by have := hn7.out; simp only [List.length_append, List.length_cons, List.length_nil, enc_length] at this; omega
  go_wp2_with fail
  refine (payload_ _ _ w7 HWd.out n7 hn7 hb7).mono ?_
  rintro e w8 ⟨A8, c8, rfl, HO, z8, rfl⟩
  go_wp2_with fail
  go_ret2
  exact PfEnd.mk' HP.out (below_drewN HWd.out.bel _) HO.out hn7.out
end

section
open Go.RowKit
set_option linter.unusedVariables false
set_option linter.unusedSimpArgs false

set_option maxRecDepth 100000 in
set_option maxHeartbeats 4000000 in
theorem pf_7 (m : Nat) (x : List Int) (hm : Hid (x.length = m)) (hm2 : m ≤ 1000) (AV : Option Addr) (nV cV : Nat) (AD : Option Addr) (nD cD : Nat) (w : World) (hv : RdE EI w AV []) (hnV : Hid (([] : List Int).length = nV)) (hd : RdD w AD nD [x]) (hnD : Hid (nD = 1)) :
    Calls Try.prog 14 #[.int .u8 7, .slice AV nV cV, .slice AD nD cD, .int .i64 10000] w fun e w' => PfEnd w ([] ++ [7] ++ enc (m : Nat) ++ x) e w' := by
  obtain ⟨w0, hw0⟩ : ∃ w0, Hid ((w.alloc (.cells #[.slice AV nV cV] 23 (0, 0))).alloc (.cells #[.slice AD nD cD] 24 (0, 0)) = w0) := ⟨_, Lib.hid rfl⟩
  have hs0 : w0.heap.size = w.heap.size + 2 := by rw [← hw0.out]; simp
  have HS0 := Lib.hid hs0
  have HB0 : Hid (Below w.heap.size w w0) := by show Below _ _ _; rw [← hw0.out]; exact ((Below.refl _ _).alloc (Nat.le_refl _) _).alloc (by simp) _
  have H0 : Hid (w0.heap[w.heap.size]? = some (.cells #[.slice AV nV cV] 23 (0, 0)) ∧ w0.heap[w.heap.size + 1]? = some (.cells #[.slice AD nD cD] 24 (0, 0))) := by
    show _ ∧ _
    rw [← hw0.out]
    have e1 : (w.alloc (.cells #[.slice AV nV cV] 23 (0, 0))).heap.size = w.heap.size + 1 := by simp
    have k1 := heap_alloc_new (w.alloc (.cells #[.slice AV nV cV] 23 (0, 0))) (.cells #[.slice AD nD cD] 24 (0, 0))
    rw [e1] at k1
    exact ⟨(heap_alloc_old _ _ (by rw [e1]; omega)).trans (heap_alloc_new w _), k1⟩
  have HV := Lib.hid (hv.below HB0.out)
  have HD := Lib.hid (hd.below HB0.out)
  clear hv hd hs0
  go_enter Try.func14, Try.ntmps14
  go_wp2_with fail
  rw [hw0.out]
  refine (zzq w0).mono ?_
  rintro e W ⟨p, g, rfl, H1⟩
  have HP : Hid (Ps w W p (w0.heap.size) g 10000 AV nV cV [] AD nD cD [x]) := by
    obtain ⟨h1, h2⟩ := H1.out
    have hs := HS0.out
    exact ⟨h1, (h2.block _ (by omega)).trans H0.out.1, (h2.block _ (by omega)).trans H0.out.2, HV.out.below h2, hnV.out, HD.out.below h2, HB0.out.trans (h2.mono (by omega)), by omega⟩
  obtain ⟨s, hs⟩ : ∃ s, Hid (w0.heap.size = s) := ⟨_, Lib.hid rfl⟩
  rw [hs.out] at HP
  clear H1 HV HD H0
  go_wp2_with fail
  refine (ptd (w.heap.size + 1) AD nD cD _ 0 m x W HP.out.b1 HP.out.rd rfl hm (by omega) (by have := hnD.out; omega) (by have := hnD.out; omega)).mono ?_
  rintro e W1 ⟨A0, c0, rfl, HD0⟩
  have HP1 := Lib.hid (HP.out.below HD0.out.2.1)
  go_wp2_with fail
  refine (ap_nt p s g 10000 A0 m c0 x hm hm2 HD0.out.1.2.2.2.2 (HP.out.away HD0.out.2.2) W1 HP1.out.wq HD0.out.1.1).mono ?_
  have hzm := esz_bd (m : Nat)
  have hm' := hm.out
  rintro e w7 ⟨rfl, H7⟩
  have HWd := Lib.hid H7.out.1
  clear H7
  obtain ⟨n7, hn7⟩ : ∃ n, Hid (List.length ([] ++ [7] ++ enc (m : Nat) ++ x) = n) := ⟨_, Lib.hid rfl⟩
  have hb7 : n7 ≤ 100000 := by have := hn7.out; simp only [List.length_append, List.length_cons, List.length_nil, enc_length] at this; omega
  go_wp2_with fail
  refine (payload_ _ _ w7 HWd.out n7 hn7 hb7).mono ?_
  rintro e w8 ⟨A8, c8, rfl, HO, z8, rfl⟩
  go_wp2_with fail
  go_ret2
  exact PfEnd.mk' HP1.out (below_drewN HWd.out.bel _) HO.out hn7.out

set_option maxRecDepth 100000 in
set_option maxHeartbeats 4000000 in
theorem pf_28 (a b : Int) (ha0 : 0 ≤ a) (ha1 : a ≤ 4611686018427387903) (hb0 : 0 ≤ b) (hb1 : b ≤ 4611686018427387903) (m : Nat) (x : List Int) (hm : Hid (x.length = m)) (hm2 : m ≤ 1000) (AV : Option Addr) (nV cV : Nat) (AD : Option Addr) (nD cD : Nat) (w : World) (hv : RdE EI w AV [a, b]) (hnV : Hid (([a, b] : List Int).length = nV)) (hd : RdD w AD nD [x]) (hnD : Hid (nD = 1)) :
    Calls Try.prog 14 #[.int .u8 28, .slice AV nV cV, .slice AD nD cD, .int .i64 10000] w fun e w' => PfEnd w ([] ++ [28] ++ enc a ++ enc b ++ enc (m : Nat) ++ x) e w' := by
  obtain ⟨w0, hw0⟩ : ∃ w0, Hid ((w.alloc (.cells #[.slice AV nV cV] 23 (0, 0))).alloc (.cells #[.slice AD nD cD] 24 (0, 0)) = w0) := ⟨_, Lib.hid rfl⟩
  have hs0 : w0.heap.size = w.heap.size + 2 := by rw [← hw0.out]; simp
  have HS0 := Lib.hid hs0
  have HB0 : Hid (Below w.heap.size w w0) := by show Below _ _ _; rw [← hw0.out]; exact ((Below.refl _ _).alloc (Nat.le_refl _) _).alloc (by simp) _
  have H0 : Hid (w0.heap[w.heap.size]? = some (.cells #[.slice AV nV cV] 23 (0, 0)) ∧ w0.heap[w.heap.size + 1]? = some (.cells #[.slice AD nD cD] 24 (0, 0))) := by
    show _ ∧ _
    rw [← hw0.out]
    have e1 : (w.alloc (.cells #[.slice AV nV cV] 23 (0, 0))).heap.size = w.heap.size + 1 := by simp
    have k1 := heap_alloc_new (w.alloc (.cells #[.slice AV nV cV] 23 (0, 0))) (.cells #[.slice AD nD cD] 24 (0, 0))
    rw [e1] at k1
    exact ⟨(heap_alloc_old _ _ (by rw [e1]; omega)).trans (heap_alloc_new w _), k1⟩
  have HV := Lib.hid (hv.below HB0.out)
  have HD := Lib.hid (hd.below HB0.out)
  clear hv hd hs0
  go_enter Try.func14, Try.ntmps14
  go_wp2_with fail
  rw [hw0.out]
  refine (zzq w0).mono ?_
  rintro e W ⟨p, g, rfl, H1⟩
  have HP : Hid (Ps w W p (w0.heap.size) g 10000 AV nV cV [a, b] AD nD cD [x]) := by
    obtain ⟨h1, h2⟩ := H1.out
    have hs := HS0.out
    exact ⟨h1, (h2.block _ (by omega)).trans H0.out.1, (h2.block _ (by omega)).trans H0.out.2, HV.out.below h2, hnV.out, HD.out.below h2, HB0.out.trans (h2.mono (by omega)), by omega⟩
  obtain ⟨s, hs⟩ : ∃ s, Hid (w0.heap.size = s) := ⟨_, Lib.hid rfl⟩
  rw [hs.out] at HP
  clear H1 HV HD H0
  go_wp2_with fail
  refine (ptv w.heap.size AV nV cV _ 0 a W HP.out.b0 HP.out.rv hnV rfl (by have := hnV.out; simp at this; omega)).mono ?_
  rintro e w9 ⟨rfl, rfl⟩
  go_wp2_with fail
  refine (ptv w.heap.size AV nV cV _ 1 b W HP.out.b0 HP.out.rv hnV rfl (by have := hnV.out; simp at this; omega)).mono ?_
  rintro e w9 ⟨rfl, rfl⟩
  go_wp2_with fail
  refine (ptd (w.heap.size + 1) AD nD cD _ 0 m x W HP.out.b1 HP.out.rd rfl hm (by omega) (by have := hnD.out; omega) (by have := hnD.out; omega)).mono ?_
  rintro e W1 ⟨A0, c0, rfl, HD0⟩
  have HP1 := Lib.hid (HP.out.below HD0.out.2.1)
  have hcw : (Go.convert 22 9 (.slice A0 m c0)).run Try.prog W1 = .ok (.string (strOfNums x)) W1 := Rd.convert (by exact HD0.out.1.1) m c0 hm.out
  go_wp2_with fail
  clear hcw
  refine (ap_cct p s g 10000 a b ha0 ha1 hb0 hb1 m x hm hm2 HD0.out.1.1.1 W1 HP1.out.wq).mono ?_
  have hzm := esz_bd (m : Nat)
  have hm' := hm.out
  have hza := esz_bd a
  have hzb := esz_bd b
  rintro e w7 ⟨rfl, H7⟩
  have HWd := Lib.hid H7.out.1
  clear H7
  obtain ⟨n7, hn7⟩ : ∃ n, Hid (List.length ([] ++ [28] ++ enc a ++ enc b ++ enc (m : Nat) ++ x) = n) := ⟨_, Lib.hid rfl⟩
  have hb7 : n7 ≤ 100000 := by have := hn7.out; simp only [List.length_append, List.length_cons, List.length_nil, enc_length] at this; omega
  go_wp2_with fail
  refine (payload_ _ _ w7 HWd.out n7 hn7 hb7).mono ?_
  rintro e w8 ⟨A8, c8, rfl, HO, z8, rfl⟩
  go_wp2_with fail
  go_ret2
  exact PfEnd.mk' HP1.out (below_drewN HWd.out.bel _) HO.out hn7.out

set_option maxRecDepth 100000 in
set_option maxHeartbeats 4000000 in
theorem pf_29 (a : Int) (ha0 : 0 ≤ a) (ha1 : a ≤ 4611686018427387903) (m : Nat) (x : List Int) (hm : Hid (x.length = m)) (hm2 : m ≤ 1000) (AV : Option Addr) (nV cV : Nat) (AD : Option Addr) (nD cD : Nat) (w : World) (hv : RdE EI w AV [a]) (hnV : Hid (([a] : List Int).length = nV)) (hd : RdD w AD nD [x]) (hnD : Hid (nD = 1)) :
    Calls Try.prog 14 #[.int .u8 29, .slice AV nV cV, .slice AD nD cD, .int .i64 10000] w fun e w' => PfEnd w ([] ++ [29] ++ enc a ++ enc (m : Nat) ++ x) e w' := by
  obtain ⟨w0, hw0⟩ : ∃ w0, Hid ((w.alloc (.cells #[.slice AV nV cV] 23 (0, 0))).alloc (.cells #[.slice AD nD cD] 24 (0, 0)) = w0) := ⟨_, Lib.hid rfl⟩
  have hs0 : w0.heap.size = w.heap.size + 2 := by rw [← hw0.out]; simp
  have HS0 := Lib.hid hs0
  have HB0 : Hid (Below w.heap.size w w0) := by show Below _ _ _; rw [← hw0.out]; exact ((Below.refl _ _).alloc (Nat.le_refl _) _).alloc (by simp) _
  have H0 : Hid (w0.heap[w.heap.size]? = some (.cells #[.slice AV nV cV] 23 (0, 0)) ∧ w0.heap[w.heap.size + 1]? = some (.cells #[.slice AD nD cD] 24 (0, 0))) := by
    show _ ∧ _
    rw [← hw0.out]
    have e1 : (w.alloc (.cells #[.slice AV nV cV] 23 (0, 0))).heap.size = w.heap.size + 1 := by simp
    have k1 := heap_alloc_new (w.alloc (.cells #[.slice AV nV cV] 23 (0, 0))) (.cells #[.slice AD nD cD] 24 (0, 0))
    rw [e1] at k1
    exact ⟨(heap_alloc_old _ _ (by rw [e1]; omega)).trans (heap_alloc_new w _), k1⟩
  have HV := Lib.hid (hv.below HB0.out)
  have HD := Lib.hid (hd.below HB0.out)
  clear hv hd hs0
  go_enter Try.func14, Try.ntmps14
  go_wp2_with fail
  rw [hw0.out]
  refine (zzq w0).mono ?_
  rintro e W ⟨p, g, rfl, H1⟩
  have HP : Hid (Ps w W p (w0.heap.size) g 10000 AV nV cV [a] AD nD cD [x]) := by
    obtain ⟨h1, h2⟩ := H1.out
    have hs := HS0.out
    exact ⟨h1, (h2.block _ (by omega)).trans H0.out.1, (h2.block _ (by omega)).trans H0.out.2, HV.out.below h2, hnV.out, HD.out.below h2, HB0.out.trans (h2.mono (by omega)), by omega⟩
  obtain ⟨s, hs⟩ : ∃ s, Hid (w0.heap.size = s) := ⟨_, Lib.hid rfl⟩
  rw [hs.out] at HP
  clear H1 HV HD H0
  go_wp2_with fail
  refine (ptv w.heap.size AV nV cV _ 0 a W HP.out.b0 HP.out.rv hnV rfl (by have := hnV.out; simp at this; omega)).mono ?_
  rintro e w9 ⟨rfl, rfl⟩
  go_wp2_with fail
  refine (ptd (w.heap.size + 1) AD nD cD _ 0 m x W HP.out.b1 HP.out.rd rfl hm (by omega) (by have := hnD.out; omega) (by have := hnD.out; omega)).mono ?_
  rintro e W1 ⟨A0, c0, rfl, HD0⟩
  have HP1 := Lib.hid (HP.out.below HD0.out.2.1)
  have hcw : (Go.convert 22 9 (.slice A0 m c0)).run Try.prog W1 = .ok (.string (strOfNums x)) W1 := Rd.convert (by exact HD0.out.1.1) m c0 hm.out
  go_wp2_with fail
  clear hcw
  refine (ap_cca p s g 10000 a ha0 ha1 m x hm hm2 HD0.out.1.1.1 W1 HP1.out.wq).mono ?_
  have hzm := esz_bd (m : Nat)
  have hm' := hm.out
  have hza := esz_bd a
  rintro e w7 ⟨rfl, H7⟩
  have HWd := Lib.hid H7.out.1
  clear H7
  obtain ⟨n7, hn7⟩ : ∃ n, Hid (List.length ([] ++ [29] ++ enc a ++ enc (m : Nat) ++ x) = n) := ⟨_, Lib.hid rfl⟩
  have hb7 : n7 ≤ 100000 := by have := hn7.out; simp only [List.length_append, List.length_cons, List.length_nil, enc_length] at this; omega
  go_wp2_with fail
  refine (payload_ _ _ w7 HWd.out n7 hn7 hb7).mono ?_
  rintro e w8 ⟨A8, c8, rfl, HO, z8, rfl⟩
  go_wp2_with fail
  go_ret2
  exact PfEnd.mk' HP1.out (below_drewN HWd.out.bel _) HO.out hn7.out
end

section
open Go.RowKit
set_option linter.unusedVariables false
set_option linter.unusedSimpArgs false

theorem rd_some {w : World} {A : Option Addr} {l : List Int} (h : Rd w A l) (hl : 0 < l.length) : ∃ ad, Hid (A = some ad) ∧ Hid (∀ j v, (vals l)[j]? = some v → w.cell? (ad.add j) = some v) := by
  obtain ⟨b, o, rfl, hc⟩ := h.2 hl
  exact ⟨_, Lib.hid rfl, Lib.hid h.vals_at⟩

set_option maxRecDepth 100000 in
set_option maxHeartbeats 4000000 in
theorem pf_26 (x0 x1 x2 x3 x4 x5 x6 x7 : Int) (hb : Hid (Bs [x0, x1, x2, x3, x4, x5, x6, x7])) (AV : Option Addr) (nV cV : Nat) (AD : Option Addr) (nD cD : Nat) (w : World) (hv : RdE EI w AV []) (hnV : Hid (([] : List Int).length = nV)) (hd : RdD w AD nD [[x0, x1, x2, x3, x4, x5, x6, x7]]) (hnD : Hid (nD = 1)) :
    Calls Try.prog 14 #[.int .u8 26, .slice AV nV cV, .slice AD nD cD, .int .i64 10000] w fun e w' => PfEnd w ([] ++ [26] ++ [x0, x1, x2, x3, x4, x5, x6, x7]) e w' := by
  obtain ⟨w0, hw0⟩ : ∃ w0, Hid ((w.alloc (.cells #[.slice AV nV cV] 23 (0, 0))).alloc (.cells #[.slice AD nD cD] 24 (0, 0)) = w0) := ⟨_, Lib.hid rfl⟩
  have hs0 : w0.heap.size = w.heap.size + 2 := by rw [← hw0.out]; simp
  have HS0 := Lib.hid hs0
  have HB0 : Hid (Below w.heap.size w w0) := by show Below _ _ _; rw [← hw0.out]; exact ((Below.refl _ _).alloc (Nat.le_refl _) _).alloc (by simp) _
  have H0 : Hid (w0.heap[w.heap.size]? = some (.cells #[.slice AV nV cV] 23 (0, 0)) ∧ w0.heap[w.heap.size + 1]? = some (.cells #[.slice AD nD cD] 24 (0, 0))) := by
    show _ ∧ _
    rw [← hw0.out]
    have e1 : (w.alloc (.cells #[.slice AV nV cV] 23 (0, 0))).heap.size = w.heap.size + 1 := by simp
    have k1 := heap_alloc_new (w.alloc (.cells #[.slice AV nV cV] 23 (0, 0))) (.cells #[.slice AD nD cD] 24 (0, 0))
    rw [e1] at k1
    exact ⟨(heap_alloc_old _ _ (by rw [e1]; omega)).trans (heap_alloc_new w _), k1⟩
  have HV := Lib.hid (hv.below HB0.out)
  have HD := Lib.hid (hd.below HB0.out)
  clear hv hd hs0
  go_enter Try.func14, Try.ntmps14
  go_wp2_with fail
  rw [hw0.out]
  refine (zzq w0).mono ?_
  rintro e W ⟨p, g, rfl, H1⟩
  have HP : Hid (Ps w W p (w0.heap.size) g 10000 AV nV cV [] AD nD cD [[x0, x1, x2, x3, x4, x5, x6, x7]]) := by
    obtain ⟨h1, h2⟩ := H1.out
    have hs := HS0.out
    exact ⟨h1, (h2.block _ (by omega)).trans H0.out.1, (h2.block _ (by omega)).trans H0.out.2, HV.out.below h2, hnV.out, HD.out.below h2, HB0.out.trans (h2.mono (by omega)), by omega⟩
  obtain ⟨s, hs⟩ : ∃ s, Hid (w0.heap.size = s) := ⟨_, Lib.hid rfl⟩
  rw [hs.out] at HP
  clear H1 HV HD H0
  obtain ⟨W1, hW1⟩ : ∃ W1, Hid (W.alloc (.cells #[.int .u8 0, .int .u8 0, .int .u8 0, .int .u8 0, .int .u8 0, .int .u8 0, .int .u8 0, .int .u8 0] 68 (0, 0)) = W1) := ⟨_, Lib.hid rfl⟩
  have HP1 : Hid (Ps w W1 p s g 10000 AV nV cV [] AD nD cD [[x0, x1, x2, x3, x4, x5, x6, x7]]) := by show Ps _ _ _ _ _ _ _ _ _ _ _ _ _ _; rw [← hW1.out]; exact HP.out.below ((Below.refl _ _).alloc (Nat.le_refl _) _)
  have HQ1 : Hid (W1.heap[W.heap.size]? = some (.cells (vals [0, 0, 0, 0, 0, 0, 0, 0]).toArray 68 (0, 0))) := by show _ = _; rw [← hW1.out]; exact heap_alloc_new W _
  have HZ1 : Hid (W.heap.size < W1.heap.size) := cell_in HQ1.out
  have HB1 : Hid (Below W.heap.size W W1) := by show Below _ _ _; rw [← hW1.out]; exact (Below.refl _ _).alloc (Nat.le_refl _) _
  have hm : Hid (List.length [x0, x1, x2, x3, x4, x5, x6, x7] = 8) := rfl
  have HPd := Lib.hid (HP1.out.below (below_drewN (Below.refl _ _) 1))
  have K0 := Lib.hid (ptd (w.heap.size + 1) AD nD cD _ 0 8 [x0, x1, x2, x3, x4, x5, x6, x7] (W1.drewN 1) HPd.out.b1 HPd.out.rd rfl hm (by omega) (by have := hnD.out; omega) (by have := hnD.out; omega))
  go_wp2_with fail
  rw [hW1.out]
  go_region_law (first | (go_simp; go_at_call 38; refine K0.out.mono ?_; rintro e W2 ⟨A0, c0, rfl, HD0⟩; obtain ⟨ad, hA0, HX2⟩ := rd_some HD0.out.1.1 (by simp)) | (refine step_copy_splice (by rfl) _ _ 22 22 (by rfl) 5 Try.underlying22 size_u8 (some ⟨W.heap.size, 0, none⟩) A0 8 8 8 c0 (by rfl) (by rfl) W.heap.size 0 _ _ ((HD0.out.2.1.block _ HZ1.out).trans HQ1.out) (vals [x0, x1, x2, x3, x4, x5, x6, x7]) (by rfl) (fun _ => ⟨rfl, ad, hA0.out, HX2.out⟩) (by rw [vals_length, vals_length]; simp) (vals_one _) W.heap.size W ((below_drewN HB1.out 1).trans (HD0.out.2.1.mono (by exact HB1.out.size))) (Nat.le_refl _) ?_; intro W3 HQ3 HB3))
  have HP3 := Lib.hid (HP.out.below HB3)
  have hq3 := HQ3.out
  rw [splice_vals, splice_full _ _ (by simp)] at hq3
  obtain ⟨⟨e0, e1, e2, e3⟩, e4, e5, e6, e7⟩ := cells8 hq3
  clear hq3 HQ3 HB3
  go_wp2_with fail
  clear e0 e1 e2 e3 e4 e5 e6 e7
  refine (ap_pc p s g 10000 x0 x1 x2 x3 x4 x5 x6 x7 hb W3 HP3.out.wq).mono ?_

  rintro e w7 ⟨rfl, H7⟩
  have HWd := Lib.hid H7.out.1
  clear H7
  obtain ⟨n7, hn7⟩ : ∃ n, Hid (List.length ([] ++ [26] ++ [x0, x1, x2, x3, x4, x5, x6, x7]) = n) := ⟨_, Lib.hid rfl⟩
  have hb7 : n7 ≤ 100000 := by have := hn7.out; simp only [List.length_append, List.length_cons, List.length_nil] at this; omega
  go_wp2_with fail
  refine (payload_ _ _ w7 HWd.out n7 hn7 hb7).mono ?_
  rintro e w8 ⟨A8, c8, rfl, HO, z8, rfl⟩
  go_wp2_with fail
  go_ret2
  exact PfEnd.mk' HP3.out (below_drewN HWd.out.bel _) HO.out hn7.out

set_option maxRecDepth 100000 in
set_option maxHeartbeats 4000000 in
theorem pf_27 (x0 x1 x2 x3 x4 x5 x6 x7 : Int) (hb : Hid (Bs [x0, x1, x2, x3, x4, x5, x6, x7])) (AV : Option Addr) (nV cV : Nat) (AD : Option Addr) (nD cD : Nat) (w : World) (hv : RdE EI w AV []) (hnV : Hid (([] : List Int).length = nV)) (hd : RdD w AD nD [[x0, x1, x2, x3, x4, x5, x6, x7]]) (hnD : Hid (nD = 1)) :
    Calls Try.prog 14 #[.int .u8 27, .slice AV nV cV, .slice AD nD cD, .int .i64 10000] w fun e w' => PfEnd w ([] ++ [27] ++ [x0, x1, x2, x3, x4, x5, x6, x7]) e w' := by
  obtain ⟨w0, hw0⟩ : ∃ w0, Hid ((w.alloc (.cells #[.slice AV nV cV] 23 (0, 0))).alloc (.cells #[.slice AD nD cD] 24 (0, 0)) = w0) := ⟨_, Lib.hid rfl⟩
  have hs0 : w0.heap.size = w.heap.size + 2 := by rw [← hw0.out]; simp
  have HS0 := Lib.hid hs0
  have HB0 : Hid (Below w.heap.size w w0) := by show Below _ _ _; rw [← hw0.out]; exact ((Below.refl _ _).alloc (Nat.le_refl _) _).alloc (by simp) _
  have H0 : Hid (w0.heap[w.heap.size]? = some (.cells #[.slice AV nV cV] 23 (0, 0)) ∧ w0.heap[w.heap.size + 1]? = some (.cells #[.slice AD nD cD] 24 (0, 0))) := by
    show _ ∧ _
    rw [← hw0.out]
    have e1 : (w.alloc (.cells #[.slice AV nV cV] 23 (0, 0))).heap.size = w.heap.size + 1 := by simp
    have k1 := heap_alloc_new (w.alloc (.cells #[.slice AV nV cV] 23 (0, 0))) (.cells #[.slice AD nD cD] 24 (0, 0))
    rw [e1] at k1
    exact ⟨(heap_alloc_old _ _ (by rw [e1]; omega)).trans (heap_alloc_new w _), k1⟩
  have HV := Lib.hid (hv.below HB0.out)
  have HD := Lib.hid (hd.below HB0.out)
  clear hv hd hs0
  go_enter Try.func14, Try.ntmps14
  go_wp2_with fail
  rw [hw0.out]
  refine (zzq w0).mono ?_
  rintro e W ⟨p, g, rfl, H1⟩
  have HP : Hid (Ps w W p (w0.heap.size) g 10000 AV nV cV [] AD nD cD [[x0, x1, x2, x3, x4, x5, x6, x7]]) := by
    obtain ⟨h1, h2⟩ := H1.out
    have hs := HS0.out
    exact ⟨h1, (h2.block _ (by omega)).trans H0.out.1, (h2.block _ (by omega)).trans H0.out.2, HV.out.below h2, hnV.out, HD.out.below h2, HB0.out.trans (h2.mono (by omega)), by omega⟩
  obtain ⟨s, hs⟩ : ∃ s, Hid (w0.heap.size = s) := ⟨_, Lib.hid rfl⟩
  rw [hs.out] at HP
  clear H1 HV HD H0
  obtain ⟨W1, hW1⟩ : ∃ W1, Hid (W.alloc (.cells #[.int .u8 0, .int .u8 0, .int .u8 0, .int .u8 0, .int .u8 0, .int .u8 0, .int .u8 0, .int .u8 0] 68 (0, 0)) = W1) := ⟨_, Lib.hid rfl⟩
  have HP1 : Hid (Ps w W1 p s g 10000 AV nV cV [] AD nD cD [[x0, x1, x2, x3, x4, x5, x6, x7]]) := by show Ps _ _ _ _ _ _ _ _ _ _ _ _ _ _; rw [← hW1.out]; exact HP.out.below ((Below.refl _ _).alloc (Nat.le_refl _) _)
  have HQ1 : Hid (W1.heap[W.heap.size]? = some (.cells (vals [0, 0, 0, 0, 0, 0, 0, 0]).toArray 68 (0, 0))) := by show _ = _; rw [← hW1.out]; exact heap_alloc_new W _
  have HZ1 : Hid (W.heap.size < W1.heap.size) := cell_in HQ1.out
  have HB1 : Hid (Below W.heap.size W W1) := by show Below _ _ _; rw [← hW1.out]; exact (Below.refl _ _).alloc (Nat.le_refl _) _
  have hm : Hid (List.length [x0, x1, x2, x3, x4, x5, x6, x7] = 8) := rfl
  have HPd := Lib.hid (HP1.out.below (below_drewN (Below.refl _ _) 1))
  have K0 := Lib.hid (ptd (w.heap.size + 1) AD nD cD _ 0 8 [x0, x1, x2, x3, x4, x5, x6, x7] (W1.drewN 1) HPd.out.b1 HPd.out.rd rfl hm (by omega) (by have := hnD.out; omega) (by have := hnD.out; omega))
  go_wp2_with fail
  rw [hW1.out]
  go_region_law (first | (go_simp; go_at_call 38; refine K0.out.mono ?_; rintro e W2 ⟨A0, c0, rfl, HD0⟩; obtain ⟨ad, hA0, HX2⟩ := rd_some HD0.out.1.1 (by simp)) | (refine step_copy_splice (by rfl) _ _ 22 22 (by rfl) 5 Try.underlying22 size_u8 (some ⟨W.heap.size, 0, none⟩) A0 8 8 8 c0 (by rfl) (by rfl) W.heap.size 0 _ _ ((HD0.out.2.1.block _ HZ1.out).trans HQ1.out) (vals [x0, x1, x2, x3, x4, x5, x6, x7]) (by rfl) (fun _ => ⟨rfl, ad, hA0.out, HX2.out⟩) (by rw [vals_length, vals_length]; simp) (vals_one _) W.heap.size W ((below_drewN HB1.out 1).trans (HD0.out.2.1.mono (by exact HB1.out.size))) (Nat.le_refl _) ?_; intro W3 HQ3 HB3))
  have HP3 := Lib.hid (HP.out.below HB3)
  have hq3 := HQ3.out
  rw [splice_vals, splice_full _ _ (by simp)] at hq3
  obtain ⟨⟨e0, e1, e2, e3⟩, e4, e5, e6, e7⟩ := cells8 hq3
  clear hq3 HQ3 HB3
  go_wp2_with fail
  clear e0 e1 e2 e3 e4 e5 e6 e7
  refine (ap_pr p s g 10000 x0 x1 x2 x3 x4 x5 x6 x7 hb W3 HP3.out.wq).mono ?_

  rintro e w7 ⟨rfl, H7⟩
  have HWd := Lib.hid H7.out.1
  clear H7
  obtain ⟨n7, hn7⟩ : ∃ n, Hid (List.length ([] ++ [27] ++ [x0, x1, x2, x3, x4, x5, x6, x7]) = n) := ⟨_, Lib.hid rfl⟩
  have hb7 : n7 ≤ 100000 := by have := hn7.out; simp only [List.length_append, List.length_cons, List.length_nil] at this; omega
  go_wp2_with fail
  refine (payload_ _ _ w7 HWd.out n7 hn7 hb7).mono ?_
  rintro e w8 ⟨A8, c8, rfl, HO, z8, rfl⟩
  go_wp2_with fail
  go_ret2
  exact PfEnd.mk' HP3.out (below_drewN HWd.out.bel _) HO.out hn7.out
end

section
open Go.RowKit
set_option linter.unusedVariables false
set_option linter.unusedSimpArgs false

theorem XEnd.copied {p s g c n m : Nat} {w w1 w2 : World} {l x : List Int} {e : Ending} (h : XEnd p s g c w n m l e w1) (ho : Own (p + 1) w2 (.slice (some ⟨g, 0, none⟩) (n + m) c) (l ++ x)) (hg : w1.grownBy w2 (some g)) : Wd w (.slice none 0 0) (p + 1) p s w2 (.slice (some ⟨g, 0, none⟩) (n + m) c) (l ++ x) := by
  obtain ⟨-, -, -, ⟨⟨c3, c4, c5⟩, h1, h2, h3, h4, h5⟩⟩ := h
  have hp := World.block_lt_of_cell? _ _ c3
  have hgg := (h1.lt g rfl).1
  have key : ∀ i, w2.cell? ⟨p, i, none⟩ = w1.cell? ⟨p, i, none⟩ := fun i => World.cell?_of_block (a := ⟨p, i, none⟩) (hg.block p hp (by simp; omega))
  refine ⟨(key 3).trans c3, (key 4).trans c4, (key 5).trans c5, ho, ?_⟩
  exact ⟨hg.os.trans h2.os, hg.tape.trans h2.tape, hg.output.trans h2.output, Nat.le_trans h2.size hg.size, fun j hj => (hg.block j (by simp only at hp; omega) (by simp; omega)).trans (h2.block j hj)⟩

set_option maxRecDepth 100000 in
set_option maxHeartbeats 4000000 in
theorem pf_6 (b : Int) (hb0 : 0 ≤ b) (hb1 : b ≤ 4611686018427387903) (m : Nat) (x : List Int) (hm : Hid (x.length = m)) (hm2 : m ≤ 1000) (AV : Option Addr) (nV cV : Nat) (AD : Option Addr) (nD cD : Nat) (w : World) (hv : RdE EI w AV [b]) (hnV : Hid (([b] : List Int).length = nV)) (hd : RdD w AD nD [x]) (hnD : Hid (nD = 1)) :
    Calls Try.prog 14 #[.int .u8 6, .slice AV nV cV, .slice AD nD cD, .int .i64 10000] w fun e w' => PfEnd w ([] ++ [6] ++ enc b ++ enc (m : Nat) ++ x) e w' := by
  obtain ⟨w0, hw0⟩ : ∃ w0, Hid ((w.alloc (.cells #[.slice AV nV cV] 23 (0, 0))).alloc (.cells #[.slice AD nD cD] 24 (0, 0)) = w0) := ⟨_, Lib.hid rfl⟩
  have hs0 : w0.heap.size = w.heap.size + 2 := by rw [← hw0.out]; simp
  have HS0 := Lib.hid hs0
  have HB0 : Hid (Below w.heap.size w w0) := by show Below _ _ _; rw [← hw0.out]; exact ((Below.refl _ _).alloc (Nat.le_refl _) _).alloc (by simp) _
  have H0 : Hid (w0.heap[w.heap.size]? = some (.cells #[.slice AV nV cV] 23 (0, 0)) ∧ w0.heap[w.heap.size + 1]? = some (.cells #[.slice AD nD cD] 24 (0, 0))) := by
    show _ ∧ _
    rw [← hw0.out]
    have e1 : (w.alloc (.cells #[.slice AV nV cV] 23 (0, 0))).heap.size = w.heap.size + 1 := by simp
    have k1 := heap_alloc_new (w.alloc (.cells #[.slice AV nV cV] 23 (0, 0))) (.cells #[.slice AD nD cD] 24 (0, 0))
    rw [e1] at k1
    exact ⟨(heap_alloc_old _ _ (by rw [e1]; omega)).trans (heap_alloc_new w _), k1⟩
  have HV := Lib.hid (hv.below HB0.out)
  have HD := Lib.hid (hd.below HB0.out)
  clear hv hd hs0
  go_enter Try.func14, Try.ntmps14
  go_wp2_with fail
  rw [hw0.out]
  refine (zzq w0).mono ?_
  rintro e W ⟨p, g, rfl, H1⟩
  have HP : Hid (Ps w W p (w0.heap.size) g 10000 AV nV cV [b] AD nD cD [x]) := by
    obtain ⟨h1, h2⟩ := H1.out
    have hs := HS0.out
    exact ⟨h1, (h2.block _ (by omega)).trans H0.out.1, (h2.block _ (by omega)).trans H0.out.2, HV.out.below h2, hnV.out, HD.out.below h2, HB0.out.trans (h2.mono (by omega)), by omega⟩
  obtain ⟨s, hs⟩ : ∃ s, Hid (w0.heap.size = s) := ⟨_, Lib.hid rfl⟩
  rw [hs.out] at HP
  clear H1 HV HD H0
  go_wp2_with fail
  refine (ptd (w.heap.size + 1) AD nD cD _ 0 m x W HP.out.b1 HP.out.rd rfl hm (by omega) (by have := hnD.out; omega) (by have := hnD.out; omega)).mono ?_
  rintro e W1 ⟨A0, c0, rfl, HD0⟩
  have HP1 := Lib.hid (HP.out.below HD0.out.2.1)
  go_wp2_with fail
  refine (ptv w.heap.size AV nV cV _ 0 b W1 HP1.out.b0 HP1.out.rv hnV rfl (by have := hnV.out; simp at this; omega)).mono ?_
  rintro e w9 ⟨rfl, rfl⟩
  go_wp2_with fail
  refine (ap_cr p s g 10000 b hb0 hb1 m hm2 W1 HP1.out.wq).mono ?_
  have hzb := esz_bd b
  have hzm := esz_bd (m : Nat)
  have hm' := hm.out
  rintro e w7 ⟨n, hX⟩
  have HX := Lib.hid hX
  obtain ⟨hln, hnm, rfl, -⟩ := hX
  have HLN := Lib.hid hln
  have HR7 : Hid (Rd w7 A0 x) := HX.out.2.2.2.out.2.2.2.1.rd HD0.out.1.1 (HP.out.away HD0.out.2.2)
  have HO7 := Lib.hid HX.out.2.2.2.out.2.1
  clear hln hm'
  go_wp2_with (refine wpList_copyR (p + 1) _ rfl (.tmp 61) (.tmp 62) rfl g n 10000 m (10000 - n) ([] ++ [6] ++ enc b ++ enc (m : Nat)) rfl HO7.out HLN A0 c0 x rfl hm HR7.out hnm ?_; intro w8 v8 ho8 hg8)
  have HWd := Lib.hid (HX.out.copied ho8.out hg8.out)
  obtain ⟨n7, hn7⟩ : ∃ k, Hid (n + m = k) := ⟨_, Lib.hid rfl⟩
  have hb7 : n7 ≤ 100000 := by have := hn7.out; omega
  have hl7 : Hid (List.length ([] ++ [6] ++ enc b ++ enc (m : Nat) ++ x) = n7) := by show _ = _; rw [List.length_append, HLN.out, hm.out]; exact hn7.out
  refine (payload_ _ _ w8 HWd.out n7 hl7 hb7).mono ?_
  rintro e w9 ⟨A8, c8, rfl, HO, z8, rfl⟩
  go_wp2_with fail
  go_ret2
  exact PfEnd.mk' HP1.out (below_drewN HWd.out.bel _) HO.out hl7.out

set_option maxRecDepth 100000 in
set_option maxHeartbeats 4000000 in
theorem pf_s10 (t : Int) (ht0 : 8 ≤ t) (ht1 : t ≤ 15) (a : Int) (ha0 : 0 ≤ a) (ha1 : a ≤ 4611686018427387903) (m : Nat) (x : List Int) (hm : Hid (x.length = m)) (hm2 : m ≤ 1000) (AV : Option Addr) (nV cV : Nat) (AD : Option Addr) (nD cD : Nat) (w : World) (hv : RdE EI w AV [a, 0, 0]) (hnV : Hid (([a, 0, 0] : List Int).length = nV)) (hd : RdD w AD nD [x]) (hnD : Hid (nD = 1)) :
    Calls Try.prog 14 #[.int .u8 t, .slice AV nV cV, .slice AD nD cD, .int .i64 10000] w fun e w' => PfEnd w ([] ++ [10] ++ enc a ++ enc (m : Nat) ++ x) e w' := by
  obtain ⟨w0, hw0⟩ : ∃ w0, Hid ((w.alloc (.cells #[.slice AV nV cV] 23 (0, 0))).alloc (.cells #[.slice AD nD cD] 24 (0, 0)) = w0) := ⟨_, Lib.hid rfl⟩
  have hs0 : w0.heap.size = w.heap.size + 2 := by rw [← hw0.out]; simp
  have HS0 := Lib.hid hs0
  have HB0 : Hid (Below w.heap.size w w0) := by show Below _ _ _; rw [← hw0.out]; exact ((Below.refl _ _).alloc (Nat.le_refl _) _).alloc (by simp) _
  have H0 : Hid (w0.heap[w.heap.size]? = some (.cells #[.slice AV nV cV] 23 (0, 0)) ∧ w0.heap[w.heap.size + 1]? = some (.cells #[.slice AD nD cD] 24 (0, 0))) := by
    show _ ∧ _
    rw [← hw0.out]
    have e1 : (w.alloc (.cells #[.slice AV nV cV] 23 (0, 0))).heap.size = w.heap.size + 1 := by simp
    have k1 := heap_alloc_new (w.alloc (.cells #[.slice AV nV cV] 23 (0, 0))) (.cells #[.slice AD nD cD] 24 (0, 0))
    rw [e1] at k1
    exact ⟨(heap_alloc_old _ _ (by rw [e1]; omega)).trans (heap_alloc_new w _), k1⟩
  have HV := Lib.hid (hv.below HB0.out)
  have HD := Lib.hid (hd.below HB0.out)
  clear hv hd hs0
  go_enter Try.func14, Try.ntmps14
  go_wp2_with fail
  rw [hw0.out]
  refine (zzq w0).mono ?_
  rintro e W ⟨p, g, rfl, H1⟩
  have HP : Hid (Ps w W p (w0.heap.size) g 10000 AV nV cV [a, 0, 0] AD nD cD [x]) := by
    obtain ⟨h1, h2⟩ := H1.out
    have hs := HS0.out
    exact ⟨h1, (h2.block _ (by omega)).trans H0.out.1, (h2.block _ (by omega)).trans H0.out.2, HV.out.below h2, hnV.out, HD.out.below h2, HB0.out.trans (h2.mono (by omega)), by omega⟩
  obtain ⟨s, hs⟩ : ∃ s, Hid (w0.heap.size = s) := ⟨_, Lib.hid rfl⟩
  rw [hs.out] at HP
  clear H1 HV HD H0
  have e4 : (t == 4) = false := by simp; omega
  have e5 : (t == 5) = false := by simp; omega
  have e6 : (t == 6) = false := by simp; omega
  have e7 : (t == 7) = false := by simp; omega
  have e8 : decide (8 ≤ t) = true := by simp; omega
  have e16 : decide (t < 16) = true := by simp; omega
  go_wp2_with fail
  refine (ptd (w.heap.size + 1) AD nD cD _ 0 m x W HP.out.b1 HP.out.rd rfl hm (by omega) (by have := hnD.out; omega) (by have := hnD.out; omega)).mono ?_
  rintro e W1 ⟨A0, c0, rfl, HD0⟩
  have HP1 := Lib.hid (HP.out.below HD0.out.2.1)
  go_wp2_with fail
  refine (ptv w.heap.size AV nV cV _ 0 a W1 HP1.out.b0 HP1.out.rv hnV rfl (by have := hnV.out; simp at this; omega)).mono ?_
  rintro e w9 ⟨rfl, rfl⟩
  go_wp2_with fail
  refine (ptv w.heap.size AV nV cV _ 1 0 W1 HP1.out.b0 HP1.out.rv hnV rfl (by have := hnV.out; simp at this; omega)).mono ?_
  rintro e w9 ⟨rfl, rfl⟩
  go_wp2_with fail
  refine (ptv w.heap.size AV nV cV _ 2 0 W1 HP1.out.b0 HP1.out.rv hnV rfl (by have := hnV.out; simp at this; omega)).mono ?_
  rintro e w9 ⟨rfl, rfl⟩
  go_wp2_with fail
  refine (ap_st10 p s g 10000 a ha0 ha1 m hm2 W1 HP1.out.wq).mono ?_
  have hza := esz_bd a
  have hzm := esz_bd (m : Nat)
  have hm' := hm.out
  rintro e w7 ⟨n, hX⟩
  have HX := Lib.hid hX
  obtain ⟨hln, hnm, rfl, -⟩ := hX
  have HLN := Lib.hid hln
  have HR7 : Hid (Rd w7 A0 x) := HX.out.2.2.2.out.2.2.2.1.rd HD0.out.1.1 (HP.out.away HD0.out.2.2)
  have HO7 := Lib.hid HX.out.2.2.2.out.2.1
  clear hln hm'
  go_wp2_with (refine wpList_copyR (p + 1) _ rfl (.tmp 95) (.tmp 96) rfl g n 10000 m (10000 - n) ([] ++ [10] ++ enc a ++ enc (m : Nat)) rfl HO7.out HLN A0 c0 x rfl hm HR7.out hnm ?_; intro w8 v8 ho8 hg8)
  have HWd := Lib.hid (HX.out.copied ho8.out hg8.out)
  obtain ⟨n7, hn7⟩ : ∃ k, Hid (n + m = k) := ⟨_, Lib.hid rfl⟩
  have hb7 : n7 ≤ 100000 := by have := hn7.out; omega
  have hl7 : Hid (List.length ([] ++ [10] ++ enc a ++ enc (m : Nat) ++ x) = n7) := by show _ = _; rw [List.length_append, HLN.out, hm.out]; exact hn7.out
  refine (payload_ _ _ w8 HWd.out n7 hl7 hb7).mono ?_
  rintro e w9 ⟨A8, c8, rfl, HO, z8, rfl⟩
  go_wp2_with fail
  go_ret2
  exact PfEnd.mk' HP1.out (below_drewN HWd.out.bel _) HO.out hl7.out

set_option maxRecDepth 100000 in
set_option maxHeartbeats 4000000 in
theorem pf_s11 (t : Int) (ht0 : 8 ≤ t) (ht1 : t ≤ 15) (a : Int) (ha0 : 0 ≤ a) (ha1 : a ≤ 4611686018427387903) (m : Nat) (x : List Int) (hm : Hid (x.length = m)) (hm2 : m ≤ 1000) (AV : Option Addr) (nV cV : Nat) (AD : Option Addr) (nD cD : Nat) (w : World) (hv : RdE EI w AV [a, 0, 1]) (hnV : Hid (([a, 0, 1] : List Int).length = nV)) (hd : RdD w AD nD [x]) (hnD : Hid (nD = 1)) :
    Calls Try.prog 14 #[.int .u8 t, .slice AV nV cV, .slice AD nD cD, .int .i64 10000] w fun e w' => PfEnd w ([] ++ [11] ++ enc a ++ enc (m : Nat) ++ x) e w' := by
  obtain ⟨w0, hw0⟩ : ∃ w0, Hid ((w.alloc (.cells #[.slice AV nV cV] 23 (0, 0))).alloc (.cells #[.slice AD nD cD] 24 (0, 0)) = w0) := ⟨_, Lib.hid rfl⟩
  have hs0 : w0.heap.size = w.heap.size + 2 := by rw [← hw0.out]; simp
  have HS0 := Lib.hid hs0
  have HB0 : Hid (Below w.heap.size w w0) := by show Below _ _ _; rw [← hw0.out]; exact ((Below.refl _ _).alloc (Nat.le_refl _) _).alloc (by simp) _
  have H0 : Hid (w0.heap[w.heap.size]? = some (.cells #[.slice AV nV cV] 23 (0, 0)) ∧ w0.heap[w.heap.size + 1]? = some (.cells #[.slice AD nD cD] 24 (0, 0))) := by
    show _ ∧ _
    rw [← hw0.out]
    have e1 : (w.alloc (.cells #[.slice AV nV cV] 23 (0, 0))).heap.size = w.heap.size + 1 := by simp
    have k1 := heap_alloc_new (w.alloc (.cells #[.slice AV nV cV] 23 (0, 0))) (.cells #[.slice AD nD cD] 24 (0, 0))
    rw [e1] at k1
    exact ⟨(heap_alloc_old _ _ (by rw [e1]; omega)).trans (heap_alloc_new w _), k1⟩
  have HV := Lib.hid (hv.below HB0.out)
  have HD := Lib.hid (hd.below HB0.out)
  clear hv hd hs0
  go_enter Try.func14, Try.ntmps14
  go_wp2_with fail
  rw [hw0.out]
  refine (zzq w0).mono ?_
  rintro e W ⟨p, g, rfl, H1⟩
  have HP : Hid (Ps w W p (w0.heap.size) g 10000 AV nV cV [a, 0, 1] AD nD cD [x]) := by
    obtain ⟨h1, h2⟩ := H1.out
    have hs := HS0.out
    exact ⟨h1, (h2.block _ (by omega)).trans H0.out.1, (h2.block _ (by omega)).trans H0.out.2, HV.out.below h2, hnV.out, HD.out.below h2, HB0.out.trans (h2.mono (by omega)), by omega⟩
  obtain ⟨s, hs⟩ : ∃ s, Hid (w0.heap.size = s) := ⟨_, Lib.hid rfl⟩
  rw [hs.out] at HP
  clear H1 HV HD H0
  have e4 : (t == 4) = false := by simp; omega
  have e5 : (t == 5) = false := by simp; omega
  have e6 : (t == 6) = false := by simp; omega
  have e7 : (t == 7) = false := by simp; omega
  have e8 : decide (8 ≤ t) = true := by simp; omega
  have e16 : decide (t < 16) = true := by simp; omega
  go_wp2_with fail
  refine (ptd (w.heap.size + 1) AD nD cD _ 0 m x W HP.out.b1 HP.out.rd rfl hm (by omega) (by have := hnD.out; omega) (by have := hnD.out; omega)).mono ?_
  rintro e W1 ⟨A0, c0, rfl, HD0⟩
  have HP1 := Lib.hid (HP.out.below HD0.out.2.1)
  go_wp2_with fail
  refine (ptv w.heap.size AV nV cV _ 0 a W1 HP1.out.b0 HP1.out.rv hnV rfl (by have := hnV.out; simp at this; omega)).mono ?_
  rintro e w9 ⟨rfl, rfl⟩
  go_wp2_with fail
  refine (ptv w.heap.size AV nV cV _ 1 0 W1 HP1.out.b0 HP1.out.rv hnV rfl (by have := hnV.out; simp at this; omega)).mono ?_
  rintro e w9 ⟨rfl, rfl⟩
  go_wp2_with fail
  refine (ptv w.heap.size AV nV cV _ 2 1 W1 HP1.out.b0 HP1.out.rv hnV rfl (by have := hnV.out; simp at this; omega)).mono ?_
  rintro e w9 ⟨rfl, rfl⟩
  go_wp2_with fail
  refine (ap_st11 p s g 10000 a ha0 ha1 m hm2 W1 HP1.out.wq).mono ?_
  have hza := esz_bd a
  have hzm := esz_bd (m : Nat)
  have hm' := hm.out
  rintro e w7 ⟨n, hX⟩
  have HX := Lib.hid hX
  obtain ⟨hln, hnm, rfl, -⟩ := hX
  have HLN := Lib.hid hln
  have HR7 : Hid (Rd w7 A0 x) := HX.out.2.2.2.out.2.2.2.1.rd HD0.out.1.1 (HP.out.away HD0.out.2.2)
  have HO7 := Lib.hid HX.out.2.2.2.out.2.1
  clear hln hm'
  go_wp2_with (refine wpList_copyR (p + 1) _ rfl (.tmp 95) (.tmp 96) rfl g n 10000 m (10000 - n) ([] ++ [11] ++ enc a ++ enc (m : Nat)) rfl HO7.out HLN A0 c0 x rfl hm HR7.out hnm ?_; intro w8 v8 ho8 hg8)
  have HWd := Lib.hid (HX.out.copied ho8.out hg8.out)
  obtain ⟨n7, hn7⟩ : ∃ k, Hid (n + m = k) := ⟨_, Lib.hid rfl⟩
  have hb7 : n7 ≤ 100000 := by have := hn7.out; omega
  have hl7 : Hid (List.length ([] ++ [11] ++ enc a ++ enc (m : Nat) ++ x) = n7) := by show _ = _; rw [List.length_append, HLN.out, hm.out]; exact hn7.out
  refine (payload_ _ _ w8 HWd.out n7 hl7 hb7).mono ?_
  rintro e w9 ⟨A8, c8, rfl, HO, z8, rfl⟩
  go_wp2_with fail
  go_ret2
  exact PfEnd.mk' HP1.out (below_drewN HWd.out.bel _) HO.out hl7.out

set_option maxRecDepth 100000 in
set_option maxHeartbeats 4000000 in
theorem pf_s14 (t : Int) (ht0 : 8 ≤ t) (ht1 : t ≤ 15) (a b : Int) (ha0 : 0 ≤ a) (ha1 : a ≤ 4611686018427387903) (hb0 : 0 ≤ b) (hb1 : b ≤ 4611686018427387903) (m : Nat) (x : List Int) (hm : Hid (x.length = m)) (hm2 : m ≤ 1000) (hne : Hid (b ≠ 0)) (AV : Option Addr) (nV cV : Nat) (AD : Option Addr) (nD cD : Nat) (w : World) (hv : RdE EI w AV [a, b, 0]) (hnV : Hid (([a, b, 0] : List Int).length = nV)) (hd : RdD w AD nD [x]) (hnD : Hid (nD = 1)) :
    Calls Try.prog 14 #[.int .u8 t, .slice AV nV cV, .slice AD nD cD, .int .i64 10000] w fun e w' => PfEnd w ([] ++ [14] ++ enc a ++ enc b ++ enc (m : Nat) ++ x) e w' := by
  obtain ⟨w0, hw0⟩ : ∃ w0, Hid ((w.alloc (.cells #[.slice AV nV cV] 23 (0, 0))).alloc (.cells #[.slice AD nD cD] 24 (0, 0)) = w0) := ⟨_, Lib.hid rfl⟩
  have hs0 : w0.heap.size = w.heap.size + 2 := by rw [← hw0.out]; simp
  have HS0 := Lib.hid hs0
  have HB0 : Hid (Below w.heap.size w w0) := by show Below _ _ _; rw [← hw0.out]; exact ((Below.refl _ _).alloc (Nat.le_refl _) _).alloc (by simp) _
  have H0 : Hid (w0.heap[w.heap.size]? = some (.cells #[.slice AV nV cV] 23 (0, 0)) ∧ w0.heap[w.heap.size + 1]? = some (.cells #[.slice AD nD cD] 24 (0, 0))) := by
    show _ ∧ _
    rw [← hw0.out]
    have e1 : (w.alloc (.cells #[.slice AV nV cV] 23 (0, 0))).heap.size = w.heap.size + 1 := by simp
    have k1 := heap_alloc_new (w.alloc (.cells #[.slice AV nV cV] 23 (0, 0))) (.cells #[.slice AD nD cD] 24 (0, 0))
    rw [e1] at k1
    exact ⟨(heap_alloc_old _ _ (by rw [e1]; omega)).trans (heap_alloc_new w _), k1⟩
  have HV := Lib.hid (hv.below HB0.out)
  have HD := Lib.hid (hd.below HB0.out)
  clear hv hd hs0
  go_enter Try.func14, Try.ntmps14
  go_wp2_with fail
  rw [hw0.out]
  refine (zzq w0).mono ?_
  rintro e W ⟨p, g, rfl, H1⟩
  have HP : Hid (Ps w W p (w0.heap.size) g 10000 AV nV cV [a, b, 0] AD nD cD [x]) := by
    obtain ⟨h1, h2⟩ := H1.out
    have hs := HS0.out
    exact ⟨h1, (h2.block _ (by omega)).trans H0.out.1, (h2.block _ (by omega)).trans H0.out.2, HV.out.below h2, hnV.out, HD.out.below h2, HB0.out.trans (h2.mono (by omega)), by omega⟩
  obtain ⟨s, hs⟩ : ∃ s, Hid (w0.heap.size = s) := ⟨_, Lib.hid rfl⟩
  rw [hs.out] at HP
  clear H1 HV HD H0
  have e4 : (t == 4) = false := by simp; omega
  have e5 : (t == 5) = false := by simp; omega
  have e6 : (t == 6) = false := by simp; omega
  have e7 : (t == 7) = false := by simp; omega
  have e8 : decide (8 ≤ t) = true := by simp; omega
  have e16 : decide (t < 16) = true := by simp; omega
  go_wp2_with fail
  refine (ptd (w.heap.size + 1) AD nD cD _ 0 m x W HP.out.b1 HP.out.rd rfl hm (by omega) (by have := hnD.out; omega) (by have := hnD.out; omega)).mono ?_
  rintro e W1 ⟨A0, c0, rfl, HD0⟩
  have HP1 := Lib.hid (HP.out.below HD0.out.2.1)
  go_wp2_with fail
  refine (ptv w.heap.size AV nV cV _ 0 a W1 HP1.out.b0 HP1.out.rv hnV rfl (by have := hnV.out; simp at this; omega)).mono ?_
  rintro e w9 ⟨rfl, rfl⟩
  go_wp2_with fail
  refine (ptv w.heap.size AV nV cV _ 1 b W1 HP1.out.b0 HP1.out.rv hnV rfl (by have := hnV.out; simp at this; omega)).mono ?_
  rintro e w9 ⟨rfl, rfl⟩
  go_wp2_with fail
  refine (ptv w.heap.size AV nV cV _ 2 0 W1 HP1.out.b0 HP1.out.rv hnV rfl (by have := hnV.out; simp at this; omega)).mono ?_
  rintro e w9 ⟨rfl, rfl⟩
  go_wp2_with fail
  refine (ap_st14 p s g 10000 a b ha0 ha1 hb0 hb1 m hm2 hne W1 HP1.out.wq).mono ?_
  have hza := esz_bd a
  have hzb := esz_bd b
  have hzm := esz_bd (m : Nat)
  have hm' := hm.out
  rintro e w7 ⟨n, hX⟩
  have HX := Lib.hid hX
  obtain ⟨hln, hnm, rfl, -⟩ := hX
  have HLN := Lib.hid hln
  have HR7 : Hid (Rd w7 A0 x) := HX.out.2.2.2.out.2.2.2.1.rd HD0.out.1.1 (HP.out.away HD0.out.2.2)
  have HO7 := Lib.hid HX.out.2.2.2.out.2.1
  clear hln hm'
  go_wp2_with (refine wpList_copyR (p + 1) _ rfl (.tmp 95) (.tmp 96) rfl g n 10000 m (10000 - n) ([] ++ [14] ++ enc a ++ enc b ++ enc (m : Nat)) rfl HO7.out HLN A0 c0 x rfl hm HR7.out hnm ?_; intro w8 v8 ho8 hg8)
  have HWd := Lib.hid (HX.out.copied ho8.out hg8.out)
  obtain ⟨n7, hn7⟩ : ∃ k, Hid (n + m = k) := ⟨_, Lib.hid rfl⟩
  have hb7 : n7 ≤ 100000 := by have := hn7.out; omega
  have hl7 : Hid (List.length ([] ++ [14] ++ enc a ++ enc b ++ enc (m : Nat) ++ x) = n7) := by show _ = _; rw [List.length_append, HLN.out, hm.out]; exact hn7.out
  refine (payload_ _ _ w8 HWd.out n7 hl7 hb7).mono ?_
  rintro e w9 ⟨A8, c8, rfl, HO, z8, rfl⟩
  go_wp2_with fail
  go_ret2
  exact PfEnd.mk' HP1.out (below_drewN HWd.out.bel _) HO.out hl7.out

set_option maxRecDepth 100000 in
set_option maxHeartbeats 4000000 in
theorem pf_s15 (t : Int) (ht0 : 8 ≤ t) (ht1 : t ≤ 15) (a b : Int) (ha0 : 0 ≤ a) (ha1 : a ≤ 4611686018427387903) (hb0 : 0 ≤ b) (hb1 : b ≤ 4611686018427387903) (m : Nat) (x : List Int) (hm : Hid (x.length = m)) (hm2 : m ≤ 1000) (hne : Hid (b ≠ 0)) (AV : Option Addr) (nV cV : Nat) (AD : Option Addr) (nD cD : Nat) (w : World) (hv : RdE EI w AV [a, b, 1]) (hnV : Hid (([a, b, 1] : List Int).length = nV)) (hd : RdD w AD nD [x]) (hnD : Hid (nD = 1)) :
    Calls Try.prog 14 #[.int .u8 t, .slice AV nV cV, .slice AD nD cD, .int .i64 10000] w fun e w' => PfEnd w ([] ++ [15] ++ enc a ++ enc b ++ enc (m : Nat) ++ x) e w' := by
  obtain ⟨w0, hw0⟩ : ∃ w0, Hid ((w.alloc (.cells #[.slice AV nV cV] 23 (0, 0))).alloc (.cells #[.slice AD nD cD] 24 (0, 0)) = w0) := ⟨_, Lib.hid rfl⟩
  have hs0 : w0.heap.size = w.heap.size + 2 := by rw [← hw0.out]; simp
  have HS0 := Lib.hid hs0
  have HB0 : Hid (Below w.heap.size w w0) := by show Below _ _ _; rw [← hw0.out]; exact ((Below.refl _ _).alloc (Nat.le_refl _) _).alloc (by simp) _
  have H0 : Hid (w0.heap[w.heap.size]? = some (.cells #[.slice AV nV cV] 23 (0, 0)) ∧ w0.heap[w.heap.size + 1]? = some (.cells #[.slice AD nD cD] 24 (0, 0))) := by
    show _ ∧ _
    rw [← hw0.out]
    have e1 : (w.alloc (.cells #[.slice AV nV cV] 23 (0, 0))).heap.size = w.heap.size + 1 := by simp
    have k1 := heap_alloc_new (w.alloc (.cells #[.slice AV nV cV] 23 (0, 0))) (.cells #[.slice AD nD cD] 24 (0, 0))
    rw [e1] at k1
    exact ⟨(heap_alloc_old _ _ (by rw [e1]; omega)).trans (heap_alloc_new w _), k1⟩
  have HV := Lib.hid (hv.below HB0.out)
  have HD := Lib.hid (hd.below HB0.out)
  clear hv hd hs0
  go_enter Try.func14, Try.ntmps14
  go_wp2_with fail
  rw [hw0.out]
  refine (zzq w0).mono ?_
  rintro e W ⟨p, g, rfl, H1⟩
  have HP : Hid (Ps w W p (w0.heap.size) g 10000 AV nV cV [a, b, 1] AD nD cD [x]) := by
    obtain ⟨h1, h2⟩ := H1.out
    have hs := HS0.out
    exact ⟨h1, (h2.block _ (by omega)).trans H0.out.1, (h2.block _ (by omega)).trans H0.out.2, HV.out.below h2, hnV.out, HD.out.below h2, HB0.out.trans (h2.mono (by omega)), by omega⟩
  obtain ⟨s, hs⟩ : ∃ s, Hid (w0.heap.size = s) := ⟨_, Lib.hid rfl⟩
  rw [hs.out] at HP
  clear H1 HV HD H0
  have e4 : (t == 4) = false := by simp; omega
  have e5 : (t == 5) = false := by simp; omega
  have e6 : (t == 6) = false := by simp; omega
  have e7 : (t == 7) = false := by simp; omega
  have e8 : decide (8 ≤ t) = true := by simp; omega
  have e16 : decide (t < 16) = true := by simp; omega
  go_wp2_with fail
  refine (ptd (w.heap.size + 1) AD nD cD _ 0 m x W HP.out.b1 HP.out.rd rfl hm (by omega) (by have := hnD.out; omega) (by have := hnD.out; omega)).mono ?_
  rintro e W1 ⟨A0, c0, rfl, HD0⟩
  have HP1 := Lib.hid (HP.out.below HD0.out.2.1)
  go_wp2_with fail
  refine (ptv w.heap.size AV nV cV _ 0 a W1 HP1.out.b0 HP1.out.rv hnV rfl (by have := hnV.out; simp at this; omega)).mono ?_
  rintro e w9 ⟨rfl, rfl⟩
  go_wp2_with fail
  refine (ptv w.heap.size AV nV cV _ 1 b W1 HP1.out.b0 HP1.out.rv hnV rfl (by have := hnV.out; simp at this; omega)).mono ?_
  rintro e w9 ⟨rfl, rfl⟩
  go_wp2_with fail
  refine (ptv w.heap.size AV nV cV _ 2 1 W1 HP1.out.b0 HP1.out.rv hnV rfl (by have := hnV.out; simp at this; omega)).mono ?_
  rintro e w9 ⟨rfl, rfl⟩
  go_wp2_with fail
  refine (ap_st15 p s g 10000 a b ha0 ha1 hb0 hb1 m hm2 hne W1 HP1.out.wq).mono ?_
  have hza := esz_bd a
  have hzb := esz_bd b
  have hzm := esz_bd (m : Nat)
  have hm' := hm.out
  rintro e w7 ⟨n, hX⟩
  have HX := Lib.hid hX
  obtain ⟨hln, hnm, rfl, -⟩ := hX
  have HLN := Lib.hid hln
  have HR7 : Hid (Rd w7 A0 x) := HX.out.2.2.2.out.2.2.2.1.rd HD0.out.1.1 (HP.out.away HD0.out.2.2)
  have HO7 := Lib.hid HX.out.2.2.2.out.2.1
  clear hln hm'
  go_wp2_with (refine wpList_copyR (p + 1) _ rfl (.tmp 95) (.tmp 96) rfl g n 10000 m (10000 - n) ([] ++ [15] ++ enc a ++ enc b ++ enc (m : Nat)) rfl HO7.out HLN A0 c0 x rfl hm HR7.out hnm ?_; intro w8 v8 ho8 hg8)
  have HWd := Lib.hid (HX.out.copied ho8.out hg8.out)
  obtain ⟨n7, hn7⟩ : ∃ k, Hid (n + m = k) := ⟨_, Lib.hid rfl⟩
  have hb7 : n7 ≤ 100000 := by have := hn7.out; omega
  have hl7 : Hid (List.length ([] ++ [15] ++ enc a ++ enc b ++ enc (m : Nat) ++ x) = n7) := by show _ = _; rw [List.length_append, HLN.out, hm.out]; exact hn7.out
  refine (payload_ _ _ w8 HWd.out n7 hl7 hb7).mono ?_
  rintro e w9 ⟨A8, c8, rfl, HO, z8, rfl⟩
  go_wp2_with fail
  go_ret2
  exact PfEnd.mk' HP1.out (below_drewN HWd.out.bel _) HO.out hl7.out
end

section
open Go.RowKit
set_option linter.unusedVariables false
set_option linter.unusedSimpArgs false

theorem size_a16 : (Try.prog.info? 63).map (·.size) = some 16 := by kernel_rfl
theorem rng_keep {w w' : World} {T : Nat} {V : List Value} {n : Nat} (hb : w'.heap[T]? = w.heap[T]?) (h : w.rangeAt T 0 V ∧ w.there T 0 n) : w'.rangeAt T 0 V ∧ w'.there T 0 n := by
  refine ⟨fun j v hv => ?_, fun j hj => ?_⟩
  · rw [World.cell?_of_block (a := ⟨T, 0 + j, none⟩) hb]; exact h.1 j v hv
  · have := h.2 j hj
    rw [World.cell?_of_block (a := ⟨T, 0 + j, none⟩) hb]
    refine ⟨this.1, ?_⟩
    have h2 := this.2
    unfold World.frozen? at h2 ⊢
    simp only [hb]
    exact h2

set_option maxRecDepth 100000 in
set_option maxHeartbeats 4000000 in
theorem pf_24 (a b : Int) (ha0 : 0 ≤ a) (ha1 : a ≤ 4611686018427387903) (hb0 : 0 ≤ b) (hb1 : b ≤ 4611686018427387903) (m : Nat) (x : List Int) (hm : Hid (x.length = m)) (hm2 : m ≤ 255) (x0 x1 x2 x3 x4 x5 x6 x7 x8 x9 x10 x11 x12 x13 x14 x15 : Int) (hb : Hid (Bs [x0, x1, x2, x3, x4, x5, x6, x7, x8, x9, x10, x11, x12, x13, x14, x15])) (AV : Option Addr) (nV cV : Nat) (AD : Option Addr) (nD cD : Nat) (w : World) (hv : RdE EI w AV [a, b]) (hnV : Hid (([a, b] : List Int).length = nV)) (hd : RdD w AD nD [x, [x0, x1, x2, x3, x4, x5, x6, x7, x8, x9, x10, x11, x12, x13, x14, x15]]) (hnD : Hid (nD = 2)) :
    Calls Try.prog 14 #[.int .u8 24, .slice AV nV cV, .slice AD nD cD, .int .i64 10000] w fun e w' => PfEnd w ([] ++ [24] ++ enc a ++ enc b ++ [(m : Int)] ++ x ++ [x0, x1, x2, x3, x4, x5, x6, x7, x8, x9, x10, x11, x12, x13, x14, x15]) e w' := by
  obtain ⟨w0, hw0⟩ : ∃ w0, Hid ((w.alloc (.cells #[.slice AV nV cV] 23 (0, 0))).alloc (.cells #[.slice AD nD cD] 24 (0, 0)) = w0) := ⟨_, Lib.hid rfl⟩
  have hs0 : w0.heap.size = w.heap.size + 2 := by rw [← hw0.out]; simp
  have HS0 := Lib.hid hs0
  have HB0 : Hid (Below w.heap.size w w0) := by show Below _ _ _; rw [← hw0.out]; exact ((Below.refl _ _).alloc (Nat.le_refl _) _).alloc (by simp) _
  have H0 : Hid (w0.heap[w.heap.size]? = some (.cells #[.slice AV nV cV] 23 (0, 0)) ∧ w0.heap[w.heap.size + 1]? = some (.cells #[.slice AD nD cD] 24 (0, 0))) := by
    show _ ∧ _
    rw [← hw0.out]
    have e1 : (w.alloc (.cells #[.slice AV nV cV] 23 (0, 0))).heap.size = w.heap.size + 1 := by simp
    have k1 := heap_alloc_new (w.alloc (.cells #[.slice AV nV cV] 23 (0, 0))) (.cells #[.slice AD nD cD] 24 (0, 0))
    rw [e1] at k1
    exact ⟨(heap_alloc_old _ _ (by rw [e1]; omega)).trans (heap_alloc_new w _), k1⟩
  have HV := Lib.hid (hv.below HB0.out)
  have HD := Lib.hid (hd.below HB0.out)
  clear hv hd hs0
  go_enter Try.func14, Try.ntmps14
  go_wp2_with fail
  rw [hw0.out]
  refine (zzq w0).mono ?_
  rintro e W ⟨p, g, rfl, H1⟩
  have HP : Hid (Ps w W p (w0.heap.size) g 10000 AV nV cV [a, b] AD nD cD [x, [x0, x1, x2, x3, x4, x5, x6, x7, x8, x9, x10, x11, x12, x13, x14, x15]]) := by
    obtain ⟨h1, h2⟩ := H1.out
    have hs := HS0.out
    exact ⟨h1, (h2.block _ (by omega)).trans H0.out.1, (h2.block _ (by omega)).trans H0.out.2, HV.out.below h2, hnV.out, HD.out.below h2, HB0.out.trans (h2.mono (by omega)), by omega⟩
  obtain ⟨s, hs⟩ : ∃ s, Hid (w0.heap.size = s) := ⟨_, Lib.hid rfl⟩
  rw [hs.out] at HP
  clear H1 HV HD H0
  obtain ⟨W1, hW1⟩ : ∃ W1, Hid (W.alloc (.cells #[.int .u8 0, .int .u8 0, .int .u8 0, .int .u8 0, .int .u8 0, .int .u8 0, .int .u8 0, .int .u8 0, .int .u8 0, .int .u8 0, .int .u8 0, .int .u8 0, .int .u8 0, .int .u8 0, .int .u8 0, .int .u8 0] 63 (0, 0)) = W1) := ⟨_, Lib.hid rfl⟩
  have HP1 : Hid (Ps w W1 p s g 10000 AV nV cV [a, b] AD nD cD [x, [x0, x1, x2, x3, x4, x5, x6, x7, x8, x9, x10, x11, x12, x13, x14, x15]]) := by show Ps _ _ _ _ _ _ _ _ _ _ _ _ _ _; rw [← hW1.out]; exact HP.out.below ((Below.refl _ _).alloc (Nat.le_refl _) _)
  have HQ1 : Hid (W1.heap[W.heap.size]? = some (.cells (vals [0, 0, 0, 0, 0, 0, 0, 0, 0, 0, 0, 0, 0, 0, 0, 0]).toArray 63 (0, 0))) := by show _ = _; rw [← hW1.out]; exact heap_alloc_new W _
  have HZ1 : Hid (W.heap.size < W1.heap.size) := cell_in HQ1.out
  have HB1 : Hid (Below W.heap.size W W1) := by show Below _ _ _; rw [← hW1.out]; exact (Below.refl _ _).alloc (Nat.le_refl _) _
  have hm16 : Hid (List.length [x0, x1, x2, x3, x4, x5, x6, x7, x8, x9, x10, x11, x12, x13, x14, x15] = 16) := rfl
  have HPd := Lib.hid (HP1.out.below (below_drewN (Below.refl _ _) 1))
  have K0 := Lib.hid (ptd (w.heap.size + 1) AD nD cD _ 1 16 [x0, x1, x2, x3, x4, x5, x6, x7, x8, x9, x10, x11, x12, x13, x14, x15] (W1.drewN 1) HPd.out.b1 HPd.out.rd rfl hm16 (by omega) (by have := hnD.out; omega) (by have := hnD.out; omega))
  go_wp2_with fail
  rw [hW1.out]
  go_region_law (first | (go_simp; go_at_call 38; refine K0.out.mono ?_; rintro e W2 ⟨A1, c1, rfl, HD1⟩; obtain ⟨ad, hA1, HX2⟩ := rd_some HD1.out.1.1 (by simp)) | (refine step_copy_splice (by rfl) _ _ 22 22 (by rfl) 5 Try.underlying22 size_u8 (some ⟨W.heap.size, 0, none⟩) A1 16 16 16 c1 (by rfl) (by rfl) W.heap.size 0 _ _ ((HD1.out.2.1.block _ HZ1.out).trans HQ1.out) (vals [x0, x1, x2, x3, x4, x5, x6, x7, x8, x9, x10, x11, x12, x13, x14, x15]) (by rfl) (fun _ => ⟨rfl, ad, hA1.out, HX2.out⟩) (by rw [vals_length, vals_length]; simp) (vals_one _) W.heap.size W ((below_drewN HB1.out 1).trans (HD1.out.2.1.mono (by exact HB1.out.size))) (Nat.le_refl _) ?_; intro W3 HQ3 HB3))
  have HP3 := Lib.hid (HP.out.below HB3)
  have hq3 := HQ3.out
  rw [splice_vals, splice_full _ _ (by simp)] at hq3
  have HQ3 := Lib.hid hq3
  have HZ3 : Hid (W.heap.size < W3.heap.size) := cell_in hq3
  have HAW : Hid (W.heap.size ≠ p ∧ W.heap.size ≠ s ∧ W.heap.size ≠ g) := by
    have h1 := HP.out.wq.gp
    have h2 := HP.out.wq.sp
    show _ ∧ _
    omega
  clear hq3 HB3 K0 HPd HP1
  have hrg : W3.rangeAt W.heap.size 0 (vals [x0, x1, x2, x3, x4, x5, x6, x7, x8, x9, x10, x11, x12, x13, x14, x15]) := fun j v hv => by
    rw [Nat.zero_add, cell_of_row _ _ j _ _ (0, 0) HQ3.out]
    simpa using hv
  have hth : W3.there W.heap.size 0 16 := fun j hj => by
    refine ⟨?_, cell_free _ HQ3.out⟩
    have := hrg j _ (List.getElem?_eq_getElem (by rw [vals_length]; exact hj))
    rw [this]; rfl
  have HRG := Lib.hid (And.intro hrg hth)
  have hu := Try.underlying63
  have hi : (Try.prog.info? 63).map (·.size) = some (vals [x0, x1, x2, x3, x4, x5, x6, x7, x8, x9, x10, x11, x12, x13, x14, x15]).length := by rw [size_a16]; rfl
  have hlv : (vals [x0, x1, x2, x3, x4, x5, x6, x7, x8, x9, x10, x11, x12, x13, x14, x15]).length = 16 := rfl
  have hov := vals_one [x0, x1, x2, x3, x4, x5, x6, x7, x8, x9, x10, x11, x12, x13, x14, x15]
  have HPd := Lib.hid (HP3.out.below (below_drewN (Below.refl _ _) 1))
  have KD := Lib.hid (ptd (w.heap.size + 1) AD nD cD _ 0 m x (W3.drewN 1) HPd.out.b1 HPd.out.rd rfl hm (by omega) (by have := hnD.out; omega) (by have := hnD.out; omega))
  have KV0 : Hid (∀ W', Ps w W' p s g 10000 AV nV cV [a, b] AD nD cD [x, [x0, x1, x2, x3, x4, x5, x6, x7, x8, x9, x10, x11, x12, x13, x14, x15]] → Calls Try.prog 37 #[.int .i64 ((0 : Nat) : Int), .pointer (some ⟨w.heap.size, 0, none⟩)] W' fun e w' => e = .returned (.int .i64 a) ∧ W' = w') := fun W' h => ptv w.heap.size AV nV cV _ 0 a W' h.b0 h.rv hnV rfl (by have := hnV.out; simp at this; omega)
  have KV1 : Hid (∀ W', Ps w W' p s g 10000 AV nV cV [a, b] AD nD cD [x, [x0, x1, x2, x3, x4, x5, x6, x7, x8, x9, x10, x11, x12, x13, x14, x15]] → Calls Try.prog 37 #[.int .i64 ((1 : Nat) : Int), .pointer (some ⟨w.heap.size, 0, none⟩)] W' fun e w' => e = .returned (.int .i64 b) ∧ W' = w') := fun W' h => ptv w.heap.size AV nV cV _ 1 b W' h.b0 h.rv hnV rfl (by have := hnV.out; simp at this; omega)
  go_wp2_with fail
  go_region_held3 (fun w' => w'.rangeAt W.heap.size 0 (vals [x0, x1, x2, x3, x4, x5, x6, x7, x8, x9, x10, x11, x12, x13, x14, x15]) ∧ w'.there W.heap.size 0 16) (first | exact HRG.out | exact rng_keep (HD0.out.2.1.block _ HZ3.out) HRG.out | exact rng_keep ((H7.out.2.blk _ (Nat.lt_of_lt_of_le HZ3.out HD0.out.2.1.size) HAW.out.1 HAW.out.2.1 HAW.out.2.2).trans (HD0.out.2.1.block _ HZ3.out)) HRG.out | go_keep_ranges) (first | (go_simp; go_at_call_of 37 (Value.int IntKind.i64 0); refine (KV0.out _ (by first | exact HP4.out | exact HPd.out)).mono ?_; rintro e w9 ⟨rfl, rfl⟩) | (go_simp; go_at_call_of 37 (Value.int IntKind.i64 1); refine (KV1.out _ (by first | exact HP4.out | exact HPd.out)).mono ?_; rintro e w9 ⟨rfl, rfl⟩) | (go_simp; go_at_call 38; refine KD.out.mono ?_; rintro e W4 ⟨A0, c0, rfl, HD0⟩; have HP4 := Lib.hid (HPd.out.below HD0.out.2.1)) | (go_simp; go_at_call 50; refine (ap_nc p s g 10000 a b ha0 ha1 hb0 hb1 A0 m c0 x hm hm2 HD0.out.1.2.2.2.2 (HPd.out.away HD0.out.2.2) x0 x1 x2 x3 x4 x5 x6 x7 x8 x9 x10 x11 x12 x13 x14 x15 hb W4 HP4.out.wq HD0.out.1.1).mono ?_; rintro e w7 ⟨rfl, H7⟩))
  clear hrg hth hu hi hlv hov HRG KD KV0 KV1
  have hm' := hm.out
  have hza := esz_bd a
  have hzb := esz_bd b
  have HWd := Lib.hid H7.out.1
  clear H7
  obtain ⟨n7, hn7⟩ : ∃ n, Hid (List.length ([] ++ [24] ++ enc a ++ enc b ++ [(m : Int)] ++ x ++ [x0, x1, x2, x3, x4, x5, x6, x7, x8, x9, x10, x11, x12, x13, x14, x15]) = n) := ⟨_, Lib.hid rfl⟩
  have hb7 : n7 ≤ 100000 := by have := hn7.out; simp only [List.length_append, List.length_cons, List.length_nil, enc_length] at this; omega
  go_wp2_with fail
  refine (payload_ _ _ w7 HWd.out n7 hn7 hb7).mono ?_
  rintro e w8 ⟨A8, c8, rfl, HO, z8, rfl⟩
  go_wp2_with fail
  go_ret2
  exact PfEnd.mk' HP4.out (below_drewN HWd.out.bel _) HO.out hn7.out
end

end Go.Proofs.Ytggcnepdeaijoaa

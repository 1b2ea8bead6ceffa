/- ZZPutParams, impl.PutParams. Conditions: the variables of netip read as told; the parameters can be written. -/
import Derived.Test.YtdjdcpcomhjnjaaDoorZp
import Derived.Test.YtdjdcpcomhjnjaaDoorUmf
namespace Go.Proofs.YtdjdcpcomhjnjaaDoor
open Go.RowKit
set_option linter.unusedVariables false
set_option linter.unusedSimpArgs false
/-- AddrFromSlice of four bytes, or of none. -/
theorem afA4 (a4 a6 : Addr) (A : Option Addr) (n c : Nat) (v : List Int) (w : World) (hr : Rt w (A, n, c) v) (hg : Gl w a4 a6) (hl : v = [] ∨ v.length = 4) :
    Calls Tryd.prog 34 #[.slice A n c] w fun e w' => ∃ (hi lo : Int) (z : Option Addr) (y : Bool), e = .returned (.tuple #[.agg #[.int .u64 hi, .int .u64 lo, .pointer z], .bool y]) ∧ Hid (Below w.heap.size w w' ∧ ∀ p, 0 ≤ p → p ≤ 65535 → (v = [] → p = 0) → Ad4 a4 ⟨hi, lo, z, p⟩ v p) := by
  have hn : v.length = n := hr.2.1
  rcases hl with rfl | hl
  · obtain rfl : n = 0 := by simpa using hn.symm
    refine (afs0 A c w).mono ?_
    rintro e w' ⟨rfl, hb⟩
    exact ⟨0, 0, none, false, rfl, hb.out, fun p _ _ h => .inl ⟨rfl, by rw [h rfl]; rfl, h rfl⟩⟩
  · obtain rfl : n = 4 := by omega
    obtain ⟨b, o, rfl, hc⟩ := hr.1.2 (by show 0 < v.length; omega)
    have hb := hr.1.1
    match v, hl, hc, hb with
    | [x0, x1, x2, x3], _, hc, hb =>
      refine (afs4 a4 a6 b o c x0 x1 x2 x3 (hb.at 0) (hb.at 1) (hb.at 2) (hb.at 3) w hg (hc 0 (by simp)) (hc 1 (by simp)) (hc 2 (by simp)) (hc 3 (by simp))).mono ?_
      rintro e w' ⟨rfl, h⟩
      exact ⟨_, _, _, _, rfl, h.out, fun p h0 h1 _ => .inr ⟨x0, x1, x2, x3, ⟨hb.at 0, hb.at 1, hb.at 2, hb.at 3⟩, ⟨h0, h1⟩, rfl, rfl⟩⟩
theorem afA6 (a4 a6 : Addr) (A : Option Addr) (n c : Nat) (v : List Int) (w : World) (hr : Rt w (A, n, c) v) (hg : Gl w a4 a6) (hl : v = [] ∨ v.length = 16) :
    Calls Tryd.prog 34 #[.slice A n c] w fun e w' => ∃ (hi lo : Int) (z : Option Addr) (y : Bool), e = .returned (.tuple #[.agg #[.int .u64 hi, .int .u64 lo, .pointer z], .bool y]) ∧ Hid (Below w.heap.size w w' ∧ ∀ p, 0 ≤ p → p ≤ 65535 → (v = [] → p = 0) → Ad6 a6 ⟨hi, lo, z, p⟩ v p) := by
  have hn : v.length = n := hr.2.1
  rcases hl with rfl | hl
  · obtain rfl : n = 0 := by simpa using hn.symm
    refine (afs0 A c w).mono ?_
    rintro e w' ⟨rfl, hb⟩
    exact ⟨0, 0, none, false, rfl, hb.out, fun p _ _ h => .inl ⟨rfl, by rw [h rfl]; rfl, h rfl⟩⟩
  · obtain rfl : n = 16 := by omega
    obtain ⟨b, o, rfl, hc⟩ := hr.1.2 (by show 0 < v.length; omega)
    have hb := hr.1.1
    match v, hl, hc, hb with
    | [x0, x1, x2, x3, x4, x5, x6, x7, x8, x9, x10, x11, x12, x13, x14, x15], _, hc, hb =>
      refine (afs16 a4 a6 b o c x0 x1 x2 x3 x4 x5 x6 x7 x8 x9 x10 x11 x12 x13 x14 x15 (hb.at 0) (hb.at 1) (hb.at 2) (hb.at 3) (hb.at 4) (hb.at 5) (hb.at 6) (hb.at 7) (hb.at 8) (hb.at 9) (hb.at 10) (hb.at 11) (hb.at 12) (hb.at 13) (hb.at 14) (hb.at 15) w hg (hc 0 (by simp)) (hc 1 (by simp)) (hc 2 (by simp)) (hc 3 (by simp)) (hc 4 (by simp)) (hc 5 (by simp)) (hc 6 (by simp)) (hc 7 (by simp)) (hc 8 (by simp)) (hc 9 (by simp)) (hc 10 (by simp)) (hc 11 (by simp)) (hc 12 (by simp)) (hc 13 (by simp)) (hc 14 (by simp)) (hc 15 (by simp))).mono ?_
      rintro e w' ⟨rfl, h⟩
      exact ⟨_, _, _, _, rfl, h.out, fun p h0 h1 _ => .inr ⟨x0, x1, x2, x3, x4, x5, x6, x7, x8, x9, x10, x11, x12, x13, x14, x15, ⟨⟨hb.at 0, hb.at 1, hb.at 2, hb.at 3⟩, ⟨hb.at 4, hb.at 5, hb.at 6, hb.at 7⟩, ⟨hb.at 8, hb.at 9, hb.at 10, hb.at 11⟩, ⟨hb.at 12, hb.at 13, hb.at 14, hb.at 15⟩⟩, ⟨h0, h1⟩, rfl, rfl⟩⟩
theorem res_zp (V : Array Value) (w : World) (x : Value) (hy : V[2]? = some x) : (results Tryd.f27 V).run Tryd.prog w = .ok x w := by
  unfold results
  rw [Tryd.results27]
  simp [hy]
theorem wp_lit70 {Pr : Program} {code : Code} {Qq : Exit → Act → World → Prop} {a : Act} {w : World} {P PA PB : Nat} (hs : a.tmps.size = 70) (hd : a.defers = []) (h1 : a.tmps[1]? = some (.pointer (some ⟨P, 0, none⟩))) (h3 : a.tmps[3]? = some (.pointer (some ⟨PA, 0, none⟩))) (h5 : a.tmps[5]? = some (.pointer (some ⟨PB, 0, none⟩))) (h : ∀ f : Nat → Value, Code.wp Pr code Qq ⟨#[f 0, .pointer (some ⟨P, 0, none⟩), f 2, .pointer (some ⟨PA, 0, none⟩), f 4, .pointer (some ⟨PB, 0, none⟩), f 6, f 7, f 8, f 9, f 10, f 11, f 12, f 13, f 14, f 15, f 16, f 17, f 18, f 19, f 20, f 21, f 22, f 23, f 24, f 25, f 26, f 27, f 28, f 29, f 30, f 31, f 32, f 33, f 34, f 35, f 36, f 37, f 38, f 39, f 40, f 41, f 42, f 43, f 44, f 45, f 46, f 47, f 48, f 49, f 50, f 51, f 52, f 53, f 54, f 55, f 56, f 57, f 58, f 59, f 60, f 61, f 62, f 63, f 64, f 65, f 66, f 67, f 68, f 69], []⟩ w) : Code.wp Pr code Qq a w := by
  obtain ⟨f, rfl⟩ := lit70 hs hd h1 h3 h5
  exact h f

/-- The bytes of the laws' parameters. -/
def marq (Q : QP) (S : SP) : List Int := bsec 0 Q.od.1 S.od ++ (nsec 1 0 S.idle ++ (bsec 2 Q.rt.1 S.rt ++ (nsec 3 65527 S.udp ++ (nsec 4 0 S.data ++ (nsec 5 0 S.bl ++ (nsec 6 0 S.br ++ (nsec 7 0 S.un ++ (nsec 8 0 S.sb ++ (nsec 9 0 S.su ++ (nsec 10 3 S.ae ++ (nsec 11 25 S.ad ++ (fsec S.nomig ++ (psec Q.pid.1 S.v4 S.v6 S.pid S.ptok S.p4 S.p6 ++ (nsec 14 2 S.act ++ (bsec 15 Q.is.1 S.is ++ (bsec 16 Q.rs.1 S.rs))))))))))))))))
/-- What the reference says of parameters that can be written. -/
structure Fit (S : SP) : Prop where
  mok : Mok S
  i : S.idle ≤ 4294967296
  d : S.ad ≤ 16384
  e : S.ae ≤ 20
  v : (S.v4 = [] ∧ S.v6 = [] ∧ S.p4 = 0 ∧ S.p6 = 0) ∨ (S.v4.length = 4 ∧ S.v6.length = 16 ∧ (0 ≤ S.p4 ∧ S.p4 ≤ 65535) ∧ (0 ≤ S.p6 ∧ S.p6 ≤ 65535))
def adz : Array Value := #[.int .u64 0, .int .u64 0, .pointer none]
theorem ad_one (hi lo : Int) (z : Option Addr) : (#[.int .u64 hi, .int .u64 lo, .pointer z] : Array Value).all (·.oneCell') = true := by simp [Value.oneCell']
theorem there_na (w : World) : (w.alloc (.cells adz 71 (0, 0))).there w.heap.size 0 3 := there_row (heap_alloc_new w _) (Nat.le_refl 3)
set_option maxRecDepth 1000000 in
set_option maxHeartbeats 8000000 in
/-- ZZPutParams. -/
theorem zp_wp (Q : QP) (S : SP) (w : World) (a4 a6 : Addr) (hq : Qp w Q S) (hf : Fit S) (hg : Gl w a4 a6) :
    Calls Tryd.prog 27 #[.agg Q.cells] w fun e w' => ∃ s, e = .returned s ∧ Hid (Own w.heap.size w' s (marq Q S) ∧ Below w.heap.size w w' ∧ (marq Q S).length ≤ 3000) := by
  have HG := Lib.hid hg
  have HQ := Lib.hid hq
  have HF := Lib.hid hf
  have HB1 : Hid (Below w.heap.size w (w.alloc (.cells Q.cells 49 (0, 0)))) := (Below.refl _ _).alloc (Nat.le_refl _) _
  have HP := Lib.hid (heap_alloc_new w (.cells Q.cells 49 (0, 0)))
  clear hg hq hf
  go_enter Tryd.func27, Tryd.ntmps27
  go_upto_region 1 with fail
  change Code.wp _ _ _ _ (w.alloc (.cells Q.cells 49 (0, 0)))
  obtain ⟨w1, hw1⟩ : ∃ w1, w.alloc (.cells Q.cells 49 (0, 0)) = w1 := ⟨_, rfl⟩
  rw [hw1] at HB1 HP ⊢
  clear hw1
  have u15 : w1.cell? ⟨w.heap.size, 15, none⟩ = some (triV Q.v4) := (cell_of_row _ _ 15 _ _ (0, 0) HP.out).trans rfl
  have hl4 : S.v4 = [] ∨ S.v4.length = 4 := HF.out.v.elim (fun h => .inl h.1) (fun h => .inr h.1)
  have hl6 : S.v6 = [] ∨ S.v6.length = 16 := HF.out.v.elim (fun h => .inl h.2.1) (fun h => .inr h.2.1)
  have HL4 := Lib.hid hl4
  have HL6 := Lib.hid hl6
  clear hl4 hl6
  unfold triV at u15
  go_upto_region 2 with (first | (go_at_call 34; refine (afA4 a4 a6 _ _ _ S.v4 w1 (HQ.out.v4.below HB1.out) (HG.out.below HB1.out (Nat.le_refl _)) HL4.out).mono ?_; rintro e w2 ⟨h4, l4, z4, y4, rfl, H2⟩) | (refine wpList_store_mid (op := ⟨none, .store 71 (.tmp 3) (.tmp 11), _, _, _, none⟩) rfl 71 (.tmp 3) (.tmp 11) rfl w2.heap.size 0 #[.int .u64 h4, .int .u64 l4, .pointer z4] rfl rfl (there_na w2) size_na (ad_one h4 l4 z4) ?_))
  have HA := Lib.hid (setCells_all (w := w2.alloc (.cells adz 71 (0, 0))) (vs := #[.int .u64 h4, .int .u64 l4, .pointer z4]) (heap_alloc_new w2 (.cells adz 71 (0, 0))) rfl).1
  have HBw3 : Hid (Below w2.heap.size w2 ((w2.alloc (.cells adz 71 (0, 0))).setCells w2.heap.size 0 (#[.int .u64 h4, .int .u64 l4, .pointer z4] : Array Value).toList)) := below_setCells (Nat.le_refl _) (Nat.le_refl _) _ _ ((Below.refl _ _).alloc (Nat.le_refl _) _)
  change Code.wp _ _ _ _ ((w2.alloc (.cells adz 71 (0, 0))).setCells w2.heap.size 0 (#[.int .u64 h4, .int .u64 l4, .pointer z4] : Array Value).toList)
  obtain ⟨w3, hw3⟩ : ∃ w3, ((w2.alloc (.cells adz 71 (0, 0))).setCells w2.heap.size 0 (#[.int .u64 h4, .int .u64 l4, .pointer z4] : Array Value).toList) = w3 := ⟨_, rfl⟩
  rw [hw3] at HA HBw3 ⊢
  clear hw3
  have HB3 : Hid (Below w1.heap.size w1 w3) := Lib.hid (H2.out.1.trans (HBw3.out.mono H2.out.1.size))
  have HP := Lib.hid ((HB3.out.block _ (cell_in HP.out)).trans HP.out)
  have HB03 : Hid (Below w.heap.size w w3) := Lib.hid (HB1.out.trans (HB3.out.mono HB1.out.size))
  have u16 : w3.cell? ⟨w.heap.size, 16, none⟩ = some (triV Q.v6) := (cell_of_row _ _ 16 _ _ (0, 0) HP.out).trans rfl
  unfold triV at u16
  clear u15
  go_upto_region 3 with (first | (go_at_call 34; refine (afA6 a4 a6 _ _ _ S.v6 w3 (HQ.out.v6.below HB03.out) (HG.out.below HB03.out (Nat.le_refl _)) HL6.out).mono ?_; rintro e w4 ⟨h6, l6, z6, y6, rfl, H4⟩) | (refine wpList_store_mid (op := ⟨none, .store 71 (.tmp 5) (.tmp 17), _, _, _, none⟩) rfl 71 (.tmp 5) (.tmp 17) rfl w4.heap.size 0 #[.int .u64 h6, .int .u64 l6, .pointer z6] rfl rfl (there_na w4) size_na (ad_one h6 l6 z6) ?_))
  have HC := Lib.hid (setCells_all (w := w4.alloc (.cells adz 71 (0, 0))) (vs := #[.int .u64 h6, .int .u64 l6, .pointer z6]) (heap_alloc_new w4 (.cells adz 71 (0, 0))) rfl).1
  have HBw5 : Hid (Below w4.heap.size w4 ((w4.alloc (.cells adz 71 (0, 0))).setCells w4.heap.size 0 (#[.int .u64 h6, .int .u64 l6, .pointer z6] : Array Value).toList)) := below_setCells (Nat.le_refl _) (Nat.le_refl _) _ _ ((Below.refl _ _).alloc (Nat.le_refl _) _)
  change Code.wp _ _ _ _ ((w4.alloc (.cells adz 71 (0, 0))).setCells w4.heap.size 0 (#[.int .u64 h6, .int .u64 l6, .pointer z6] : Array Value).toList)
  obtain ⟨w5, hw5⟩ : ∃ w5, ((w4.alloc (.cells adz 71 (0, 0))).setCells w4.heap.size 0 (#[.int .u64 h6, .int .u64 l6, .pointer z6] : Array Value).toList) = w5 := ⟨_, rfl⟩
  rw [hw5] at HC HBw5 ⊢
  clear hw5
  have HB5 : Hid (Below w3.heap.size w3 w5) := Lib.hid (H4.out.1.trans (HBw5.out.mono H4.out.1.size))
  have HP := Lib.hid ((HB5.out.block _ (cell_in HP.out)).trans HP.out)
  have HA := Lib.hid ((HB5.out.block _ (cell_in HA.out)).trans HA.out)
  have HB05 : Hid (Below w.heap.size w w5) := Lib.hid (HB03.out.trans (HB5.out.mono HB03.out.size))
  have hq := HQ.out.below HB05.out
  have hv := HF.out.v
  have hp4 : (0 ≤ S.p4 ∧ S.p4 ≤ 65535) ∧ (S.v4 = [] → S.p4 = 0) := by
    rcases hv with ⟨h1, h2, h3, h4⟩ | ⟨h1, h2, h3, h4⟩
    · exact ⟨by omega, fun _ => h3⟩
    · exact ⟨h3, fun e => by rw [e] at h1; simp at h1⟩
  have hp6 : (0 ≤ S.p6 ∧ S.p6 ≤ 65535) ∧ (S.v6 = [] → S.p6 = 0) := by
    rcases hv with ⟨h1, h2, h3, h4⟩ | ⟨h1, h2, h3, h4⟩
    · exact ⟨by omega, fun _ => h4⟩
    · exact ⟨h4, fun e => by rw [e] at h2; simp at h2⟩
  have ha4 := H2.out.2 S.p4 hp4.1.1 hp4.1.2 hp4.2
  have ha6 := H4.out.2 S.p6 hp6.1.1 hp6.1.2 hp6.2
  have hF := HF.out
  have hGl := HG.out.below HB05.out (Nat.le_refl _)
  have hmok := hF.mok
  have hsz : w.heap.size ≤ w5.heap.size := HB05.out.size
  clear H2 H4 u16
  refine wp_lit70 (P := w.heap.size) (PA := w2.heap.size) (PB := w4.heap.size) rfl rfl rfl rfl rfl (fun f => ?_)
  obtain ⟨⟨Aod, nod, cod⟩, ⟨Art, nrt, crt⟩, ⟨Ais, nis, cis⟩, ⟨Ars, nrs, crs⟩, idle, udp, data, bl, br, un, sb, su, ae, ad, nomig, ⟨Av4, nv4, cv4⟩, ⟨Av6, nv6, cv6⟩, p4, p6, ⟨Apid, npid, cpid⟩, ⟨Aptok, nptok, cptok⟩, act⟩ := Q
  obtain rfl : idle = S.idle := hq.idle
  obtain rfl : ad = S.ad := hq.ad
  obtain rfl : ae = S.ae := hq.ae
  obtain rfl : p4 = S.p4 := hq.p4
  obtain rfl : p6 = S.p6 := hq.p6
  refine wp_then (E := fun _ _ => False) (K := fun a' w' => ∃ s, a'.tmps[2]? = some s ∧ a'.defers = [] ∧ Own w5.heap.size w' s (mar ⟨(Aod, nod, cod), S.idle * 1000000, (Art, nrt, crt), udp, data, bl, br, un, sb, su, S.ae, S.ad * 1000000, nomig, ⟨h4, l4, z4, S.p4⟩, ⟨h6, l6, z6, S.p6⟩, (Apid, npid, cpid), (Aptok, nptok, cptok), act, (Ais, nis, cis), (Ars, nrs, crs)⟩ S) ∧ Below w5.heap.size w5 w' ∧ (mar ⟨(Aod, nod, cod), S.idle * 1000000, (Art, nrt, crt), udp, data, bl, br, un, sb, su, S.ae, S.ad * 1000000, nomig, ⟨h4, l4, z4, S.p4⟩, ⟨h6, l6, z6, S.p6⟩, (Apid, npid, cpid), (Aptok, nptok, cptok), act, (Ais, nis, cis), (Ars, nrs, crs)⟩ S).length ≤ 3000) (zp3_wp (S := S) (a4 := a4) (a6 := a6) f HP.out HA.out HC.out ?ht hmok hGl (by first | exact hmok.idle.1 | omega) (by first | exact hF.i | omega) (by first | exact hmok.ad.1 | omega) (by first | exact hF.d | omega) (by first | exact hmok.ae.1 | omega) (by first | exact hF.e | omega) hp4.1.1 hp4.1.2 hp6.1.1 hp6.1.2 (fun a' w' s k1 k2 k3 k4 k5 => ⟨s, k1, k2, k3, k4, k5⟩)) (fun _ _ h => h.elim) ?_
  case ht =>
    exact { od := hq.od, rt := hq.rt, is := hq.is, rs := hq.rs, pid := hq.pid, ptok := hq.ptok, idle := rfl, ad := rfl, udp := hq.udp, data := hq.data, bl := hq.bl, br := hq.br, un := hq.un, sb := hq.sb, su := hq.su, ae := rfl, act := hq.act, nomig := hq.nomig, v4 := ha4, v6 := ha6 }
  rintro a' w' ⟨s, k1, k2, k3, k4, k5⟩
  simp only [Exit.then]
  go_wp2_with fail
  refine bodyPost_ret (v := s) (res_zp _ _ _ k1) k2 ?_
  exact ⟨s, rfl, k3.lower hsz, HB05.out.trans (k4.mono hsz), k5⟩

theorem res_ip (V : Array Value) (w : World) (x : Value) (hy : V[2]? = some x) : (results Tryd.f14 V).run Tryd.prog w = .ok x w := by
  unfold results
  rw [Tryd.results14]
  simp [hy]
set_option maxRecDepth 1000000 in
set_option maxHeartbeats 8000000 in
/-- impl.PutParams. -/
theorem ip_wp (Q : QP) (S : SP) (w : World) (a4 a6 : Addr) (hq : Qp w Q S) (hf : Fit S) (hg : Gl w a4 a6) :
    Calls Tryd.prog 14 #[.agg Q.cells] w fun e w' => ∃ s, e = .returned s ∧ Hid (Own w.heap.size w' s (marq Q S) ∧ Below w.heap.size w w' ∧ (marq Q S).length ≤ 3000) := by
  have HB1 : Hid (Below w.heap.size w (w.alloc (.cells Q.cells 27 (0, 0)))) := (Below.refl _ _).alloc (Nat.le_refl _) _
  have HP := Lib.hid (heap_alloc_new w (.cells Q.cells 27 (0, 0)))
  have HQ := Lib.hid (hq.below HB1.out)
  have HG := Lib.hid (hg.below HB1.out (Nat.le_refl _))
  have HF := Lib.hid hf
  clear hq hg hf
  go_enter Tryd.func14, Tryd.ntmps14
  go_upto_region 1 with fail
  change Code.wp _ _ _ _ (w.alloc (.cells Q.cells 27 (0, 0)))
  obtain ⟨w1, hw1⟩ : ∃ w1, w.alloc (.cells Q.cells 27 (0, 0)) = w1 := ⟨_, rfl⟩
  rw [hw1] at HB1 HP HQ HG ⊢
  clear hw1
  refine wp_region_lit ?_
  refine wpList_load_mid (op := ⟨some 3, .load 27 (.tmp 1), _, _, _, none⟩) rfl 27 (.tmp 1) rfl w.heap.size 0 rfl Q.cells.toList _ (range_row HP.out) Tryd.underlying27 rfl (size_iq.trans (congrArg some (QP.size Q).symm)) ?_
  go_wp2_with (go_at_call 27; refine (zp_wp Q S w1 a4 a6 HQ.out HF.out HG.out).mono ?_; rintro e w2 ⟨s, rfl, H2⟩)
  refine bodyPost_ret (v := s) (res_ip _ _ _ rfl) rfl ?_
  exact ⟨s, rfl, H2.out.1.lower HB1.out.size, HB1.out.trans (H2.out.2.1.mono HB1.out.size), H2.out.2.2⟩

end Go.Proofs.YtdjdcpcomhjnjaaDoor

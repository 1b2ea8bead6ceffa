/- spec.Chosen: its frame, its state. spec.Chosen: its first loop. spec.Chosen: the usual parameters; the pieces of its second loop. spec.Chosen: its second loop. spec.Chosen: its second loop, whole. Conditions: as each part says. -/
import Derived.Test.YtdjdcpcomhjnjaaDoorPuB
import Derived.Test.YtdjdcpcomhjnjaaDoorKqA
import Derived.Test.YtdjdcpcomhjnjaaDoorFit
import Derived.Deep.DeepCutAuto
import Derived.Test.YtdjdcpcomhjnjaaDoorSp
namespace Go.Proofs.YtdjdcpcomhjnjaaDoor
section
open Go.RowKit
set_option linter.unusedVariables false
set_option linter.unusedSimpArgs false
/-- The variables, the parameters. -/
structure Px (B P PN PT PF PL PA : Nat) (A : Option Addr) (n c : Nat) (wi w0 : World) (Qq : QP) (SS : SP) : Prop where
  cx : Cx B PN PT PF PL PA A n c w0
  pn : P < PN
  hp : w0.heap[P]? = some (.cells Qq.cells 24 (0, 0))
  hq : Qp wi Qq SS
  hb : Below wi.heap.size wi w0
  le : wi.heap.size ≤ P
  fq : Fq Qq SS
  fv : Qq.v4.1 = none ↔ Qq.pid.1 = none
/-- What is laid by: the parameters ps, in at most k rounds. -/
def St (w0 : World) (B PT PA k : Nat) (w : World) (ps : List (Int × List Int)) : Prop := ∃ (N : Nat) (t : Int) (S : Value) (ts : List Tri) (bs : List (List Int)), Cw w0 B PT PA N w t S ts bs ∧ allP ps bs ∧ t ≤ 20 * (k : Int) ∧ ts.length ≤ k
theorem Rt.alloc {w : World} {t : Tri} {d : List Int} (h : Rt w t d) (o : Obj) : Rt (w.alloc o) t d := ⟨h.1.alloc o, h.2⟩
theorem allP_snoc : ∀ {ps : List (Int × List Int)} {bs : List (List Int)} {p : Int × List Int} {b : List Int}, allP ps bs → isP p b → allP (ps ++ [p]) (bs ++ [b])
  | [], [], p, b, _, h => ⟨h, trivial⟩
  | q :: ps, d :: bs, p, b, ⟨h1, h2⟩, h => ⟨h1, allP_snoc h2 h⟩
theorem allP_len : ∀ {ps : List (Int × List Int)} {bs : List (List Int)}, allP ps bs → ps.length = bs.length
  | [], [], _ => rfl
  | q :: ps, d :: bs, ⟨h1, h2⟩ => by simp [allP_len h2]
/-- The frame. -/
structure Fx (a : Act) (P PT PF PL PA : Nat) : Prop where
  sz : a.tmps.size = 195
  df : a.defers = []
  t2 : a.tmps[2]? = some (.pointer (some ⟨P, 0, none⟩))
  t5 : a.tmps[5]? = some (.pointer (some ⟨PT, 0, none⟩))
  t6 : a.tmps[6]? = some (.pointer (some ⟨PF, 0, none⟩))
  t7 : a.tmps[7]? = some (.pointer (some ⟨PL, 0, none⟩))
  t8 : a.tmps[8]? = some (.pointer (some ⟨PA, 0, none⟩))
  t9 : a.tmps[9]? = some (.func (Fn.func 26) #[] #[.pointer (some ⟨PA, 0, none⟩), .pointer (some ⟨PL, 0, none⟩)])
set_option maxRecDepth 100000 in
theorem lit195 {a : Act} {P PT PF PL PA : Nat} (hs : a.tmps.size = 195) (hd : a.defers = []) (h2 : a.tmps[2]? = some (.pointer (some ⟨P, 0, none⟩))) (h5 : a.tmps[5]? = some (.pointer (some ⟨PT, 0, none⟩))) (h6 : a.tmps[6]? = some (.pointer (some ⟨PF, 0, none⟩))) (h7 : a.tmps[7]? = some (.pointer (some ⟨PL, 0, none⟩))) (h8 : a.tmps[8]? = some (.pointer (some ⟨PA, 0, none⟩))) (h9 : a.tmps[9]? = some (.func (Fn.func 26) #[] #[.pointer (some ⟨PA, 0, none⟩), .pointer (some ⟨PL, 0, none⟩)])) : ∃ f : Nat → Value, a = ⟨#[f 0, f 1, .pointer (some ⟨P, 0, none⟩), f 3, f 4, .pointer (some ⟨PT, 0, none⟩), .pointer (some ⟨PF, 0, none⟩), .pointer (some ⟨PL, 0, none⟩), .pointer (some ⟨PA, 0, none⟩), .func (Fn.func 26) #[] #[.pointer (some ⟨PA, 0, none⟩), .pointer (some ⟨PL, 0, none⟩)], f 10, f 11, f 12, f 13, f 14, f 15, f 16, f 17, f 18, f 19, f 20, f 21, f 22, f 23, f 24, f 25, f 26, f 27, f 28, f 29, f 30, f 31, f 32, f 33, f 34, f 35, f 36, f 37, f 38, f 39, f 40, f 41, f 42, f 43, f 44, f 45, f 46, f 47, f 48, f 49, f 50, f 51, f 52, f 53, f 54, f 55, f 56, f 57, f 58, f 59, f 60, f 61, f 62, f 63, f 64, f 65, f 66, f 67, f 68, f 69, f 70, f 71, f 72, f 73, f 74, f 75, f 76, f 77, f 78, f 79, f 80, f 81, f 82, f 83, f 84, f 85, f 86, f 87, f 88, f 89, f 90, f 91, f 92, f 93, f 94, f 95, f 96, f 97, f 98, f 99, f 100, f 101, f 102, f 103, f 104, f 105, f 106, f 107, f 108, f 109, f 110, f 111, f 112, f 113, f 114, f 115, f 116, f 117, f 118, f 119, f 120, f 121, f 122, f 123, f 124, f 125, f 126, f 127, f 128, f 129, f 130, f 131, f 132, f 133, f 134, f 135, f 136, f 137, f 138, f 139, f 140, f 141, f 142, f 143, f 144, f 145, f 146, f 147, f 148, f 149, f 150, f 151, f 152, f 153, f 154, f 155, f 156, f 157, f 158, f 159, f 160, f 161, f 162, f 163, f 164, f 165, f 166, f 167, f 168, f 169, f 170, f 171, f 172, f 173, f 174, f 175, f 176, f 177, f 178, f 179, f 180, f 181, f 182, f 183, f 184, f 185, f 186, f 187, f 188, f 189, f 190, f 191, f 192, f 193, f 194], []⟩ := by
  obtain ⟨f, hf, e⟩ := lit_ofN 195 a hs hd
  have e2 := (hf 2 (by decide)).symm.trans h2
  have e5 := (hf 5 (by decide)).symm.trans h5
  have e6 := (hf 6 (by decide)).symm.trans h6
  have e7 := (hf 7 (by decide)).symm.trans h7
  have e8 := (hf 8 (by decide)).symm.trans h8
  have e9 := (hf 9 (by decide)).symm.trans h9
  simp only [Option.some.injEq] at e2 e5 e6 e7 e8 e9
  refine ⟨f, ?_⟩
  have hl : ((List.range 195).map f).toArray = #[f 0, f 1, f 2, f 3, f 4, f 5, f 6, f 7, f 8, f 9, f 10, f 11, f 12, f 13, f 14, f 15, f 16, f 17, f 18, f 19, f 20, f 21, f 22, f 23, f 24, f 25, f 26, f 27, f 28, f 29, f 30, f 31, f 32, f 33, f 34, f 35, f 36, f 37, f 38, f 39, f 40, f 41, f 42, f 43, f 44, f 45, f 46, f 47, f 48, f 49, f 50, f 51, f 52, f 53, f 54, f 55, f 56, f 57, f 58, f 59, f 60, f 61, f 62, f 63, f 64, f 65, f 66, f 67, f 68, f 69, f 70, f 71, f 72, f 73, f 74, f 75, f 76, f 77, f 78, f 79, f 80, f 81, f 82, f 83, f 84, f 85, f 86, f 87, f 88, f 89, f 90, f 91, f 92, f 93, f 94, f 95, f 96, f 97, f 98, f 99, f 100, f 101, f 102, f 103, f 104, f 105, f 106, f 107, f 108, f 109, f 110, f 111, f 112, f 113, f 114, f 115, f 116, f 117, f 118, f 119, f 120, f 121, f 122, f 123, f 124, f 125, f 126, f 127, f 128, f 129, f 130, f 131, f 132, f 133, f 134, f 135, f 136, f 137, f 138, f 139, f 140, f 141, f 142, f 143, f 144, f 145, f 146, f 147, f 148, f 149, f 150, f 151, f 152, f 153, f 154, f 155, f 156, f 157, f 158, f 159, f 160, f 161, f 162, f 163, f 164, f 165, f 166, f 167, f 168, f 169, f 170, f 171, f 172, f 173, f 174, f 175, f 176, f 177, f 178, f 179, f 180, f 181, f 182, f 183, f 184, f 185, f 186, f 187, f 188, f 189, f 190, f 191, f 192, f 193, f 194] := by kernel_rfl
  rw [e, hl, e2, e5, e6, e7, e8, e9]
section
variable {B P PN PT PF PL PA : Nat} {A : Option Addr} {n c : Nat} {wi w0 w : World} {Qq : QP} {SS : SP}
theorem Px.bel (x : Px B P PN PT PF PL PA A n c wi w0 Qq SS) (h : Two B PT PA w0 w) : Below wi.heap.size wi w := by
  have h1 := x.le; have h2 := x.pn; have h3 := x.cx.o1; have h4 := x.cx.o2; have h5 := x.cx.o3; have h6 := x.cx.o4; have h7 := x.cx.o5
  exact ⟨h.os.trans x.hb.os, h.tape.trans x.hb.tape, h.output.trans x.hb.output, Nat.le_trans x.hb.size h.size, fun i hi => (h.block i (by omega) (by omega) (by omega)).trans (x.hb.block i hi)⟩
theorem Px.pc (x : Px B P PN PT PF PL PA A n c wi w0 Qq SS) (h : Two B PT PA w0 w) {i : Nat} {v : Value} (hv : Qq.cells[i]? = some v) : w.cell? ⟨P, i, none⟩ = some v := by
  have h2 := x.pn; have h3 := x.cx.o1; have h4 := x.cx.o2; have h5 := x.cx.o3; have h6 := x.cx.o4; have h7 := x.cx.o5
  rw [h.cell (by omega) (by omega) (by omega), cell_of_row _ _ _ _ _ (0, 0) x.hp]
  exact hv
theorem Px.rt (x : Px B P PN PT PF PL PA A n c wi w0 Qq SS) (h : Two B PT PA w0 w) {t : Tri} {d : List Int} (hr : Rt wi t d) : Rt w t d := hr.below (x.bel h)
/-- Bytes of the caller's are not the place in the numbers. -/
theorem Px.sep (x : Px B P PN PT PF PL PA A n c wi w0 Qq SS) {t : Tri} {d : List Int} (hr : Rt wi t d) : 0 < d.length → Sep t.1 (some PT) := fun hl a ha e => by
  have h1 := x.le; have h2 := x.pn; have h3 := x.cx.o1
  have h4 := rd_lt hr.1 hl a ha
  have : PT = a.block := by simpa using e
  omega
end
end

section
open Go.RowKit
set_option linter.unusedVariables false
set_option linter.unusedSimpArgs false
def ids4 : List Int := [0, 2, 15, 16]
def tri4 (Q : QP) : List Tri := [Q.od, Q.rt, Q.is, Q.rs]
def dat4 (S : SP) : List (List Int) := [S.od, S.rt, S.is, S.rs]
def bos (Q : QP) (S : SP) : Nat → List (Int × List Int)
  | 0 => []
  | 1 => bo 0 Q.od.1 S.od
  | 2 => bo 0 Q.od.1 S.od ++ bo 2 Q.rt.1 S.rt
  | 3 => bo 0 Q.od.1 S.od ++ bo 2 Q.rt.1 S.rt ++ bo 15 Q.is.1 S.is
  | _ => bo 0 Q.od.1 S.od ++ bo 2 Q.rt.1 S.rt ++ bo 15 Q.is.1 S.is ++ bo 16 Q.rs.1 S.rs
theorem one4 {wi : World} {Q : QP} {S : SP} (hq : Qp wi Q S) (hf : Fq Q S) {q : Nat} (h : q < 4) : ∃ (id : Int) (An : Option Addr) (m cv : Nat) (d : List Int), ids4[q]? = some id ∧ (tri4 Q)[q]? = some (An, m, cv) ∧ Rt wi (An, m, cv) d ∧ bos Q S (q + 1) = bos Q S q ++ bo id An d ∧ 0 ≤ id ∧ id ≤ 16 ∧ m ≤ 1000 := by
  have l0 := hq.od.2.1; have l1 := hq.rt.2.1; have l2 := hq.is.2.1; have l3 := hq.rs.2.1
  have h0 := hf.od; have h2 := hf.is; have h3 := hf.rs
  have h1 : S.rt.length ≤ 16 := by
    by_cases e : Q.rt.1 = none
    · rw [hf.rtn e]; simp
    · have := hf.rt e; omega
  rcases (show q = 0 ∨ q = 1 ∨ q = 2 ∨ q = 3 by omega) with rfl | rfl | rfl | rfl
  · exact ⟨0, _, _, _, S.od, rfl, rfl, hq.od, rfl, by omega, by omega, by show Q.od.2.1 ≤ 1000; omega⟩
  · exact ⟨2, _, _, _, S.rt, rfl, rfl, hq.rt, rfl, by omega, by omega, by show Q.rt.2.1 ≤ 1000; omega⟩
  · exact ⟨15, _, _, _, S.is, rfl, rfl, hq.is, rfl, by omega, by omega, by show Q.is.2.1 ≤ 1000; omega⟩
  · exact ⟨16, _, _, _, S.rs, rfl, rfl, hq.rs, rfl, by omega, by omega, by show Q.rs.2.1 ≤ 1000; omega⟩
noncomputable def c6 : Code := cl (cr (cr (cr (cr (cr (cr (Tryd.f13.body.getD .skip)))))))
set_option maxRecDepth 1000000 in
set_option maxHeartbeats 8000000 in
/-- The first loop: bytes. -/
theorem c6_wp {B P PN PT PF PL PA : Nat} {A : Option Addr} {n c : Nat} {wi w0 w : World} {Qq : QP} {SS : SP}  (x : Px B P PN PT PF PL PA A n c wi w0 Qq SS) (a : Act) (hf : Fx a P PT PF PL PA) (hst : St w0 B PT PA 0 w [])
    {K : Act → World → Prop} {Q : Exit → Act → World → Prop} (hK : ∀ a' w', Fx a' P PT PF PL PA → St w0 B PT PA 4 w' (bos Qq SS 4) → K a' w') :
    Code.wp Tryd.prog c6 (Exit.then K Q) a w := by
  obtain ⟨f, rfl⟩ := lit195 hf.sz hf.df hf.t2 hf.t5 hf.t6 hf.t7 hf.t8 hf.t9
  clear hf
  conv => arg 2; whnf
  obtain ⟨N, t0, S0, ts0, bs0, hc0, ha0, ht0, hl0⟩ := hst
  have hc := hc0.up
  have hk0 : Kp PT PA w.heap.size (w.heap.size + 1) (w.alloc (.cells #[.slice Qq.od.1 Qq.od.2.1 Qq.od.2.2, .slice Qq.rt.1 Qq.rt.2.1 Qq.rt.2.2, .slice Qq.is.1 Qq.is.2.1 Qq.is.2.2, .slice Qq.rs.1 Qq.rs.2.1 Qq.rs.2.2] 22 (0, 0))) (w.alloc (.cells #[.slice Qq.od.1 Qq.od.2.1 Qq.od.2.2, .slice Qq.rt.1 Qq.rt.2.1 Qq.rt.2.2, .slice Qq.is.1 Qq.is.2.1 Qq.is.2.2, .slice Qq.rs.1 Qq.rs.2.1 Qq.rs.2.2] 22 (0, 0))) S0 := ⟨by show _ ≤ (w.heap.push _).size; simp, fun _ _ _ => rfl, fun k hk => .inl (hc.lo k hk), by have := hc.pp; have := hc.bn; omega⟩
  have hcG := Lib.hid (hc.alloc (.cells #[.slice Qq.od.1 Qq.od.2.1 Qq.od.2.2, .slice Qq.rt.1 Qq.rt.2.1 Qq.rt.2.2, .slice Qq.is.1 Qq.is.2.1 Qq.is.2.2, .slice Qq.rs.1 Qq.rs.2.1 Qq.rs.2.2] 22 (0, 0)))
  have hG := heap_alloc_new w (.cells #[.slice Qq.od.1 Qq.od.2.1 Qq.od.2.2, .slice Qq.rt.1 Qq.rt.2.1 Qq.rt.2.2, .slice Qq.is.1 Qq.is.2.1 Qq.is.2.2, .slice Qq.rs.1 Qq.rs.2.1 Qq.rs.2.2] 22 (0, 0))
  have u0 := x.pc hc.fr (i := 0) (v := .slice Qq.od.1 Qq.od.2.1 Qq.od.2.2) rfl
  have u1 := x.pc hc.fr (i := 1) (v := .slice Qq.rt.1 Qq.rt.2.1 Qq.rt.2.2) rfl
  have u2 := x.pc hc.fr (i := 2) (v := .slice Qq.is.1 Qq.is.2.1 Qq.is.2.2) rfl
  have u3 := x.pc hc.fr (i := 3) (v := .slice Qq.rs.1 Qq.rs.2.1 Qq.rs.2.2) rfl
  have HX := Lib.hid x
  have HK := Lib.hid hK
  have HK0 := Lib.hid hk0
  have HA0 := Lib.hid ha0
  have HG := Lib.hid hG
  have HT0 := Lib.hid ht0
  have HL0 := Lib.hid hl0
  have hBN : B ≤ w.heap.size := hc.bn
  clear hc0 hc hk0 hK x ha0 hG ht0 hl0
  go_upto_block 0 with fail
  change Code.wp _ _ _ _ (w.alloc (.cells #[.slice Qq.od.1 Qq.od.2.1 Qq.od.2.2, .slice Qq.rt.1 Qq.rt.2.1 Qq.rt.2.2, .slice Qq.is.1 Qq.is.2.1 Qq.is.2.2, .slice Qq.rs.1 Qq.rs.2.1 Qq.rs.2.2] 22 (0, 0)))
  obtain ⟨G, hGs⟩ : ∃ G, w.heap.size = G := ⟨_, rfl⟩
  obtain ⟨wG, hwG⟩ : ∃ wG, (w.alloc (.cells #[.slice Qq.od.1 Qq.od.2.1 Qq.od.2.2, .slice Qq.rt.1 Qq.rt.2.1 Qq.rt.2.2, .slice Qq.is.1 Qq.is.2.1 Qq.is.2.2, .slice Qq.rs.1 Qq.rs.2.1 Qq.rs.2.2] 22 (0, 0))) = wG := ⟨_, rfl⟩
  rw [hwG] at hcG HK0 HG ⊢
  rw [hGs] at *
  clear hwG hGs u0 u1 u2 u3
  refine wp_block ?_
  go_loopw [32] (fun i wr => ∃ (q : Nat) (N : Nat) (t : Int) (S : Value) (ts : List Tri) (bs : List (List Int)), q ≤ 4 ∧ i = .int .i64 q ∧ t ≤ 20 * (q : Int) ∧ ts.length ≤ q ∧ Hid (Cw w0 B PT PA N wr t S ts bs) ∧ Hid (allP (bos Qq SS q) bs) ∧ Hid (Kp PT PA G (G + 1) wG wr S)) (fun i _ => 4 - (intOf i).toNat)
  case atStart => exact ⟨0, _, t0, S0, ts0, bs0, by omega, rfl, HT0.out, HL0.out, hcG, HA0, HK0⟩
  case round =>
    clear hcG HK0 HA0 HT0 HL0
    obtain ⟨q, N1, t, S, ts, bs, hq, rfl, ht, hl, HC, HA, HKp⟩ := hrel
    by_cases hq4 : q = 4
    · subst hq4
      go_wp2_with fail
      exact HK.out _ _ ⟨rfl, rfl, rfl, rfl, rfl, rfl, rfl, rfl⟩ ⟨N1, t, S, ts, bs, HC.out, HA.out, ht, hl⟩
    · obtain ⟨id, An, m, cv, d, e1, e2, hr, hb, hi0, hi1, hm⟩ := one4 HX.out.hq HX.out.fq (q := q) (by omega)
      have hGr : wr.heap[G]? = some (.cells #[.slice Qq.od.1 Qq.od.2.1 Qq.od.2.2, .slice Qq.rt.1 Qq.rt.2.1 Qq.rt.2.2, .slice Qq.is.1 Qq.is.2.1 Qq.is.2.2, .slice Qq.rs.1 Qq.rs.2.1 Qq.rs.2.2] 22 (0, 0)) := (HKp.out.blk G (Nat.le_refl _) (by omega)).trans HG.out
      have uq : wr.cell? ⟨G, q, none⟩ = some (.slice An m cv) := by
        rw [cell_of_row _ _ _ _ _ (0, 0) hGr]
        show (((tri4 Qq).map triV).toArray)[q]? = _
        simp [e2, triV]
      have HE := Lib.hid hb
      have HR := Lib.hid hr
      have q0 : (0 : Int) ≤ (q : Int) := by omega
      have q4 : (q : Int) < 4 := by omega
      have hwq : IntKind.i64.wrap ((q : Int) + 1) = (q : Int) + 1 := IntWalk.i64_in _ (by omega)
      have gid : (wr.alloc (.cells #[.int .u64 0, .int .u64 2, .int .u64 15, .int .u64 16] 43 (0, 0))).cell? ⟨wr.heap.size, q, none⟩ = some (.int .u64 id) := by
        rw [cell_of_row _ _ _ _ _ (0, 0) (heap_alloc_new wr _)]
        show ((ids4.map (Value.int .u64)).toArray)[q]? = _
        simp [e1]
      clear e1 e2 hGr hr hb
      cases An with
      | none =>
        go_wp2_with fail
        go_roundw
        case rel => exact ⟨q + 1, N1, t, S, ts, bs, by omega, by go_num, by omega, by omega, HC, by rw [HE.out]; show allP (_ ++ []) _; rw [List.append_nil]; exact HA.out, HKp⟩
        case measure => simp [intOf]; omega
      | some ad =>
        have HPU := Lib.hid (pu_wp (some ad) m cv d HX.out.cx (HC.out.alloc (.cells #[.int .u64 0, .int .u64 2, .int .u64 15, .int .u64 16] 43 (0, 0))) (by omega) hi0 (by omega) ((HX.out.rt HC.out.fr HR.out).alloc _) hm (HX.out.sep HR.out) (by omega))
        go_wp2_with (go_at_call 26; refine HPU.out.mono ?_; rintro e w2 ⟨t2, S2, y, b, rfl, H2⟩)
        have h2a := H2.out.2.1
        go_roundw
        case rel => exact ⟨q + 1, _, t2, S2, ts ++ [y], bs ++ [b], by omega, by go_num, by omega, by rw [List.length_append]; simp; omega, Lib.hid H2.out.2.2.2.1, by rw [HE.out]; exact allP_snoc HA.out H2.out.2.2.1, Lib.hid ((HKp.out.gr (World.grownBy_alloc wr _ none) (.inl rfl)).pg H2.out.2.2.2.2)⟩
        case measure => simp [intOf]; omega
end

section
open Go.RowKit
set_option linter.unusedVariables false
set_option linter.unusedSimpArgs false
structure F2 (a : Act) (P PT PF PL PA : Nat) (U : Nat) : Prop where
  sz : a.tmps.size = 195
  df : a.defers = []
  t2 : a.tmps[2]? = some (.pointer (some ⟨P, 0, none⟩))
  t5 : a.tmps[5]? = some (.pointer (some ⟨PT, 0, none⟩))
  t6 : a.tmps[6]? = some (.pointer (some ⟨PF, 0, none⟩))
  t7 : a.tmps[7]? = some (.pointer (some ⟨PL, 0, none⟩))
  t8 : a.tmps[8]? = some (.pointer (some ⟨PA, 0, none⟩))
  t9 : a.tmps[9]? = some (.func (Fn.func 26) #[] #[.pointer (some ⟨PA, 0, none⟩), .pointer (some ⟨PL, 0, none⟩)])
  t12 : a.tmps[12]? = some (.pointer (some ⟨U, 0, none⟩))
structure F3 (a : Act) (P PT PF PL PA : Nat) (U G : Nat) (q : Nat) : Prop where
  sz : a.tmps.size = 195
  df : a.defers = []
  t2 : a.tmps[2]? = some (.pointer (some ⟨P, 0, none⟩))
  t5 : a.tmps[5]? = some (.pointer (some ⟨PT, 0, none⟩))
  t6 : a.tmps[6]? = some (.pointer (some ⟨PF, 0, none⟩))
  t7 : a.tmps[7]? = some (.pointer (some ⟨PL, 0, none⟩))
  t8 : a.tmps[8]? = some (.pointer (some ⟨PA, 0, none⟩))
  t9 : a.tmps[9]? = some (.func (Fn.func 26) #[] #[.pointer (some ⟨PA, 0, none⟩), .pointer (some ⟨PL, 0, none⟩)])
  t12 : a.tmps[12]? = some (.pointer (some ⟨U, 0, none⟩))
  t70 : a.tmps[70]? = some (.slice (some ⟨G, 0, none⟩) 11 11)
  t71 : a.tmps[71]? = some (.int .i64 11)
  t72 : a.tmps[72]? = some (.int .i64 q)
structure F4 (a : Act) (P PT PF PL PA : Nat) (U G : Nat) (q : Nat) (x : Int) : Prop where
  sz : a.tmps.size = 195
  df : a.defers = []
  t2 : a.tmps[2]? = some (.pointer (some ⟨P, 0, none⟩))
  t5 : a.tmps[5]? = some (.pointer (some ⟨PT, 0, none⟩))
  t6 : a.tmps[6]? = some (.pointer (some ⟨PF, 0, none⟩))
  t7 : a.tmps[7]? = some (.pointer (some ⟨PL, 0, none⟩))
  t8 : a.tmps[8]? = some (.pointer (some ⟨PA, 0, none⟩))
  t9 : a.tmps[9]? = some (.func (Fn.func 26) #[] #[.pointer (some ⟨PA, 0, none⟩), .pointer (some ⟨PL, 0, none⟩)])
  t12 : a.tmps[12]? = some (.pointer (some ⟨U, 0, none⟩))
  t13 : a.tmps[13]? = some (.int .i64 q)
  t14 : a.tmps[14]? = some (.int .i64 x)
  t70 : a.tmps[70]? = some (.slice (some ⟨G, 0, none⟩) 11 11)
  t71 : a.tmps[71]? = some (.int .i64 11)
  t72 : a.tmps[72]? = some (.int .i64 q)
structure F5 (a : Act) (P PT PF PL PA : Nat) (U G : Nat) (q : Nat) (x : Int) (y : Bool) : Prop where
  sz : a.tmps.size = 195
  df : a.defers = []
  t2 : a.tmps[2]? = some (.pointer (some ⟨P, 0, none⟩))
  t5 : a.tmps[5]? = some (.pointer (some ⟨PT, 0, none⟩))
  t6 : a.tmps[6]? = some (.pointer (some ⟨PF, 0, none⟩))
  t7 : a.tmps[7]? = some (.pointer (some ⟨PL, 0, none⟩))
  t8 : a.tmps[8]? = some (.pointer (some ⟨PA, 0, none⟩))
  t9 : a.tmps[9]? = some (.func (Fn.func 26) #[] #[.pointer (some ⟨PA, 0, none⟩), .pointer (some ⟨PL, 0, none⟩)])
  t12 : a.tmps[12]? = some (.pointer (some ⟨U, 0, none⟩))
  t13 : a.tmps[13]? = some (.int .i64 q)
  t14 : a.tmps[14]? = some (.int .i64 x)
  t70 : a.tmps[70]? = some (.slice (some ⟨G, 0, none⟩) 11 11)
  t71 : a.tmps[71]? = some (.int .i64 11)
  t72 : a.tmps[72]? = some (.int .i64 q)
  t97 : a.tmps[97]? = some (.bool y)
set_option maxRecDepth 100000 in
theorem lit3 {a : Act} {P PT PF PL PA U G : Nat} {q : Nat} (hs : a.tmps.size = 195) (hd : a.defers = []) (h2 : a.tmps[2]? = some (.pointer (some ⟨P, 0, none⟩))) (h5 : a.tmps[5]? = some (.pointer (some ⟨PT, 0, none⟩))) (h6 : a.tmps[6]? = some (.pointer (some ⟨PF, 0, none⟩))) (h7 : a.tmps[7]? = some (.pointer (some ⟨PL, 0, none⟩))) (h8 : a.tmps[8]? = some (.pointer (some ⟨PA, 0, none⟩))) (h9 : a.tmps[9]? = some (.func (Fn.func 26) #[] #[.pointer (some ⟨PA, 0, none⟩), .pointer (some ⟨PL, 0, none⟩)])) (h12 : a.tmps[12]? = some (.pointer (some ⟨U, 0, none⟩))) (h70 : a.tmps[70]? = some (.slice (some ⟨G, 0, none⟩) 11 11)) (h71 : a.tmps[71]? = some (.int .i64 11)) (h72 : a.tmps[72]? = some (.int .i64 q)) : ∃ f : Nat → Value, a = ⟨#[f 0, f 1, .pointer (some ⟨P, 0, none⟩), f 3, f 4, .pointer (some ⟨PT, 0, none⟩), .pointer (some ⟨PF, 0, none⟩), .pointer (some ⟨PL, 0, none⟩), .pointer (some ⟨PA, 0, none⟩), .func (Fn.func 26) #[] #[.pointer (some ⟨PA, 0, none⟩), .pointer (some ⟨PL, 0, none⟩)], f 10, f 11, .pointer (some ⟨U, 0, none⟩), f 13, f 14, f 15, f 16, f 17, f 18, f 19, f 20, f 21, f 22, f 23, f 24, f 25, f 26, f 27, f 28, f 29, f 30, f 31, f 32, f 33, f 34, f 35, f 36, f 37, f 38, f 39, f 40, f 41, f 42, f 43, f 44, f 45, f 46, f 47, f 48, f 49, f 50, f 51, f 52, f 53, f 54, f 55, f 56, f 57, f 58, f 59, f 60, f 61, f 62, f 63, f 64, f 65, f 66, f 67, f 68, f 69, .slice (some ⟨G, 0, none⟩) 11 11, .int .i64 11, .int .i64 q, f 73, f 74, f 75, f 76, f 77, f 78, f 79, f 80, f 81, f 82, f 83, f 84, f 85, f 86, f 87, f 88, f 89, f 90, f 91, f 92, f 93, f 94, f 95, f 96, f 97, f 98, f 99, f 100, f 101, f 102, f 103, f 104, f 105, f 106, f 107, f 108, f 109, f 110, f 111, f 112, f 113, f 114, f 115, f 116, f 117, f 118, f 119, f 120, f 121, f 122, f 123, f 124, f 125, f 126, f 127, f 128, f 129, f 130, f 131, f 132, f 133, f 134, f 135, f 136, f 137, f 138, f 139, f 140, f 141, f 142, f 143, f 144, f 145, f 146, f 147, f 148, f 149, f 150, f 151, f 152, f 153, f 154, f 155, f 156, f 157, f 158, f 159, f 160, f 161, f 162, f 163, f 164, f 165, f 166, f 167, f 168, f 169, f 170, f 171, f 172, f 173, f 174, f 175, f 176, f 177, f 178, f 179, f 180, f 181, f 182, f 183, f 184, f 185, f 186, f 187, f 188, f 189, f 190, f 191, f 192, f 193, f 194], []⟩ := by
  obtain ⟨f, hf, e⟩ := lit_ofN 195 a hs hd
  have e2 := (hf 2 (by decide)).symm.trans h2
  have e5 := (hf 5 (by decide)).symm.trans h5
  have e6 := (hf 6 (by decide)).symm.trans h6
  have e7 := (hf 7 (by decide)).symm.trans h7
  have e8 := (hf 8 (by decide)).symm.trans h8
  have e9 := (hf 9 (by decide)).symm.trans h9
  have e12 := (hf 12 (by decide)).symm.trans h12
  have e70 := (hf 70 (by decide)).symm.trans h70
  have e71 := (hf 71 (by decide)).symm.trans h71
  have e72 := (hf 72 (by decide)).symm.trans h72
  simp only [Option.some.injEq] at e2 e5 e6 e7 e8 e9 e12 e70 e71 e72
  refine ⟨f, ?_⟩
  have hl : ((List.range 195).map f).toArray = #[f 0, f 1, f 2, f 3, f 4, f 5, f 6, f 7, f 8, f 9, f 10, f 11, f 12, f 13, f 14, f 15, f 16, f 17, f 18, f 19, f 20, f 21, f 22, f 23, f 24, f 25, f 26, f 27, f 28, f 29, f 30, f 31, f 32, f 33, f 34, f 35, f 36, f 37, f 38, f 39, f 40, f 41, f 42, f 43, f 44, f 45, f 46, f 47, f 48, f 49, f 50, f 51, f 52, f 53, f 54, f 55, f 56, f 57, f 58, f 59, f 60, f 61, f 62, f 63, f 64, f 65, f 66, f 67, f 68, f 69, f 70, f 71, f 72, f 73, f 74, f 75, f 76, f 77, f 78, f 79, f 80, f 81, f 82, f 83, f 84, f 85, f 86, f 87, f 88, f 89, f 90, f 91, f 92, f 93, f 94, f 95, f 96, f 97, f 98, f 99, f 100, f 101, f 102, f 103, f 104, f 105, f 106, f 107, f 108, f 109, f 110, f 111, f 112, f 113, f 114, f 115, f 116, f 117, f 118, f 119, f 120, f 121, f 122, f 123, f 124, f 125, f 126, f 127, f 128, f 129, f 130, f 131, f 132, f 133, f 134, f 135, f 136, f 137, f 138, f 139, f 140, f 141, f 142, f 143, f 144, f 145, f 146, f 147, f 148, f 149, f 150, f 151, f 152, f 153, f 154, f 155, f 156, f 157, f 158, f 159, f 160, f 161, f 162, f 163, f 164, f 165, f 166, f 167, f 168, f 169, f 170, f 171, f 172, f 173, f 174, f 175, f 176, f 177, f 178, f 179, f 180, f 181, f 182, f 183, f 184, f 185, f 186, f 187, f 188, f 189, f 190, f 191, f 192, f 193, f 194] := by kernel_rfl
  rw [e, hl, e2, e5, e6, e7, e8, e9, e12, e70, e71, e72]
set_option maxRecDepth 100000 in
theorem lit4 {a : Act} {P PT PF PL PA U G : Nat} {q : Nat} {x : Int} (hs : a.tmps.size = 195) (hd : a.defers = []) (h2 : a.tmps[2]? = some (.pointer (some ⟨P, 0, none⟩))) (h5 : a.tmps[5]? = some (.pointer (some ⟨PT, 0, none⟩))) (h6 : a.tmps[6]? = some (.pointer (some ⟨PF, 0, none⟩))) (h7 : a.tmps[7]? = some (.pointer (some ⟨PL, 0, none⟩))) (h8 : a.tmps[8]? = some (.pointer (some ⟨PA, 0, none⟩))) (h9 : a.tmps[9]? = some (.func (Fn.func 26) #[] #[.pointer (some ⟨PA, 0, none⟩), .pointer (some ⟨PL, 0, none⟩)])) (h12 : a.tmps[12]? = some (.pointer (some ⟨U, 0, none⟩))) (h13 : a.tmps[13]? = some (.int .i64 q)) (h14 : a.tmps[14]? = some (.int .i64 x)) (h70 : a.tmps[70]? = some (.slice (some ⟨G, 0, none⟩) 11 11)) (h71 : a.tmps[71]? = some (.int .i64 11)) (h72 : a.tmps[72]? = some (.int .i64 q)) : ∃ f : Nat → Value, a = ⟨#[f 0, f 1, .pointer (some ⟨P, 0, none⟩), f 3, f 4, .pointer (some ⟨PT, 0, none⟩), .pointer (some ⟨PF, 0, none⟩), .pointer (some ⟨PL, 0, none⟩), .pointer (some ⟨PA, 0, none⟩), .func (Fn.func 26) #[] #[.pointer (some ⟨PA, 0, none⟩), .pointer (some ⟨PL, 0, none⟩)], f 10, f 11, .pointer (some ⟨U, 0, none⟩), .int .i64 q, .int .i64 x, f 15, f 16, f 17, f 18, f 19, f 20, f 21, f 22, f 23, f 24, f 25, f 26, f 27, f 28, f 29, f 30, f 31, f 32, f 33, f 34, f 35, f 36, f 37, f 38, f 39, f 40, f 41, f 42, f 43, f 44, f 45, f 46, f 47, f 48, f 49, f 50, f 51, f 52, f 53, f 54, f 55, f 56, f 57, f 58, f 59, f 60, f 61, f 62, f 63, f 64, f 65, f 66, f 67, f 68, f 69, .slice (some ⟨G, 0, none⟩) 11 11, .int .i64 11, .int .i64 q, f 73, f 74, f 75, f 76, f 77, f 78, f 79, f 80, f 81, f 82, f 83, f 84, f 85, f 86, f 87, f 88, f 89, f 90, f 91, f 92, f 93, f 94, f 95, f 96, f 97, f 98, f 99, f 100, f 101, f 102, f 103, f 104, f 105, f 106, f 107, f 108, f 109, f 110, f 111, f 112, f 113, f 114, f 115, f 116, f 117, f 118, f 119, f 120, f 121, f 122, f 123, f 124, f 125, f 126, f 127, f 128, f 129, f 130, f 131, f 132, f 133, f 134, f 135, f 136, f 137, f 138, f 139, f 140, f 141, f 142, f 143, f 144, f 145, f 146, f 147, f 148, f 149, f 150, f 151, f 152, f 153, f 154, f 155, f 156, f 157, f 158, f 159, f 160, f 161, f 162, f 163, f 164, f 165, f 166, f 167, f 168, f 169, f 170, f 171, f 172, f 173, f 174, f 175, f 176, f 177, f 178, f 179, f 180, f 181, f 182, f 183, f 184, f 185, f 186, f 187, f 188, f 189, f 190, f 191, f 192, f 193, f 194], []⟩ := by
  obtain ⟨f, hf, e⟩ := lit_ofN 195 a hs hd
  have e2 := (hf 2 (by decide)).symm.trans h2
  have e5 := (hf 5 (by decide)).symm.trans h5
  have e6 := (hf 6 (by decide)).symm.trans h6
  have e7 := (hf 7 (by decide)).symm.trans h7
  have e8 := (hf 8 (by decide)).symm.trans h8
  have e9 := (hf 9 (by decide)).symm.trans h9
  have e12 := (hf 12 (by decide)).symm.trans h12
  have e13 := (hf 13 (by decide)).symm.trans h13
  have e14 := (hf 14 (by decide)).symm.trans h14
  have e70 := (hf 70 (by decide)).symm.trans h70
  have e71 := (hf 71 (by decide)).symm.trans h71
  have e72 := (hf 72 (by decide)).symm.trans h72
  simp only [Option.some.injEq] at e2 e5 e6 e7 e8 e9 e12 e13 e14 e70 e71 e72
  refine ⟨f, ?_⟩
  have hl : ((List.range 195).map f).toArray = #[f 0, f 1, f 2, f 3, f 4, f 5, f 6, f 7, f 8, f 9, f 10, f 11, f 12, f 13, f 14, f 15, f 16, f 17, f 18, f 19, f 20, f 21, f 22, f 23, f 24, f 25, f 26, f 27, f 28, f 29, f 30, f 31, f 32, f 33, f 34, f 35, f 36, f 37, f 38, f 39, f 40, f 41, f 42, f 43, f 44, f 45, f 46, f 47, f 48, f 49, f 50, f 51, f 52, f 53, f 54, f 55, f 56, f 57, f 58, f 59, f 60, f 61, f 62, f 63, f 64, f 65, f 66, f 67, f 68, f 69, f 70, f 71, f 72, f 73, f 74, f 75, f 76, f 77, f 78, f 79, f 80, f 81, f 82, f 83, f 84, f 85, f 86, f 87, f 88, f 89, f 90, f 91, f 92, f 93, f 94, f 95, f 96, f 97, f 98, f 99, f 100, f 101, f 102, f 103, f 104, f 105, f 106, f 107, f 108, f 109, f 110, f 111, f 112, f 113, f 114, f 115, f 116, f 117, f 118, f 119, f 120, f 121, f 122, f 123, f 124, f 125, f 126, f 127, f 128, f 129, f 130, f 131, f 132, f 133, f 134, f 135, f 136, f 137, f 138, f 139, f 140, f 141, f 142, f 143, f 144, f 145, f 146, f 147, f 148, f 149, f 150, f 151, f 152, f 153, f 154, f 155, f 156, f 157, f 158, f 159, f 160, f 161, f 162, f 163, f 164, f 165, f 166, f 167, f 168, f 169, f 170, f 171, f 172, f 173, f 174, f 175, f 176, f 177, f 178, f 179, f 180, f 181, f 182, f 183, f 184, f 185, f 186, f 187, f 188, f 189, f 190, f 191, f 192, f 193, f 194] := by kernel_rfl
  rw [e, hl, e2, e5, e6, e7, e8, e9, e12, e13, e14, e70, e71, e72]
set_option maxRecDepth 100000 in
theorem lit5 {a : Act} {P PT PF PL PA U G : Nat} {q : Nat} {x : Int} {y : Bool} (hs : a.tmps.size = 195) (hd : a.defers = []) (h2 : a.tmps[2]? = some (.pointer (some ⟨P, 0, none⟩))) (h5 : a.tmps[5]? = some (.pointer (some ⟨PT, 0, none⟩))) (h6 : a.tmps[6]? = some (.pointer (some ⟨PF, 0, none⟩))) (h7 : a.tmps[7]? = some (.pointer (some ⟨PL, 0, none⟩))) (h8 : a.tmps[8]? = some (.pointer (some ⟨PA, 0, none⟩))) (h9 : a.tmps[9]? = some (.func (Fn.func 26) #[] #[.pointer (some ⟨PA, 0, none⟩), .pointer (some ⟨PL, 0, none⟩)])) (h12 : a.tmps[12]? = some (.pointer (some ⟨U, 0, none⟩))) (h13 : a.tmps[13]? = some (.int .i64 q)) (h14 : a.tmps[14]? = some (.int .i64 x)) (h70 : a.tmps[70]? = some (.slice (some ⟨G, 0, none⟩) 11 11)) (h71 : a.tmps[71]? = some (.int .i64 11)) (h72 : a.tmps[72]? = some (.int .i64 q)) (h97 : a.tmps[97]? = some (.bool y)) : ∃ f : Nat → Value, a = ⟨#[f 0, f 1, .pointer (some ⟨P, 0, none⟩), f 3, f 4, .pointer (some ⟨PT, 0, none⟩), .pointer (some ⟨PF, 0, none⟩), .pointer (some ⟨PL, 0, none⟩), .pointer (some ⟨PA, 0, none⟩), .func (Fn.func 26) #[] #[.pointer (some ⟨PA, 0, none⟩), .pointer (some ⟨PL, 0, none⟩)], f 10, f 11, .pointer (some ⟨U, 0, none⟩), .int .i64 q, .int .i64 x, f 15, f 16, f 17, f 18, f 19, f 20, f 21, f 22, f 23, f 24, f 25, f 26, f 27, f 28, f 29, f 30, f 31, f 32, f 33, f 34, f 35, f 36, f 37, f 38, f 39, f 40, f 41, f 42, f 43, f 44, f 45, f 46, f 47, f 48, f 49, f 50, f 51, f 52, f 53, f 54, f 55, f 56, f 57, f 58, f 59, f 60, f 61, f 62, f 63, f 64, f 65, f 66, f 67, f 68, f 69, .slice (some ⟨G, 0, none⟩) 11 11, .int .i64 11, .int .i64 q, f 73, f 74, f 75, f 76, f 77, f 78, f 79, f 80, f 81, f 82, f 83, f 84, f 85, f 86, f 87, f 88, f 89, f 90, f 91, f 92, f 93, f 94, f 95, f 96, .bool y, f 98, f 99, f 100, f 101, f 102, f 103, f 104, f 105, f 106, f 107, f 108, f 109, f 110, f 111, f 112, f 113, f 114, f 115, f 116, f 117, f 118, f 119, f 120, f 121, f 122, f 123, f 124, f 125, f 126, f 127, f 128, f 129, f 130, f 131, f 132, f 133, f 134, f 135, f 136, f 137, f 138, f 139, f 140, f 141, f 142, f 143, f 144, f 145, f 146, f 147, f 148, f 149, f 150, f 151, f 152, f 153, f 154, f 155, f 156, f 157, f 158, f 159, f 160, f 161, f 162, f 163, f 164, f 165, f 166, f 167, f 168, f 169, f 170, f 171, f 172, f 173, f 174, f 175, f 176, f 177, f 178, f 179, f 180, f 181, f 182, f 183, f 184, f 185, f 186, f 187, f 188, f 189, f 190, f 191, f 192, f 193, f 194], []⟩ := by
  obtain ⟨f, hf, e⟩ := lit_ofN 195 a hs hd
  have e2 := (hf 2 (by decide)).symm.trans h2
  have e5 := (hf 5 (by decide)).symm.trans h5
  have e6 := (hf 6 (by decide)).symm.trans h6
  have e7 := (hf 7 (by decide)).symm.trans h7
  have e8 := (hf 8 (by decide)).symm.trans h8
  have e9 := (hf 9 (by decide)).symm.trans h9
  have e12 := (hf 12 (by decide)).symm.trans h12
  have e13 := (hf 13 (by decide)).symm.trans h13
  have e14 := (hf 14 (by decide)).symm.trans h14
  have e70 := (hf 70 (by decide)).symm.trans h70
  have e71 := (hf 71 (by decide)).symm.trans h71
  have e72 := (hf 72 (by decide)).symm.trans h72
  have e97 := (hf 97 (by decide)).symm.trans h97
  simp only [Option.some.injEq] at e2 e5 e6 e7 e8 e9 e12 e13 e14 e70 e71 e72 e97
  refine ⟨f, ?_⟩
  have hl : ((List.range 195).map f).toArray = #[f 0, f 1, f 2, f 3, f 4, f 5, f 6, f 7, f 8, f 9, f 10, f 11, f 12, f 13, f 14, f 15, f 16, f 17, f 18, f 19, f 20, f 21, f 22, f 23, f 24, f 25, f 26, f 27, f 28, f 29, f 30, f 31, f 32, f 33, f 34, f 35, f 36, f 37, f 38, f 39, f 40, f 41, f 42, f 43, f 44, f 45, f 46, f 47, f 48, f 49, f 50, f 51, f 52, f 53, f 54, f 55, f 56, f 57, f 58, f 59, f 60, f 61, f 62, f 63, f 64, f 65, f 66, f 67, f 68, f 69, f 70, f 71, f 72, f 73, f 74, f 75, f 76, f 77, f 78, f 79, f 80, f 81, f 82, f 83, f 84, f 85, f 86, f 87, f 88, f 89, f 90, f 91, f 92, f 93, f 94, f 95, f 96, f 97, f 98, f 99, f 100, f 101, f 102, f 103, f 104, f 105, f 106, f 107, f 108, f 109, f 110, f 111, f 112, f 113, f 114, f 115, f 116, f 117, f 118, f 119, f 120, f 121, f 122, f 123, f 124, f 125, f 126, f 127, f 128, f 129, f 130, f 131, f 132, f 133, f 134, f 135, f 136, f 137, f 138, f 139, f 140, f 141, f 142, f 143, f 144, f 145, f 146, f 147, f 148, f 149, f 150, f 151, f 152, f 153, f 154, f 155, f 156, f 157, f 158, f 159, f 160, f 161, f 162, f 163, f 164, f 165, f 166, f 167, f 168, f 169, f 170, f 171, f 172, f 173, f 174, f 175, f 176, f 177, f 178, f 179, f 180, f 181, f 182, f 183, f 184, f 185, f 186, f 187, f 188, f 189, f 190, f 191, f 192, f 193, f 194] := by kernel_rfl
  rw [e, hl, e2, e5, e6, e7, e8, e9, e12, e13, e14, e70, e71, e72, e97]
set_option maxRecDepth 100000 in
theorem lit2 {a : Act} {P PT PF PL PA U : Nat} (hs : a.tmps.size = 195) (hd : a.defers = []) (h2 : a.tmps[2]? = some (.pointer (some ⟨P, 0, none⟩))) (h5 : a.tmps[5]? = some (.pointer (some ⟨PT, 0, none⟩))) (h6 : a.tmps[6]? = some (.pointer (some ⟨PF, 0, none⟩))) (h7 : a.tmps[7]? = some (.pointer (some ⟨PL, 0, none⟩))) (h8 : a.tmps[8]? = some (.pointer (some ⟨PA, 0, none⟩))) (h9 : a.tmps[9]? = some (.func (Fn.func 26) #[] #[.pointer (some ⟨PA, 0, none⟩), .pointer (some ⟨PL, 0, none⟩)])) (h12 : a.tmps[12]? = some (.pointer (some ⟨U, 0, none⟩))) : ∃ f : Nat → Value, a = ⟨#[f 0, f 1, .pointer (some ⟨P, 0, none⟩), f 3, f 4, .pointer (some ⟨PT, 0, none⟩), .pointer (some ⟨PF, 0, none⟩), .pointer (some ⟨PL, 0, none⟩), .pointer (some ⟨PA, 0, none⟩), .func (Fn.func 26) #[] #[.pointer (some ⟨PA, 0, none⟩), .pointer (some ⟨PL, 0, none⟩)], f 10, f 11, .pointer (some ⟨U, 0, none⟩), f 13, f 14, f 15, f 16, f 17, f 18, f 19, f 20, f 21, f 22, f 23, f 24, f 25, f 26, f 27, f 28, f 29, f 30, f 31, f 32, f 33, f 34, f 35, f 36, f 37, f 38, f 39, f 40, f 41, f 42, f 43, f 44, f 45, f 46, f 47, f 48, f 49, f 50, f 51, f 52, f 53, f 54, f 55, f 56, f 57, f 58, f 59, f 60, f 61, f 62, f 63, f 64, f 65, f 66, f 67, f 68, f 69, f 70, f 71, f 72, f 73, f 74, f 75, f 76, f 77, f 78, f 79, f 80, f 81, f 82, f 83, f 84, f 85, f 86, f 87, f 88, f 89, f 90, f 91, f 92, f 93, f 94, f 95, f 96, f 97, f 98, f 99, f 100, f 101, f 102, f 103, f 104, f 105, f 106, f 107, f 108, f 109, f 110, f 111, f 112, f 113, f 114, f 115, f 116, f 117, f 118, f 119, f 120, f 121, f 122, f 123, f 124, f 125, f 126, f 127, f 128, f 129, f 130, f 131, f 132, f 133, f 134, f 135, f 136, f 137, f 138, f 139, f 140, f 141, f 142, f 143, f 144, f 145, f 146, f 147, f 148, f 149, f 150, f 151, f 152, f 153, f 154, f 155, f 156, f 157, f 158, f 159, f 160, f 161, f 162, f 163, f 164, f 165, f 166, f 167, f 168, f 169, f 170, f 171, f 172, f 173, f 174, f 175, f 176, f 177, f 178, f 179, f 180, f 181, f 182, f 183, f 184, f 185, f 186, f 187, f 188, f 189, f 190, f 191, f 192, f 193, f 194], []⟩ := by
  obtain ⟨f, hf, e⟩ := lit_ofN 195 a hs hd
  have e2 := (hf 2 (by decide)).symm.trans h2
  have e5 := (hf 5 (by decide)).symm.trans h5
  have e6 := (hf 6 (by decide)).symm.trans h6
  have e7 := (hf 7 (by decide)).symm.trans h7
  have e8 := (hf 8 (by decide)).symm.trans h8
  have e9 := (hf 9 (by decide)).symm.trans h9
  have e12 := (hf 12 (by decide)).symm.trans h12
  simp only [Option.some.injEq] at e2 e5 e6 e7 e8 e9 e12
  refine ⟨f, ?_⟩
  have hl : ((List.range 195).map f).toArray = #[f 0, f 1, f 2, f 3, f 4, f 5, f 6, f 7, f 8, f 9, f 10, f 11, f 12, f 13, f 14, f 15, f 16, f 17, f 18, f 19, f 20, f 21, f 22, f 23, f 24, f 25, f 26, f 27, f 28, f 29, f 30, f 31, f 32, f 33, f 34, f 35, f 36, f 37, f 38, f 39, f 40, f 41, f 42, f 43, f 44, f 45, f 46, f 47, f 48, f 49, f 50, f 51, f 52, f 53, f 54, f 55, f 56, f 57, f 58, f 59, f 60, f 61, f 62, f 63, f 64, f 65, f 66, f 67, f 68, f 69, f 70, f 71, f 72, f 73, f 74, f 75, f 76, f 77, f 78, f 79, f 80, f 81, f 82, f 83, f 84, f 85, f 86, f 87, f 88, f 89, f 90, f 91, f 92, f 93, f 94, f 95, f 96, f 97, f 98, f 99, f 100, f 101, f 102, f 103, f 104, f 105, f 106, f 107, f 108, f 109, f 110, f 111, f 112, f 113, f 114, f 115, f 116, f 117, f 118, f 119, f 120, f 121, f 122, f 123, f 124, f 125, f 126, f 127, f 128, f 129, f 130, f 131, f 132, f 133, f 134, f 135, f 136, f 137, f 138, f 139, f 140, f 141, f 142, f 143, f 144, f 145, f 146, f 147, f 148, f 149, f 150, f 151, f 152, f 153, f 154, f 155, f 156, f 157, f 158, f 159, f 160, f 161, f 162, f 163, f 164, f 165, f 166, f 167, f 168, f 169, f 170, f 171, f 172, f 173, f 174, f 175, f 176, f 177, f 178, f 179, f 180, f 181, f 182, f 183, f 184, f 185, f 186, f 187, f 188, f 189, f 190, f 191, f 192, f 193, f 194] := by kernel_rfl
  rw [e, hl, e2, e5, e6, e7, e8, e9, e12]
theorem F2.fx {a : Act} {P PT PF PL PA U : Nat} (h : F2 a P PT PF PL PA U) : Fx a P PT PF PL PA := ⟨h.sz, h.df, h.t2, h.t5, h.t6, h.t7, h.t8, h.t9⟩
/-- .. with the usual parameters at U. -/
def StU (w0 : World) (B PT PA k U : Nat) (w : World) (ps : List (Int × List Int)) : Prop := ∃ (N : Nat) (t : Int) (S : Value) (ts : List Tri) (bs : List (List Int)), Cw w0 B PT PA N w t S ts bs ∧ allP ps bs ∧ t ≤ 20 * (k : Int) ∧ ts.length ≤ k ∧ N ≤ U ∧ w.heap[U]? = some (.cells qu.cells 24 (0, 0))
theorem below_gr {w w' : World} (h : Below w.heap.size w w') : w.grownBy w' none := ⟨h.os, h.tape, h.output, h.size, fun k hk _ => h.block k hk⟩
noncomputable def c7 : Code := cl (cr (cr (cr (cr (cr (cr (cr (Tryd.f13.body.getD .skip))))))))
set_option maxRecDepth 1000000 in
set_option maxHeartbeats 8000000 in
/-- The usual parameters. -/
theorem c7_wp {B P PN PT PF PL PA : Nat} {A : Option Addr} {n c : Nat} {wi w0 w : World} {Qq : QP} {SS : SP} {k : Nat} {ps : List (Int × List Int)} (x : Px B P PN PT PF PL PA A n c wi w0 Qq SS) (a : Act) (hf : Fx a P PT PF PL PA) (hst : St w0 B PT PA k w ps)
    {K : Act → World → Prop} {Q : Exit → Act → World → Prop} (hK : ∀ a' w' U, F2 a' P PT PF PL PA U → StU w0 B PT PA k U w' ps → K a' w') :
    Code.wp Tryd.prog c7 (Exit.then K Q) a w := by
  obtain ⟨f, rfl⟩ := lit195 hf.sz hf.df hf.t2 hf.t5 hf.t6 hf.t7 hf.t8 hf.t9
  clear hf
  conv => arg 2; whnf
  obtain ⟨N, t0, S0, ts0, bs0, hc0, ha0, ht0, hl0⟩ := hst
  have HC := Lib.hid hc0.up
  have HK := Lib.hid hK
  have HA0 := Lib.hid ha0
  have HT0 := Lib.hid ht0
  have HL0 := Lib.hid hl0
  clear hc0 hK ha0 ht0 hl0
  go_wp2_with (first | (go_at_call 15; refine (usual_wp _).mono ?_; rintro e w8 ⟨rfl, H8⟩) | (refine wpList_store_mid (op := ⟨none, .store 24 (.tmp 12) (.tmp 47), _, _, _, none⟩) rfl 24 (.tmp 12) (.tmp 47) rfl w8.heap.size 0 qu.cells rfl rfl (there_newq w8 qz 24) size_sq (QP.one qu) ?_))
  change K _ ((w8.alloc (.cells qz.cells 24 (0, 0))).setCells w8.heap.size 0 qu.cells.toList)
  have hW := (setCells_all (w := w8.alloc (.cells qz.cells 24 (0, 0))) (vs := qu.cells) (heap_alloc_new w8 (.cells qz.cells 24 (0, 0))) rfl).1
  have hB : Below w.heap.size w ((w8.alloc (.cells qz.cells 24 (0, 0))).setCells w8.heap.size 0 qu.cells.toList) := below_setCells H8.out.size (Nat.le_refl _) _ _ (H8.out.alloc H8.out.size _)
  exact HK.out _ _ w8.heap.size ⟨rfl, rfl, rfl, rfl, rfl, rfl, rfl, rfl, rfl⟩ ⟨_, t0, S0, ts0, bs0, HC.out.same (below_gr hB) (.inl rfl), HA0.out, HT0.out, HL0.out, H8.out.size, hW⟩
/-- What holds all through the second loop. -/
structure L2 (PT PA Z0 U G : Nat) (Qq : QP) (wG : World) : Prop where
  zu : Z0 ≤ U
  ug : U < G
  gu : wG.heap[U]? = some (.cells qu.cells 24 (0, 0))
  gg : wG.heap[G]? = some (.cells #[.int .i64 Qq.idle, .int .i64 Qq.udp, .int .i64 Qq.data, .int .i64 Qq.bl, .int .i64 Qq.br, .int .i64 Qq.un, .int .i64 Qq.sb, .int .i64 Qq.su, .int .i64 Qq.ae, .int .i64 Qq.ad, .int .i64 Qq.act] 2 (0, 0))
def idsN : List Int := [1, 3, 4, 5, 6, 7, 8, 9, 10, 11, 14]
def dfsN : List Int := [0, 65527, 0, 0, 0, 0, 0, 0, 3, 25, 2]
def numN (Q : QP) : List Int := [Q.idle, Q.udp, Q.data, Q.bl, Q.br, Q.un, Q.sb, Q.su, Q.ae, Q.ad, Q.act]
theorem one11 {wi : World} {Q : QP} {S : SP} (hq : Qp wi Q S) (hf : Fq Q S) {q : Nat} (h : q < 11) : ∃ (id df x : Int), idsN[q]? = some id ∧ dfsN[q]? = some df ∧ (numN Q)[q]? = some x ∧ (nms S).take (q + 1) = (nms S).take q ++ [(id, df, x)] ∧ 0 ≤ id ∧ id ≤ 16 ∧ 0 ≤ x ∧ x ≤ 4611686018427387903 := by
  rcases (show q = 0 ∨ q = 1 ∨ q = 2 ∨ q = 3 ∨ q = 4 ∨ q = 5 ∨ q = 6 ∨ q = 7 ∨ q = 8 ∨ q = 9 ∨ q = 10 by omega) with rfl | rfl | rfl | rfl | rfl | rfl | rfl | rfl | rfl | rfl | rfl
  · exact ⟨1, 0, Q.idle, rfl, rfl, rfl, by rw [hq.idle]; rfl, by omega, by omega, by rw [hq.idle]; have := hf.idle; omega, by rw [hq.idle]; have := hf.idle; omega⟩
  · exact ⟨3, 65527, Q.udp, rfl, rfl, rfl, by rw [hq.udp]; rfl, by omega, by omega, by rw [hq.udp]; have := hf.udp; omega, by rw [hq.udp]; have := hf.udp; omega⟩
  · exact ⟨4, 0, Q.data, rfl, rfl, rfl, by rw [hq.data]; rfl, by omega, by omega, by rw [hq.data]; have := hf.data; omega, by rw [hq.data]; have := hf.data; omega⟩
  · exact ⟨5, 0, Q.bl, rfl, rfl, rfl, by rw [hq.bl]; rfl, by omega, by omega, by rw [hq.bl]; have := hf.bl; omega, by rw [hq.bl]; have := hf.bl; omega⟩
  · exact ⟨6, 0, Q.br, rfl, rfl, rfl, by rw [hq.br]; rfl, by omega, by omega, by rw [hq.br]; have := hf.br; omega, by rw [hq.br]; have := hf.br; omega⟩
  · exact ⟨7, 0, Q.un, rfl, rfl, rfl, by rw [hq.un]; rfl, by omega, by omega, by rw [hq.un]; have := hf.un; omega, by rw [hq.un]; have := hf.un; omega⟩
  · exact ⟨8, 0, Q.sb, rfl, rfl, rfl, by rw [hq.sb]; rfl, by omega, by omega, by rw [hq.sb]; have := hf.sb; omega, by rw [hq.sb]; have := hf.sb; omega⟩
  · exact ⟨9, 0, Q.su, rfl, rfl, rfl, by rw [hq.su]; rfl, by omega, by omega, by rw [hq.su]; have := hf.su; omega, by rw [hq.su]; have := hf.su; omega⟩
  · exact ⟨10, 3, Q.ae, rfl, rfl, rfl, by rw [hq.ae]; rfl, by omega, by omega, by rw [hq.ae]; have := hf.ae; omega, by rw [hq.ae]; have := hf.ae; omega⟩
  · exact ⟨11, 25, Q.ad, rfl, rfl, rfl, by rw [hq.ad]; rfl, by omega, by omega, by rw [hq.ad]; have := hf.ad; omega, by rw [hq.ad]; have := hf.ad; omega⟩
  · exact ⟨14, 2, Q.act, rfl, rfl, rfl, by rw [hq.act]; rfl, by omega, by omega, by rw [hq.act]; have := hf.act; omega, by rw [hq.act]; have := hf.act; omega⟩
noncomputable def c8 : Code := cl (cr (cr (cr (cr (cr (cr (cr (cr (Tryd.f13.body.getD .skip)))))))))
noncomputable def c8L : Code := cl (cl (cr c8))
noncomputable def c8B : Code := cl (cl (cr (cr c8L)))
noncomputable def c16 : Code := cl (cr c8B)
noncomputable def c17 : Code := cl (cr (cr c8B))
set_option maxRecDepth 1000000 in
set_option maxHeartbeats 8000000 in
theorem c16_wp {B P PN PT PF PL PA : Nat} {A : Option Addr} {n c : Nat} {wi w0 w : World} {Qq : QP} {SS : SP} {Z0 U G N q : Nat} {id df x t : Int} {S : Value} {ts : List Tri} {bs : List (List Int)} {wG : World} (px : Px B P PN PT PF PL PA A n c wi w0 Qq SS) (l2 : L2 PT PA Z0 U G Qq wG) (a : Act) (hf : F4 a P PT PF PL PA U G q x) (hc : Cw w0 B PT PA N w t S ts bs) (hk : Kp PT PA Z0 (G + 1) wG w S) (hq : q < 11) (hdf : dfsN[q]? = some df) (ht : t ≤ 1000)
    {K : Act → World → Prop} {Q : Exit → Act → World → Prop} (hK : ∀ a' w' y N t', F5 a' P PT PF PL PA U G q x y → (y = false → x = df) → Cw w0 B PT PA N w' t' S ts bs → Kp PT PA Z0 (G + 1) wG w' S → t' ≤ t + 1 → K a' w') :
    Code.wp Tryd.prog c16 (Exit.then K Q) a w := by
  have hGu : w.heap[U]? = some (.cells qu.cells 24 (0, 0)) := (hk.blk U l2.zu (by have := l2.ug; omega)).trans l2.gu
  have u4 : w.cell? ⟨U, 4, none⟩ = some (.int .i64 0) := (cell_of_row _ _ 4 _ _ (0, 0) hGu).trans rfl
  have u5 : w.cell? ⟨U, 5, none⟩ = some (.int .i64 65527) := (cell_of_row _ _ 5 _ _ (0, 0) hGu).trans rfl
  have u12 : w.cell? ⟨U, 12, none⟩ = some (.int .i64 3) := (cell_of_row _ _ 12 _ _ (0, 0) hGu).trans rfl
  have u13 : w.cell? ⟨U, 13, none⟩ = some (.int .i64 25) := (cell_of_row _ _ 13 _ _ (0, 0) hGu).trans rfl
  have u21 : w.cell? ⟨U, 21, none⟩ = some (.int .i64 2) := (cell_of_row _ _ 21 _ _ (0, 0) hGu).trans rfl
  have hca := hc.alloc (.cells #[.int .i64 0, .int .i64 65527, .int .i64 0, .int .i64 0, .int .i64 0, .int .i64 0, .int .i64 0, .int .i64 0, .int .i64 3, .int .i64 25, .int .i64 2] 2 (0, 0))
  have uF := px.cx.f_ hca.fr
  have gd : (w.alloc (.cells #[.int .i64 0, .int .i64 65527, .int .i64 0, .int .i64 0, .int .i64 0, .int .i64 0, .int .i64 0, .int .i64 0, .int .i64 3, .int .i64 25, .int .i64 2] 2 (0, 0))).cell? ⟨w.heap.size, q, none⟩ = some (.int .i64 df) := by
    rw [cell_of_row _ _ _ _ _ (0, 0) (heap_alloc_new w _)]
    show ((dfsN.map (Value.int .i64)).toArray)[q]? = _
    simp [hdf]
  have q0 : (0 : Int) ≤ (q : Int) := by omega
  have q4 : (q : Int) < 11 := by omega
  have KN := Lib.hid (nx_cw (m := 3) px.cx hca (by omega) (by omega) (by omega))
  have HCA := Lib.hid hca
  have HKA := Lib.hid (hk.gr (World.grownBy_alloc w (.cells #[.int .i64 0, .int .i64 65527, .int .i64 0, .int .i64 0, .int .i64 0, .int .i64 0, .int .i64 0, .int .i64 0, .int .i64 3, .int .i64 25, .int .i64 2] 2 (0, 0)) none) (.inl rfl))
  have HK := Lib.hid hK
  clear hGu hca hk hc hK px l2 hdf
  obtain ⟨f, rfl⟩ := lit4 hf.sz hf.df hf.t2 hf.t5 hf.t6 hf.t7 hf.t8 hf.t9 hf.t12 hf.t13 hf.t14 hf.t70 hf.t71 hf.t72
  clear hf
  conv => arg 2; whnf
  by_cases hx : x = df
  · subst hx
    have hxx : (x != x) = false := by simp
    go_wp2_with (go_at_call 23; refine KN.out.mono ?_; rintro e w1 ⟨r, t1, rfl, H1⟩)
    have h4 := H1.out.2.2.2.1
    exact HK.out _ _ (r == 1) _ t1 ⟨rfl, rfl, rfl, rfl, rfl, rfl, rfl, rfl, rfl, rfl, rfl, rfl, rfl, rfl, rfl⟩ (fun _ => by first | rfl | trivial) H1.out.2.2.2.2.1 (HKA.out.gr H1.out.2.2.2.2.2 (.inr (.inl rfl))) h4
  · have hxx : (x != df) = true := by simp [hx]
    go_wp2_with fail
    exact HK.out _ _ true _ t ⟨rfl, rfl, rfl, rfl, rfl, rfl, rfl, rfl, rfl, rfl, rfl, rfl, rfl, rfl, rfl⟩ (fun h => by cases h) HCA.out HKA.out (by omega)
end

section
open Go.RowKit
set_option linter.unusedVariables false
set_option linter.unusedSimpArgs false
theorem own_rt {B : Nat} {w : World} {A : Option Addr} {m c : Nat} {l : List Int} (h : Own B w (.slice A m c) l) : Rt w (A, m, c) l := by
  obtain ⟨A', c', e, h1, h2, h3, h4⟩ := h.rd
  simp only [Value.slice.injEq] at e
  obtain ⟨rfl, rfl, rfl⟩ := e
  exact ⟨h1, rfl, h2, Nat.le_trans h3 (by decide), fun e => (h4 e).2⟩
theorem own_sep {B PT : Nat} {w : World} {A : Option Addr} {m c : Nat} {l : List Int} (h : Own B w (.slice A m c) l) (hP : PT < B) : 0 < l.length → Sep A (some PT) := fun _ a ha e => by
  subst ha
  have h1 := (h.lt a.block rfl).1
  have : PT = a.block := by simpa using e
  omega
theorem ids_cell {q : Nat} {id : Int} (h : idsN[q]? = some id) (W : World) : (W.alloc (.cells #[.int .u64 1, .int .u64 3, .int .u64 4, .int .u64 5, .int .u64 6, .int .u64 7, .int .u64 8, .int .u64 9, .int .u64 10, .int .u64 11, .int .u64 14] 43 (0, 0))).cell? ⟨W.heap.size, q, none⟩ = some (.int .u64 id) := by
  rw [cell_of_row _ _ _ _ _ (0, 0) (heap_alloc_new W _)]
  show ((idsN.map (Value.int .u64)).toArray)[q]? = _
  simp [h]
set_option maxRecDepth 1000000 in
set_option maxHeartbeats 8000000 in
theorem c17_wp {B P PN PT PF PL PA : Nat} {A : Option Addr} {n c : Nat} {wi w0 w : World} {Qq : QP} {SS : SP} {Z0 U G N q : Nat} {id x t : Int} {S : Value} {ts : List Tri} {bs : List (List Int)} {wG : World} {y : Bool} (px : Px B P PN PT PF PL PA A n c wi w0 Qq SS) (a : Act) (hf : F5 a P PT PF PL PA U G q x y) (hc : Cw w0 B PT PA N w t S ts bs) (hk : Kp PT PA Z0 (G + 1) wG w S) (hq : q < 11) (hid : idsN[q]? = some id) (hi0 : 0 ≤ id) (hi1 : id ≤ 16) (hx0 : 0 ≤ x) (hx1 : x ≤ 4611686018427387903) (ht : t ≤ 1000) (hl : ts.length ≤ 900)
    {K : Act → World → Prop} (hK : ∀ a' w' t' S' z b v, F3 a' P PT PF PL PA U G q → isP (id, v) b → isForm x v → Cw w0 B PT PA w'.heap.size w' t' S' (ts ++ [z]) (bs ++ [b]) → Kp PT PA Z0 (G + 1) wG w' S' → t' ≤ t + 9 → K a' w') :
    Code.wp Tryd.prog c17 (Exit.then K (Qr fun _ _ => False)) a w := by
  have o1 := px.cx.o1; have o2 := px.cx.o2; have o3 := px.cx.o3; have o4 := px.cx.o4; have o5 := px.cx.o5
  have hD : Cw w0 B PT PA w.heap.size w.drew t S ts bs := hc.up.drewN 1
  have hPW : PT < w.heap.size := by have := hc.bn; have := hc.le; omega
  have hDa := hD.alloc (.cells #[.int .u64 1, .int .u64 3, .int .u64 4, .int .u64 5, .int .u64 6, .int .u64 7, .int .u64 8, .int .u64 9, .int .u64 10, .int .u64 11, .int .u64 14] 43 (0, 0))
  have uL := px.cx.l_ hD.fr
  have uLa := px.cx.l_ hDa.fr
  have gid : (w.drew.alloc (.cells #[.int .u64 1, .int .u64 3, .int .u64 4, .int .u64 5, .int .u64 6, .int .u64 7, .int .u64 8, .int .u64 9, .int .u64 10, .int .u64 11, .int .u64 14] 43 (0, 0))).cell? ⟨w.heap.size, q, none⟩ = some (.int .u64 id) := ids_cell hid w.drew
  have hqe : ∀ (h : q < ([Value.int .u64 1, Value.int .u64 3, Value.int .u64 4, Value.int .u64 5, Value.int .u64 6, Value.int .u64 7, Value.int .u64 8, Value.int .u64 9, Value.int .u64 10, Value.int .u64 11, Value.int .u64 14] : List Value).length), ([Value.int .u64 1, Value.int .u64 3, Value.int .u64 4, Value.int .u64 5, Value.int .u64 6, Value.int .u64 7, Value.int .u64 8, Value.int .u64 9, Value.int .u64 10, Value.int .u64 11, Value.int .u64 14] : List Value)[q]'h = .int .u64 id := fun h => by
    rw [List.getElem_eq_iff]
    show (idsN.map (Value.int .u64))[q]? = _
    simp [hid]
  have KA := Lib.hid (lg_cw px.cx hDa (v := x) (by omega) hx0 hx1)
  have KC := Lib.hid (lg_cw px.cx hD (v := x) (by omega) hx0 hx1)
  have HKA : Hid (Kp PT PA Z0 (G + 1) wG (w.drew.alloc (.cells #[.int .u64 1, .int .u64 3, .int .u64 4, .int .u64 5, .int .u64 6, .int .u64 7, .int .u64 8, .int .u64 9, .int .u64 10, .int .u64 11, .int .u64 14] 43 (0, 0))) S) := Lib.hid ((hk.gr (row := none) (w' := w.drew) ⟨rfl, rfl, rfl, Nat.le_refl _, fun _ _ _ => rfl⟩ (.inl rfl)).gr (World.grownBy_alloc w.drew (.cells #[.int .u64 1, .int .u64 3, .int .u64 4, .int .u64 5, .int .u64 6, .int .u64 7, .int .u64 8, .int .u64 9, .int .u64 10, .int .u64 11, .int .u64 14] 43 (0, 0)) none) (.inl rfl))
  have HKC : Hid (Kp PT PA Z0 (G + 1) wG w.drew S) := Lib.hid (hk.gr (row := none) (w' := w.drew) ⟨rfl, rfl, rfl, Nat.le_refl _, fun _ _ _ => rfl⟩ (.inl rfl))
  have HID := Lib.hid hid
  have HPX := Lib.hid px
  have hPA : PT < (w.drew.alloc (.cells #[.int .u64 1, .int .u64 3, .int .u64 4, .int .u64 5, .int .u64 6, .int .u64 7, .int .u64 8, .int .u64 9, .int .u64 10, .int .u64 11, .int .u64 14] 43 (0, 0))).heap.size := Nat.lt_of_lt_of_le hPW (World.grownBy_alloc w.drew (.cells #[.int .u64 1, .int .u64 3, .int .u64 4, .int .u64 5, .int .u64 6, .int .u64 7, .int .u64 8, .int .u64 9, .int .u64 10, .int .u64 11, .int .u64 14] 43 (0, 0)) none).size
  have q0 : (0 : Int) ≤ (q : Int) := by omega
  have q4 : (q : Int) < 11 := by omega
  have hwx : IntKind.u64.wrap x = x := IntWalk.u64_in _ (by omega)
  have HKK := Lib.hid hK
  clear hid hD hDa hc hk hK px
  obtain ⟨f, rfl⟩ := lit5 hf.sz hf.df hf.t2 hf.t5 hf.t6 hf.t7 hf.t8 hf.t9 hf.t12 hf.t13 hf.t14 hf.t70 hf.t71 hf.t72 hf.t97
  clear hf
  conv => arg 2; whnf
  refine wp_region_held_drew (S := fun w' => w'.cell? ⟨PL, 0, none⟩ = some (.func (Fn.func 24) #[] #[.pointer (some ⟨PF, 0, none⟩)])) (by kernel_rfl) (by exact uL) (fun hHeld => ?_)
  refine wpAnyH_take (i := 0) (v := ?v0_1) rfl (by kernel_rfl) (by kernel_rfl) (by kernel_rfl) (fun _ _ _ h => h) (Or.inl ⟨by rfl, ?hy0_1⟩) (by assumption) ?rest0_1
  case hy0_1 => (intro wq hSw; (try dsimp only at hSw); go_simp; (try with_reducible rfl))
  try simp only [Act.put, List.setIfInBounds_toArray, List.set_cons_zero, List.set_cons_succ]
  refine wpAnyH_take (i := 2) (v := ?v2_2) rfl (by kernel_rfl) (by kernel_rfl) (by kernel_rfl) (fun _ _ _ h => h) (Or.inl ⟨by rfl, ?hy2_2⟩) (by assumption) ?rest2_2
  case hy2_2 => (intro wq hSw; (try dsimp only at hSw); go_simp; (try with_reducible rfl))
  try simp only [Act.put, List.setIfInBounds_toArray, List.set_cons_zero, List.set_cons_succ]
  refine wpAnyH_take (i := 5) (v := ?v5_3) rfl (by kernel_rfl) (by kernel_rfl) (by kernel_rfl) (fun _ _ _ h => h) (Or.inl ⟨by rfl, ?hy5_3⟩) (by assumption) ?rest5_3
  case hy5_3 => (intro wq hSw; (try dsimp only at hSw); go_simp; (try with_reducible rfl))
  try simp only [Act.put, List.setIfInBounds_toArray, List.set_cons_zero, List.set_cons_succ]
  refine wpAnyH_take (i := 6) (v := ?v6_4) rfl (by kernel_rfl) (by kernel_rfl) (by kernel_rfl) (fun _ _ _ h => h) (Or.inl ⟨by rfl, ?hy6_4⟩) (by assumption) ?rest6_4
  case hy6_4 => (intro wq hSw; (try dsimp only at hSw); go_simp; (try with_reducible rfl))
  try simp only [Act.put, List.setIfInBounds_toArray, List.set_cons_zero, List.set_cons_succ]
  refine wpAnyH_take (i := 7) (v := ?v7_5) rfl (by kernel_rfl) (by kernel_rfl) (by kernel_rfl) (fun _ _ _ h => h) (Or.inl ⟨by rfl, ?hy7_5⟩) (by assumption) ?rest7_5
  case hy7_5 => (intro wq hSw; (try dsimp only at hSw); go_simp; (try with_reducible rfl))
  try simp only [Act.put, List.setIfInBounds_toArray, List.set_cons_zero, List.set_cons_succ]
  refine wpAnyH_ready (rs := [1, 8]) (by kernel_rfl) (by simp) (AllReadyH.cons rfl (fun K hK => ?_) (AllReadyH.cons rfl (fun K hK => ?_) AllReadyH.nil))
  · go_simp
    refine hK.out _ _ (by exact uLa) (fun hHeld => ?_)
    clear hK K
    try simp only [Act.put, List.setIfInBounds_toArray, List.set_cons_zero, List.set_cons_succ]
    refine wpAnyH_take (i := 3) (v := ?v3_6) rfl (by kernel_rfl) (by kernel_rfl) (by kernel_rfl) (fun _ _ _ h => h) (Or.inl ⟨by rfl, ?hy3_6⟩) (by assumption) ?rest3_6
    case hy3_6 => (intro wq hSw; (try dsimp only at hSw); go_simp; (try with_reducible rfl))
    try simp only [Act.put, List.setIfInBounds_toArray, List.set_cons_zero, List.set_cons_succ]
    refine wpAnyH_ready (rs := [4, 8]) (by kernel_rfl) (by simp) (AllReadyH.cons rfl (fun K hK => ?_) (AllReadyH.cons rfl (fun K hK => ?_) AllReadyH.nil))
    · go_simp
      refine hK.out _ _ (by exact uLa) (fun hHeld => ?_)
      clear hK K
      try simp only [Act.put, List.setIfInBounds_toArray, List.set_cons_zero, List.set_cons_succ]
      refine wpAnyH_ready (rs := [8]) (by kernel_rfl) (by simp) (AllReadyH.cons rfl (fun K hK => ?_) AllReadyH.nil)
      go_simp
      go_at_call 24
      refine KA.out.mono ?_
      rintro e w1 ⟨A1, m1, c1, b1, t1, rfl, H1⟩
      dsimp only
      have uL1 := HPX.out.cx.l_ H1.out.2.cw.fr
      have gid1 := cell_grown H1.out.2.gr gid (by omega)
      have KP := Lib.hid (pu_wp A1 m1 c1 b1 HPX.out.cx H1.out.2.cw (by have := H1.out.2.t2; omega) hi0 (by omega) (own_rt H1.out.2.own) (by have := H1.out.1; have := H1.out.2.le; omega) (own_sep H1.out.2.own hPA) (by omega))
      have HK1 := Lib.hid (HKA.out.gr H1.out.2.gr (.inr (.inl rfl)))
      refine hK.out _ _ (by exact uL1) (fun hHeld => ?_)
      clear hK K
      try simp only [Act.put, List.setIfInBounds_toArray, List.set_cons_zero, List.set_cons_succ]
      refine wpAnyH_ready (rs := [9]) (by kernel_rfl) (by simp) (AllReadyH.cons rfl (fun K hK => ?_) AllReadyH.nil)
      go_simp
      go_at_call 26
      refine KP.out.mono ?_
      rintro e w2 ⟨t2, S2, z, b, rfl, H2⟩
      dsimp only
      have uL2 := HPX.out.cx.l_ H2.out.2.2.2.1.fr
      refine hK.out _ _ (by exact uL2) (fun hHeld => ?_)
      clear hK K
      try simp only [Act.put, List.setIfInBounds_toArray, List.set_cons_zero, List.set_cons_succ]
      refine wpAnyH_done (by kernel_rfl) ?_ _
      exact HKK.out _ _ t2 S2 z b b1 ⟨rfl, rfl, rfl, rfl, rfl, rfl, rfl, rfl, rfl, rfl, rfl, rfl⟩ H2.out.2.2.1 H1.out.2.form H2.out.2.2.2.1 (HK1.out.pg H2.out.2.2.2.2) (by have := H1.out.2.t2; have := H2.out.2.1; omega)
    · go_simp
      go_at_call 24
      refine KA.out.mono ?_
      rintro e w1 ⟨A1, m1, c1, b1, t1, rfl, H1⟩
      dsimp only
      have uL1 := HPX.out.cx.l_ H1.out.2.cw.fr
      have gid1 := cell_grown H1.out.2.gr gid (by omega)
      have KP := Lib.hid (pu_wp A1 m1 c1 b1 HPX.out.cx H1.out.2.cw (by have := H1.out.2.t2; omega) hi0 (by omega) (own_rt H1.out.2.own) (by have := H1.out.1; have := H1.out.2.le; omega) (own_sep H1.out.2.own hPA) (by omega))
      have HK1 := Lib.hid (HKA.out.gr H1.out.2.gr (.inr (.inl rfl)))
      refine hK.out _ _ (by exact uL1) (fun hHeld => ?_)
      clear hK K
      try simp only [Act.put, List.setIfInBounds_toArray, List.set_cons_zero, List.set_cons_succ]
      refine wpAnyH_ready (rs := [4]) (by kernel_rfl) (by simp) (AllReadyH.cons rfl (fun K hK => ?_) AllReadyH.nil)
      go_simp
      refine hK.out _ _ (by exact uL1) (fun hHeld => ?_)
      clear hK K
      try simp only [Act.put, List.setIfInBounds_toArray, List.set_cons_zero, List.set_cons_succ]
      refine wpAnyH_ready (rs := [9]) (by kernel_rfl) (by simp) (AllReadyH.cons rfl (fun K hK => ?_) AllReadyH.nil)
      go_simp
      go_at_call 26
      refine KP.out.mono ?_
      rintro e w2 ⟨t2, S2, z, b, rfl, H2⟩
      dsimp only
      have uL2 := HPX.out.cx.l_ H2.out.2.2.2.1.fr
      refine hK.out _ _ (by exact uL2) (fun hHeld => ?_)
      clear hK K
      try simp only [Act.put, List.setIfInBounds_toArray, List.set_cons_zero, List.set_cons_succ]
      refine wpAnyH_done (by kernel_rfl) ?_ _
      exact HKK.out _ _ t2 S2 z b b1 ⟨rfl, rfl, rfl, rfl, rfl, rfl, rfl, rfl, rfl, rfl, rfl, rfl⟩ H2.out.2.2.1 H1.out.2.form H2.out.2.2.2.1 (HK1.out.pg H2.out.2.2.2.2) (by have := H1.out.2.t2; have := H2.out.2.1; omega)
  · go_simp
    go_at_call 24
    refine KC.out.mono ?_
    rintro e w1 ⟨A1, m1, c1, b1, t1, rfl, H1⟩
    dsimp only
    have uL1 := HPX.out.cx.l_ H1.out.2.cw.fr
    have gid1 := ids_cell HID.out w1
    have KP := Lib.hid (pu_wp A1 m1 c1 b1 HPX.out.cx (H1.out.2.cw.alloc (.cells #[.int .u64 1, .int .u64 3, .int .u64 4, .int .u64 5, .int .u64 6, .int .u64 7, .int .u64 8, .int .u64 9, .int .u64 10, .int .u64 11, .int .u64 14] 43 (0, 0))) (by have := H1.out.2.t2; omega) hi0 (by omega) ((own_rt H1.out.2.own).alloc _) (by have := H1.out.1; have := H1.out.2.le; omega) (own_sep H1.out.2.own hPW) (by omega))
    have HK1 := Lib.hid ((HKC.out.gr H1.out.2.gr (.inr (.inl rfl))).gr (World.grownBy_alloc w1 (.cells #[.int .u64 1, .int .u64 3, .int .u64 4, .int .u64 5, .int .u64 6, .int .u64 7, .int .u64 8, .int .u64 9, .int .u64 10, .int .u64 11, .int .u64 14] 43 (0, 0)) none) (.inl rfl))
    refine hK.out _ _ (by exact uL1) (fun hHeld => ?_)
    clear hK K
    try simp only [Act.put, List.setIfInBounds_toArray, List.set_cons_zero, List.set_cons_succ]
    refine wpAnyH_ready (rs := [1]) (by kernel_rfl) (by simp) (AllReadyH.cons rfl (fun K hK => ?_) AllReadyH.nil)
    go_simp
    refine hK.out _ _ (by exact HPX.out.cx.l_ (H1.out.2.cw.alloc (.cells #[.int .u64 1, .int .u64 3, .int .u64 4, .int .u64 5, .int .u64 6, .int .u64 7, .int .u64 8, .int .u64 9, .int .u64 10, .int .u64 11, .int .u64 14] 43 (0, 0))).fr) (fun hHeld => ?_)
    clear hK K
    try simp only [Act.put, List.setIfInBounds_toArray, List.set_cons_zero, List.set_cons_succ]
    refine wpAnyH_take (i := 3) (v := ?v3_7) rfl (by kernel_rfl) (by kernel_rfl) (by kernel_rfl) (fun _ _ _ h => h) (Or.inl ⟨by rfl, ?hy3_7⟩) (by assumption) ?rest3_7
    case hy3_7 => (intro wq hSw; (try dsimp only at hSw); go_simp; (try with_reducible rfl))
    try simp only [Act.put, List.setIfInBounds_toArray, List.set_cons_zero, List.set_cons_succ]
    refine wpAnyH_ready (rs := [4]) (by kernel_rfl) (by simp) (AllReadyH.cons rfl (fun K hK => ?_) AllReadyH.nil)
    go_simp
    refine hK.out _ _ (by assumption) (fun hHeld => ?_)
    clear hK K
    try simp only [Act.put, List.setIfInBounds_toArray, List.set_cons_zero, List.set_cons_succ]
    refine wpAnyH_ready (rs := [9]) (by kernel_rfl) (by simp) (AllReadyH.cons rfl (fun K hK => ?_) AllReadyH.nil)
    go_simp
    go_at_call 26
    refine KP.out.mono ?_
    rintro e w2 ⟨t2, S2, z, b, rfl, H2⟩
    dsimp only
    have uL2 := HPX.out.cx.l_ H2.out.2.2.2.1.fr
    refine hK.out _ _ (by exact uL2) (fun hHeld => ?_)
    clear hK K
    try simp only [Act.put, List.setIfInBounds_toArray, List.set_cons_zero, List.set_cons_succ]
    refine wpAnyH_done (by kernel_rfl) ?_ _
    exact HKK.out _ _ t2 S2 z b b1 ⟨rfl, rfl, rfl, rfl, rfl, rfl, rfl, rfl, rfl, rfl, rfl, rfl⟩ H2.out.2.2.1 H1.out.2.form H2.out.2.2.2.1 (HK1.out.pg H2.out.2.2.2.2) (by have := H1.out.2.t2; have := H2.out.2.1; omega)
end

section
open Go.RowKit
set_option linter.unusedVariables false
set_option linter.unusedSimpArgs false
/-- The state of the second loop. -/
def LI2 (P PT PF PL PA : Nat) (U G Z0 : Nat) (w0 wG : World) (B : Nat) (SS : SP) (ps0 : List (Int × List Int)) (a : Act) (w : World) : Prop := ∃ (q N : Nat) (t : Int) (S : Value) (ts : List Tri) (bs : List (List Int)) (L : List (Int × List Int)), q ≤ 11 ∧ F3 a P PT PF PL PA U G q ∧ t ≤ 20 * (4 + (q : Int)) ∧ ts.length ≤ 4 + q ∧ Hid (Cw w0 B PT PA N w t S ts bs ∧ allP (ps0 ++ L) bs ∧ secs ((nms SS).take q) L ∧ Kp PT PA Z0 (G + 1) wG w S)
def mu2 (a : Act) (w : World) : Nat := 11 - (intOf (a.tmps.getD 72 undef)).toNat
theorem F3.mu {a : Act} {w : World} {P PT PF PL PA U G q : Nat} (h : F3 a P PT PF PL PA U G q) : mu2 a w = 11 - q := by
  unfold mu2
  rw [Array.getD_eq_getD_getElem?, h.t72]
  simp [intOf]
theorem F3.fx {a : Act} {P PT PF PL PA U G q : Nat} (h : F3 a P PT PF PL PA U G q) : Fx a P PT PF PL PA := ⟨h.sz, h.df, h.t2, h.t5, h.t6, h.t7, h.t8, h.t9⟩
theorem nms_len (S : SP) : (nms S).length = 11 := rfl
set_option maxRecDepth 1000000 in
set_option maxHeartbeats 8000000 in
theorem r8_wp {B P PN PT PF PL PA : Nat} {A : Option Addr} {n c : Nat} {wi w0 w : World} {Qq : QP} {SS : SP} {Z0 U G : Nat} {wG : World} {ps0 : List (Int × List Int)} (px : Px B P PN PT PF PL PA A n c wi w0 Qq SS) (l2 : L2 PT PA Z0 U G Qq wG) (a : Act) (hI : LI2 P PT PF PL PA U G Z0 w0 wG B SS ps0 a w)
    {Qx : Exit → Act → World → Prop} (hX : ∀ a' w' L, Fx a' P PT PF PL PA → secs (nms SS) L → St w0 B PT PA 15 w' (ps0 ++ L) → Qx (.exit 2) a' w') :
    Code.wp Tryd.prog c8L (Exit.then (fun a' w' => LI2 P PT PF PL PA U G Z0 w0 wG B SS ps0 a' w' ∧ mu2 a' w' < mu2 a w) Qx) a w := by
  obtain ⟨q, N, t, S, ts, bs, L, hq, hf, ht, hl, HI⟩ := hI
  rw [hf.mu]
  have HX := Lib.hid hX
  have HP := Lib.hid px
  have HL := Lib.hid l2
  clear hX
  by_cases hq11 : q = 11
  · subst hq11
    clear px l2
    obtain ⟨f, rfl⟩ := lit3 hf.sz hf.df hf.t2 hf.t5 hf.t6 hf.t7 hf.t8 hf.t9 hf.t12 hf.t70 hf.t71 hf.t72
    clear hf
    conv => arg 2; whnf
    go_wp2_with fail
    exact HX.out _ _ L ⟨rfl, rfl, rfl, rfl, rfl, rfl, rfl, rfl⟩ (by have := HI.out.2.2.1; rwa [List.take_of_length_le (by rw [nms_len]; exact Nat.le_refl _)] at this) ⟨N, t, S, ts, bs, HI.out.1, HI.out.2.1, by omega, by omega⟩
  · obtain ⟨id, df, x, e1, e2, e3, e4, hi0, hi1, hx0, hx1⟩ := one11 px.hq px.fq (q := q) (by omega)
    have uG : w.cell? ⟨G, q, none⟩ = some (.int .i64 x) := by
      rw [cell_of_row _ _ _ _ _ (0, 0) ((HI.out.2.2.2.blk G (by have := l2.zu; have := l2.ug; omega) (by omega)).trans l2.gg)]
      show (((numN Qq).map (Value.int .i64)).toArray)[q]? = _
      simp [e3]
    have HE1 := Lib.hid e1
    have HE2 := Lib.hid e2
    have HE4 := Lib.hid e4
    have q0 : (0 : Int) ≤ (q : Int) := by omega
    have q4 : (q : Int) < 11 := by omega
    have hwq : IntKind.i64.wrap ((q : Int) + 1) = (q : Int) + 1 := IntWalk.i64_in _ (by omega)
    clear e1 e2 e3 e4 px l2
    obtain ⟨f, rfl⟩ := lit3 hf.sz hf.df hf.t2 hf.t5 hf.t6 hf.t7 hf.t8 hf.t9 hf.t12 hf.t70 hf.t71 hf.t72
    clear hf
    conv => arg 2; whnf
    go_upto_region 16 with fail
    refine c16_wp (id := id) HP.out HL.out _ ⟨rfl, rfl, rfl, rfl, rfl, rfl, rfl, rfl, rfl, rfl, rfl, rfl, rfl, rfl⟩ HI.out.1 HI.out.2.2.2 (by omega) HE2.out (by omega) (fun a1 w1 y N1 t1 hf1 hy hc1 hk1 ht1 => ?_)
    have HC1 := Lib.hid hc1
    have HK1 := Lib.hid hk1
    have HY := Lib.hid hy
    clear hc1 hk1 hy uG
    obtain ⟨g, rfl⟩ := lit5 hf1.sz hf1.df hf1.t2 hf1.t5 hf1.t6 hf1.t7 hf1.t8 hf1.t9 hf1.t12 hf1.t13 hf1.t14 hf1.t70 hf1.t71 hf1.t72 hf1.t97
    clear hf1
    cases y with
    | false =>
      go_wp2_with fail
      refine ⟨⟨q + 1, N1, t1, S, ts, bs, L, by omega, ⟨rfl, rfl, rfl, rfl, rfl, rfl, rfl, rfl, rfl, rfl, rfl, by show some (Value.int .i64 ((q : Int) + 1)) = _; simp⟩, by omega, by omega, Lib.hid ⟨HC1.out, HI.out.2.1, ?_, HK1.out⟩⟩, ?_⟩
      · rw [HE4.out]
        have := secs_snoc (s := []) HI.out.2.2.1 (r := (id, df, x)) (.inl ⟨rfl, HY.out (by first | trivial | rfl)⟩)
        rwa [List.append_nil] at this
      · simp [mu2, intOf]; omega
    | true =>
      go_upto_region 17 with fail
      refine wp_then (E := fun _ _ => False) (K := fun a' w' => ∃ (t' : Int) (S' : Value) (z : Tri) (b v : List Int), F3 a' P PT PF PL PA U G q ∧ t' ≤ t1 + 9 ∧ Hid (isP (id, v) b ∧ isForm x v ∧ Cw w0 B PT PA w'.heap.size w' t' S' (ts ++ [z]) (bs ++ [b]) ∧ Kp PT PA Z0 (G + 1) wG w' S')) (c17_wp HP.out _ ⟨rfl, rfl, rfl, rfl, rfl, rfl, rfl, rfl, rfl, rfl, rfl, rfl, rfl, rfl, rfl⟩ HC1.out HK1.out (by omega) HE1.out hi0 hi1 hx0 hx1 (by omega) (by omega) (fun a' w' t' S' z b v k1 k2 k3 k4 k5 k6 => ⟨t', S', z, b, v, k1, k6, Lib.hid ⟨k2, k3, k4, k5⟩⟩)) (fun _ _ h => h.elim) ?_
      rintro a2 w2 ⟨t2, S2, z, b, v, hf2, ht2, H2⟩
      obtain ⟨k, rfl⟩ := lit3 hf2.sz hf2.df hf2.t2 hf2.t5 hf2.t6 hf2.t7 hf2.t8 hf2.t9 hf2.t12 hf2.t70 hf2.t71 hf2.t72
      clear hf2
      simp only [Exit.then, Exit.inBlock]
      go_wp2_with fail
      refine ⟨⟨q + 1, _, t2, S2, ts ++ [z], bs ++ [b], L ++ [(id, v)], by omega, ⟨rfl, rfl, rfl, rfl, rfl, rfl, rfl, rfl, rfl, rfl, rfl, by show some (Value.int .i64 ((q : Int) + 1)) = _; simp⟩, by omega, by rw [List.length_append]; simp; omega, Lib.hid ⟨H2.out.2.2.1, ?_, ?_, H2.out.2.2.2⟩⟩, ?_⟩
      · rw [← List.append_assoc]; exact allP_snoc HI.out.2.1 H2.out.1
      · rw [HE4.out]
        exact secs_snoc HI.out.2.2.1 (.inr ⟨v, rfl, H2.out.2.1⟩)
      · simp [mu2, intOf]; omega
set_option maxRecDepth 1000000 in
set_option maxHeartbeats 8000000 in
/-- The second loop. -/
theorem c8_wp {B P PN PT PF PL PA : Nat} {A : Option Addr} {n c : Nat} {wi w0 w : World} {Qq : QP} {SS : SP} {U : Nat} {ps : List (Int × List Int)} (x : Px B P PN PT PF PL PA A n c wi w0 Qq SS) (a : Act) (hf : F2 a P PT PF PL PA U) (hst : StU w0 B PT PA 4 U w ps)
    {K : Act → World → Prop} {Q : Exit → Act → World → Prop} (hK : ∀ a' w' L, Fx a' P PT PF PL PA → secs (nms SS) L → St w0 B PT PA 15 w' (ps ++ L) → K a' w') :
    Code.wp Tryd.prog c8 (Exit.then K Q) a w := by
  obtain ⟨f, rfl⟩ := lit2 hf.sz hf.df hf.t2 hf.t5 hf.t6 hf.t7 hf.t8 hf.t9 hf.t12
  clear hf
  conv => arg 2; whnf
  obtain ⟨N, t0, S0, ts0, bs0, hc0, ha0, ht0, hl0, hNU, hU⟩ := hst
  have hUs := cell_in hU
  have HC := Lib.hid hc0
  have u_idle := x.pc HC.out.fr (i := 4) (v := .int .i64 Qq.idle) rfl
  have u_udp := x.pc HC.out.fr (i := 5) (v := .int .i64 Qq.udp) rfl
  have u_data := x.pc HC.out.fr (i := 6) (v := .int .i64 Qq.data) rfl
  have u_bl := x.pc HC.out.fr (i := 7) (v := .int .i64 Qq.bl) rfl
  have u_br := x.pc HC.out.fr (i := 8) (v := .int .i64 Qq.br) rfl
  have u_un := x.pc HC.out.fr (i := 9) (v := .int .i64 Qq.un) rfl
  have u_sb := x.pc HC.out.fr (i := 10) (v := .int .i64 Qq.sb) rfl
  have u_su := x.pc HC.out.fr (i := 11) (v := .int .i64 Qq.su) rfl
  have u_ae := x.pc HC.out.fr (i := 12) (v := .int .i64 Qq.ae) rfl
  have u_ad := x.pc HC.out.fr (i := 13) (v := .int .i64 Qq.ad) rfl
  have u_act := x.pc HC.out.fr (i := 21) (v := .int .i64 Qq.act) rfl
  have hl2 : Hid (L2 PT PA N U w.heap.size Qq (w.alloc (.cells #[.int .i64 Qq.idle, .int .i64 Qq.udp, .int .i64 Qq.data, .int .i64 Qq.bl, .int .i64 Qq.br, .int .i64 Qq.un, .int .i64 Qq.sb, .int .i64 Qq.su, .int .i64 Qq.ae, .int .i64 Qq.ad, .int .i64 Qq.act] 2 (0, 0)))) := Lib.hid ⟨hNU, hUs, (heap_alloc_old w _ hUs).trans hU, heap_alloc_new w _⟩
  have hk0 : Hid (Kp PT PA N (w.heap.size + 1) (w.alloc (.cells #[.int .i64 Qq.idle, .int .i64 Qq.udp, .int .i64 Qq.data, .int .i64 Qq.bl, .int .i64 Qq.br, .int .i64 Qq.un, .int .i64 Qq.sb, .int .i64 Qq.su, .int .i64 Qq.ae, .int .i64 Qq.ad, .int .i64 Qq.act] 2 (0, 0))) (w.alloc (.cells #[.int .i64 Qq.idle, .int .i64 Qq.udp, .int .i64 Qq.data, .int .i64 Qq.bl, .int .i64 Qq.br, .int .i64 Qq.un, .int .i64 Qq.sb, .int .i64 Qq.su, .int .i64 Qq.ae, .int .i64 Qq.ad, .int .i64 Qq.act] 2 (0, 0))) S0) := Lib.hid ⟨by show _ ≤ (w.heap.push _).size; simp, fun _ _ _ => rfl, fun k hk => .inl (hc0.lo k hk), by have := hc0.pp; have := hc0.bn; omega⟩
  have hcG : Hid (Cw w0 B PT PA N (w.alloc (.cells #[.int .i64 Qq.idle, .int .i64 Qq.udp, .int .i64 Qq.data, .int .i64 Qq.bl, .int .i64 Qq.br, .int .i64 Qq.un, .int .i64 Qq.sb, .int .i64 Qq.su, .int .i64 Qq.ae, .int .i64 Qq.ad, .int .i64 Qq.act] 2 (0, 0))) t0 S0 ts0 bs0) := Lib.hid (hc0.alloc _)
  have HPX := Lib.hid x
  have HK := Lib.hid hK
  have HA0 := Lib.hid ha0
  have HT0 := Lib.hid ht0
  have HL0 := Lib.hid hl0
  clear hc0 hK x ha0 ht0 hl0 hU hUs hNU
  go_upto_block 2 with fail
  change Code.wp _ _ _ _ (w.alloc (.cells #[.int .i64 Qq.idle, .int .i64 Qq.udp, .int .i64 Qq.data, .int .i64 Qq.bl, .int .i64 Qq.br, .int .i64 Qq.un, .int .i64 Qq.sb, .int .i64 Qq.su, .int .i64 Qq.ae, .int .i64 Qq.ad, .int .i64 Qq.act] 2 (0, 0)))
  obtain ⟨wG, hwG⟩ : ∃ wG, (w.alloc (.cells #[.int .i64 Qq.idle, .int .i64 Qq.udp, .int .i64 Qq.data, .int .i64 Qq.bl, .int .i64 Qq.br, .int .i64 Qq.un, .int .i64 Qq.sb, .int .i64 Qq.su, .int .i64 Qq.ae, .int .i64 Qq.ad, .int .i64 Qq.act] 2 (0, 0))) = wG := ⟨_, rfl⟩
  rw [hwG] at hl2 hk0 hcG ⊢
  refine wp_block ?_
  refine wp_loop (LI2 P PT PF PL PA U w.heap.size N w0 wG B SS ps) mu2 ⟨0, N, t0, S0, ts0, bs0, [], by omega, ⟨rfl, rfl, rfl, rfl, rfl, rfl, rfl, rfl, rfl, rfl, rfl, rfl⟩, by have := HT0.out; simp; omega, HL0.out, Lib.hid ⟨hcG.out, by rw [List.append_nil]; exact HA0.out, rfl, hk0.out⟩⟩ (fun a w hI => r8_wp HPX.out hl2.out a hI (fun a' w' L hf' hs' hst' => ?_))
  exact HK.out a' w' L hf' hs' hst'
end

end Go.Proofs.YtdjdcpcomhjnjaaDoor

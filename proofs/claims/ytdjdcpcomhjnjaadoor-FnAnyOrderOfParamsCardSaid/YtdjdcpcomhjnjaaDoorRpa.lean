/- ZZReadParams: its last region. Conditions: none. -/
import Derived.Test.YtdjdcpcomhjnjaaDoorRp
namespace Go.Proofs.YtdjdcpcomhjnjaaDoor
open Go.RowKit
set_option linter.unusedVariables false
set_option linter.unusedSimpArgs false
/-- AsSlice: its slice laid open. -/
theorem p26 {w : World} {P : Nat} {Aod : Option Addr} {nod cod : Nat} {Art : Option Addr} {nrt crt : Nat} {Apid : Option Addr} {npid cpid : Nat} {Aptok : Option Addr} {nptok cptok : Nat} {Ais : Option Addr} {nis cis : Nat} {Ars : Option Addr} {nrs crs : Nat} {I udp data bl br un sb su ae D h4 l4 p4 h6 l6 p6 act : Int} {nomig : Bool} {z4 z6 : Option Addr} (h : w.heap[P]? = some (.cells (TP.cells ⟨(Aod, nod, cod), I * 1000000, (Art, nrt, crt), udp, data, bl, br, un, sb, su, ae, D * 1000000, nomig, ⟨h4, l4, z4, p4⟩, ⟨h6, l6, z6, p6⟩, (Apid, npid, cpid), (Aptok, nptok, cptok), act, (Ais, nis, cis), (Ars, nrs, crs)⟩) 76 (0, 0))) : w.cell? ⟨P, 0, none⟩ = some (.slice Aod nod cod) ∧ w.cell? ⟨P, 1, none⟩ = some (.int .i64 (I * 1000000)) ∧ w.cell? ⟨P, 2, none⟩ = some (.slice Art nrt crt) ∧ w.cell? ⟨P, 3, none⟩ = some (.int .i64 udp) ∧ w.cell? ⟨P, 4, none⟩ = some (.int .i64 data) ∧ w.cell? ⟨P, 5, none⟩ = some (.int .i64 bl) ∧ w.cell? ⟨P, 6, none⟩ = some (.int .i64 br) ∧ w.cell? ⟨P, 7, none⟩ = some (.int .i64 un) ∧ w.cell? ⟨P, 8, none⟩ = some (.int .i64 sb) ∧ w.cell? ⟨P, 9, none⟩ = some (.int .i64 su) ∧ w.cell? ⟨P, 10, none⟩ = some (.int .i8 ae) ∧ w.cell? ⟨P, 11, none⟩ = some (.int .i64 (D * 1000000)) ∧ w.cell? ⟨P, 12, none⟩ = some (.bool nomig) ∧ w.cell? ⟨P, 13, none⟩ = some (.int .u64 h4) ∧ w.cell? ⟨P, 14, none⟩ = some (.int .u64 l4) ∧ w.cell? ⟨P, 15, none⟩ = some (.pointer z4) ∧ w.cell? ⟨P, 16, none⟩ = some (.int .u16 p4) ∧ w.cell? ⟨P, 17, none⟩ = some (.int .u64 h6) ∧ w.cell? ⟨P, 18, none⟩ = some (.int .u64 l6) ∧ w.cell? ⟨P, 19, none⟩ = some (.pointer z6) ∧ w.cell? ⟨P, 20, none⟩ = some (.int .u16 p6) ∧ w.cell? ⟨P, 21, none⟩ = some (.slice Apid npid cpid) ∧ w.cell? ⟨P, 22, none⟩ = some (.slice Aptok nptok cptok) ∧ w.cell? ⟨P, 23, none⟩ = some (.int .i64 act) ∧ w.cell? ⟨P, 24, none⟩ = some (.slice Ais nis cis) ∧ w.cell? ⟨P, 25, none⟩ = some (.slice Ars nrs crs) := by
  refine ⟨?_, ?_, ?_, ?_, ?_, ?_, ?_, ?_, ?_, ?_, ?_, ?_, ?_, ?_, ?_, ?_, ?_, ?_, ?_, ?_, ?_, ?_, ?_, ?_, ?_, ?_⟩ <;> (rw [cell_of_row _ _ _ _ _ (0, 0) h]; rfl)
theorem rp_end {w w6 : World} {R B : Nat} {Z Q : QP} {S : SP} {K : Act → World → Prop} (hK : Hid (∀ a' w' Q', a'.tmps[2]? = some (.pointer (some ⟨R, 0, none⟩)) → a'.tmps[3]? = some (.bool true) → a'.defers = [] → w'.heap[R]? = some (.cells Q'.cells 49 (0, 0)) → Qp w' Q' S → Below B w w' → K a' w'))
    (HR6 : Hid (w6.heap[R]? = some (.cells Z.cells 49 (0, 0)))) (HQ6 : Hid (Qp w6 Q S)) (HB : Hid (Below w.heap.size w w6)) (hBR : B ≤ R) (hBw : B ≤ w.heap.size) (a' : Act) (h2 : a'.tmps[2]? = some (.pointer (some ⟨R, 0, none⟩))) (h3 : a'.tmps[3]? = some (.bool true)) (hd : a'.defers = []) :
    K a' (w6.setCells R 0 Q.cells.toList) :=
  hK.out a' _ Q h2 h3 hd (setCells_all HR6.out (Z.size.trans Q.size.symm)).1 (HQ6.out.keep fun t d h => rt_setCells HR6.out Z.no_u8 0 _ h) (below_setCells hBR hBw _ _ (HB.out.mono hBw))
set_option maxRecDepth 1000000 in
set_option maxHeartbeats 8000000 in
theorem rp4_wp {w : World} {R P : Nat} {Aod : Option Addr} {nod cod : Nat} {Art : Option Addr} {nrt crt : Nat} {Apid : Option Addr} {npid cpid : Nat} {Aptok : Option Addr} {nptok cptok : Nat} {Ais : Option Addr} {nis cis : Nat} {Ars : Option Addr} {nrs crs : Nat} {I udp data bl br un sb su ae D h4 l4 p4 h6 l6 p6 act : Int} {nomig : Bool} {z4 z6 : Option Addr} {S : SP} {Z : QP} {a4 a6 : Addr} (f : Nat → Value) (hP : w.heap[P]? = some (.cells (TP.cells ⟨(Aod, nod, cod), I * 1000000, (Art, nrt, crt), udp, data, bl, br, un, sb, su, ae, D * 1000000, nomig, ⟨h4, l4, z4, p4⟩, ⟨h6, l6, z6, p6⟩, (Apid, npid, cpid), (Aptok, nptok, cptok), act, (Ais, nis, cis), (Ars, nrs, crs)⟩) 76 (0, 0))) (hR : w.heap[R]? = some (.cells Z.cells 49 (0, 0))) (ht : Tp w a4 a6 ⟨(Aod, nod, cod), I * 1000000, (Art, nrt, crt), udp, data, bl, br, un, sb, su, ae, D * 1000000, nomig, ⟨h4, l4, z4, p4⟩, ⟨h6, l6, z6, p6⟩, (Apid, npid, cpid), (Aptok, nptok, cptok), act, (Ais, nis, cis), (Ars, nrs, crs)⟩ S) (hg : Gl w a4 a6) (hae0 : 0 ≤ ae) (hae1 : ae ≤ 20) (hI0 : 0 ≤ I) (hI1 : I ≤ 4294967296) (hD0 : 0 ≤ D) (hD1 : D ≤ 16384) (hp40 : 0 ≤ p4) (hp41 : p4 ≤ 65535) (hp60 : 0 ≤ p6) (hp61 : p6 ≤ 65535)
    {B : Nat} (hBR : B ≤ R) (hBP : R ≠ P) (hBw : B ≤ w.heap.size)
    {K E : Act → World → Prop} (hK : ∀ a' w' Q', a'.tmps[2]? = some (.pointer (some ⟨R, 0, none⟩)) → a'.tmps[3]? = some (.bool true) → a'.defers = [] → w'.heap[R]? = some (.cells Q'.cells 49 (0, 0)) → Qp w' Q' S → Below B w w' → K a' w') :
    Code.wp Tryd.prog rp4 (Exit.then K (Qr E)) ⟨#[f 0, f 1, .pointer (some ⟨R, 0, none⟩), f 3, .pointer (some ⟨P, 0, none⟩), f 5, f 6, f 7, f 8, f 9, f 10, f 11, f 12, f 13, f 14, f 15, f 16, f 17, f 18, f 19, f 20, f 21, f 22, f 23, f 24, f 25, f 26, f 27, f 28, f 29, f 30, f 31, f 32, f 33, f 34, f 35, f 36, f 37, f 38, f 39, f 40, f 41, f 42, f 43, f 44, f 45, f 46, f 47, f 48, f 49, f 50, f 51, f 52, f 53, f 54, f 55, f 56, f 57, f 58, f 59, f 60, f 61, f 62, f 63, f 64, f 65, f 66, f 67, f 68, f 69, f 70], []⟩ w := by
  have HP := Lib.hid hP
  have HRb := Lib.hid hR
  have HT := Lib.hid ht
  have HG := Lib.hid hg
  have HB : Hid (Below w.heap.size w w.drew) := below_drewN (Below.refl _ _) 1
  have HKK := Lib.hid hK
  have hqi : (I * 1000000).tdiv 1000000 = I := Int.mul_tdiv_cancel _ (by decide)
  have hqd : (D * 1000000).tdiv 1000000 = D := Int.mul_tdiv_cancel _ (by decide)
  have hwI : IntKind.i64.wrap I = I := IntWalk.i64_in _ (by omega)
  have hwD : IntKind.i64.wrap D = D := IntWalk.i64_in _ (by omega)
  have hwa : IntKind.i64.wrap ae = ae := IntWalk.i64_in _ (by omega)
  have hw4 : IntKind.i64.wrap p4 = p4 := IntWalk.i64_in _ (by omega)
  have hw6 : IntKind.i64.wrap p6 = p6 := IntWalk.i64_in _ (by omega)
  clear hP hR ht hg hK
  conv => arg 2; whnf
  refine wp_region_held_drew (S := fun wx => wx.cell? ⟨P, 0, none⟩ = some (.slice Aod nod cod) ∧ wx.cell? ⟨P, 1, none⟩ = some (.int .i64 (I * 1000000)) ∧ wx.cell? ⟨P, 2, none⟩ = some (.slice Art nrt crt) ∧ wx.cell? ⟨P, 3, none⟩ = some (.int .i64 udp) ∧ wx.cell? ⟨P, 4, none⟩ = some (.int .i64 data) ∧ wx.cell? ⟨P, 5, none⟩ = some (.int .i64 bl) ∧ wx.cell? ⟨P, 6, none⟩ = some (.int .i64 br) ∧ wx.cell? ⟨P, 7, none⟩ = some (.int .i64 un) ∧ wx.cell? ⟨P, 8, none⟩ = some (.int .i64 sb) ∧ wx.cell? ⟨P, 9, none⟩ = some (.int .i64 su) ∧ wx.cell? ⟨P, 10, none⟩ = some (.int .i8 ae) ∧ wx.cell? ⟨P, 11, none⟩ = some (.int .i64 (D * 1000000)) ∧ wx.cell? ⟨P, 12, none⟩ = some (.bool nomig) ∧ wx.cell? ⟨P, 13, none⟩ = some (.int .u64 h4) ∧ wx.cell? ⟨P, 14, none⟩ = some (.int .u64 l4) ∧ wx.cell? ⟨P, 15, none⟩ = some (.pointer z4) ∧ wx.cell? ⟨P, 16, none⟩ = some (.int .u16 p4) ∧ wx.cell? ⟨P, 17, none⟩ = some (.int .u64 h6) ∧ wx.cell? ⟨P, 18, none⟩ = some (.int .u64 l6) ∧ wx.cell? ⟨P, 19, none⟩ = some (.pointer z6) ∧ wx.cell? ⟨P, 20, none⟩ = some (.int .u16 p6) ∧ wx.cell? ⟨P, 21, none⟩ = some (.slice Apid npid cpid) ∧ wx.cell? ⟨P, 22, none⟩ = some (.slice Aptok nptok cptok) ∧ wx.cell? ⟨P, 23, none⟩ = some (.int .i64 act) ∧ wx.cell? ⟨P, 24, none⟩ = some (.slice Ais nis cis) ∧ wx.cell? ⟨P, 25, none⟩ = some (.slice Ars nrs crs)) (by kernel_rfl) (by exact p26 HP.out) (fun hHeld => ?_)
  refine wpAnyH_take (i := 0) (v := ?v0) rfl (by kernel_rfl) (by kernel_rfl) (by kernel_rfl) (fun _ _ _ h => h) (Or.inl ⟨by rfl, ?hy0⟩) (by assumption) ?rest0
  case hy0 => (intro wq hSw; (try dsimp only at hSw); go_simp; (try simp only [hwI, hwD, hwa, hw4, hw6]); try with_reducible rfl)
  try simp only [Act.put, List.setIfInBounds_toArray, List.set_cons_zero, List.set_cons_succ]
  refine wpAnyH_take (i := 1) (v := ?v1) rfl (by kernel_rfl) (by kernel_rfl) (by kernel_rfl) (fun _ _ _ h => h) (Or.inl ⟨by rfl, ?hy1⟩) (by assumption) ?rest1
  case hy1 => (intro wq hSw; (try dsimp only at hSw); go_simp; (try simp only [hwI, hwD, hwa, hw4, hw6]); try with_reducible rfl)
  try simp only [Act.put, List.setIfInBounds_toArray, List.set_cons_zero, List.set_cons_succ]
  refine wpAnyH_take (i := 2) (v := ?v2) rfl (by kernel_rfl) (by kernel_rfl) (by kernel_rfl) (fun _ _ _ h => h) (Or.inl ⟨by rfl, ?hy2⟩) (by assumption) ?rest2
  case hy2 => (intro wq hSw; (try dsimp only at hSw); go_simp; (try simp only [hwI, hwD, hwa, hw4, hw6]); try with_reducible rfl)
  try simp only [Act.put, List.setIfInBounds_toArray, List.set_cons_zero, List.set_cons_succ]
  refine wpAnyH_take (i := 3) (v := ?v3) rfl (by kernel_rfl) (by kernel_rfl) (by kernel_rfl) (fun _ _ _ h => h) (Or.inl ⟨by rfl, ?hy3⟩) (by assumption) ?rest3
  case hy3 => (intro wq hSw; (try dsimp only at hSw); go_simp; (try simp only [hwI, hwD, hwa, hw4, hw6]); try with_reducible rfl)
  try simp only [Act.put, List.setIfInBounds_toArray, List.set_cons_zero, List.set_cons_succ]
  refine wpAnyH_take (i := 4) (v := ?v4) rfl (by kernel_rfl) (by kernel_rfl) (by kernel_rfl) (fun _ _ _ h => h) (Or.inl ⟨by rfl, ?hy4⟩) (by assumption) ?rest4
  case hy4 => (intro wq hSw; (try dsimp only at hSw); go_simp; (try simp only [hwI, hwD, hwa, hw4, hw6]); try with_reducible rfl)
  try simp only [Act.put, List.setIfInBounds_toArray, List.set_cons_zero, List.set_cons_succ]
  refine wpAnyH_take (i := 5) (v := ?v5) rfl (by kernel_rfl) (by kernel_rfl) (by kernel_rfl) (fun _ _ _ h => h) (Or.inl ⟨by rfl, ?hy5⟩) (by assumption) ?rest5
  case hy5 => (intro wq hSw; (try dsimp only at hSw); go_simp; (try simp only [hwI, hwD, hwa, hw4, hw6]); try with_reducible rfl)
  try simp only [Act.put, List.setIfInBounds_toArray, List.set_cons_zero, List.set_cons_succ]
  refine wpAnyH_take (i := 6) (v := ?v6) rfl (by kernel_rfl) (by kernel_rfl) (by kernel_rfl) (fun _ _ _ h => h) (Or.inl ⟨by rfl, ?hy6⟩) (by assumption) ?rest6
  case hy6 => (intro wq hSw; (try dsimp only at hSw); go_simp; (try simp only [hwI, hwD, hwa, hw4, hw6]); try with_reducible rfl)
  try simp only [Act.put, List.setIfInBounds_toArray, List.set_cons_zero, List.set_cons_succ]
  refine wpAnyH_take (i := 7) (v := ?v7) rfl (by kernel_rfl) (by kernel_rfl) (by kernel_rfl) (fun _ _ _ h => h) (Or.inl ⟨by rfl, ?hy7⟩) (by assumption) ?rest7
  case hy7 => (intro wq hSw; (try dsimp only at hSw); go_simp; (try simp only [hwI, hwD, hwa, hw4, hw6]); try with_reducible rfl)
  try simp only [Act.put, List.setIfInBounds_toArray, List.set_cons_zero, List.set_cons_succ]
  refine wpAnyH_take (i := 8) (v := ?v8) rfl (by kernel_rfl) (by kernel_rfl) (by kernel_rfl) (fun _ _ _ h => h) (Or.inl ⟨by rfl, ?hy8⟩) (by assumption) ?rest8
  case hy8 => (intro wq hSw; (try dsimp only at hSw); go_simp; (try simp only [hwI, hwD, hwa, hw4, hw6]); try with_reducible rfl)
  try simp only [Act.put, List.setIfInBounds_toArray, List.set_cons_zero, List.set_cons_succ]
  refine wpAnyH_take (i := 9) (v := ?v9) rfl (by kernel_rfl) (by kernel_rfl) (by kernel_rfl) (fun _ _ _ h => h) (Or.inl ⟨by rfl, ?hy9⟩) (by assumption) ?rest9
  case hy9 => (intro wq hSw; (try dsimp only at hSw); go_simp; (try simp only [hwI, hwD, hwa, hw4, hw6]); try with_reducible rfl)
  try simp only [Act.put, List.setIfInBounds_toArray, List.set_cons_zero, List.set_cons_succ]
  refine wpAnyH_take (i := 10) (v := ?v10) rfl (by kernel_rfl) (by kernel_rfl) (by kernel_rfl) (fun _ _ _ h => h) (Or.inl ⟨by rfl, ?hy10⟩) (by assumption) ?rest10
  case hy10 => (intro wq hSw; (try dsimp only at hSw); go_simp; (try simp only [hwI, hwD, hwa, hw4, hw6]); try with_reducible rfl)
  try simp only [Act.put, List.setIfInBounds_toArray, List.set_cons_zero, List.set_cons_succ]
  refine wpAnyH_take (i := 11) (v := ?v11) rfl (by kernel_rfl) (by kernel_rfl) (by kernel_rfl) (fun _ _ _ h => h) (Or.inl ⟨by rfl, ?hy11⟩) (by assumption) ?rest11
  case hy11 => (intro wq hSw; (try dsimp only at hSw); go_simp; (try simp only [hwI, hwD, hwa, hw4, hw6]); try with_reducible rfl)
  try simp only [Act.put, List.setIfInBounds_toArray, List.set_cons_zero, List.set_cons_succ]
  refine wpAnyH_take (i := 12) (v := ?v12) rfl (by kernel_rfl) (by kernel_rfl) (by kernel_rfl) (fun _ _ _ h => h) (Or.inl ⟨by rfl, ?hy12⟩) (by assumption) ?rest12
  case hy12 => (intro wq hSw; (try dsimp only at hSw); go_simp; (try simp only [hwI, hwD, hwa, hw4, hw6]); try with_reducible rfl)
  try simp only [Act.put, List.setIfInBounds_toArray, List.set_cons_zero, List.set_cons_succ]
  refine wpAnyH_take (i := 13) (v := ?v13) rfl (by kernel_rfl) (by kernel_rfl) (by kernel_rfl) (fun _ _ _ h => h) (Or.inl ⟨by rfl, ?hy13⟩) (by assumption) ?rest13
  case hy13 => (intro wq hSw; (try dsimp only at hSw); go_simp; (try simp only [hwI, hwD, hwa, hw4, hw6]); try with_reducible rfl)
  try simp only [Act.put, List.setIfInBounds_toArray, List.set_cons_zero, List.set_cons_succ]
  refine wpAnyH_take (i := 14) (v := ?v14) rfl (by kernel_rfl) (by kernel_rfl) (by kernel_rfl) (fun _ _ _ h => h) (Or.inl ⟨by rfl, ?hy14⟩) (by assumption) ?rest14
  case hy14 => (intro wq hSw; (try dsimp only at hSw); go_simp; (try simp only [hwI, hwD, hwa, hw4, hw6]); try with_reducible rfl)
  try simp only [Act.put, List.setIfInBounds_toArray, List.set_cons_zero, List.set_cons_succ]
  refine wpAnyH_take (i := 15) (v := ?v15) rfl (by kernel_rfl) (by kernel_rfl) (by kernel_rfl) (fun _ _ _ h => h) (Or.inl ⟨by rfl, ?hy15⟩) (by assumption) ?rest15
  case hy15 => (intro wq hSw; (try dsimp only at hSw); go_simp; (try simp only [hwI, hwD, hwa, hw4, hw6]); try with_reducible rfl)
  try simp only [Act.put, List.setIfInBounds_toArray, List.set_cons_zero, List.set_cons_succ]
  refine wpAnyH_take (i := 16) (v := ?v16) rfl (by kernel_rfl) (by kernel_rfl) (by kernel_rfl) (fun _ _ _ h => h) (Or.inl ⟨by rfl, ?hy16⟩) (by assumption) ?rest16
  case hy16 => (intro wq hSw; (try dsimp only at hSw); go_simp; (try simp only [hwI, hwD, hwa, hw4, hw6]); try with_reducible rfl)
  try simp only [Act.put, List.setIfInBounds_toArray, List.set_cons_zero, List.set_cons_succ]
  refine wpAnyH_take (i := 17) (v := ?v17) rfl (by kernel_rfl) (by kernel_rfl) (by kernel_rfl) (fun _ _ _ h => h) (Or.inl ⟨by rfl, ?hy17⟩) (by assumption) ?rest17
  case hy17 => (intro wq hSw; (try dsimp only at hSw); go_simp; (try simp only [hwI, hwD, hwa, hw4, hw6]); try with_reducible rfl)
  try simp only [Act.put, List.setIfInBounds_toArray, List.set_cons_zero, List.set_cons_succ]
  refine wpAnyH_take (i := 18) (v := ?v18) rfl (by kernel_rfl) (by kernel_rfl) (by kernel_rfl) (fun _ _ _ h => h) (Or.inl ⟨by rfl, ?hy18⟩) (by assumption) ?rest18
  case hy18 => (intro wq hSw; (try dsimp only at hSw); go_simp; (try simp only [hwI, hwD, hwa, hw4, hw6]); try with_reducible rfl)
  try simp only [Act.put, List.setIfInBounds_toArray, List.set_cons_zero, List.set_cons_succ]
  refine wpAnyH_take (i := 19) (v := ?v19) rfl (by kernel_rfl) (by kernel_rfl) (by kernel_rfl) (fun _ _ _ h => h) (Or.inl ⟨by rfl, ?hy19⟩) (by assumption) ?rest19
  case hy19 => (intro wq hSw; (try dsimp only at hSw); go_simp; (try simp only [hwI, hwD, hwa, hw4, hw6]); try with_reducible rfl)
  try simp only [Act.put, List.setIfInBounds_toArray, List.set_cons_zero, List.set_cons_succ]
  refine wpAnyH_take (i := 20) (v := ?v20) rfl (by kernel_rfl) (by kernel_rfl) (by kernel_rfl) (fun _ _ _ h => h) (Or.inl ⟨by rfl, ?hy20⟩) (by assumption) ?rest20
  case hy20 => (intro wq hSw; (try dsimp only at hSw); go_simp; (try simp only [hwI, hwD, hwa, hw4, hw6]); try with_reducible rfl)
  try simp only [Act.put, List.setIfInBounds_toArray, List.set_cons_zero, List.set_cons_succ]
  refine wpAnyH_take (i := 21) (v := ?v21) rfl (by kernel_rfl) (by kernel_rfl) (by kernel_rfl) (fun _ _ _ h => h) (Or.inl ⟨by rfl, ?hy21⟩) (by assumption) ?rest21
  case hy21 => (intro wq hSw; (try dsimp only at hSw); go_simp; (try simp only [hwI, hwD, hwa, hw4, hw6]); try with_reducible rfl)
  try simp only [Act.put, List.setIfInBounds_toArray, List.set_cons_zero, List.set_cons_succ]
  refine wpAnyH_take (i := 22) (v := ?v22) rfl (by kernel_rfl) (by kernel_rfl) (by kernel_rfl) (fun _ _ _ h => h) (Or.inl ⟨by rfl, ?hy22⟩) (by assumption) ?rest22
  case hy22 => (intro wq hSw; (try dsimp only at hSw); go_simp; (try simp only [hwI, hwD, hwa, hw4, hw6]); try with_reducible rfl)
  try simp only [Act.put, List.setIfInBounds_toArray, List.set_cons_zero, List.set_cons_succ]
  refine wpAnyH_take (i := 23) (v := ?v23) rfl (by kernel_rfl) (by kernel_rfl) (by kernel_rfl) (fun _ _ _ h => h) (Or.inl ⟨by rfl, ?hy23⟩) (by assumption) ?rest23
  case hy23 => (intro wq hSw; (try dsimp only at hSw); go_simp; (try simp only [hwI, hwD, hwa, hw4, hw6]); try with_reducible rfl)
  try simp only [Act.put, List.setIfInBounds_toArray, List.set_cons_zero, List.set_cons_succ]
  refine wpAnyH_take (i := 24) (v := ?v24) rfl (by kernel_rfl) (by kernel_rfl) (by kernel_rfl) (fun _ _ _ h => h) (Or.inl ⟨by rfl, ?hy24⟩) (by assumption) ?rest24
  case hy24 => (intro wq hSw; (try dsimp only at hSw); go_simp; (try simp only [hwI, hwD, hwa, hw4, hw6]); try with_reducible rfl)
  try simp only [Act.put, List.setIfInBounds_toArray, List.set_cons_zero, List.set_cons_succ]
  refine wpAnyH_take (i := 25) (v := ?v25) rfl (by kernel_rfl) (by kernel_rfl) (by kernel_rfl) (fun _ _ _ h => h) (Or.inl ⟨by rfl, ?hy25⟩) (by assumption) ?rest25
  case hy25 => (intro wq hSw; (try dsimp only at hSw); go_simp; (try simp only [hwI, hwD, hwa, hw4, hw6]); try with_reducible rfl)
  try simp only [Act.put, List.setIfInBounds_toArray, List.set_cons_zero, List.set_cons_succ]
  refine wpAnyH_take (i := 26) (v := ?v26) rfl (by kernel_rfl) (by kernel_rfl) (by kernel_rfl) (fun _ _ _ h => h) (Or.inl ⟨by rfl, ?hy26⟩) (by assumption) ?rest26
  case hy26 => (intro wq hSw; (try dsimp only at hSw); go_simp; (try simp only [hwI, hwD, hwa, hw4, hw6]); try with_reducible rfl)
  try simp only [Act.put, List.setIfInBounds_toArray, List.set_cons_zero, List.set_cons_succ]
  refine wpAnyH_take (i := 27) (v := ?v27) rfl (by kernel_rfl) (by kernel_rfl) (by kernel_rfl) (fun _ _ _ h => h) (Or.inl ⟨by rfl, ?hy27⟩) (by assumption) ?rest27
  case hy27 => (intro wq hSw; (try dsimp only at hSw); go_simp; (try simp only [hwI, hwD, hwa, hw4, hw6]); try with_reducible rfl)
  try simp only [Act.put, List.setIfInBounds_toArray, List.set_cons_zero, List.set_cons_succ]
  refine wpAnyH_take (i := 28) (v := ?v28) rfl (by kernel_rfl) (by kernel_rfl) (by kernel_rfl) (fun _ _ _ h => h) (Or.inl ⟨by rfl, ?hy28⟩) (by assumption) ?rest28
  case hy28 => (intro wq hSw; (try dsimp only at hSw); go_simp; (try simp only [hwI, hwD, hwa, hw4, hw6]); try with_reducible rfl)
  try simp only [Act.put, List.setIfInBounds_toArray, List.set_cons_zero, List.set_cons_succ]
  refine wpAnyH_take (i := 29) (v := ?v29) rfl (by kernel_rfl) (by kernel_rfl) (by kernel_rfl) (fun _ _ _ h => h) (Or.inl ⟨by rfl, ?hy29⟩) (by assumption) ?rest29
  case hy29 => (intro wq hSw; (try dsimp only at hSw); go_simp; (try simp only [hwI, hwD, hwa, hw4, hw6]); try with_reducible rfl)
  try simp only [Act.put, List.setIfInBounds_toArray, List.set_cons_zero, List.set_cons_succ]
  refine wpAnyH_take (i := 30) (v := ?v30) rfl (by kernel_rfl) (by kernel_rfl) (by kernel_rfl) (fun _ _ _ h => h) (Or.inl ⟨by rfl, ?hy30⟩) (by assumption) ?rest30
  case hy30 => (intro wq hSw; (try dsimp only at hSw); go_simp; (try simp only [hwI, hwD, hwa, hw4, hw6]); try with_reducible rfl)
  try simp only [Act.put, List.setIfInBounds_toArray, List.set_cons_zero, List.set_cons_succ]
  refine wpAnyH_take (i := 31) (v := ?v31) rfl (by kernel_rfl) (by kernel_rfl) (by kernel_rfl) (fun _ _ _ h => h) (Or.inl ⟨by rfl, ?hy31⟩) (by assumption) ?rest31
  case hy31 => (intro wq hSw; (try dsimp only at hSw); go_simp; (try simp only [hwI, hwD, hwa, hw4, hw6]); try with_reducible rfl)
  try simp only [Act.put, List.setIfInBounds_toArray, List.set_cons_zero, List.set_cons_succ]
  refine wpAnyH_take (i := 32) (v := ?v32) rfl (by kernel_rfl) (by kernel_rfl) (by kernel_rfl) (fun _ _ _ h => h) (Or.inl ⟨by rfl, ?hy32⟩) (by assumption) ?rest32
  case hy32 => (intro wq hSw; (try dsimp only at hSw); go_simp; (try simp only [hwI, hwD, hwa, hw4, hw6]); try with_reducible rfl)
  try simp only [Act.put, List.setIfInBounds_toArray, List.set_cons_zero, List.set_cons_succ]
  refine wpAnyH_take (i := 33) (v := ?v33) rfl (by kernel_rfl) (by kernel_rfl) (by kernel_rfl) (fun _ _ _ h => h) (Or.inl ⟨by rfl, ?hy33⟩) (by assumption) ?rest33
  case hy33 => (intro wq hSw; (try dsimp only at hSw); go_simp; (try simp only [hwI, hwD, hwa, hw4, hw6]); try with_reducible rfl)
  try simp only [Act.put, List.setIfInBounds_toArray, List.set_cons_zero, List.set_cons_succ]
  refine wpAnyH_take (i := 34) (v := ?v34) rfl (by kernel_rfl) (by kernel_rfl) (by kernel_rfl) (fun _ _ _ h => h) (Or.inl ⟨by rfl, ?hy34⟩) (by assumption) ?rest34
  case hy34 => (intro wq hSw; (try dsimp only at hSw); go_simp; (try simp only [hwI, hwD, hwa, hw4, hw6]); try with_reducible rfl)
  try simp only [Act.put, List.setIfInBounds_toArray, List.set_cons_zero, List.set_cons_succ]
  refine wpAnyH_take (i := 37) (v := ?v37) rfl (by kernel_rfl) (by kernel_rfl) (by kernel_rfl) (fun _ _ _ h => h) (Or.inl ⟨by rfl, ?hy37⟩) (by assumption) ?rest37
  case hy37 => (intro wq hSw; (try dsimp only at hSw); go_simp; (try simp only [hwI, hwD, hwa, hw4, hw6]); try with_reducible rfl)
  try simp only [Act.put, List.setIfInBounds_toArray, List.set_cons_zero, List.set_cons_succ]
  refine wpAnyH_take (i := 38) (v := ?v38) rfl (by kernel_rfl) (by kernel_rfl) (by kernel_rfl) (fun _ _ _ h => h) (Or.inl ⟨by rfl, ?hy38⟩) (by assumption) ?rest38
  case hy38 => (intro wq hSw; (try dsimp only at hSw); go_simp; (try simp only [hwI, hwD, hwa, hw4, hw6]); try with_reducible rfl)
  try simp only [Act.put, List.setIfInBounds_toArray, List.set_cons_zero, List.set_cons_succ]
  refine wpAnyH_take (i := 41) (v := ?v41) rfl (by kernel_rfl) (by kernel_rfl) (by kernel_rfl) (fun _ _ _ h => h) (Or.inl ⟨by rfl, ?hy41⟩) (by assumption) ?rest41
  case hy41 => (intro wq hSw; (try dsimp only at hSw); go_simp; (try simp only [hwI, hwD, hwa, hw4, hw6]); try with_reducible rfl)
  try simp only [Act.put, List.setIfInBounds_toArray, List.set_cons_zero, List.set_cons_succ]
  refine wpAnyH_take (i := 42) (v := ?v42) rfl (by kernel_rfl) (by kernel_rfl) (by kernel_rfl) (fun _ _ _ h => h) (Or.inl ⟨by rfl, ?hy42⟩) (by assumption) ?rest42
  case hy42 => (intro wq hSw; (try dsimp only at hSw); go_simp; (try simp only [hwI, hwD, hwa, hw4, hw6]); try with_reducible rfl)
  try simp only [Act.put, List.setIfInBounds_toArray, List.set_cons_zero, List.set_cons_succ]
  refine wpAnyH_take (i := 45) (v := ?v45) rfl (by kernel_rfl) (by kernel_rfl) (by kernel_rfl) (fun _ _ _ h => h) (Or.inl ⟨by rfl, ?hy45⟩) (by assumption) ?rest45
  case hy45 => (intro wq hSw; (try dsimp only at hSw); go_simp; (try simp only [hwI, hwD, hwa, hw4, hw6]); try with_reducible rfl)
  try simp only [Act.put, List.setIfInBounds_toArray, List.set_cons_zero, List.set_cons_succ]
  refine wpAnyH_take (i := 46) (v := ?v46) rfl (by kernel_rfl) (by kernel_rfl) (by kernel_rfl) (fun _ _ _ h => h) (Or.inl ⟨by rfl, ?hy46⟩) (by assumption) ?rest46
  case hy46 => (intro wq hSw; (try dsimp only at hSw); go_simp; (try simp only [hwI, hwD, hwa, hw4, hw6]); try with_reducible rfl)
  try simp only [Act.put, List.setIfInBounds_toArray, List.set_cons_zero, List.set_cons_succ]
  refine wpAnyH_take (i := 49) (v := ?v49) rfl (by kernel_rfl) (by kernel_rfl) (by kernel_rfl) (fun _ _ _ h => h) (Or.inl ⟨by rfl, ?hy49⟩) (by assumption) ?rest49
  case hy49 => (intro wq hSw; (try dsimp only at hSw); go_simp; (try simp only [hwI, hwD, hwa, hw4, hw6]); try with_reducible rfl)
  try simp only [Act.put, List.setIfInBounds_toArray, List.set_cons_zero, List.set_cons_succ]
  refine wpAnyH_take (i := 50) (v := ?v50) rfl (by kernel_rfl) (by kernel_rfl) (by kernel_rfl) (fun _ _ _ h => h) (Or.inl ⟨by rfl, ?hy50⟩) (by assumption) ?rest50
  case hy50 => (intro wq hSw; (try dsimp only at hSw); go_simp; (try simp only [hwI, hwD, hwa, hw4, hw6]); try with_reducible rfl)
  try simp only [Act.put, List.setIfInBounds_toArray, List.set_cons_zero, List.set_cons_succ]
  refine wpAnyH_take (i := 51) (v := ?v51) rfl (by kernel_rfl) (by kernel_rfl) (by kernel_rfl) (fun _ _ _ h => h) (Or.inl ⟨by rfl, ?hy51⟩) (by assumption) ?rest51
  case hy51 => (intro wq hSw; (try dsimp only at hSw); go_simp; (try simp only [hwI, hwD, hwa, hw4, hw6]); try with_reducible rfl)
  try simp only [Act.put, List.setIfInBounds_toArray, List.set_cons_zero, List.set_cons_succ]
  refine wpAnyH_take (i := 52) (v := ?v52) rfl (by kernel_rfl) (by kernel_rfl) (by kernel_rfl) (fun _ _ _ h => h) (Or.inl ⟨by rfl, ?hy52⟩) (by assumption) ?rest52
  case hy52 => (intro wq hSw; (try dsimp only at hSw); go_simp; (try simp only [hwI, hwD, hwa, hw4, hw6]); try with_reducible rfl)
  try simp only [Act.put, List.setIfInBounds_toArray, List.set_cons_zero, List.set_cons_succ]
  refine wpAnyH_take (i := 53) (v := ?v53) rfl (by kernel_rfl) (by kernel_rfl) (by kernel_rfl) (fun _ _ _ h => h) (Or.inl ⟨by rfl, ?hy53⟩) (by assumption) ?rest53
  case hy53 => (intro wq hSw; (try dsimp only at hSw); go_simp; (try simp only [hwI, hwD, hwa, hw4, hw6]); try with_reducible rfl)
  try simp only [Act.put, List.setIfInBounds_toArray, List.set_cons_zero, List.set_cons_succ]
  refine wpAnyH_take (i := 54) (v := ?v54) rfl (by kernel_rfl) (by kernel_rfl) (by kernel_rfl) (fun _ _ _ h => h) (Or.inl ⟨by rfl, ?hy54⟩) (by assumption) ?rest54
  case hy54 => (intro wq hSw; (try dsimp only at hSw); go_simp; (try simp only [hwI, hwD, hwa, hw4, hw6]); try with_reducible rfl)
  try simp only [Act.put, List.setIfInBounds_toArray, List.set_cons_zero, List.set_cons_succ]
  refine wpAnyH_ready (rs := [35]) (by kernel_rfl) (by simp) (AllReadyH.cons rfl (fun K hK => ?_) AllReadyH.nil)
  go_simp
  go_at_call_of 31 (Value.agg #[.int .u64 h4, .int .u64 l4, .pointer z4, .int .u16 p4]); refine (apa h4 l4 p4 z4 _).mono ?_; rintro e w1 ⟨rfl, H1⟩; have HP := Lib.hid ((H1.out.block _ (cell_in HP.out)).trans HP.out); have HB := Lib.hid (HB.out.trans (H1.out.mono HB.out.size))
  refine hK.out _ _ (by exact p26 HP.out) (fun hHeld => ?_)
  clear hK K
  try simp only [Act.put, List.setIfInBounds_toArray, List.set_cons_zero, List.set_cons_succ]
  refine wpAnyH_ready (rs := [36]) (by kernel_rfl) (by simp) (AllReadyH.cons rfl (fun K hK => ?_) AllReadyH.nil)
  go_simp
  go_at_call_of 32 (Value.agg #[.int .u64 h4, .int .u64 l4, .pointer z4]); refine (asl4 a4 a6 h4 l4 p4 _ z4 _ HT.out.v4 _ (HG.out.below HB.out (Nat.le_refl _))).mono ?_; rintro e w2 ⟨⟨Av4, nv4, cv4⟩, rfl, H2⟩; have HP := Lib.hid ((H2.out.2.block _ (cell_in HP.out)).trans HP.out); have HB := Lib.hid (HB.out.trans (H2.out.2.mono HB.out.size)); have HV4 := Lib.hid H2.out.1
  refine hK.out _ _ (by exact p26 HP.out) (fun hHeld => ?_)
  clear hK K
  try simp only [Act.put, List.setIfInBounds_toArray, List.set_cons_zero, List.set_cons_succ]
  refine wpAnyH_ready (rs := [39]) (by kernel_rfl) (by simp) (AllReadyH.cons rfl (fun K hK => ?_) AllReadyH.nil)
  go_simp
  go_at_call_of 31 (Value.agg #[.int .u64 h6, .int .u64 l6, .pointer z6, .int .u16 p6]); refine (apa h6 l6 p6 z6 _).mono ?_; rintro e w3 ⟨rfl, H3⟩; have HP := Lib.hid ((H3.out.block _ (cell_in HP.out)).trans HP.out); have HB := Lib.hid (HB.out.trans (H3.out.mono HB.out.size)); have HV4 := Lib.hid (HV4.out.below H3.out)
  refine hK.out _ _ (by exact p26 HP.out) (fun hHeld => ?_)
  clear hK K
  try simp only [Act.put, List.setIfInBounds_toArray, List.set_cons_zero, List.set_cons_succ]
  refine wpAnyH_ready (rs := [40]) (by kernel_rfl) (by simp) (AllReadyH.cons rfl (fun K hK => ?_) AllReadyH.nil)
  go_simp
  go_at_call_of 32 (Value.agg #[.int .u64 h6, .int .u64 l6, .pointer z6]); refine (asl6 a4 a6 h6 l6 p6 _ z6 _ HT.out.v6 _ (HG.out.below HB.out (Nat.le_refl _))).mono ?_; rintro e w4 ⟨⟨Av6, nv6, cv6⟩, rfl, H4⟩; have HP := Lib.hid ((H4.out.2.block _ (cell_in HP.out)).trans HP.out); have HB := Lib.hid (HB.out.trans (H4.out.2.mono HB.out.size)); have HV4 := Lib.hid (HV4.out.below H4.out.2); have HV6 := Lib.hid H4.out.1
  refine hK.out _ _ (by exact p26 HP.out) (fun hHeld => ?_)
  clear hK K
  try simp only [Act.put, List.setIfInBounds_toArray, List.set_cons_zero, List.set_cons_succ]
  refine wpAnyH_ready (rs := [43]) (by kernel_rfl) (by simp) (AllReadyH.cons rfl (fun K hK => ?_) AllReadyH.nil)
  go_simp
  go_at_call_of 33 (Value.agg #[.int .u64 h4, .int .u64 l4, .pointer z4, .int .u16 p4]); refine (app h4 l4 p4 z4 _).mono ?_; rintro e w5 ⟨rfl, H5⟩; have HP := Lib.hid ((H5.out.block _ (cell_in HP.out)).trans HP.out); have HB := Lib.hid (HB.out.trans (H5.out.mono HB.out.size)); have HV4 := Lib.hid (HV4.out.below H5.out); have HV6 := Lib.hid (HV6.out.below H5.out)
  refine hK.out _ _ (by exact p26 HP.out) (fun hHeld => ?_)
  clear hK K
  try simp only [Act.put, List.setIfInBounds_toArray, List.set_cons_zero, List.set_cons_succ]
  refine take_d (i := 44) 59 (.int .i64 p4) rfl rfl (by kernel_rfl) (by kernel_rfl) (by kernel_rfl) (fun _ _ _ h => h) (Or.inl ⟨by rfl, ?hy44⟩) (by assumption) ?rest44
  case hy44 => (intro wq hSw; (try dsimp only at hSw); go_simp; (try simp only [hwI, hwD, hwa, hw4, hw6]); try with_reducible rfl)
  try simp only [Act.put, List.setIfInBounds_toArray, List.set_cons_zero, List.set_cons_succ]
  refine wpAnyH_ready (rs := [47]) (by kernel_rfl) (by simp) (AllReadyH.cons rfl (fun K hK => ?_) AllReadyH.nil)
  go_simp
  go_at_call_of 33 (Value.agg #[.int .u64 h6, .int .u64 l6, .pointer z6, .int .u16 p6]); refine (app h6 l6 p6 z6 _).mono ?_; rintro e w6 ⟨rfl, H6⟩; have HP := Lib.hid ((H6.out.block _ (cell_in HP.out)).trans HP.out); have HB := Lib.hid (HB.out.trans (H6.out.mono HB.out.size)); have HV4 := Lib.hid (HV4.out.below H6.out); have HV6 := Lib.hid (HV6.out.below H6.out)
  refine hK.out _ _ (by exact p26 HP.out) (fun hHeld => ?_)
  clear hK K
  try simp only [Act.put, List.setIfInBounds_toArray, List.set_cons_zero, List.set_cons_succ]
  refine take_d (i := 48) 63 (.int .i64 p6) rfl rfl (by kernel_rfl) (by kernel_rfl) (by kernel_rfl) (fun _ _ _ h => h) (Or.inl ⟨by rfl, ?hy48⟩) (by assumption) ?rest48
  case hy48 => (intro wq hSw; (try dsimp only at hSw); go_simp; (try simp only [hwI, hwD, hwa, hw4, hw6]); try with_reducible rfl)
  try simp only [Act.put, List.setIfInBounds_toArray, List.set_cons_zero, List.set_cons_succ]
  refine take_d (i := 55) 70 (.agg #[.slice Aod nod cod, .slice Art nrt crt, .slice Ais nis cis, .slice Ars nrs crs, .int .i64 I, .int .i64 udp, .int .i64 data, .int .i64 bl, .int .i64 br, .int .i64 un, .int .i64 sb, .int .i64 su, .int .i64 ae, .int .i64 D, .bool nomig, .slice Av4 nv4 cv4, .slice Av6 nv6 cv6, .int .i64 p4, .int .i64 p6, .slice Apid npid cpid, .slice Aptok nptok cptok, .int .i64 act]) rfl rfl (by kernel_rfl) (by kernel_rfl) (by kernel_rfl) (fun _ _ _ h => h) (Or.inl ⟨by rfl, ?hy55⟩) (by assumption) ?rest55
  case hy55 => (intro wq hSw; refine exec_build rfl _ ?_ _ (build_zq Aod nod cod Art nrt crt Ais nis cis Ars nrs crs Av4 nv4 cv4 Av6 nv6 cv6 Apid npid cpid Aptok nptok cptok I udp data bl br un sb su ae D p4 p6 act nomig wq); rw [List.map_toArray]; rfl)
  try simp only [Act.put, List.setIfInBounds_toArray, List.set_cons_zero, List.set_cons_succ]

  have HR6 : Hid (w6.heap[R]? = some (.cells Z.cells 49 (0, 0))) := (HB.out.block R (cell_in HRb.out)).trans HRb.out
  have HQ6 : Hid (Qp w6 ⟨(Aod, nod, cod), (Art, nrt, crt), (Ais, nis, cis), (Ars, nrs, crs), I, udp, data, bl, br, un, sb, su, ae, D, nomig, (Av4, nv4, cv4), (Av6, nv6, cv6), p4, p6, (Apid, npid, cpid), (Aptok, nptok, cptok), act⟩ S) := by
    refine ⟨HT.out.od.below HB.out, HT.out.rt.below HB.out, HT.out.is.below HB.out, HT.out.rs.below HB.out, ?_, HT.out.udp, HT.out.data, HT.out.bl, HT.out.br, HT.out.un, HT.out.sb, HT.out.su, HT.out.ae, ?_, HT.out.nomig, HV4.out, HV6.out, ?_, ?_, HT.out.pid.below HB.out, HT.out.ptok.below HB.out, HT.out.act⟩
    · exact Int.eq_of_mul_eq_mul_right (by decide) HT.out.idle
    · exact Int.eq_of_mul_eq_mul_right (by decide) HT.out.ad
    · exact ad4_pt HT.out.v4
    · exact ad6_pt HT.out.v6
  refine wpAnyH_ready (rs := [56]) (by kernel_rfl) (by simp) (AllReadyH.cons rfl (fun K hK => ?_) AllReadyH.nil)
  refine (if_pos (by rfl)).mpr ?_
  refine store_n rfl 49 (.tmp 2) (.tmp 70) rfl R 0 (QP.cells ⟨(Aod, nod, cod), (Art, nrt, crt), (Ais, nis, cis), (Ars, nrs, crs), I, udp, data, bl, br, un, sb, su, ae, D, nomig, (Av4, nv4, cv4), (Av6, nv6, cv6), p4, p6, (Apid, npid, cpid), (Aptok, nptok, cptok), act⟩) rfl rfl (there_row HR6.out (Nat.le_refl _)) size_zq (QP.one _) ?_
  have HP := Lib.hid (setCells_off (Ne.symm hBP) (QP.cells ⟨(Aod, nod, cod), (Art, nrt, crt), (Ais, nis, cis), (Ars, nrs, crs), I, udp, data, bl, br, un, sb, su, ae, D, nomig, (Av4, nv4, cv4), (Av6, nv6, cv6), p4, p6, (Apid, npid, cpid), (Aptok, nptok, cptok), act⟩).toList 0 HP.out)
  refine hK.out _ _ (by exact p26 HP.out) (fun hHeld => ?_)
  clear hK K
  refine take_d (i := 57) 3 (.bool true) rfl rfl (by kernel_rfl) (by kernel_rfl) (by kernel_rfl) (fun _ _ _ h => h) (Or.inl ⟨by rfl, ?hy57⟩) (by assumption) ?rest57
  case hy57 => (intro wq hSw; (try dsimp only at hSw); go_simp; (try simp only [hwI, hwD, hwa, hw4, hw6]); try with_reducible rfl)
  try simp only [Act.put, List.setIfInBounds_toArray, List.set_cons_zero, List.set_cons_succ]
  refine wpAnyH_done (by kernel_rfl) ?_ _
  exact rp_end HKK HR6 HQ6 HB hBR hBw _ rfl rfl rfl
end Go.Proofs.YtdjdcpcomhjnjaaDoor


/- ZZPutParams: its last region. Conditions: none. -/
import Derived.Test.YtdjdcpcomhjnjaaDoorMarf
import Derived.Test.YtdjdcpcomhjnjaaDoorRpa
import Derived.Deep.RegionHeld3
namespace Go.Proofs.YtdjdcpcomhjnjaaDoor
open Go.RowKit
set_option linter.unusedVariables false
set_option linter.unusedSimpArgs false
theorem size_na : (Tryd.prog.info? 71).map (·.size) = some 3 := by kernel_rfl
theorem p28 {w : World} {P PA PB : Nat} {Aod : Option Addr} {nod cod : Nat} {Art : Option Addr} {nrt crt : Nat} {Ais : Option Addr} {nis cis : Nat} {Ars : Option Addr} {nrs crs : Nat} {Av4 : Option Addr} {nv4 cv4 : Nat} {Av6 : Option Addr} {nv6 cv6 : Nat} {Apid : Option Addr} {npid cpid : Nat} {Aptok : Option Addr} {nptok cptok : Nat} {idle udp data bl br un sb su ae ad p4 p6 act : Int} {nomig : Bool} {h4 l4 h6 l6 : Int} {z4 z6 : Option Addr} (h : w.heap[P]? = some (.cells (QP.cells ⟨⟨Aod, nod, cod⟩, ⟨Art, nrt, crt⟩, ⟨Ais, nis, cis⟩, ⟨Ars, nrs, crs⟩, idle, udp, data, bl, br, un, sb, su, ae, ad, nomig, ⟨Av4, nv4, cv4⟩, ⟨Av6, nv6, cv6⟩, p4, p6, ⟨Apid, npid, cpid⟩, ⟨Aptok, nptok, cptok⟩, act⟩) 49 (0, 0))) (hA : w.heap[PA]? = some (.cells #[.int .u64 h4, .int .u64 l4, .pointer z4] 71 (0, 0))) (hB : w.heap[PB]? = some (.cells #[.int .u64 h6, .int .u64 l6, .pointer z6] 71 (0, 0))) : w.cell? ⟨P, 0, none⟩ = some (.slice Aod nod cod) ∧ w.cell? ⟨P, 1, none⟩ = some (.slice Art nrt crt) ∧ w.cell? ⟨P, 2, none⟩ = some (.slice Ais nis cis) ∧ w.cell? ⟨P, 3, none⟩ = some (.slice Ars nrs crs) ∧ w.cell? ⟨P, 4, none⟩ = some (.int .i64 idle) ∧ w.cell? ⟨P, 5, none⟩ = some (.int .i64 udp) ∧ w.cell? ⟨P, 6, none⟩ = some (.int .i64 data) ∧ w.cell? ⟨P, 7, none⟩ = some (.int .i64 bl) ∧ w.cell? ⟨P, 8, none⟩ = some (.int .i64 br) ∧ w.cell? ⟨P, 9, none⟩ = some (.int .i64 un) ∧ w.cell? ⟨P, 10, none⟩ = some (.int .i64 sb) ∧ w.cell? ⟨P, 11, none⟩ = some (.int .i64 su) ∧ w.cell? ⟨P, 12, none⟩ = some (.int .i64 ae) ∧ w.cell? ⟨P, 13, none⟩ = some (.int .i64 ad) ∧ w.cell? ⟨P, 14, none⟩ = some (.bool nomig) ∧ w.cell? ⟨P, 15, none⟩ = some (.slice Av4 nv4 cv4) ∧ w.cell? ⟨P, 16, none⟩ = some (.slice Av6 nv6 cv6) ∧ w.cell? ⟨P, 17, none⟩ = some (.int .i64 p4) ∧ w.cell? ⟨P, 18, none⟩ = some (.int .i64 p6) ∧ w.cell? ⟨P, 19, none⟩ = some (.slice Apid npid cpid) ∧ w.cell? ⟨P, 20, none⟩ = some (.slice Aptok nptok cptok) ∧ w.cell? ⟨P, 21, none⟩ = some (.int .i64 act) ∧ w.cell? ⟨PA, 0, none⟩ = some (.int .u64 h4) ∧ w.cell? ⟨PA, 1, none⟩ = some (.int .u64 l4) ∧ w.cell? ⟨PA, 2, none⟩ = some (.pointer z4) ∧ w.cell? ⟨PB, 0, none⟩ = some (.int .u64 h6) ∧ w.cell? ⟨PB, 1, none⟩ = some (.int .u64 l6) ∧ w.cell? ⟨PB, 2, none⟩ = some (.pointer z6) := by
  refine ⟨?_, ?_, ?_, ?_, ?_, ?_, ?_, ?_, ?_, ?_, ?_, ?_, ?_, ?_, ?_, ?_, ?_, ?_, ?_, ?_, ?_, ?_, ?_, ?_, ?_, ?_, ?_, ?_⟩
  all_goals first | (rw [cell_of_row _ _ _ _ _ (0, 0) h]; rfl) | (rw [cell_of_row _ _ _ _ _ (0, 0) hA]; rfl) | (rw [cell_of_row _ _ _ _ _ (0, 0) hB]; rfl)
theorem build_zt (Aod : Option Addr) (nod cod : Nat) (Art : Option Addr) (nrt crt : Nat) (Ais : Option Addr) (nis cis : Nat) (Ars : Option Addr) (nrs crs : Nat) (Av4 : Option Addr) (nv4 cv4 : Nat) (Av6 : Option Addr) (nv6 cv6 : Nat) (Apid : Option Addr) (npid cpid : Nat) (Aptok : Option Addr) (nptok cptok : Nat) (idle udp data bl br un sb su ae ad p4 p6 act : Int) (nomig : Bool) (h4 l4 h6 l6 : Int) (z4 z6 : Option Addr) (w : World) : (Instr.build 76 #[(0, .slice Aod nod cod), (2, .slice Art nrt crt), (18, .slice Ais nis cis), (19, .slice Ars nrs crs), (1, .int .i64 (idle * 1000000)), (3, .int .i64 udp), (4, .int .i64 data), (5, .int .i64 bl), (6, .int .i64 br), (7, .int .i64 un), (8, .int .i64 sb), (9, .int .i64 su), (10, .int .i8 ae), (11, .int .i64 (ad * 1000000)), (12, .bool nomig), (13, .agg #[.int .u64 h4, .int .u64 l4, .pointer z4, .int .u16 p4]), (14, .agg #[.int .u64 h6, .int .u64 l6, .pointer z6, .int .u16 p6]), (15, .slice Apid npid cpid), (16, .slice Aptok nptok cptok), (17, .int .i64 act)]).run Tryd.prog w = .ok (.agg #[.slice Aod nod cod, .int .i64 (idle * 1000000), .slice Art nrt crt, .int .i64 udp, .int .i64 data, .int .i64 bl, .int .i64 br, .int .i64 un, .int .i64 sb, .int .i64 su, .int .i8 ae, .int .i64 (ad * 1000000), .bool nomig, .int .u64 h4, .int .u64 l4, .pointer z4, .int .u16 p4, .int .u64 h6, .int .u64 l6, .pointer z6, .int .u16 p6, .slice Apid npid cpid, .slice Aptok nptok cptok, .int .i64 act, .slice Ais nis cis, .slice Ars nrs crs]) w := run_build w 76 _ _ (by kernel_rfl)
set_option maxRecDepth 100000 in
theorem lit70 {a : Act} {P PA PB : Nat} (hs : a.tmps.size = 70) (hd : a.defers = []) (h1 : a.tmps[1]? = some (.pointer (some ⟨P, 0, none⟩))) (h3 : a.tmps[3]? = some (.pointer (some ⟨PA, 0, none⟩))) (h5 : a.tmps[5]? = some (.pointer (some ⟨PB, 0, none⟩))) : ∃ f : Nat → Value, a = ⟨#[f 0, .pointer (some ⟨P, 0, none⟩), f 2, .pointer (some ⟨PA, 0, none⟩), f 4, .pointer (some ⟨PB, 0, none⟩), f 6, f 7, f 8, f 9, f 10, f 11, f 12, f 13, f 14, f 15, f 16, f 17, f 18, f 19, f 20, f 21, f 22, f 23, f 24, f 25, f 26, f 27, f 28, f 29, f 30, f 31, f 32, f 33, f 34, f 35, f 36, f 37, f 38, f 39, f 40, f 41, f 42, f 43, f 44, f 45, f 46, f 47, f 48, f 49, f 50, f 51, f 52, f 53, f 54, f 55, f 56, f 57, f 58, f 59, f 60, f 61, f 62, f 63, f 64, f 65, f 66, f 67, f 68, f 69], []⟩ := by
  obtain ⟨f, hf, e⟩ := lit_ofN 70 a hs hd
  have e1 := (hf 1 (by decide)).symm.trans h1
  have e3 := (hf 3 (by decide)).symm.trans h3
  have e5 := (hf 5 (by decide)).symm.trans h5
  simp only [Option.some.injEq] at e1 e3 e5
  refine ⟨f, ?_⟩
  have hl : ((List.range 70).map f).toArray = #[f 0, f 1, f 2, f 3, f 4, f 5, f 6, f 7, f 8, f 9, f 10, f 11, f 12, f 13, f 14, f 15, f 16, f 17, f 18, f 19, f 20, f 21, f 22, f 23, f 24, f 25, f 26, f 27, f 28, f 29, f 30, f 31, f 32, f 33, f 34, f 35, f 36, f 37, f 38, f 39, f 40, f 41, f 42, f 43, f 44, f 45, f 46, f 47, f 48, f 49, f 50, f 51, f 52, f 53, f 54, f 55, f 56, f 57, f 58, f 59, f 60, f 61, f 62, f 63, f 64, f 65, f 66, f 67, f 68, f 69] := by kernel_rfl
  rw [e, hl, e1, e3, e5]

noncomputable def zp3 : Code := cl (cr (cr (cr (Tryd.f27.body.getD .skip))))
set_option maxRecDepth 1000000 in
set_option maxHeartbeats 8000000 in
theorem zp3_wp {w : World} {P PA PB : Nat} {Aod : Option Addr} {nod cod : Nat} {Art : Option Addr} {nrt crt : Nat} {Ais : Option Addr} {nis cis : Nat} {Ars : Option Addr} {nrs crs : Nat} {Av4 : Option Addr} {nv4 cv4 : Nat} {Av6 : Option Addr} {nv6 cv6 : Nat} {Apid : Option Addr} {npid cpid : Nat} {Aptok : Option Addr} {nptok cptok : Nat} {idle udp data bl br un sb su ae ad p4 p6 act : Int} {nomig : Bool} {h4 l4 h6 l6 : Int} {z4 z6 : Option Addr} {S : SP} {a4 a6 : Addr} (f : Nat → Value) (hP : w.heap[P]? = some (.cells (QP.cells ⟨⟨Aod, nod, cod⟩, ⟨Art, nrt, crt⟩, ⟨Ais, nis, cis⟩, ⟨Ars, nrs, crs⟩, idle, udp, data, bl, br, un, sb, su, ae, ad, nomig, ⟨Av4, nv4, cv4⟩, ⟨Av6, nv6, cv6⟩, p4, p6, ⟨Apid, npid, cpid⟩, ⟨Aptok, nptok, cptok⟩, act⟩) 49 (0, 0))) (hA : w.heap[PA]? = some (.cells #[.int .u64 h4, .int .u64 l4, .pointer z4] 71 (0, 0))) (hB : w.heap[PB]? = some (.cells #[.int .u64 h6, .int .u64 l6, .pointer z6] 71 (0, 0)))
    (ht : Tp w a4 a6 ⟨(Aod, nod, cod), idle * 1000000, (Art, nrt, crt), udp, data, bl, br, un, sb, su, ae, ad * 1000000, nomig, ⟨h4, l4, z4, p4⟩, ⟨h6, l6, z6, p6⟩, (Apid, npid, cpid), (Aptok, nptok, cptok), act, (Ais, nis, cis), (Ars, nrs, crs)⟩ S) (ho : Mok S) (hg : Gl w a4 a6) (hI0 : 0 ≤ idle) (hI1 : idle ≤ 4294967296) (hD0 : 0 ≤ ad) (hD1 : ad ≤ 16384) (hae0 : 0 ≤ ae) (hae1 : ae ≤ 20) (hp40 : 0 ≤ p4) (hp41 : p4 ≤ 65535) (hp60 : 0 ≤ p6) (hp61 : p6 ≤ 65535)
    {K E : Act → World → Prop} (hK : ∀ a' w' s, a'.tmps[2]? = some s → a'.defers = [] → Own w.heap.size w' s (mar ⟨(Aod, nod, cod), idle * 1000000, (Art, nrt, crt), udp, data, bl, br, un, sb, su, ae, ad * 1000000, nomig, ⟨h4, l4, z4, p4⟩, ⟨h6, l6, z6, p6⟩, (Apid, npid, cpid), (Aptok, nptok, cptok), act, (Ais, nis, cis), (Ars, nrs, crs)⟩ S) → Below w.heap.size w w' → (mar ⟨(Aod, nod, cod), idle * 1000000, (Art, nrt, crt), udp, data, bl, br, un, sb, su, ae, ad * 1000000, nomig, ⟨h4, l4, z4, p4⟩, ⟨h6, l6, z6, p6⟩, (Apid, npid, cpid), (Aptok, nptok, cptok), act, (Ais, nis, cis), (Ars, nrs, crs)⟩ S).length ≤ 3000 → K a' w') :
    Code.wp Tryd.prog zp3 (Exit.then K (Qr E)) ⟨#[f 0, .pointer (some ⟨P, 0, none⟩), f 2, .pointer (some ⟨PA, 0, none⟩), f 4, .pointer (some ⟨PB, 0, none⟩), f 6, f 7, f 8, f 9, f 10, f 11, f 12, f 13, f 14, f 15, f 16, f 17, f 18, f 19, f 20, f 21, f 22, f 23, f 24, f 25, f 26, f 27, f 28, f 29, f 30, f 31, f 32, f 33, f 34, f 35, f 36, f 37, f 38, f 39, f 40, f 41, f 42, f 43, f 44, f 45, f 46, f 47, f 48, f 49, f 50, f 51, f 52, f 53, f 54, f 55, f 56, f 57, f 58, f 59, f 60, f 61, f 62, f 63, f 64, f 65, f 66, f 67, f 68, f 69], []⟩ w := by
  have HP := Lib.hid hP
  have HA := Lib.hid hA
  have HB := Lib.hid hB
  have HT := Lib.hid ht
  have HO := Lib.hid ho
  have HG := Lib.hid hg
  have HBB : Hid (Below w.heap.size w w.drew) := below_drewN (Below.refl _ _) 1
  have HKK := Lib.hid hK
  have hwI : IntKind.i64.wrap (idle * 1000000) = idle * 1000000 := IntWalk.i64_in _ (by omega)
  have hwD : IntKind.i64.wrap (ad * 1000000) = ad * 1000000 := IntWalk.i64_in _ (by omega)
  have hwa : IntKind.i8.wrap ae = ae := IntWalk.i8_in _ (by omega)
  have hw4 : IntKind.u16.wrap p4 = p4 := IntWalk.u16_in _ (by omega)
  have hw6 : IntKind.u16.wrap p6 = p6 := IntWalk.u16_in _ (by omega)
  clear hP hA hB ht hg hK ho
  conv => arg 2; whnf
  refine wp_region_held_drew (S := fun wx => wx.cell? ⟨P, 0, none⟩ = some (.slice Aod nod cod) ∧ wx.cell? ⟨P, 1, none⟩ = some (.slice Art nrt crt) ∧ wx.cell? ⟨P, 2, none⟩ = some (.slice Ais nis cis) ∧ wx.cell? ⟨P, 3, none⟩ = some (.slice Ars nrs crs) ∧ wx.cell? ⟨P, 4, none⟩ = some (.int .i64 idle) ∧ wx.cell? ⟨P, 5, none⟩ = some (.int .i64 udp) ∧ wx.cell? ⟨P, 6, none⟩ = some (.int .i64 data) ∧ wx.cell? ⟨P, 7, none⟩ = some (.int .i64 bl) ∧ wx.cell? ⟨P, 8, none⟩ = some (.int .i64 br) ∧ wx.cell? ⟨P, 9, none⟩ = some (.int .i64 un) ∧ wx.cell? ⟨P, 10, none⟩ = some (.int .i64 sb) ∧ wx.cell? ⟨P, 11, none⟩ = some (.int .i64 su) ∧ wx.cell? ⟨P, 12, none⟩ = some (.int .i64 ae) ∧ wx.cell? ⟨P, 13, none⟩ = some (.int .i64 ad) ∧ wx.cell? ⟨P, 14, none⟩ = some (.bool nomig) ∧ wx.cell? ⟨P, 15, none⟩ = some (.slice Av4 nv4 cv4) ∧ wx.cell? ⟨P, 16, none⟩ = some (.slice Av6 nv6 cv6) ∧ wx.cell? ⟨P, 17, none⟩ = some (.int .i64 p4) ∧ wx.cell? ⟨P, 18, none⟩ = some (.int .i64 p6) ∧ wx.cell? ⟨P, 19, none⟩ = some (.slice Apid npid cpid) ∧ wx.cell? ⟨P, 20, none⟩ = some (.slice Aptok nptok cptok) ∧ wx.cell? ⟨P, 21, none⟩ = some (.int .i64 act) ∧ wx.cell? ⟨PA, 0, none⟩ = some (.int .u64 h4) ∧ wx.cell? ⟨PA, 1, none⟩ = some (.int .u64 l4) ∧ wx.cell? ⟨PA, 2, none⟩ = some (.pointer z4) ∧ wx.cell? ⟨PB, 0, none⟩ = some (.int .u64 h6) ∧ wx.cell? ⟨PB, 1, none⟩ = some (.int .u64 l6) ∧ wx.cell? ⟨PB, 2, none⟩ = some (.pointer z6)) (by kernel_rfl) (by exact p28 HP.out HA.out HB.out) (fun hHeld => ?_)
  refine wpAnyH_take (i := 0) (v := ?v0) rfl (by kernel_rfl) (by kernel_rfl) (by kernel_rfl) (fun _ _ _ h => h) (Or.inl ⟨by rfl, ?hy0⟩) (by assumption) ?rest0
  case hy0 => (intro wq hSw; (try dsimp only at hSw); go_simp; (try simp only [hwI, hwD, hwa, hw4, hw6]); try with_reducible rfl)
  try simp only [Act.put, List.setIfInBounds_toArray, List.set_cons_zero, List.set_cons_succ]
  refine wpAnyH_take (i := 1) (v := ?v1) rfl (by kernel_rfl) (by kernel_rfl) (by kernel_rfl) (fun _ _ _ h => h) (Or.inl ⟨by rfl, ?hy1⟩) (by assumption) ?rest1
  case hy1 => (intro wq hSw; (try dsimp only at hSw); go_simp; (try simp only [hwI, hwD, hwa, hw4, hw6]); try with_reducible rfl)
  try simp only [Act.put, List.setIfInBounds_toArray, List.set_cons_zero, List.set_cons_succ]
  refine wpAnyH_take (i := 2) (v := ?v2) rfl (by kernel_rfl) (by kernel_rfl) (by kernel_rfl) (fun _ _ _ h => h) (Or.inl ⟨by rfl, ?hy2⟩) (by assumption) ?rest2
  case hy2 => (intro wq hSw; (try dsimp only at hSw); go_simp; (try simp only [hwI, hwD, hwa, hw4, hw6]); try with_reducible rfl)
  try simp only [Act.put, List.setIfInBounds_toArray, List.set_cons_zero, List.set_cons_succ]
  refine wpAnyH_take (i := 3) (v := ?v3) rfl (by kernel_rfl) (by kernel_rfl) (by kernel_rfl) (fun _ _ _ h => h) (Or.inl ⟨by rfl, ?hy3⟩) (by assumption) ?rest3
  case hy3 => (intro wq hSw; (try dsimp only at hSw); go_simp; (try simp only [hwI, hwD, hwa, hw4, hw6]); try with_reducible rfl)
  try simp only [Act.put, List.setIfInBounds_toArray, List.set_cons_zero, List.set_cons_succ]
  refine wpAnyH_take (i := 4) (v := ?v4) rfl (by kernel_rfl) (by kernel_rfl) (by kernel_rfl) (fun _ _ _ h => h) (Or.inl ⟨by rfl, ?hy4⟩) (by assumption) ?rest4
  case hy4 => (intro wq hSw; (try dsimp only at hSw); go_simp; (try simp only [hwI, hwD, hwa, hw4, hw6]); try with_reducible rfl)
  try simp only [Act.put, List.setIfInBounds_toArray, List.set_cons_zero, List.set_cons_succ]
  refine wpAnyH_take (i := 5) (v := ?v5) rfl (by kernel_rfl) (by kernel_rfl) (by kernel_rfl) (fun _ _ _ h => h) (Or.inl ⟨by rfl, ?hy5⟩) (by assumption) ?rest5
  case hy5 => (intro wq hSw; (try dsimp only at hSw); go_simp; (try simp only [hwI, hwD, hwa, hw4, hw6]); try with_reducible rfl)
  try simp only [Act.put, List.setIfInBounds_toArray, List.set_cons_zero, List.set_cons_succ]
  refine wpAnyH_take (i := 6) (v := ?v6) rfl (by kernel_rfl) (by kernel_rfl) (by kernel_rfl) (fun _ _ _ h => h) (Or.inl ⟨by rfl, ?hy6⟩) (by assumption) ?rest6
  case hy6 => (intro wq hSw; (try dsimp only at hSw); go_simp; (try simp only [hwI, hwD, hwa, hw4, hw6]); try with_reducible rfl)
  try simp only [Act.put, List.setIfInBounds_toArray, List.set_cons_zero, List.set_cons_succ]
  refine wpAnyH_take (i := 7) (v := ?v7) rfl (by kernel_rfl) (by kernel_rfl) (by kernel_rfl) (fun _ _ _ h => h) (Or.inl ⟨by rfl, ?hy7⟩) (by assumption) ?rest7
  case hy7 => (intro wq hSw; (try dsimp only at hSw); go_simp; (try simp only [hwI, hwD, hwa, hw4, hw6]); try with_reducible rfl)
  try simp only [Act.put, List.setIfInBounds_toArray, List.set_cons_zero, List.set_cons_succ]
  refine wpAnyH_take (i := 8) (v := ?v8) rfl (by kernel_rfl) (by kernel_rfl) (by kernel_rfl) (fun _ _ _ h => h) (Or.inl ⟨by rfl, ?hy8⟩) (by assumption) ?rest8
  case hy8 => (intro wq hSw; (try dsimp only at hSw); go_simp; (try simp only [hwI, hwD, hwa, hw4, hw6]); try with_reducible rfl)
  try simp only [Act.put, List.setIfInBounds_toArray, List.set_cons_zero, List.set_cons_succ]
  refine wpAnyH_take (i := 9) (v := ?v9) rfl (by kernel_rfl) (by kernel_rfl) (by kernel_rfl) (fun _ _ _ h => h) (Or.inl ⟨by rfl, ?hy9⟩) (by assumption) ?rest9
  case hy9 => (intro wq hSw; (try dsimp only at hSw); go_simp; (try simp only [hwI, hwD, hwa, hw4, hw6]); try with_reducible rfl)
  try simp only [Act.put, List.setIfInBounds_toArray, List.set_cons_zero, List.set_cons_succ]
  refine wpAnyH_take (i := 10) (v := ?v10) rfl (by kernel_rfl) (by kernel_rfl) (by kernel_rfl) (fun _ _ _ h => h) (Or.inl ⟨by rfl, ?hy10⟩) (by assumption) ?rest10
  case hy10 => (intro wq hSw; (try dsimp only at hSw); go_simp; (try simp only [hwI, hwD, hwa, hw4, hw6]); try with_reducible rfl)
  try simp only [Act.put, List.setIfInBounds_toArray, List.set_cons_zero, List.set_cons_succ]
  refine wpAnyH_take (i := 11) (v := ?v11) rfl (by kernel_rfl) (by kernel_rfl) (by kernel_rfl) (fun _ _ _ h => h) (Or.inl ⟨by rfl, ?hy11⟩) (by assumption) ?rest11
  case hy11 => (intro wq hSw; (try dsimp only at hSw); go_simp; (try simp only [hwI, hwD, hwa, hw4, hw6]); try with_reducible rfl)
  try simp only [Act.put, List.setIfInBounds_toArray, List.set_cons_zero, List.set_cons_succ]
  refine wpAnyH_take (i := 12) (v := ?v12) rfl (by kernel_rfl) (by kernel_rfl) (by kernel_rfl) (fun _ _ _ h => h) (Or.inl ⟨by rfl, ?hy12⟩) (by assumption) ?rest12
  case hy12 => (intro wq hSw; (try dsimp only at hSw); go_simp; (try simp only [hwI, hwD, hwa, hw4, hw6]); try with_reducible rfl)
  try simp only [Act.put, List.setIfInBounds_toArray, List.set_cons_zero, List.set_cons_succ]
  refine wpAnyH_take (i := 13) (v := ?v13) rfl (by kernel_rfl) (by kernel_rfl) (by kernel_rfl) (fun _ _ _ h => h) (Or.inl ⟨by rfl, ?hy13⟩) (by assumption) ?rest13
  case hy13 => (intro wq hSw; (try dsimp only at hSw); go_simp; (try simp only [hwI, hwD, hwa, hw4, hw6]); try with_reducible rfl)
  try simp only [Act.put, List.setIfInBounds_toArray, List.set_cons_zero, List.set_cons_succ]
  refine wpAnyH_take (i := 14) (v := ?v14) rfl (by kernel_rfl) (by kernel_rfl) (by kernel_rfl) (fun _ _ _ h => h) (Or.inl ⟨by rfl, ?hy14⟩) (by assumption) ?rest14
  case hy14 => (intro wq hSw; (try dsimp only at hSw); go_simp; (try simp only [hwI, hwD, hwa, hw4, hw6]); try with_reducible rfl)
  try simp only [Act.put, List.setIfInBounds_toArray, List.set_cons_zero, List.set_cons_succ]
  refine wpAnyH_take (i := 15) (v := ?v15) rfl (by kernel_rfl) (by kernel_rfl) (by kernel_rfl) (fun _ _ _ h => h) (Or.inl ⟨by rfl, ?hy15⟩) (by assumption) ?rest15
  case hy15 => (intro wq hSw; (try dsimp only at hSw); go_simp; (try simp only [hwI, hwD, hwa, hw4, hw6]); try with_reducible rfl)
  try simp only [Act.put, List.setIfInBounds_toArray, List.set_cons_zero, List.set_cons_succ]
  refine wpAnyH_take (i := 16) (v := ?v16) rfl (by kernel_rfl) (by kernel_rfl) (by kernel_rfl) (fun _ _ _ h => h) (Or.inl ⟨by rfl, ?hy16⟩) (by assumption) ?rest16
  case hy16 => (intro wq hSw; (try dsimp only at hSw); go_simp; (try simp only [hwI, hwD, hwa, hw4, hw6]); try with_reducible rfl)
  try simp only [Act.put, List.setIfInBounds_toArray, List.set_cons_zero, List.set_cons_succ]
  refine wpAnyH_take (i := 17) (v := ?v17) rfl (by kernel_rfl) (by kernel_rfl) (by kernel_rfl) (fun _ _ _ h => h) (Or.inl ⟨by rfl, ?hy17⟩) (by assumption) ?rest17
  case hy17 => (intro wq hSw; (try dsimp only at hSw); go_simp; (try simp only [hwI, hwD, hwa, hw4, hw6]); try with_reducible rfl)
  try simp only [Act.put, List.setIfInBounds_toArray, List.set_cons_zero, List.set_cons_succ]
  refine wpAnyH_take (i := 18) (v := ?v18) rfl (by kernel_rfl) (by kernel_rfl) (by kernel_rfl) (fun _ _ _ h => h) (Or.inl ⟨by rfl, ?hy18⟩) (by assumption) ?rest18
  case hy18 => (intro wq hSw; (try dsimp only at hSw); go_simp; (try simp only [hwI, hwD, hwa, hw4, hw6]); try with_reducible rfl)
  try simp only [Act.put, List.setIfInBounds_toArray, List.set_cons_zero, List.set_cons_succ]
  refine wpAnyH_take (i := 19) (v := ?v19) rfl (by kernel_rfl) (by kernel_rfl) (by kernel_rfl) (fun _ _ _ h => h) (Or.inl ⟨by rfl, ?hy19⟩) (by assumption) ?rest19
  case hy19 => (intro wq hSw; (try dsimp only at hSw); go_simp; (try simp only [hwI, hwD, hwa, hw4, hw6]); try with_reducible rfl)
  try simp only [Act.put, List.setIfInBounds_toArray, List.set_cons_zero, List.set_cons_succ]
  refine wpAnyH_take (i := 20) (v := ?v20) rfl (by kernel_rfl) (by kernel_rfl) (by kernel_rfl) (fun _ _ _ h => h) (Or.inl ⟨by rfl, ?hy20⟩) (by assumption) ?rest20
  case hy20 => (intro wq hSw; (try dsimp only at hSw); go_simp; (try simp only [hwI, hwD, hwa, hw4, hw6]); try with_reducible rfl)
  try simp only [Act.put, List.setIfInBounds_toArray, List.set_cons_zero, List.set_cons_succ]
  refine wpAnyH_take (i := 21) (v := ?v21) rfl (by kernel_rfl) (by kernel_rfl) (by kernel_rfl) (fun _ _ _ h => h) (Or.inl ⟨by rfl, ?hy21⟩) (by assumption) ?rest21
  case hy21 => (intro wq hSw; (try dsimp only at hSw); go_simp; (try simp only [hwI, hwD, hwa, hw4, hw6]); try with_reducible rfl)
  try simp only [Act.put, List.setIfInBounds_toArray, List.set_cons_zero, List.set_cons_succ]
  refine wpAnyH_take (i := 22) (v := ?v22) rfl (by kernel_rfl) (by kernel_rfl) (by kernel_rfl) (fun _ _ _ h => h) (Or.inl ⟨by rfl, ?hy22⟩) (by assumption) ?rest22
  case hy22 => (intro wq hSw; (try dsimp only at hSw); go_simp; (try simp only [hwI, hwD, hwa, hw4, hw6]); try with_reducible rfl)
  try simp only [Act.put, List.setIfInBounds_toArray, List.set_cons_zero, List.set_cons_succ]
  refine wpAnyH_take (i := 23) (v := ?v23) rfl (by kernel_rfl) (by kernel_rfl) (by kernel_rfl) (fun _ _ _ h => h) (Or.inl ⟨by rfl, ?hy23⟩) (by assumption) ?rest23
  case hy23 => (intro wq hSw; (try dsimp only at hSw); go_simp; (try simp only [hwI, hwD, hwa, hw4, hw6]); try with_reducible rfl)
  try simp only [Act.put, List.setIfInBounds_toArray, List.set_cons_zero, List.set_cons_succ]
  refine wpAnyH_take (i := 24) (v := ?v24) rfl (by kernel_rfl) (by kernel_rfl) (by kernel_rfl) (fun _ _ _ h => h) (Or.inl ⟨by rfl, ?hy24⟩) (by assumption) ?rest24
  case hy24 => (intro wq hSw; (try dsimp only at hSw); go_simp; (try simp only [hwI, hwD, hwa, hw4, hw6]); try with_reducible rfl)
  try simp only [Act.put, List.setIfInBounds_toArray, List.set_cons_zero, List.set_cons_succ]
  refine wpAnyH_take (i := 25) (v := ?v25) rfl (by kernel_rfl) (by kernel_rfl) (by kernel_rfl) (fun _ _ _ h => h) (Or.inl ⟨by rfl, ?hy25⟩) (by assumption) ?rest25
  case hy25 => (intro wq hSw; (try dsimp only at hSw); go_simp; (try simp only [hwI, hwD, hwa, hw4, hw6]); try with_reducible rfl)
  try simp only [Act.put, List.setIfInBounds_toArray, List.set_cons_zero, List.set_cons_succ]
  refine wpAnyH_take (i := 26) (v := ?v26) rfl (by kernel_rfl) (by kernel_rfl) (by kernel_rfl) (fun _ _ _ h => h) (Or.inl ⟨by rfl, ?hy26⟩) (by assumption) ?rest26
  case hy26 => (intro wq hSw; (try dsimp only at hSw); go_simp; (try simp only [hwI, hwD, hwa, hw4, hw6]); try with_reducible rfl)
  try simp only [Act.put, List.setIfInBounds_toArray, List.set_cons_zero, List.set_cons_succ]
  refine wpAnyH_take (i := 27) (v := ?v27) rfl (by kernel_rfl) (by kernel_rfl) (by kernel_rfl) (fun _ _ _ h => h) (Or.inl ⟨by rfl, ?hy27⟩) (by assumption) ?rest27
  case hy27 => (intro wq hSw; (try dsimp only at hSw); go_simp; (try simp only [hwI, hwD, hwa, hw4, hw6]); try with_reducible rfl)
  try simp only [Act.put, List.setIfInBounds_toArray, List.set_cons_zero, List.set_cons_succ]
  refine wpAnyH_take (i := 28) (v := ?v28) rfl (by kernel_rfl) (by kernel_rfl) (by kernel_rfl) (fun _ _ _ h => h) (Or.inl ⟨by rfl, ?hy28⟩) (by assumption) ?rest28
  case hy28 => (intro wq hSw; (try dsimp only at hSw); go_simp; (try simp only [hwI, hwD, hwa, hw4, hw6]); try with_reducible rfl)
  try simp only [Act.put, List.setIfInBounds_toArray, List.set_cons_zero, List.set_cons_succ]
  refine wpAnyH_take (i := 29) (v := ?v29) rfl (by kernel_rfl) (by kernel_rfl) (by kernel_rfl) (fun _ _ _ h => h) (Or.inl ⟨by rfl, ?hy29⟩) (by assumption) ?rest29
  case hy29 => (intro wq hSw; (try dsimp only at hSw); go_simp; (try simp only [hwI, hwD, hwa, hw4, hw6]); try with_reducible rfl)
  try simp only [Act.put, List.setIfInBounds_toArray, List.set_cons_zero, List.set_cons_succ]
  refine wpAnyH_take (i := 30) (v := ?v30) rfl (by kernel_rfl) (by kernel_rfl) (by kernel_rfl) (fun _ _ _ h => h) (Or.inl ⟨by rfl, ?hy30⟩) (by assumption) ?rest30
  case hy30 => (intro wq hSw; (try dsimp only at hSw); go_simp; (try simp only [hwI, hwD, hwa, hw4, hw6]); try with_reducible rfl)
  try simp only [Act.put, List.setIfInBounds_toArray, List.set_cons_zero, List.set_cons_succ]
  refine wpAnyH_take (i := 31) (v := ?v31) rfl (by kernel_rfl) (by kernel_rfl) (by kernel_rfl) (fun _ _ _ h => h) (Or.inl ⟨by rfl, ?hy31⟩) (by assumption) ?rest31
  case hy31 => (intro wq hSw; (try dsimp only at hSw); go_simp; (try simp only [hwI, hwD, hwa, hw4, hw6]); try with_reducible rfl)
  try simp only [Act.put, List.setIfInBounds_toArray, List.set_cons_zero, List.set_cons_succ]
  refine wpAnyH_take (i := 32) (v := ?v32) rfl (by kernel_rfl) (by kernel_rfl) (by kernel_rfl) (fun _ _ _ h => h) (Or.inl ⟨by rfl, ?hy32⟩) (by assumption) ?rest32
  case hy32 => (intro wq hSw; (try dsimp only at hSw); go_simp; (try simp only [hwI, hwD, hwa, hw4, hw6]); try with_reducible rfl)
  try simp only [Act.put, List.setIfInBounds_toArray, List.set_cons_zero, List.set_cons_succ]
  refine wpAnyH_take (i := 33) (v := ?v33) rfl (by kernel_rfl) (by kernel_rfl) (by kernel_rfl) (fun _ _ _ h => h) (Or.inl ⟨by rfl, ?hy33⟩) (by assumption) ?rest33
  case hy33 => (intro wq hSw; (try dsimp only at hSw); go_simp; (try simp only [hwI, hwD, hwa, hw4, hw6]); try with_reducible rfl)
  try simp only [Act.put, List.setIfInBounds_toArray, List.set_cons_zero, List.set_cons_succ]
  refine wpAnyH_take (i := 34) (v := ?v34) rfl (by kernel_rfl) (by kernel_rfl) (by kernel_rfl) (fun _ _ _ h => h) (Or.inl ⟨by rfl, ?hy34⟩) (by assumption) ?rest34
  case hy34 => (intro wq hSw; (try dsimp only at hSw); go_simp; (try simp only [hwI, hwD, hwa, hw4, hw6]); try with_reducible rfl)
  try simp only [Act.put, List.setIfInBounds_toArray, List.set_cons_zero, List.set_cons_succ]
  refine wpAnyH_take (i := 35) (v := ?v35) rfl (by kernel_rfl) (by kernel_rfl) (by kernel_rfl) (fun _ _ _ h => h) (Or.inl ⟨by rfl, ?hy35⟩) (by assumption) ?rest35
  case hy35 => (intro wq hSw; (try dsimp only at hSw); go_simp; (try simp only [hwI, hwD, hwa, hw4, hw6]); try with_reducible rfl)
  try simp only [Act.put, List.setIfInBounds_toArray, List.set_cons_zero, List.set_cons_succ]
  refine wpAnyH_take (i := 36) (v := ?v36) rfl (by kernel_rfl) (by kernel_rfl) (by kernel_rfl) (fun _ _ _ h => h) (Or.inl ⟨by rfl, ?hy36⟩) (by assumption) ?rest36
  case hy36 => (intro wq hSw; (try dsimp only at hSw); go_simp; (try simp only [hwI, hwD, hwa, hw4, hw6]); try with_reducible rfl)
  try simp only [Act.put, List.setIfInBounds_toArray, List.set_cons_zero, List.set_cons_succ]
  refine wpAnyH_take (i := 38) (v := ?v38) rfl (by kernel_rfl) (by kernel_rfl) (by kernel_rfl) (fun _ _ _ h => h) (Or.inl ⟨by rfl, ?hy38⟩) (by assumption) ?rest38
  case hy38 => (intro wq hSw; (try dsimp only at hSw); go_simp; (try simp only [hwI, hwD, hwa, hw4, hw6]); try with_reducible rfl)
  try simp only [Act.put, List.setIfInBounds_toArray, List.set_cons_zero, List.set_cons_succ]
  refine wpAnyH_take (i := 39) (v := ?v39) rfl (by kernel_rfl) (by kernel_rfl) (by kernel_rfl) (fun _ _ _ h => h) (Or.inl ⟨by rfl, ?hy39⟩) (by assumption) ?rest39
  case hy39 => (intro wq hSw; (try dsimp only at hSw); go_simp; (try simp only [hwI, hwD, hwa, hw4, hw6]); try with_reducible rfl)
  try simp only [Act.put, List.setIfInBounds_toArray, List.set_cons_zero, List.set_cons_succ]
  refine wpAnyH_take (i := 40) (v := ?v40) rfl (by kernel_rfl) (by kernel_rfl) (by kernel_rfl) (fun _ _ _ h => h) (Or.inl ⟨by rfl, ?hy40⟩) (by assumption) ?rest40
  case hy40 => (intro wq hSw; (try dsimp only at hSw); go_simp; (try simp only [hwI, hwD, hwa, hw4, hw6]); try with_reducible rfl)
  try simp only [Act.put, List.setIfInBounds_toArray, List.set_cons_zero, List.set_cons_succ]
  refine wpAnyH_take (i := 41) (v := ?v41) rfl (by kernel_rfl) (by kernel_rfl) (by kernel_rfl) (fun _ _ _ h => h) (Or.inl ⟨by rfl, ?hy41⟩) (by assumption) ?rest41
  case hy41 => (intro wq hSw; (try dsimp only at hSw); go_simp; (try simp only [hwI, hwD, hwa, hw4, hw6]); try with_reducible rfl)
  try simp only [Act.put, List.setIfInBounds_toArray, List.set_cons_zero, List.set_cons_succ]
  refine wpAnyH_take (i := 43) (v := ?v43) rfl (by kernel_rfl) (by kernel_rfl) (by kernel_rfl) (fun _ _ _ h => h) (Or.inl ⟨by rfl, ?hy43⟩) (by assumption) ?rest43
  case hy43 => (intro wq hSw; (try dsimp only at hSw); go_simp; (try simp only [hwI, hwD, hwa, hw4, hw6]); try with_reducible rfl)
  try simp only [Act.put, List.setIfInBounds_toArray, List.set_cons_zero, List.set_cons_succ]
  refine wpAnyH_take (i := 44) (v := ?v44) rfl (by kernel_rfl) (by kernel_rfl) (by kernel_rfl) (fun _ _ _ h => h) (Or.inl ⟨by rfl, ?hy44⟩) (by assumption) ?rest44
  case hy44 => (intro wq hSw; (try dsimp only at hSw); go_simp; (try simp only [hwI, hwD, hwa, hw4, hw6]); try with_reducible rfl)
  try simp only [Act.put, List.setIfInBounds_toArray, List.set_cons_zero, List.set_cons_succ]
  refine wpAnyH_take (i := 45) (v := ?v45) rfl (by kernel_rfl) (by kernel_rfl) (by kernel_rfl) (fun _ _ _ h => h) (Or.inl ⟨by rfl, ?hy45⟩) (by assumption) ?rest45
  case hy45 => (intro wq hSw; (try dsimp only at hSw); go_simp; (try simp only [hwI, hwD, hwa, hw4, hw6]); try with_reducible rfl)
  try simp only [Act.put, List.setIfInBounds_toArray, List.set_cons_zero, List.set_cons_succ]
  refine wpAnyH_take (i := 46) (v := ?v46) rfl (by kernel_rfl) (by kernel_rfl) (by kernel_rfl) (fun _ _ _ h => h) (Or.inl ⟨by rfl, ?hy46⟩) (by assumption) ?rest46
  case hy46 => (intro wq hSw; (try dsimp only at hSw); go_simp; (try simp only [hwI, hwD, hwa, hw4, hw6]); try with_reducible rfl)
  try simp only [Act.put, List.setIfInBounds_toArray, List.set_cons_zero, List.set_cons_succ]
  refine wpAnyH_take (i := 47) (v := ?v47) rfl (by kernel_rfl) (by kernel_rfl) (by kernel_rfl) (fun _ _ _ h => h) (Or.inl ⟨by rfl, ?hy47⟩) (by assumption) ?rest47
  case hy47 => (intro wq hSw; (try dsimp only at hSw); go_simp; (try simp only [hwI, hwD, hwa, hw4, hw6]); try with_reducible rfl)
  try simp only [Act.put, List.setIfInBounds_toArray, List.set_cons_zero, List.set_cons_succ]
  refine wpAnyH_take (i := 48) (v := ?v48) rfl (by kernel_rfl) (by kernel_rfl) (by kernel_rfl) (fun _ _ _ h => h) (Or.inl ⟨by rfl, ?hy48⟩) (by assumption) ?rest48
  case hy48 => (intro wq hSw; (try dsimp only at hSw); go_simp; (try simp only [hwI, hwD, hwa, hw4, hw6]); try with_reducible rfl)
  try simp only [Act.put, List.setIfInBounds_toArray, List.set_cons_zero, List.set_cons_succ]
  refine wpAnyH_ready (rs := [37]) (by kernel_rfl) (by simp) (AllReadyH.cons rfl (fun K hK => ?_) AllReadyH.nil)
  go_simp
  go_at_call_of 36 (Value.agg #[.int .u64 h4, .int .u64 l4, .pointer z4]); refine (apf h4 l4 p4 z4 _).mono ?_; rintro e w1 ⟨rfl, H1⟩; have HP := Lib.hid ((H1.out.block _ (cell_in HP.out)).trans HP.out); have HA := Lib.hid ((H1.out.block _ (cell_in HA.out)).trans HA.out); have HB := Lib.hid ((H1.out.block _ (cell_in HB.out)).trans HB.out); have HBB := Lib.hid (HBB.out.trans (H1.out.mono HBB.out.size))
  refine hK.out _ _ (by exact p28 HP.out HA.out HB.out) (fun hHeld => ?_)
  clear hK K
  try simp only [Act.put, List.setIfInBounds_toArray, List.set_cons_zero, List.set_cons_succ]
  refine wpAnyH_ready (rs := [42]) (by kernel_rfl) (by simp) (AllReadyH.cons rfl (fun K hK => ?_) AllReadyH.nil)
  go_simp
  go_at_call_of 36 (Value.agg #[.int .u64 h6, .int .u64 l6, .pointer z6]); refine (apf h6 l6 p6 z6 _).mono ?_; rintro e w2 ⟨rfl, H2⟩; have HP := Lib.hid ((H2.out.block _ (cell_in HP.out)).trans HP.out); have HA := Lib.hid ((H2.out.block _ (cell_in HA.out)).trans HA.out); have HB := Lib.hid ((H2.out.block _ (cell_in HB.out)).trans HB.out); have HBB := Lib.hid (HBB.out.trans (H2.out.mono HBB.out.size))
  refine hK.out _ _ (by exact p28 HP.out HA.out HB.out) (fun hHeld => ?_)
  clear hK K
  try simp only [Act.put, List.setIfInBounds_toArray, List.set_cons_zero, List.set_cons_succ]
  refine take_d (i := 49) 68 (.agg #[.slice Aod nod cod, .int .i64 (idle * 1000000), .slice Art nrt crt, .int .i64 udp, .int .i64 data, .int .i64 bl, .int .i64 br, .int .i64 un, .int .i64 sb, .int .i64 su, .int .i8 ae, .int .i64 (ad * 1000000), .bool nomig, .int .u64 h4, .int .u64 l4, .pointer z4, .int .u16 p4, .int .u64 h6, .int .u64 l6, .pointer z6, .int .u16 p6, .slice Apid npid cpid, .slice Aptok nptok cptok, .int .i64 act, .slice Ais nis cis, .slice Ars nrs crs]) rfl rfl (by kernel_rfl) (by kernel_rfl) (by kernel_rfl) (fun _ _ _ h => h) (Or.inl ⟨by rfl, ?hy49⟩) (by assumption) ?rest49
  case hy49 => (intro wq hSw; refine exec_build rfl _ ?_ _ (build_zt Aod nod cod Art nrt crt Ais nis cis Ars nrs crs Av4 nv4 cv4 Av6 nv6 cv6 Apid npid cpid Aptok nptok cptok idle udp data bl br un sb su ae ad p4 p6 act nomig h4 l4 h6 l6 z4 z6 wq); rw [List.map_toArray]; rfl)
  try simp only [Act.put, List.setIfInBounds_toArray, List.set_cons_zero, List.set_cons_succ]
  refine wpAnyH_ready (rs := [50]) (by kernel_rfl) (by simp) (AllReadyH.cons rfl (fun K hK => ?_) AllReadyH.nil)
  go_simp
  go_at_call 35; refine (mar_wp ⟨(Aod, nod, cod), idle * 1000000, (Art, nrt, crt), udp, data, bl, br, un, sb, su, ae, ad * 1000000, nomig, ⟨h4, l4, z4, p4⟩, ⟨h6, l6, z6, p6⟩, (Apid, npid, cpid), (Aptok, nptok, cptok), act, (Ais, nis, cis), (Ars, nrs, crs)⟩ S _ a4 a6 (HT.out.below HBB.out) HO.out (HG.out.below HBB.out (Nat.le_refl _))).mono ?_; rintro e w3 ⟨sv, rfl, H3⟩; have HOW := Lib.hid (H3.out.1.lower (HBB.out.size)); have HP := Lib.hid ((H3.out.2.1.block _ (cell_in HP.out)).trans HP.out); have HA := Lib.hid ((H3.out.2.1.block _ (cell_in HA.out)).trans HA.out); have HB := Lib.hid ((H3.out.2.1.block _ (cell_in HB.out)).trans HB.out); have HBB := Lib.hid (HBB.out.trans (H3.out.2.1.mono HBB.out.size))
  refine hK.out _ _ (by exact p28 HP.out HA.out HB.out) (fun hHeld => ?_)
  clear hK K
  try simp only [Act.put, List.setIfInBounds_toArray, List.set_cons_zero, List.set_cons_succ]
  refine take_d (i := 51) 2 (sv) rfl rfl (by kernel_rfl) (by kernel_rfl) (by kernel_rfl) (fun _ _ _ h => h) (Or.inl ⟨by rfl, ?hy51⟩) (by assumption) ?rest51
  case hy51 => (intro wq hSw; (try dsimp only at hSw); go_simp; (try simp only [hwI, hwD, hwa, hw4, hw6]); try with_reducible rfl)
  try simp only [Act.put, List.setIfInBounds_toArray, List.set_cons_zero, List.set_cons_succ]
  refine wpAnyH_done (by kernel_rfl) ?_ _
  exact HKK.out _ _ sv rfl rfl HOW.out HBB.out H3.out.2.2

end Go.Proofs.YtdjdcpcomhjnjaaDoor

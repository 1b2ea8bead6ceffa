/- laws.params, laws.alike. Conditions: none. -/
import Derived.Test.YtdjdcpcomhjnjaaDoorSp
import Derived.Test.YtdjdcpcomhjnjaaDoorEqual
namespace Go.Proofs.YtdjdcpcomhjnjaaDoor
open Go.RowKit
set_option linter.unusedVariables false
set_option linter.unusedSimpArgs false
theorem wp_val {P : Program} {op : Oper} {a : Act} {w w' : World} {K : Act → World → Prop} {Q : Exit → Act → World → Prop} (v : Value) (h : (execOp a.eval op).run P w = .ok (.value v) w') (hk : K (a.put op.dst v) w') : op.wp P a w K Q := by
  unfold Oper.wp
  simp only [h]
  exact hk
theorem build_ip (Aod : Option Addr) (nod cod : Nat) (Art : Option Addr) (nrt crt : Nat) (Ais : Option Addr) (nis cis : Nat) (Ars : Option Addr) (nrs crs : Nat) (Av4 : Option Addr) (nv4 cv4 : Nat) (Av6 : Option Addr) (nv6 cv6 : Nat) (Apid : Option Addr) (npid cpid : Nat) (Aptok : Option Addr) (nptok cptok : Nat) (idle udp data bl br un sb su ae ad p4 p6 act : Int) (nomig : Bool) (w : World) : (Instr.build 27 #[(0, .slice Aod nod cod), (1, .slice Art nrt crt), (2, .slice Ais nis cis), (3, .slice Ars nrs crs), (4, .int .i64 idle), (5, .int .i64 udp), (6, .int .i64 data), (7, .int .i64 bl), (8, .int .i64 br), (9, .int .i64 un), (10, .int .i64 sb), (11, .int .i64 su), (12, .int .i64 ae), (13, .int .i64 ad), (14, .bool nomig), (15, .slice Av4 nv4 cv4), (16, .slice Av6 nv6 cv6), (17, .int .i64 p4), (18, .int .i64 p6), (19, .slice Apid npid cpid), (20, .slice Aptok nptok cptok), (21, .int .i64 act)]).run Tryd.prog w = .ok (.agg #[.slice Aod nod cod, .slice Art nrt crt, .slice Ais nis cis, .slice Ars nrs crs, .int .i64 idle, .int .i64 udp, .int .i64 data, .int .i64 bl, .int .i64 br, .int .i64 un, .int .i64 sb, .int .i64 su, .int .i64 ae, .int .i64 ad, .bool nomig, .slice Av4 nv4 cv4, .slice Av6 nv6 cv6, .int .i64 p4, .int .i64 p6, .slice Apid npid cpid, .slice Aptok nptok cptok, .int .i64 act]) w := run_build w 27 _ _ (by kernel_rfl)
theorem res_pa (V : Array Value) (w : World) (p : Addr) (x : Value) (hp : V[2]? = some (.pointer (some p))) (hx : (loadVar 27 p).run Tryd.prog w = .ok x w) :
    (results Tryd.f10 V).run Tryd.prog w = .ok x w := by
  unfold results
  rw [Tryd.results10]
  simp [hp, hx, asAddr]
set_option maxRecDepth 1000000 in
set_option maxHeartbeats 8000000 in
/-- laws.params: the same fields. -/
theorem params_wp (Q : QP) (w : World) : Calls Tryd.prog 10 #[.agg Q.cells] w fun e w' => e = .returned (.agg Q.cells) ∧ Hid (Below w.heap.size w w') := by
  go_enter Tryd.func10, Tryd.ntmps10
  go_upto_region 1 with fail
  have HB : Hid (Below w.heap.size w ((w.alloc (.cells Q.cells 24 (0, 0))).alloc (.cells qz.cells 27 (0, 0)))) := ((Below.refl _ _).alloc (Nat.le_refl _) _).alloc (by simp) _
  have HP : Hid (((w.alloc (.cells Q.cells 24 (0, 0))).alloc (.cells qz.cells 27 (0, 0))).heap[w.heap.size]? = some (.cells Q.cells 24 (0, 0))) := (heap_alloc_old _ _ (by simp)).trans (heap_alloc_new w _)
  have HR : Hid (((w.alloc (.cells Q.cells 24 (0, 0))).alloc (.cells qz.cells 27 (0, 0))).heap[w.heap.size + 1]? = some (.cells qz.cells 27 (0, 0))) := Lib.hid (by have := heap_alloc_new (w.alloc (.cells Q.cells 24 (0, 0))) (.cells qz.cells 27 (0, 0)); simpa using this)
  change Code.wp _ _ _ _ ((w.alloc (.cells Q.cells 24 (0, 0))).alloc (.cells qz.cells 27 (0, 0)))
  obtain ⟨w2, hw2⟩ : ∃ w2, ((w.alloc (.cells Q.cells 24 (0, 0))).alloc (.cells qz.cells 27 (0, 0))) = w2 := ⟨_, rfl⟩
  rw [hw2] at HB HP HR ⊢
  clear hw2
  obtain ⟨⟨Aod, nod, cod⟩, ⟨Art, nrt, crt⟩, ⟨Ais, nis, cis⟩, ⟨Ars, nrs, crs⟩, idle, udp, data, bl, br, un, sb, su, ae, ad, nomig, ⟨Av4, nv4, cv4⟩, ⟨Av6, nv6, cv6⟩, p4, p6, ⟨Apid, npid, cpid⟩, ⟨Aptok, nptok, cptok⟩, act⟩ := Q
  have u0 : w2.cell? ⟨w.heap.size, 0, none⟩ = some (.slice Aod nod cod) := (cell_of_row _ _ 0 _ _ (0, 0) HP.out).trans rfl
  have u1 : w2.cell? ⟨w.heap.size, 1, none⟩ = some (.slice Art nrt crt) := (cell_of_row _ _ 1 _ _ (0, 0) HP.out).trans rfl
  have u2 : w2.cell? ⟨w.heap.size, 2, none⟩ = some (.slice Ais nis cis) := (cell_of_row _ _ 2 _ _ (0, 0) HP.out).trans rfl
  have u3 : w2.cell? ⟨w.heap.size, 3, none⟩ = some (.slice Ars nrs crs) := (cell_of_row _ _ 3 _ _ (0, 0) HP.out).trans rfl
  have u4 : w2.cell? ⟨w.heap.size, 4, none⟩ = some (.int .i64 idle) := (cell_of_row _ _ 4 _ _ (0, 0) HP.out).trans rfl
  have u5 : w2.cell? ⟨w.heap.size, 5, none⟩ = some (.int .i64 udp) := (cell_of_row _ _ 5 _ _ (0, 0) HP.out).trans rfl
  have u6 : w2.cell? ⟨w.heap.size, 6, none⟩ = some (.int .i64 data) := (cell_of_row _ _ 6 _ _ (0, 0) HP.out).trans rfl
  have u7 : w2.cell? ⟨w.heap.size, 7, none⟩ = some (.int .i64 bl) := (cell_of_row _ _ 7 _ _ (0, 0) HP.out).trans rfl
  have u8 : w2.cell? ⟨w.heap.size, 8, none⟩ = some (.int .i64 br) := (cell_of_row _ _ 8 _ _ (0, 0) HP.out).trans rfl
  have u9 : w2.cell? ⟨w.heap.size, 9, none⟩ = some (.int .i64 un) := (cell_of_row _ _ 9 _ _ (0, 0) HP.out).trans rfl
  have u10 : w2.cell? ⟨w.heap.size, 10, none⟩ = some (.int .i64 sb) := (cell_of_row _ _ 10 _ _ (0, 0) HP.out).trans rfl
  have u11 : w2.cell? ⟨w.heap.size, 11, none⟩ = some (.int .i64 su) := (cell_of_row _ _ 11 _ _ (0, 0) HP.out).trans rfl
  have u12 : w2.cell? ⟨w.heap.size, 12, none⟩ = some (.int .i64 ae) := (cell_of_row _ _ 12 _ _ (0, 0) HP.out).trans rfl
  have u13 : w2.cell? ⟨w.heap.size, 13, none⟩ = some (.int .i64 ad) := (cell_of_row _ _ 13 _ _ (0, 0) HP.out).trans rfl
  have u14 : w2.cell? ⟨w.heap.size, 14, none⟩ = some (.bool nomig) := (cell_of_row _ _ 14 _ _ (0, 0) HP.out).trans rfl
  have u15 : w2.cell? ⟨w.heap.size, 15, none⟩ = some (.slice Av4 nv4 cv4) := (cell_of_row _ _ 15 _ _ (0, 0) HP.out).trans rfl
  have u16 : w2.cell? ⟨w.heap.size, 16, none⟩ = some (.slice Av6 nv6 cv6) := (cell_of_row _ _ 16 _ _ (0, 0) HP.out).trans rfl
  have u17 : w2.cell? ⟨w.heap.size, 17, none⟩ = some (.int .i64 p4) := (cell_of_row _ _ 17 _ _ (0, 0) HP.out).trans rfl
  have u18 : w2.cell? ⟨w.heap.size, 18, none⟩ = some (.int .i64 p6) := (cell_of_row _ _ 18 _ _ (0, 0) HP.out).trans rfl
  have u19 : w2.cell? ⟨w.heap.size, 19, none⟩ = some (.slice Apid npid cpid) := (cell_of_row _ _ 19 _ _ (0, 0) HP.out).trans rfl
  have u20 : w2.cell? ⟨w.heap.size, 20, none⟩ = some (.slice Aptok nptok cptok) := (cell_of_row _ _ 20 _ _ (0, 0) HP.out).trans rfl
  have u21 : w2.cell? ⟨w.heap.size, 21, none⟩ = some (.int .i64 act) := (cell_of_row _ _ 21 _ _ (0, 0) HP.out).trans rfl
  go_wp2_with fail
  refine wp_val (.agg #[.slice Aod nod cod, .slice Art nrt crt, .slice Ais nis cis, .slice Ars nrs crs, .int .i64 idle, .int .i64 udp, .int .i64 data, .int .i64 bl, .int .i64 br, .int .i64 un, .int .i64 sb, .int .i64 su, .int .i64 ae, .int .i64 ad, .bool nomig, .slice Av4 nv4 cv4, .slice Av6 nv6 cv6, .int .i64 p4, .int .i64 p6, .slice Apid npid cpid, .slice Aptok nptok cptok, .int .i64 act]) (exec_build rfl _ (by rw [List.map_toArray]; rfl) _ (build_ip Aod nod cod Art nrt crt Ais nis cis Ars nrs crs Av4 nv4 cv4 Av6 nv6 cv6 Apid npid cpid Aptok nptok cptok idle udp data bl br un sb su ae ad p4 p6 act nomig _)) ?_
  go_wp2_with (refine wpList_store_mid (op := ⟨none, .store 27 (.tmp 2) (.tmp 47), _, _, _, none⟩) rfl 27 (.tmp 2) (.tmp 47) rfl (w.heap.size + 1) 0 #[.slice Aod nod cod, .slice Art nrt crt, .slice Ais nis cis, .slice Ars nrs crs, .int .i64 idle, .int .i64 udp, .int .i64 data, .int .i64 bl, .int .i64 br, .int .i64 un, .int .i64 sb, .int .i64 su, .int .i64 ae, .int .i64 ad, .bool nomig, .slice Av4 nv4 cv4, .slice Av6 nv6 cv6, .int .i64 p4, .int .i64 p6, .slice Apid npid cpid, .slice Aptok nptok cptok, .int .i64 act] rfl rfl (there_row HR.out (Nat.le_refl _)) size_iq (QP.one ⟨⟨Aod, nod, cod⟩, ⟨Art, nrt, crt⟩, ⟨Ais, nis, cis⟩, ⟨Ars, nrs, crs⟩, idle, udp, data, bl, br, un, sb, su, ae, ad, nomig, ⟨Av4, nv4, cv4⟩, ⟨Av6, nv6, cv6⟩, p4, p6, ⟨Apid, npid, cpid⟩, ⟨Aptok, nptok, cptok⟩, act⟩) ?_)
  have hw := setCells_all (vs := QP.cells ⟨⟨Aod, nod, cod⟩, ⟨Art, nrt, crt⟩, ⟨Ais, nis, cis⟩, ⟨Ars, nrs, crs⟩, idle, udp, data, bl, br, un, sb, su, ae, ad, nomig, ⟨Av4, nv4, cv4⟩, ⟨Av6, nv6, cv6⟩, p4, p6, ⟨Apid, npid, cpid⟩, ⟨Aptok, nptok, cptok⟩, act⟩) HR.out rfl
  refine bodyPost_ret (v := .agg (QP.cells ⟨⟨Aod, nod, cod⟩, ⟨Art, nrt, crt⟩, ⟨Ais, nis, cis⟩, ⟨Ars, nrs, crs⟩, idle, udp, data, bl, br, un, sb, su, ae, ad, nomig, ⟨Av4, nv4, cv4⟩, ⟨Av6, nv6, cv6⟩, p4, p6, ⟨Apid, npid, cpid⟩, ⟨Aptok, nptok, cptok⟩, act⟩)) (res_pa _ _ _ _ rfl (load_iq _ _ ⟨⟨Aod, nod, cod⟩, ⟨Art, nrt, crt⟩, ⟨Ais, nis, cis⟩, ⟨Ars, nrs, crs⟩, idle, udp, data, bl, br, un, sb, su, ae, ad, nomig, ⟨Av4, nv4, cv4⟩, ⟨Av6, nv6, cv6⟩, p4, p6, ⟨Apid, npid, cpid⟩, ⟨Aptok, nptok, cptok⟩, act⟩ hw.1)) rfl ?_
  exact ⟨rfl, below_setCells (by omega) (Nat.le_refl _) _ _ HB.out⟩

set_option maxRecDepth 1000000 in
set_option maxHeartbeats 8000000 in
/-- laws.alike of parameters that tell the same. -/
theorem alike_wp (Q Q' : QP) (S : SP) (w : World) (h : Qp w Q S) (h' : Qp w Q' S) : Calls Tryd.prog 9 #[.agg Q.cells, .agg Q'.cells] w fun e w' => e = .returned (.bool true) ∧ Hid (Below w.heap.size w w') := by
  have HB : Hid (Below w.heap.size w ((w.alloc (.cells Q.cells 27 (0, 0))).alloc (.cells Q'.cells 27 (0, 0)))) := ((Below.refl _ _).alloc (Nat.le_refl _) _).alloc (by simp) _
  have hq := h.below HB.out
  have hq' := h'.below HB.out
  go_enter Tryd.func9, Tryd.ntmps9
  go_upto_region 1 with fail
  have HP : Hid (((w.alloc (.cells Q.cells 27 (0, 0))).alloc (.cells Q'.cells 27 (0, 0))).heap[w.heap.size]? = some (.cells Q.cells 27 (0, 0))) := (heap_alloc_old _ _ (by simp)).trans (heap_alloc_new w _)
  have HR : Hid (((w.alloc (.cells Q.cells 27 (0, 0))).alloc (.cells Q'.cells 27 (0, 0))).heap[w.heap.size + 1]? = some (.cells Q'.cells 27 (0, 0))) := Lib.hid (by have := heap_alloc_new (w.alloc (.cells Q.cells 27 (0, 0))) (.cells Q'.cells 27 (0, 0)); simpa using this)
  change Code.wp _ _ _ _ ((w.alloc (.cells Q.cells 27 (0, 0))).alloc (.cells Q'.cells 27 (0, 0)))
  obtain ⟨w2, hw2⟩ : ∃ w2, ((w.alloc (.cells Q.cells 27 (0, 0))).alloc (.cells Q'.cells 27 (0, 0))) = w2 := ⟨_, rfl⟩
  rw [hw2] at HB HP HR hq hq' ⊢
  clear hw2 h h'
  obtain ⟨⟨Aod, nod, cod⟩, ⟨Art, nrt, crt⟩, ⟨Ais, nis, cis⟩, ⟨Ars, nrs, crs⟩, idle, udp, data, bl, br, un, sb, su, ae, ad, nomig, ⟨Av4, nv4, cv4⟩, ⟨Av6, nv6, cv6⟩, p4, p6, ⟨Apid, npid, cpid⟩, ⟨Aptok, nptok, cptok⟩, act⟩ := Q
  obtain ⟨⟨Aod', nod', cod'⟩, ⟨Art', nrt', crt'⟩, ⟨Ais', nis', cis'⟩, ⟨Ars', nrs', crs'⟩, idle', udp', data', bl', br', un', sb', su', ae', ad', nomig', ⟨Av4', nv4', cv4'⟩, ⟨Av6', nv6', cv6'⟩, p4', p6', ⟨Apid', npid', cpid'⟩, ⟨Aptok', nptok', cptok'⟩, act'⟩ := Q'
  have e_idle : idle = S.idle := hq.idle
  have e_idle' : idle' = S.idle := hq'.idle
  subst e_idle e_idle'
  obtain ⟨idle, i_idle⟩ : ∃ idle, S.idle = idle := ⟨_, rfl⟩
  rw [i_idle] at HP HR
  have e_udp : udp = S.udp := hq.udp
  have e_udp' : udp' = S.udp := hq'.udp
  subst e_udp e_udp'
  obtain ⟨udp, i_udp⟩ : ∃ udp, S.udp = udp := ⟨_, rfl⟩
  rw [i_udp] at HP HR
  have e_data : data = S.data := hq.data
  have e_data' : data' = S.data := hq'.data
  subst e_data e_data'
  obtain ⟨data, i_data⟩ : ∃ data, S.data = data := ⟨_, rfl⟩
  rw [i_data] at HP HR
  have e_bl : bl = S.bl := hq.bl
  have e_bl' : bl' = S.bl := hq'.bl
  subst e_bl e_bl'
  obtain ⟨bl, i_bl⟩ : ∃ bl, S.bl = bl := ⟨_, rfl⟩
  rw [i_bl] at HP HR
  have e_br : br = S.br := hq.br
  have e_br' : br' = S.br := hq'.br
  subst e_br e_br'
  obtain ⟨br, i_br⟩ : ∃ br, S.br = br := ⟨_, rfl⟩
  rw [i_br] at HP HR
  have e_un : un = S.un := hq.un
  have e_un' : un' = S.un := hq'.un
  subst e_un e_un'
  obtain ⟨un, i_un⟩ : ∃ un, S.un = un := ⟨_, rfl⟩
  rw [i_un] at HP HR
  have e_sb : sb = S.sb := hq.sb
  have e_sb' : sb' = S.sb := hq'.sb
  subst e_sb e_sb'
  obtain ⟨sb, i_sb⟩ : ∃ sb, S.sb = sb := ⟨_, rfl⟩
  rw [i_sb] at HP HR
  have e_su : su = S.su := hq.su
  have e_su' : su' = S.su := hq'.su
  subst e_su e_su'
  obtain ⟨su, i_su⟩ : ∃ su, S.su = su := ⟨_, rfl⟩
  rw [i_su] at HP HR
  have e_ae : ae = S.ae := hq.ae
  have e_ae' : ae' = S.ae := hq'.ae
  subst e_ae e_ae'
  obtain ⟨ae, i_ae⟩ : ∃ ae, S.ae = ae := ⟨_, rfl⟩
  rw [i_ae] at HP HR
  have e_ad : ad = S.ad := hq.ad
  have e_ad' : ad' = S.ad := hq'.ad
  subst e_ad e_ad'
  obtain ⟨ad, i_ad⟩ : ∃ ad, S.ad = ad := ⟨_, rfl⟩
  rw [i_ad] at HP HR
  have e_nomig : nomig = S.nomig := hq.nomig
  have e_nomig' : nomig' = S.nomig := hq'.nomig
  subst e_nomig e_nomig'
  obtain ⟨nomig, i_nomig⟩ : ∃ nomig, S.nomig = nomig := ⟨_, rfl⟩
  rw [i_nomig] at HP HR
  have e_p4 : p4 = S.p4 := hq.p4
  have e_p4' : p4' = S.p4 := hq'.p4
  subst e_p4 e_p4'
  obtain ⟨p4, i_p4⟩ : ∃ p4, S.p4 = p4 := ⟨_, rfl⟩
  rw [i_p4] at HP HR
  have e_p6 : p6 = S.p6 := hq.p6
  have e_p6' : p6' = S.p6 := hq'.p6
  subst e_p6 e_p6'
  obtain ⟨p6, i_p6⟩ : ∃ p6, S.p6 = p6 := ⟨_, rfl⟩
  rw [i_p6] at HP HR
  have e_act : act = S.act := hq.act
  have e_act' : act' = S.act := hq'.act
  subst e_act e_act'
  obtain ⟨act, i_act⟩ : ∃ act, S.act = act := ⟨_, rfl⟩
  rw [i_act] at HP HR
  have Hod : Hid (Rt w2 (Aod, nod, cod) S.od) := hq.od
  have Hod' : Hid (Rt w2 (Aod', nod', cod') S.od) := hq'.od
  have Hrt : Hid (Rt w2 (Art, nrt, crt) S.rt) := hq.rt
  have Hrt' : Hid (Rt w2 (Art', nrt', crt') S.rt) := hq'.rt
  have His : Hid (Rt w2 (Ais, nis, cis) S.is) := hq.is
  have His' : Hid (Rt w2 (Ais', nis', cis') S.is) := hq'.is
  have Hrs : Hid (Rt w2 (Ars, nrs, crs) S.rs) := hq.rs
  have Hrs' : Hid (Rt w2 (Ars', nrs', crs') S.rs) := hq'.rs
  have Hv4 : Hid (Rt w2 (Av4, nv4, cv4) S.v4) := hq.v4
  have Hv4' : Hid (Rt w2 (Av4', nv4', cv4') S.v4) := hq'.v4
  have Hv6 : Hid (Rt w2 (Av6, nv6, cv6) S.v6) := hq.v6
  have Hv6' : Hid (Rt w2 (Av6', nv6', cv6') S.v6) := hq'.v6
  have Hpid : Hid (Rt w2 (Apid, npid, cpid) S.pid) := hq.pid
  have Hpid' : Hid (Rt w2 (Apid', npid', cpid') S.pid) := hq'.pid
  have Hptok : Hid (Rt w2 (Aptok, nptok, cptok) S.ptok) := hq.ptok
  have Hptok' : Hid (Rt w2 (Aptok', nptok', cptok') S.ptok) := hq'.ptok
  clear hq hq'
  clear i_idle
  clear i_udp
  clear i_data
  clear i_bl
  clear i_br
  clear i_un
  clear i_sb
  clear i_su
  clear i_ae
  clear i_ad
  clear i_nomig
  clear i_p4
  clear i_p6
  clear i_act
  have u0 : w2.cell? ⟨w.heap.size, 0, none⟩ = some (.slice Aod nod cod) := (cell_of_row _ _ 0 _ _ (0, 0) HP.out).trans rfl
  have u1 : w2.cell? ⟨w.heap.size, 1, none⟩ = some (.slice Art nrt crt) := (cell_of_row _ _ 1 _ _ (0, 0) HP.out).trans rfl
  have u2 : w2.cell? ⟨w.heap.size, 2, none⟩ = some (.slice Ais nis cis) := (cell_of_row _ _ 2 _ _ (0, 0) HP.out).trans rfl
  have u3 : w2.cell? ⟨w.heap.size, 3, none⟩ = some (.slice Ars nrs crs) := (cell_of_row _ _ 3 _ _ (0, 0) HP.out).trans rfl
  have u4 : w2.cell? ⟨w.heap.size, 4, none⟩ = some (.int .i64 idle) := (cell_of_row _ _ 4 _ _ (0, 0) HP.out).trans rfl
  have u5 : w2.cell? ⟨w.heap.size, 5, none⟩ = some (.int .i64 udp) := (cell_of_row _ _ 5 _ _ (0, 0) HP.out).trans rfl
  have u6 : w2.cell? ⟨w.heap.size, 6, none⟩ = some (.int .i64 data) := (cell_of_row _ _ 6 _ _ (0, 0) HP.out).trans rfl
  have u7 : w2.cell? ⟨w.heap.size, 7, none⟩ = some (.int .i64 bl) := (cell_of_row _ _ 7 _ _ (0, 0) HP.out).trans rfl
  have u8 : w2.cell? ⟨w.heap.size, 8, none⟩ = some (.int .i64 br) := (cell_of_row _ _ 8 _ _ (0, 0) HP.out).trans rfl
  have u9 : w2.cell? ⟨w.heap.size, 9, none⟩ = some (.int .i64 un) := (cell_of_row _ _ 9 _ _ (0, 0) HP.out).trans rfl
  have u10 : w2.cell? ⟨w.heap.size, 10, none⟩ = some (.int .i64 sb) := (cell_of_row _ _ 10 _ _ (0, 0) HP.out).trans rfl
  have u11 : w2.cell? ⟨w.heap.size, 11, none⟩ = some (.int .i64 su) := (cell_of_row _ _ 11 _ _ (0, 0) HP.out).trans rfl
  have u12 : w2.cell? ⟨w.heap.size, 12, none⟩ = some (.int .i64 ae) := (cell_of_row _ _ 12 _ _ (0, 0) HP.out).trans rfl
  have u13 : w2.cell? ⟨w.heap.size, 13, none⟩ = some (.int .i64 ad) := (cell_of_row _ _ 13 _ _ (0, 0) HP.out).trans rfl
  have u14 : w2.cell? ⟨w.heap.size, 14, none⟩ = some (.bool nomig) := (cell_of_row _ _ 14 _ _ (0, 0) HP.out).trans rfl
  have u15 : w2.cell? ⟨w.heap.size, 15, none⟩ = some (.slice Av4 nv4 cv4) := (cell_of_row _ _ 15 _ _ (0, 0) HP.out).trans rfl
  have u16 : w2.cell? ⟨w.heap.size, 16, none⟩ = some (.slice Av6 nv6 cv6) := (cell_of_row _ _ 16 _ _ (0, 0) HP.out).trans rfl
  have u17 : w2.cell? ⟨w.heap.size, 17, none⟩ = some (.int .i64 p4) := (cell_of_row _ _ 17 _ _ (0, 0) HP.out).trans rfl
  have u18 : w2.cell? ⟨w.heap.size, 18, none⟩ = some (.int .i64 p6) := (cell_of_row _ _ 18 _ _ (0, 0) HP.out).trans rfl
  have u19 : w2.cell? ⟨w.heap.size, 19, none⟩ = some (.slice Apid npid cpid) := (cell_of_row _ _ 19 _ _ (0, 0) HP.out).trans rfl
  have u20 : w2.cell? ⟨w.heap.size, 20, none⟩ = some (.slice Aptok nptok cptok) := (cell_of_row _ _ 20 _ _ (0, 0) HP.out).trans rfl
  have u21 : w2.cell? ⟨w.heap.size, 21, none⟩ = some (.int .i64 act) := (cell_of_row _ _ 21 _ _ (0, 0) HP.out).trans rfl
  have u0' : w2.cell? ⟨w.heap.size + 1, 0, none⟩ = some (.slice Aod' nod' cod') := (cell_of_row _ _ 0 _ _ (0, 0) HR.out).trans rfl
  have u1' : w2.cell? ⟨w.heap.size + 1, 1, none⟩ = some (.slice Art' nrt' crt') := (cell_of_row _ _ 1 _ _ (0, 0) HR.out).trans rfl
  have u2' : w2.cell? ⟨w.heap.size + 1, 2, none⟩ = some (.slice Ais' nis' cis') := (cell_of_row _ _ 2 _ _ (0, 0) HR.out).trans rfl
  have u3' : w2.cell? ⟨w.heap.size + 1, 3, none⟩ = some (.slice Ars' nrs' crs') := (cell_of_row _ _ 3 _ _ (0, 0) HR.out).trans rfl
  have u4' : w2.cell? ⟨w.heap.size + 1, 4, none⟩ = some (.int .i64 idle) := (cell_of_row _ _ 4 _ _ (0, 0) HR.out).trans rfl
  have u5' : w2.cell? ⟨w.heap.size + 1, 5, none⟩ = some (.int .i64 udp) := (cell_of_row _ _ 5 _ _ (0, 0) HR.out).trans rfl
  have u6' : w2.cell? ⟨w.heap.size + 1, 6, none⟩ = some (.int .i64 data) := (cell_of_row _ _ 6 _ _ (0, 0) HR.out).trans rfl
  have u7' : w2.cell? ⟨w.heap.size + 1, 7, none⟩ = some (.int .i64 bl) := (cell_of_row _ _ 7 _ _ (0, 0) HR.out).trans rfl
  have u8' : w2.cell? ⟨w.heap.size + 1, 8, none⟩ = some (.int .i64 br) := (cell_of_row _ _ 8 _ _ (0, 0) HR.out).trans rfl
  have u9' : w2.cell? ⟨w.heap.size + 1, 9, none⟩ = some (.int .i64 un) := (cell_of_row _ _ 9 _ _ (0, 0) HR.out).trans rfl
  have u10' : w2.cell? ⟨w.heap.size + 1, 10, none⟩ = some (.int .i64 sb) := (cell_of_row _ _ 10 _ _ (0, 0) HR.out).trans rfl
  have u11' : w2.cell? ⟨w.heap.size + 1, 11, none⟩ = some (.int .i64 su) := (cell_of_row _ _ 11 _ _ (0, 0) HR.out).trans rfl
  have u12' : w2.cell? ⟨w.heap.size + 1, 12, none⟩ = some (.int .i64 ae) := (cell_of_row _ _ 12 _ _ (0, 0) HR.out).trans rfl
  have u13' : w2.cell? ⟨w.heap.size + 1, 13, none⟩ = some (.int .i64 ad) := (cell_of_row _ _ 13 _ _ (0, 0) HR.out).trans rfl
  have u14' : w2.cell? ⟨w.heap.size + 1, 14, none⟩ = some (.bool nomig) := (cell_of_row _ _ 14 _ _ (0, 0) HR.out).trans rfl
  have u15' : w2.cell? ⟨w.heap.size + 1, 15, none⟩ = some (.slice Av4' nv4' cv4') := (cell_of_row _ _ 15 _ _ (0, 0) HR.out).trans rfl
  have u16' : w2.cell? ⟨w.heap.size + 1, 16, none⟩ = some (.slice Av6' nv6' cv6') := (cell_of_row _ _ 16 _ _ (0, 0) HR.out).trans rfl
  have u17' : w2.cell? ⟨w.heap.size + 1, 17, none⟩ = some (.int .i64 p4) := (cell_of_row _ _ 17 _ _ (0, 0) HR.out).trans rfl
  have u18' : w2.cell? ⟨w.heap.size + 1, 18, none⟩ = some (.int .i64 p6) := (cell_of_row _ _ 18 _ _ (0, 0) HR.out).trans rfl
  have u19' : w2.cell? ⟨w.heap.size + 1, 19, none⟩ = some (.slice Apid' npid' cpid') := (cell_of_row _ _ 19 _ _ (0, 0) HR.out).trans rfl
  have u20' : w2.cell? ⟨w.heap.size + 1, 20, none⟩ = some (.slice Aptok' nptok' cptok') := (cell_of_row _ _ 20 _ _ (0, 0) HR.out).trans rfl
  have u21' : w2.cell? ⟨w.heap.size + 1, 21, none⟩ = some (.int .i64 act) := (cell_of_row _ _ 21 _ _ (0, 0) HR.out).trans rfl
  go_upto_region 3 with (first | (go_at_call_of 22 (Value.slice Aod nod cod); refine (beq Aod Aod' nod cod nod' cod' S.od _ (by exact Hod.out.1) (by exact Hod'.out.1) (Lib.hid Hod.out.2.1) (Lib.hid Hod'.out.2.1)).mono ?_; rintro e wz ⟨rfl, rfl⟩) | (go_at_call_of 22 (Value.slice Art nrt crt); refine (beq Art Art' nrt crt nrt' crt' S.rt _ (by exact Hrt.out.1) (by exact Hrt'.out.1) (Lib.hid Hrt.out.2.1) (Lib.hid Hrt'.out.2.1)).mono ?_; rintro e wz ⟨rfl, rfl⟩) | (go_at_call_of 22 (Value.slice Ais nis cis); refine (beq Ais Ais' nis cis nis' cis' S.is _ (by exact His.out.1) (by exact His'.out.1) (Lib.hid His.out.2.1) (Lib.hid His'.out.2.1)).mono ?_; rintro e wz ⟨rfl, rfl⟩) | (go_at_call_of 22 (Value.slice Ars nrs crs); refine (beq Ars Ars' nrs crs nrs' crs' S.rs _ (by exact Hrs.out.1) (by exact Hrs'.out.1) (Lib.hid Hrs.out.2.1) (Lib.hid Hrs'.out.2.1)).mono ?_; rintro e wz ⟨rfl, rfl⟩))
  go_upto_region 7 with fail
  go_wp2_with (first | (go_at_call_of 22 (Value.slice Av4 nv4 cv4); refine (beq Av4 Av4' nv4 cv4 nv4' cv4' S.v4 _ (by exact Hv4.out.1) (by exact Hv4'.out.1) (Lib.hid Hv4.out.2.1) (Lib.hid Hv4'.out.2.1)).mono ?_; rintro e wz ⟨rfl, rfl⟩) | (go_at_call_of 22 (Value.slice Av6 nv6 cv6); refine (beq Av6 Av6' nv6 cv6 nv6' cv6' S.v6 _ (by exact Hv6.out.1) (by exact Hv6'.out.1) (Lib.hid Hv6.out.2.1) (Lib.hid Hv6'.out.2.1)).mono ?_; rintro e wz ⟨rfl, rfl⟩) | (go_at_call_of 22 (Value.slice Apid npid cpid); refine (beq Apid Apid' npid cpid npid' cpid' S.pid _ (by exact Hpid.out.1) (by exact Hpid'.out.1) (Lib.hid Hpid.out.2.1) (Lib.hid Hpid'.out.2.1)).mono ?_; rintro e wz ⟨rfl, rfl⟩) | (go_at_call_of 22 (Value.slice Aptok nptok cptok); refine (beq Aptok Aptok' nptok cptok nptok' cptok' S.ptok _ (by exact Hptok.out.1) (by exact Hptok'.out.1) (Lib.hid Hptok.out.2.1) (Lib.hid Hptok'.out.2.1)).mono ?_; rintro e wz ⟨rfl, rfl⟩))
  go_ret
  exact ⟨rfl, HB.out⟩
end Go.Proofs.YtdjdcpcomhjnjaaDoor

/- ZZReadParams, impl.ReadParams. Conditions: the variables of netip read as told. -/
import Derived.Test.YtdjdcpcomhjnjaaDoorUmg
import Derived.Deep.RegionHeld3
import Derived.Laws.Tables
namespace Go.Proofs.YtdjdcpcomhjnjaaDoor
open Go.RowKit
set_option linter.unusedVariables false
set_option linter.unusedSimpArgs false

/-- AsSlice of an address of four bytes, or of none. -/
theorem asl4 (a4 a6 : Addr) (hi lo pt p : Int) (z : Option Addr) (v : List Int) (h : Ad4 a4 ⟨hi, lo, z, pt⟩ v p) (w : World) (hg : Gl w a4 a6) :
    Calls Tryd.prog 32 #[.agg #[.int .u64 hi, .int .u64 lo, .pointer z]] w fun e w' => ∃ t : Tri, e = .returned (.slice t.1 t.2.1 t.2.2) ∧ Hid (Rt w' t v ∧ Below w.heap.size w w') := by
  rcases h with ⟨rfl, e, _⟩ | ⟨x0, x1, x2, x3, ⟨h0, h1, h2, h3⟩, _, rfl, e⟩
  · simp only [pa0, PA.mk.injEq] at e
    obtain ⟨rfl, rfl, rfl, rfl⟩ := e
    exact (as0 a4 a6 0 0 w hg).mono fun e w' ⟨h, hb⟩ => ⟨(none, 0, 0), h, Rt.nil_ _, hb.out⟩
  · simp only [PA.mk.injEq] at e
    obtain ⟨rfl, rfl, rfl, rfl⟩ := e
    exact (as4 a4 a6 x0 x1 x2 x3 h0 h1 h2 h3 w hg).mono fun e w' ⟨g, h, hb⟩ => ⟨(some ⟨g, 0, none⟩, 4, 4), h, ⟨hb.out.2.1, rfl, Nat.le_refl _, by simp, fun h => by cases h⟩, hb.out.1⟩
/-- .. of sixteen. -/
theorem asl6 (a4 a6 : Addr) (hi lo pt p : Int) (z : Option Addr) (v : List Int) (h : Ad6 a6 ⟨hi, lo, z, pt⟩ v p) (w : World) (hg : Gl w a4 a6) :
    Calls Tryd.prog 32 #[.agg #[.int .u64 hi, .int .u64 lo, .pointer z]] w fun e w' => ∃ t : Tri, e = .returned (.slice t.1 t.2.1 t.2.2) ∧ Hid (Rt w' t v ∧ Below w.heap.size w w') := by
  rcases h with ⟨rfl, e, _⟩ | ⟨x0, x1, x2, x3, x4, x5, x6, x7, x8, x9, x10, x11, x12, x13, x14, x15, ⟨⟨h0, h1, h2, h3⟩, ⟨h4, h5, h6, h7⟩, ⟨h8, h9, h10, h11⟩, ⟨h12, h13, h14, h15⟩⟩, _, rfl, e⟩
  · simp only [pa0, PA.mk.injEq] at e
    obtain ⟨rfl, rfl, rfl, rfl⟩ := e
    exact (as0 a4 a6 0 0 w hg).mono fun e w' ⟨h, hb⟩ => ⟨(none, 0, 0), h, Rt.nil_ _, hb.out⟩
  · simp only [PA.mk.injEq, num8] at e
    obtain ⟨rfl, rfl, rfl, rfl⟩ := e
    exact (as6 a4 a6 x0 x1 x2 x3 x4 x5 x6 x7 x8 x9 x10 x11 x12 x13 x14 x15 h0 h1 h2 h3 h4 h5 h6 h7 h8 h9 h10 h11 h12 h13 h14 h15 w hg).mono fun e w' ⟨g, h, hb⟩ => ⟨(some ⟨g, 0, none⟩, 16, 16), h, ⟨hb.out.2.1, rfl, Nat.le_refl _, by simp, fun h => by cases h⟩, hb.out.1⟩

/-- The cells of the parameters as the laws hold them. -/
structure QP where
  od : Tri
  rt : Tri
  is : Tri
  rs : Tri
  idle : Int
  udp : Int
  data : Int
  bl : Int
  br : Int
  un : Int
  sb : Int
  su : Int
  ae : Int
  ad : Int
  nomig : Bool
  v4 : Tri
  v6 : Tri
  p4 : Int
  p6 : Int
  pid : Tri
  ptok : Tri
  act : Int
def QP.cells (Q : QP) : Array Value := #[triV Q.od, triV Q.rt, triV Q.is, triV Q.rs, .int .i64 Q.idle, .int .i64 Q.udp, .int .i64 Q.data, .int .i64 Q.bl, .int .i64 Q.br, .int .i64 Q.un, .int .i64 Q.sb, .int .i64 Q.su, .int .i64 Q.ae, .int .i64 Q.ad, .bool Q.nomig, triV Q.v4, triV Q.v6, .int .i64 Q.p4, .int .i64 Q.p6, triV Q.pid, triV Q.ptok, .int .i64 Q.act]
theorem QP.size (Q : QP) : Q.cells.size = 22 := rfl
theorem QP.one (Q : QP) : Q.cells.toList.toArray.all (·.oneCell') = true := by
  simp [QP.cells, triV, Value.oneCell']
theorem QP.no_u8 (Q : QP) (i : Nat) (x : Int) : Q.cells[i]? ≠ some (.int .u8 x) := by
  intro h
  have := Array.mem_of_getElem? h
  simp [QP.cells, triV] at this
theorem size_zq : (Tryd.prog.info? 49).map (·.size) = some 22 := by kernel_rfl
theorem size_iq : (Tryd.prog.info? 27).map (·.size) = some 22 := by kernel_rfl
theorem size_sq : (Tryd.prog.info? 24).map (·.size) = some 22 := by kernel_rfl
/-- The cells tell the parameters. -/
structure Qp (w : World) (Q : QP) (S : SP) : Prop where
  od : Rt w Q.od S.od
  rt : Rt w Q.rt S.rt
  is : Rt w Q.is S.is
  rs : Rt w Q.rs S.rs
  idle : Q.idle = S.idle
  udp : Q.udp = S.udp
  data : Q.data = S.data
  bl : Q.bl = S.bl
  br : Q.br = S.br
  un : Q.un = S.un
  sb : Q.sb = S.sb
  su : Q.su = S.su
  ae : Q.ae = S.ae
  ad : Q.ad = S.ad
  nomig : Q.nomig = S.nomig
  v4 : Rt w Q.v4 S.v4
  v6 : Rt w Q.v6 S.v6
  p4 : Q.p4 = S.p4
  p6 : Q.p6 = S.p6
  pid : Rt w Q.pid S.pid
  ptok : Rt w Q.ptok S.ptok
  act : Q.act = S.act

theorem exec_build {P : Program} {a : Act} {w : World} {t : TypeId} {parts : Array (Nat × Operand)} {o : Oper} (ho : o.op = .build t parts) (ps : Array (Nat × Value)) (hp : (parts.map fun (i, x) => (i, a.eval x)) = ps) (v : Value) (h : (Instr.build t ps).run P w = .ok v w) : (execOp a.eval o).run P w = .ok (.value v) w := by
  unfold execOp
  rw [ho]
  subst hp
  simp only [h, Sem.run_bind, Sem.run_pure, Result.andThen_ok]
theorem build_zq (Aod : Option Addr) (nod cod : Nat) (Art : Option Addr) (nrt crt : Nat) (Ais : Option Addr) (nis cis : Nat) (Ars : Option Addr) (nrs crs : Nat) (Av4 : Option Addr) (nv4 cv4 : Nat) (Av6 : Option Addr) (nv6 cv6 : Nat) (Apid : Option Addr) (npid cpid : Nat) (Aptok : Option Addr) (nptok cptok : Nat) (idle udp data bl br un sb su ae ad p4 p6 act : Int) (nomig : Bool) (w : World) : (Instr.build 49 #[(0, .slice Aod nod cod), (1, .slice Art nrt crt), (2, .slice Ais nis cis), (3, .slice Ars nrs crs), (4, .int .i64 idle), (5, .int .i64 udp), (6, .int .i64 data), (7, .int .i64 bl), (8, .int .i64 br), (9, .int .i64 un), (10, .int .i64 sb), (11, .int .i64 su), (12, .int .i64 ae), (13, .int .i64 ad), (14, .bool nomig), (15, .slice Av4 nv4 cv4), (16, .slice Av6 nv6 cv6), (17, .int .i64 p4), (18, .int .i64 p6), (19, .slice Apid npid cpid), (20, .slice Aptok nptok cptok), (21, .int .i64 act)]).run Tryd.prog w = .ok (.agg #[.slice Aod nod cod, .slice Art nrt crt, .slice Ais nis cis, .slice Ars nrs crs, .int .i64 idle, .int .i64 udp, .int .i64 data, .int .i64 bl, .int .i64 br, .int .i64 un, .int .i64 sb, .int .i64 su, .int .i64 ae, .int .i64 ad, .bool nomig, .slice Av4 nv4 cv4, .slice Av6 nv6 cv6, .int .i64 p4, .int .i64 p6, .slice Apid npid cpid, .slice Aptok nptok cptok, .int .i64 act]) w := run_build w 49 _ _ (by kernel_rfl)
theorem Qp.keep {w w' : World} {Q : QP} {S : SP} (h : Qp w Q S) (hk : ∀ t d, Rt w t d → Rt w' t d) : Qp w' Q S := { h with od := hk _ _ h.od, rt := hk _ _ h.rt, is := hk _ _ h.is, rs := hk _ _ h.rs, v4 := hk _ _ h.v4, v6 := hk _ _ h.v6, pid := hk _ _ h.pid, ptok := hk _ _ h.ptok }
theorem Qp.below {w w' : World} {Q : QP} {S : SP} (h : Qp w Q S) (hb : Below w.heap.size w w') : Qp w' Q S := h.keep fun _ _ k => k.below hb
theorem take_d {P : Program} {md : Region.Mode} {ops : Array Oper} {Q : Exit → Act → World → Prop} {S : World → Prop} {i : Nat} (d : Tmp) (v : Value) {oi : Oper} {fuel : Nat} {listed : Array Bool} {a : Act} {w : World} (hi : ops[i]? = some oi) (hd : oi.dst = some d)
    (hs : Region.noSelect ops = true) (hf : Region.free md ops listed i = true) (hr : (Region.ready md ops listed).contains i = true)
    (hQ : ∀ c a w, Q (.panic c) (a.put oi.dst v) w → Q (.panic c) a w) (hy : YieldsIf P ops S oi v a) (hS : S w)
    (h : wpAnyH P md ops Q S fuel (listed.setIfInBounds i true) (Act.mk (a.tmps.setIfInBounds d v) a.defers) w) : wpAnyH P md ops Q S (fuel + 1) listed a w :=
  wpAnyH_take hi hs hf hr hQ hy hS (by rw [hd]; exact h)
theorem store_n {P : Program} {op : Oper} {a : Act} {w : World} {K : Act → World → Prop} {Q : Exit → Act → World → Prop} (hd : op.dst = none) (ty : TypeId) (x y : Operand) (ho : op.op = .store ty x y)
    (b o : Nat) (cells : Array Value) (hx : a.eval x = .pointer (some ⟨b, o, none⟩)) (hy : a.eval y = .agg cells)
    (ht : w.there b o cells.size) (hi : (P.info? ty).map (·.size) = some cells.size) (h1 : cells.all (·.oneCell') = true)
    (h : K a (w.setCells b o cells.toList)) : op.wp P a w K Q := wp_store_mid ty x y ho b o cells hx hy ht hi h1 (by rw [hd]; exact h)
theorem ad4_pt {a4 : Addr} {A : PA} {v : List Int} {p : Int} (h : Ad4 a4 A v p) : A.pt = p := by
  rcases h with ⟨_, rfl, rfl⟩ | ⟨_, _, _, _, _, _, _, rfl⟩ <;> rfl
theorem ad6_pt {a6 : Addr} {A : PA} {v : List Int} {p : Int} (h : Ad6 a6 A v p) : A.pt = p := by
  rcases h with ⟨_, rfl, rfl⟩ | ⟨_, _, _, _, _, _, _, _, _, _, _, _, _, _, _, _, _, _, _, rfl⟩ <;> rfl
/-- A whole block of cells is set. -/
theorem setCells_all {w : World} {g : Nat} {t : TypeId} {rc vs : Array Value} (h : w.heap[g]? = some (.cells rc t (0, 0))) (hs : rc.size = vs.size) : (w.setCells g 0 vs.toList).heap[g]? = some (.cells vs t (0, 0)) ∧ (w.setCells g 0 vs.toList).rangeAt g 0 vs.toList := by
  have hth : w.there g 0 vs.toList.length := fun j hj => by
    have hj' : j < vs.size := by simpa using hj
    refine ⟨?_, cell_free _ h⟩
    rw [Nat.zero_add, cell_of_row _ _ j _ _ (0, 0) h, Array.getElem?_eq_getElem (by omega)]
    rfl
  obtain ⟨rc', h1, h2⟩ := setCells_row (w := w) vs.toList 0 h
  have hr := World.rangeAt_setCells_same w g 0 vs.toList hth
  suffices e : rc' = vs from ⟨by rw [h2, e], hr⟩
  apply Array.ext_getElem?
  intro i
  by_cases hi : i < vs.size
  · have h3 : vs.toList[i]? = some (vs[i]'hi) := by rw [Array.getElem?_toList, Array.getElem?_eq_getElem]
    have h4 := hr i _ h3
    rw [Nat.zero_add, cell_of_row _ _ i _ _ (0, 0) h2] at h4
    rw [h4, Array.getElem?_eq_getElem]
  · rw [Array.getElem?_eq_none (by omega), Array.getElem?_eq_none (by omega)]
theorem there_row {w : World} {g : Nat} {t : TypeId} {rc : Array Value} (h : w.heap[g]? = some (.cells rc t (0, 0))) {n : Nat} (hn : n ≤ rc.size) : w.there g 0 n := fun j hj => by
  refine ⟨?_, cell_free _ h⟩
  rw [Nat.zero_add, cell_of_row _ _ j _ _ (0, 0) h, Array.getElem?_eq_getElem (by omega)]
  rfl
theorem range_row {w : World} {g : Nat} {t : TypeId} {rc : Array Value} (h : w.heap[g]? = some (.cells rc t (0, 0))) : w.rangeAt g 0 rc.toList := fun j v hv => by
  rw [Nat.zero_add, cell_of_row _ _ j _ _ (0, 0) h]
  simpa using hv
/-- Bytes elsewhere are kept. -/
theorem rt_setCells {w : World} {g : Nat} {ty : TypeId} {rc : Array Value} (h : w.heap[g]? = some (.cells rc ty (0, 0))) (hz : ∀ (i : Nat) (x : Int), rc[i]? ≠ some (.int .u8 x)) (o : Nat) (vs : List Value) {t : Tri} {d : List Int} (ht : Rt w t d) : Rt (w.setCells g o vs) t d := by
  refine ⟨⟨ht.1.1, fun hl => ?_⟩, ht.2⟩
  obtain ⟨b, q, e, hc⟩ := ht.1.2 hl
  have hb : b ≠ g := by
    intro e
    subst e
    have := hc 0 hl
    rw [cell_of_row _ _ _ _ _ (0, 0) h] at this
    exact hz _ _ this
  refine ⟨b, q, e, fun i hi => ?_⟩
  have h1 := hc i hi
  have h2 : b < w.heap.size := World.block_lt_of_cell? _ _ h1
  have h3 : (w.setCells g o vs).heap[b]? = w.heap[b]? := by
    rw [setCells_off hb vs o (Array.getElem?_eq_getElem h2), Array.getElem?_eq_getElem h2]
  rw [World.cell?_of_block h3]
  exact h1
noncomputable def rp4 : Code := cl (cr (cr (cr (Tryd.f21.body.getD .skip))))

end Go.Proofs.YtdjdcpcomhjnjaaDoor

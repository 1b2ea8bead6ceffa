/- unmarshalTransportParams: its memory, its frame, its pieces. Conditions: none. -/
import Derived.Test.YtdjdcpcomhjnjaaDoorNipB
import Derived.Test.YtdjdcpcomhjnjaaDoorPq
import Derived.Test.YtdjdcpcomhjnjaaDoorC8b
import Derived.Deep.MidRow
import Derived.Deep.CutBlock
import Derived.Deep.RegionLaw
import Derived.Deep.CutRange
namespace Go.Proofs.YtdjdcpcomhjnjaaDoor
open Go.RowKit
set_option linter.unusedVariables false
set_option linter.unusedSimpArgs false

/-- A slice's address, length, capacity. -/
abbrev Tri := Option Addr × Nat × Nat
def triV (t : Tri) : Value := .slice t.1 t.2.1 t.2.2
/-- A slice of bytes that reads as d. -/
def Rt (w : World) (t : Tri) (d : List Int) : Prop := Rd w t.1 d ∧ d.length = t.2.1 ∧ t.2.1 ≤ t.2.2 ∧ t.2.2 ≤ 9223372036854775807 ∧ (t.1 = none → t.2.2 = 0)
theorem Rt.below {w w' : World} {t : Tri} {d : List Int} (h : Rt w t d) (hb : Below w.heap.size w w') : Rt w' t d := ⟨h.1.below hb, h.2⟩
theorem Rt.drewN {w : World} {t : Tri} {d : List Int} (h : Rt w t d) (n : Nat) : Rt (w.drewN n) t d := h
theorem Rt.nil_ (w : World) : Rt w (none, 0, 0) [] := ⟨Rd.nil _ _, rfl, Nat.le_refl _, by simp, fun _ => rfl⟩

/-- An address and its port, as four cells. -/
structure PA where
  hi : Int
  lo : Int
  z : Option Addr
  pt : Int
def pa0 : PA := ⟨0, 0, none, 0⟩
def PA.l (A : PA) : List Value := [.int .u64 A.hi, .int .u64 A.lo, .pointer A.z, .int .u16 A.pt]
/-- The cells of the program's parameters. -/
structure TP where
  od : Tri
  idle : Int
  rt : Tri
  udp : Int
  data : Int
  bl : Int
  br : Int
  un : Int
  sb : Int
  su : Int
  ae : Int
  ad : Int
  nomig : Bool
  v4 : PA
  v6 : PA
  pid : Tri
  ptok : Tri
  act : Int
  is : Tri
  rs : Tri
def TP.cells (T : TP) : Array Value := #[triV T.od, .int .i64 T.idle, triV T.rt, .int .i64 T.udp, .int .i64 T.data, .int .i64 T.bl, .int .i64 T.br, .int .i64 T.un, .int .i64 T.sb, .int .i64 T.su, .int .i8 T.ae, .int .i64 T.ad, .bool T.nomig, .int .u64 T.v4.hi, .int .u64 T.v4.lo, .pointer T.v4.z, .int .u16 T.v4.pt, .int .u64 T.v6.hi, .int .u64 T.v6.lo, .pointer T.v6.z, .int .u16 T.v6.pt, triV T.pid, triV T.ptok, .int .i64 T.act, triV T.is, triV T.rs]
theorem TP.size (T : TP) : T.cells.size = 26 := rfl
theorem TP.no_u8 (T : TP) (i : Nat) (x : Int) : T.cells[i]? ≠ some (.int .u8 x) := by
  intro h
  have := Array.mem_of_getElem? h
  simp [TP.cells, triV] at this
theorem size_tp : (Tryd.prog.info? 76).map (·.size) = some 26 := by kernel_rfl
theorem size_ap : (Tryd.prog.info? 74).map (·.size) = some 4 := by kernel_rfl

def bytes4 (x0 x1 x2 x3 : Int) : Prop := (0 ≤ x0 ∧ x0 ≤ 255) ∧ (0 ≤ x1 ∧ x1 ≤ 255) ∧ (0 ≤ x2 ∧ x2 ≤ 255) ∧ (0 ≤ x3 ∧ x3 ≤ 255)
def num4 (x0 x1 x2 x3 : Int) : Int := ((x0 * 256 + x1) * 256 + x2) * 256 + x3
def num8 (x0 x1 x2 x3 x4 x5 x6 x7 : Int) : Int := ((((((x0 * 256 + x1) * 256 + x2) * 256 + x3) * 256 + x4) * 256 + x5) * 256 + x6) * 256 + x7
/-- An address of four bytes, or none. -/
def Ad4 (a4 : Addr) (A : PA) (v : List Int) (p : Int) : Prop :=
  (v = [] ∧ A = pa0 ∧ p = 0) ∨ ∃ x0 x1 x2 x3, bytes4 x0 x1 x2 x3 ∧ (0 ≤ p ∧ p ≤ 65535) ∧ v = [x0, x1, x2, x3] ∧ A = ⟨0, 281470681743360 + (((x0 * 256 + x1) * 256 + x2) * 256 + x3), some a4, p⟩
/-- .. of sixteen. -/
def Ad6 (a6 : Addr) (A : PA) (v : List Int) (p : Int) : Prop :=
  (v = [] ∧ A = pa0 ∧ p = 0) ∨ ∃ x0 x1 x2 x3 x4 x5 x6 x7 x8 x9 x10 x11 x12 x13 x14 x15, (bytes4 x0 x1 x2 x3 ∧ bytes4 x4 x5 x6 x7 ∧ bytes4 x8 x9 x10 x11 ∧ bytes4 x12 x13 x14 x15) ∧ (0 ≤ p ∧ p ≤ 65535) ∧ v = [x0, x1, x2, x3, x4, x5, x6, x7, x8, x9, x10, x11, x12, x13, x14, x15] ∧ A = ⟨num8 x0 x1 x2 x3 x4 x5 x6 x7, num8 x8 x9 x10 x11 x12 x13 x14 x15, some a6, p⟩

/-- The cells tell the parameters. -/
structure Tp (w : World) (a4 a6 : Addr) (T : TP) (S : SP) : Prop where
  od : Rt w T.od S.od
  rt : Rt w T.rt S.rt
  is : Rt w T.is S.is
  rs : Rt w T.rs S.rs
  pid : Rt w T.pid S.pid
  ptok : Rt w T.ptok S.ptok
  idle : T.idle = S.idle * 1000000
  ad : T.ad = S.ad * 1000000
  udp : T.udp = S.udp
  data : T.data = S.data
  bl : T.bl = S.bl
  br : T.br = S.br
  un : T.un = S.un
  sb : T.sb = S.sb
  su : T.su = S.su
  ae : T.ae = S.ae
  act : T.act = S.act
  nomig : T.nomig = S.nomig
  v4 : Ad4 a4 T.v4 S.v4 S.p4
  v6 : Ad6 a6 T.v6 S.v6 S.p6
theorem Tp.keep {w w' : World} {a4 a6 : Addr} {T : TP} {S : SP} (h : Tp w a4 a6 T S) (hk : ∀ t d, Rt w t d → Rt w' t d) : Tp w' a4 a6 T S :=
  { h with od := hk _ _ h.od, rt := hk _ _ h.rt, is := hk _ _ h.is, rs := hk _ _ h.rs, pid := hk _ _ h.pid, ptok := hk _ _ h.ptok }
theorem Tp.below {w w' : World} {a4 a6 : Addr} {T : TP} {S : SP} (h : Tp w a4 a6 T S) (hb : Below w.heap.size w w') : Tp w' a4 a6 T S := h.keep fun _ _ k => k.below hb

/-- The call's two blocks. -/
structure Ub (w0 : World) (R P : Nat) (w : World) (T : TP) : Prop where
  bel : Below w0.heap.size w0 w
  hp : w.heap[P]? = some (.cells T.cells 76 (0, 0))
  hr : ∃ Z : TP, w.heap[R]? = some (.cells Z.cells 76 (0, 0))
  lp : w0.heap.size ≤ P
  lr : w0.heap.size ≤ R
  ne : P ≠ R
section
variable {w0 w w' : World} {R P : Nat} {T : TP}
theorem Ub.cell (h : Ub w0 R P w T) (i : Nat) (v : Value) (hv : T.cells[i]? = some v) : w.cell? ⟨P, i, none⟩ = some v := by
  rw [cell_of_row _ _ i _ _ (0, 0) h.hp]; exact hv
theorem Ub.free (h : Ub w0 R P w T) (i : Nat) : w.frozen? ⟨P, i, none⟩ = false := cell_free i h.hp
theorem Ub.lt (h : Ub w0 R P w T) : P < w.heap.size := cell_in h.hp
theorem Ub.ltr (h : Ub w0 R P w T) : R < w.heap.size := by obtain ⟨Z, hr⟩ := h.hr; exact cell_in hr
theorem Ub.set (h : Ub w0 R P w T) {T' : TP} (i : Nat) (v : Value) (hv : T.cells.setIfInBounds i v = T'.cells) : Ub w0 R P (w.setCell ⟨P, i, none⟩ v) T' := by
  refine ⟨below_cell h.bel h.bel.size _ _ _ h.lp, cell_at i v h.hp hv, ?_, h.lp, h.lr, h.ne⟩
  obtain ⟨Z, h2⟩ := h.hr
  exact ⟨Z, cell_off P i v h2 h.ne.symm⟩
theorem Ub.below (h : Ub w0 R P w T) (hb : Below w.heap.size w w') : Ub w0 R P w' T := by
  refine ⟨h.bel.trans (hb.mono h.bel.size), (hb.block _ h.lt).trans h.hp, ?_, h.lp, h.lr, h.ne⟩
  obtain ⟨Z, h2⟩ := h.hr
  exact ⟨Z, (hb.block _ (cell_in h2)).trans h2⟩
theorem Ub.drewN (h : Ub w0 R P w T) (n : Nat) : Ub w0 R P (w.drewN n) T := h.below (below_drewN (Below.refl _ _) n)
/-- A slice of bytes lies not in the block. -/
theorem Ub.rt (h : Ub w0 R P w T) (i : Nat) (v : Value) {t : Tri} {d : List Int} (ht : Rt w t d) : Rt (w.setCell ⟨P, i, none⟩ v) t d :=
  ⟨ht.1.grown (cgrown w P i v) fun hl ad ha e => by
    obtain ⟨b, o, e', hc⟩ := ht.1.2 hl
    rw [ha] at e'
    obtain rfl : ad = ⟨b, o, none⟩ := by simpa using e'
    obtain rfl : P = b := by simpa using e
    have := hc 0 hl
    rw [cell_of_row _ _ _ _ _ (0, 0) h.hp] at this
    exact T.no_u8 _ _ this, ht.2⟩
theorem Ub.tp (h : Ub w0 R P w T) (i : Nat) (v : Value) {a4 a6 : Addr} {T' : TP} {S : SP} (ht : Tp w a4 a6 T' S) : Tp (w.setCell ⟨P, i, none⟩ v) a4 a6 T' S := ht.keep fun _ _ k => h.rt i v k
theorem Ub.gl (h : Ub w0 R P w T) {a4 a6 : Addr} (hg : Gl w0 a4 a6) : Gl w a4 a6 := hg.below h.bel (Nat.le_refl _)
theorem Ub.range (h : Ub w0 R P w T) : w.rangeAt P 0 T.cells.toList := by
  intro j v hv
  rw [Nat.zero_add, cell_of_row _ _ j _ _ (0, 0) h.hp]
  simpa using hv
theorem Ub.thereR (h : Ub w0 R P w T) : w.there R 0 26 := by
  obtain ⟨Z, h2⟩ := h.hr
  intro j hj
  refine ⟨?_, cell_free _ h2⟩
  rw [Nat.zero_add, cell_of_row _ _ j _ _ (0, 0) h2, Array.getElem?_eq_getElem (by rw [Z.size]; omega)]
  rfl
end
theorem setCells_row {w : World} {g : Nat} {t : TypeId} : ∀ (vs : List Value) (o : Nat) {w : World} {rc : Array Value}, w.heap[g]? = some (.cells rc t (0, 0)) → ∃ rc', rc'.size = rc.size ∧ (w.setCells g o vs).heap[g]? = some (.cells rc' t (0, 0))
  | [], o, w, rc, h => ⟨rc, rfl, h⟩
  | v :: vs, o, w, rc, h => by
    obtain ⟨rc', h1, h2⟩ := setCells_row (w := w) vs (o + 1) (cell_at o v h rfl)
    exact ⟨rc', by rw [h1]; simp, h2⟩
theorem below_setCells {w0 : World} {B g : Nat} (hg : B ≤ g) (hB : B ≤ w0.heap.size) : ∀ (vs : List Value) (o : Nat) {w : World}, Below B w0 w → Below B w0 (w.setCells g o vs)
  | [], o, w, h => h
  | v :: vs, o, w, h => below_setCells hg hB vs (o + 1) (below_cell h (Nat.le_trans hB h.size) _ _ _ hg)

/-- A whole block is set. -/
theorem setCells_whole {w : World} {g : Nat} {t : TypeId} {rc : Array Value} (T : TP) (h : w.heap[g]? = some (.cells rc t (0, 0))) (hs : rc.size = 26) : (w.setCells g 0 T.cells.toList).heap[g]? = some (.cells T.cells t (0, 0)) ∧ (w.setCells g 0 T.cells.toList).rangeAt g 0 T.cells.toList := by
  have hth : w.there g 0 T.cells.toList.length := fun j hj => by
    have hj' : j < 26 := hj
    refine ⟨?_, cell_free _ h⟩
    rw [Nat.zero_add, cell_of_row _ _ j _ _ (0, 0) h, Array.getElem?_eq_getElem (by omega)]
    rfl
  obtain ⟨rc', h1, h2⟩ := setCells_row (w := w) T.cells.toList 0 h
  have hr := World.rangeAt_setCells_same w g 0 T.cells.toList hth
  suffices e : rc' = T.cells from ⟨by rw [h2, e], hr⟩
  apply Array.ext_getElem?
  intro i
  by_cases hi : i < 26
  · have h3 : T.cells.toList[i]? = some (T.cells[i]'(by rw [T.size]; exact hi)) := by rw [Array.getElem?_toList, Array.getElem?_eq_getElem]
    have h4 := hr i _ h3
    rw [Nat.zero_add, cell_of_row _ _ i _ _ (0, 0) h2] at h4
    rw [h4, Array.getElem?_eq_getElem]
  · rw [Array.getElem?_eq_none (by omega), Array.getElem?_eq_none (by rw [T.size]; omega)]

/-- The frame between the pieces. -/
structure Fr (a : Act) (R P : Nat) (x0 x6 x7 : Value) : Prop where
  sz : a.tmps.size = 274
  df : a.defers = []
  t0 : a.tmps[0]? = some x0
  t2 : a.tmps[2]? = some (.pointer (some ⟨R, 0, none⟩))
  t3 : a.tmps[3]? = some .nilIface
  t4 : a.tmps[4]? = some (.pointer (some ⟨P, 0, none⟩))
  t6 : a.tmps[6]? = some x6
  t7 : a.tmps[7]? = some x7
/-- .. at the switch. -/
structure Fs (a : Act) (R P : Nat) (x0 x6 x7 x42 : Value) : Prop where
  fr : Fr a R P x0 x6 x7
  t42 : a.tmps[42]? = some x42
/-- .. where an error is returned. -/
structure Er (a : Act) (w0 : World) (R : Nat) (w : World) : Prop where
  df : a.defers = []
  t2 : a.tmps[2]? = some (.pointer (some ⟨R, 0, none⟩))
  t3 : ∃ x, a.tmps[3]? = some (.iface 92 x)
  hr : ∃ Z : TP, w.heap[R]? = some (.cells Z.cells 76 (0, 0))
  bel : Below w0.heap.size w0 w
theorem Ub.err {w0 w : World} {R P : Nat} {T : TP} (h : Ub w0 R P w T) (T' : TP) : (∃ Z : TP, (w.setCells R 0 T'.cells.toList).heap[R]? = some (.cells Z.cells 76 (0, 0))) ∧ Below w0.heap.size w0 (w.setCells R 0 T'.cells.toList) := by
  obtain ⟨Z, h2⟩ := h.hr
  exact ⟨⟨T', (setCells_whole T' h2 Z.size).1⟩, below_setCells h.lr (Nat.le_refl _) _ _ h.bel⟩

def cl : Code → Code
  | .seq a _ => a
  | .cond _ a _ => a
  | .block _ c => c
  | .loop c => c
  | .scope c => c
  | c => c
def cr : Code → Code
  | .seq _ b => b
  | .cond _ _ b => b
  | c => c

def lit274 (f : Nat → Value) : Array Value := #[f 0, f 1, f 2, f 3, f 4, f 5, f 6, f 7, f 8, f 9, f 10, f 11, f 12, f 13, f 14, f 15, f 16, f 17, f 18, f 19, f 20, f 21, f 22, f 23, f 24, f 25, f 26, f 27, f 28, f 29, f 30, f 31, f 32, f 33, f 34, f 35, f 36, f 37, f 38, f 39, f 40, f 41, f 42, f 43, f 44, f 45, f 46, f 47, f 48, f 49, f 50, f 51, f 52, f 53, f 54, f 55, f 56, f 57, f 58, f 59, f 60, f 61, f 62, f 63, f 64, f 65, f 66, f 67, f 68, f 69, f 70, f 71, f 72, f 73, f 74, f 75, f 76, f 77, f 78, f 79, f 80, f 81, f 82, f 83, f 84, f 85, f 86, f 87, f 88, f 89, f 90, f 91, f 92, f 93, f 94, f 95, f 96, f 97, f 98, f 99, f 100, f 101, f 102, f 103, f 104, f 105, f 106, f 107, f 108, f 109, f 110, f 111, f 112, f 113, f 114, f 115, f 116, f 117, f 118, f 119, f 120, f 121, f 122, f 123, f 124, f 125, f 126, f 127, f 128, f 129, f 130, f 131, f 132, f 133, f 134, f 135, f 136, f 137, f 138, f 139, f 140, f 141, f 142, f 143, f 144, f 145, f 146, f 147, f 148, f 149, f 150, f 151, f 152, f 153, f 154, f 155, f 156, f 157, f 158, f 159, f 160, f 161, f 162, f 163, f 164, f 165, f 166, f 167, f 168, f 169, f 170, f 171, f 172, f 173, f 174, f 175, f 176, f 177, f 178, f 179, f 180, f 181, f 182, f 183, f 184, f 185, f 186, f 187, f 188, f 189, f 190, f 191, f 192, f 193, f 194, f 195, f 196, f 197, f 198, f 199, f 200, f 201, f 202, f 203, f 204, f 205, f 206, f 207, f 208, f 209, f 210, f 211, f 212, f 213, f 214, f 215, f 216, f 217, f 218, f 219, f 220, f 221, f 222, f 223, f 224, f 225, f 226, f 227, f 228, f 229, f 230, f 231, f 232, f 233, f 234, f 235, f 236, f 237, f 238, f 239, f 240, f 241, f 242, f 243, f 244, f 245, f 246, f 247, f 248, f 249, f 250, f 251, f 252, f 253, f 254, f 255, f 256, f 257, f 258, f 259, f 260, f 261, f 262, f 263, f 264, f 265, f 266, f 267, f 268, f 269, f 270, f 271, f 272, f 273]
theorem lit274_eq (f : Nat → Value) : lit274 f = ((List.range 274).map f).toArray := by kernel_rfl
theorem lit_of (a : Act) (hs : a.tmps.size = 274) (hd : a.defers = []) : ∃ f : Nat → Value, (∀ i, i < 274 → a.tmps[i]? = some (f i)) ∧ a = ⟨lit274 f, []⟩ := by
  obtain ⟨t, d⟩ := a
  simp only at hs hd
  subst hd
  refine ⟨fun i => t.getD i undef, fun i hi => ?_, ?_⟩
  · simp only [Array.getD_eq_getD_getElem?]
    rw [Array.getElem?_eq_getElem (by omega)]
    rfl
  · rw [lit274_eq]
    congr 1
    apply Array.ext
    · simp [hs]
    · intro i h1 h2
      simp [Array.getD_eq_getD_getElem?, h1]

set_option maxRecDepth 100000 in
theorem Fr.lit {a : Act} {R P : Nat} {x0 x6 x7 : Value} (h : Fr a R P x0 x6 x7) : ∃ f : Nat → Value, a = ⟨#[x0, f 1, .pointer (some ⟨R, 0, none⟩), .nilIface, .pointer (some ⟨P, 0, none⟩), f 5, x6, x7, f 8, f 9, f 10, f 11, f 12, f 13, f 14, f 15, f 16, f 17, f 18, f 19, f 20, f 21, f 22, f 23, f 24, f 25, f 26, f 27, f 28, f 29, f 30, f 31, f 32, f 33, f 34, f 35, f 36, f 37, f 38, f 39, f 40, f 41, f 42, f 43, f 44, f 45, f 46, f 47, f 48, f 49, f 50, f 51, f 52, f 53, f 54, f 55, f 56, f 57, f 58, f 59, f 60, f 61, f 62, f 63, f 64, f 65, f 66, f 67, f 68, f 69, f 70, f 71, f 72, f 73, f 74, f 75, f 76, f 77, f 78, f 79, f 80, f 81, f 82, f 83, f 84, f 85, f 86, f 87, f 88, f 89, f 90, f 91, f 92, f 93, f 94, f 95, f 96, f 97, f 98, f 99, f 100, f 101, f 102, f 103, f 104, f 105, f 106, f 107, f 108, f 109, f 110, f 111, f 112, f 113, f 114, f 115, f 116, f 117, f 118, f 119, f 120, f 121, f 122, f 123, f 124, f 125, f 126, f 127, f 128, f 129, f 130, f 131, f 132, f 133, f 134, f 135, f 136, f 137, f 138, f 139, f 140, f 141, f 142, f 143, f 144, f 145, f 146, f 147, f 148, f 149, f 150, f 151, f 152, f 153, f 154, f 155, f 156, f 157, f 158, f 159, f 160, f 161, f 162, f 163, f 164, f 165, f 166, f 167, f 168, f 169, f 170, f 171, f 172, f 173, f 174, f 175, f 176, f 177, f 178, f 179, f 180, f 181, f 182, f 183, f 184, f 185, f 186, f 187, f 188, f 189, f 190, f 191, f 192, f 193, f 194, f 195, f 196, f 197, f 198, f 199, f 200, f 201, f 202, f 203, f 204, f 205, f 206, f 207, f 208, f 209, f 210, f 211, f 212, f 213, f 214, f 215, f 216, f 217, f 218, f 219, f 220, f 221, f 222, f 223, f 224, f 225, f 226, f 227, f 228, f 229, f 230, f 231, f 232, f 233, f 234, f 235, f 236, f 237, f 238, f 239, f 240, f 241, f 242, f 243, f 244, f 245, f 246, f 247, f 248, f 249, f 250, f 251, f 252, f 253, f 254, f 255, f 256, f 257, f 258, f 259, f 260, f 261, f 262, f 263, f 264, f 265, f 266, f 267, f 268, f 269, f 270, f 271, f 272, f 273], []⟩ := by
  obtain ⟨f, hf, e⟩ := lit_of a h.sz h.df
  have e0 := (hf 0 (by decide)).symm.trans h.t0
  have e2 := (hf 2 (by decide)).symm.trans h.t2
  have e3 := (hf 3 (by decide)).symm.trans h.t3
  have e4 := (hf 4 (by decide)).symm.trans h.t4
  have e6 := (hf 6 (by decide)).symm.trans h.t6
  have e7 := (hf 7 (by decide)).symm.trans h.t7
  simp only [Option.some.injEq] at e0 e2 e3 e4 e6 e7
  refine ⟨f, ?_⟩
  rw [e, lit274, e0, e2, e3, e4, e6, e7]
set_option maxRecDepth 100000 in
theorem Fs.lit {a : Act} {R P : Nat} {x0 x6 x7 x42 : Value} (h : Fs a R P x0 x6 x7 x42) : ∃ f : Nat → Value, a = ⟨#[x0, f 1, .pointer (some ⟨R, 0, none⟩), .nilIface, .pointer (some ⟨P, 0, none⟩), f 5, x6, x7, f 8, f 9, f 10, f 11, f 12, f 13, f 14, f 15, f 16, f 17, f 18, f 19, f 20, f 21, f 22, f 23, f 24, f 25, f 26, f 27, f 28, f 29, f 30, f 31, f 32, f 33, f 34, f 35, f 36, f 37, f 38, f 39, f 40, f 41, x42, f 43, f 44, f 45, f 46, f 47, f 48, f 49, f 50, f 51, f 52, f 53, f 54, f 55, f 56, f 57, f 58, f 59, f 60, f 61, f 62, f 63, f 64, f 65, f 66, f 67, f 68, f 69, f 70, f 71, f 72, f 73, f 74, f 75, f 76, f 77, f 78, f 79, f 80, f 81, f 82, f 83, f 84, f 85, f 86, f 87, f 88, f 89, f 90, f 91, f 92, f 93, f 94, f 95, f 96, f 97, f 98, f 99, f 100, f 101, f 102, f 103, f 104, f 105, f 106, f 107, f 108, f 109, f 110, f 111, f 112, f 113, f 114, f 115, f 116, f 117, f 118, f 119, f 120, f 121, f 122, f 123, f 124, f 125, f 126, f 127, f 128, f 129, f 130, f 131, f 132, f 133, f 134, f 135, f 136, f 137, f 138, f 139, f 140, f 141, f 142, f 143, f 144, f 145, f 146, f 147, f 148, f 149, f 150, f 151, f 152, f 153, f 154, f 155, f 156, f 157, f 158, f 159, f 160, f 161, f 162, f 163, f 164, f 165, f 166, f 167, f 168, f 169, f 170, f 171, f 172, f 173, f 174, f 175, f 176, f 177, f 178, f 179, f 180, f 181, f 182, f 183, f 184, f 185, f 186, f 187, f 188, f 189, f 190, f 191, f 192, f 193, f 194, f 195, f 196, f 197, f 198, f 199, f 200, f 201, f 202, f 203, f 204, f 205, f 206, f 207, f 208, f 209, f 210, f 211, f 212, f 213, f 214, f 215, f 216, f 217, f 218, f 219, f 220, f 221, f 222, f 223, f 224, f 225, f 226, f 227, f 228, f 229, f 230, f 231, f 232, f 233, f 234, f 235, f 236, f 237, f 238, f 239, f 240, f 241, f 242, f 243, f 244, f 245, f 246, f 247, f 248, f 249, f 250, f 251, f 252, f 253, f 254, f 255, f 256, f 257, f 258, f 259, f 260, f 261, f 262, f 263, f 264, f 265, f 266, f 267, f 268, f 269, f 270, f 271, f 272, f 273], []⟩ := by
  obtain ⟨f, hf, e⟩ := lit_of a h.fr.sz h.fr.df
  have e0 := (hf 0 (by decide)).symm.trans h.fr.t0
  have e2 := (hf 2 (by decide)).symm.trans h.fr.t2
  have e3 := (hf 3 (by decide)).symm.trans h.fr.t3
  have e4 := (hf 4 (by decide)).symm.trans h.fr.t4
  have e6 := (hf 6 (by decide)).symm.trans h.fr.t6
  have e7 := (hf 7 (by decide)).symm.trans h.fr.t7
  have e42 := (hf 42 (by decide)).symm.trans h.t42
  simp only [Option.some.injEq] at e0 e2 e3 e4 e6 e7 e42
  refine ⟨f, ?_⟩
  rw [e, lit274, e0, e2, e3, e4, e6, e7, e42]

/-- The loop's body; the switch. -/
noncomputable def umLoop : Code := cl (cl (cr (cr (Tryd.f29.body.getD .skip)) |> cl))
noncomputable def umSw : Code := cl (cr (cl (cr (cr (cr (cr (cr (cr (cr (cl (cr umLoop)))))))))))

/-- The number that bytes begin with, how many bytes it has (-1: none). -/
def nk (v : List Int) : Int := match rv v with
  | none => -1
  | some (_, k) => (k : Nat)
theorem alone_nk {v : List Int} : alone v ↔ nk v = (v.length : Nat) := by
  unfold alone nk
  cases h : rv v with
  | none =>
    constructor
    · rintro ⟨x, e⟩; cases e
    · intro e; simp only at e; omega
  | some p =>
    obtain ⟨x, k⟩ := p
    constructor
    · rintro ⟨y, e⟩
      obtain ⟨_, rfl⟩ : x = y ∧ k = v.length := by simpa using e
      rfl
    · intro e
      exact ⟨x, by rw [show k = v.length from by simp only at e; omega]⟩
theorem nk_bd {v : List Int} (hb : Bs v) : -1 ≤ nk v ∧ nk v ≤ (v.length : Nat) := by
  unfold nk
  cases h : rv v with
  | none => simp only; omega
  | some p =>
    obtain ⟨x, k⟩ := p
    have := rv_bd hb h
    simp only
    omega
theorem num_bd {v : List Int} (hb : Bs v) : 0 ≤ num v ∧ num v < 4611686018427387904 := by
  unfold num
  cases h : rv v with
  | none => simp only; omega
  | some p =>
    obtain ⟨x, k⟩ := p
    have := rv_bd hb h
    simp only
    omega
theorem RvEnd.nk {k : IntKind} {v : List Int} {e : Ending} (h : RvEnd k v e) : e = .returned (.tuple #[.int k (num v), .int .i64 (nk v)]) := by
  rcases h with ⟨h, rfl⟩ | ⟨x, n, h, rfl⟩
  · rw [num_none h, Go.Proofs.YtdjdcpcomhjnjaaDoor.nk, h]
  · rw [num_of h, Go.Proofs.YtdjdcpcomhjnjaaDoor.nk, h]

end Go.Proofs.YtdjdcpcomhjnjaaDoor

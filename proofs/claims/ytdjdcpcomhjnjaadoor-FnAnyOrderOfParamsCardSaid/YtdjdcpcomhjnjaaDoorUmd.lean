/- unmarshalTransportParams: the switch, a preferred address: the regions that draw. Conditions: none. -/
import Derived.Test.YtdjdcpcomhjnjaaDoorUma
import Derived.Laws.Cover3
import Derived.Deep.RegionHeld3
namespace Go.Proofs.YtdjdcpcomhjnjaaDoor
open Go.RowKit
set_option linter.unusedVariables false
set_option linter.unusedSimpArgs false


/-- Either it goes on, or it returns. -/
def Qr (E : Act → World → Prop) : Exit → Act → World → Prop
  | .ret, a, w => E a w
  | _, _, _ => False
/-- The branch of a preferred address; its two regions that draw. -/
noncomputable def um13 : Code := cl (cr (cr (cr (cr (cr (cr (cr (cr (cr (cr (cr (cr (cr (cr (cr (cr (cr (cr (cr (cr (cr (cr (cr (cr (cr (cr (cr umSw)))))))))))))))))))))))))))
noncomputable def um65 : Code := cl (cr um13)
noncomputable def um67 : Code := cl (cr (cr (cr um13)))
theorem Gl.of_heap {w w' : World} {a4 a6 : Addr} (h : Gl w a4 a6) (e : w'.heap = w.heap) : Gl w' a4 a6 :=
  ⟨(World.cell?_of_block (by rw [e])).trans h.z0, (World.cell?_of_block (by rw [e])).trans h.z4, (World.cell?_of_block (by rw [e])).trans h.z6, h.ne, by rw [e]; exact h.h4, by rw [e]; exact h.h6, by rw [e]; exact h.sz⟩


/-- Four cells of the block are set at once. -/
theorem Ub.set_v4 {w0 w : World} {R P : Nat} {T : TP} (h : Ub w0 R P w T) (A : PA) : Ub w0 R P (w.setCells P 13 A.l) { T with v4 := A } ∧ ∀ t d, Rt w t d → Rt (w.setCells P 13 A.l) t d := by
  have h1 := h.set (T' := { T with v4 := ⟨A.hi, T.v4.lo, T.v4.z, T.v4.pt⟩ }) 13 (.int .u64 A.hi) rfl
  have h2 := h1.set (T' := { T with v4 := ⟨A.hi, A.lo, T.v4.z, T.v4.pt⟩ }) 14 (.int .u64 A.lo) rfl
  have h3 := h2.set (T' := { T with v4 := ⟨A.hi, A.lo, A.z, T.v4.pt⟩ }) 15 (.pointer A.z) rfl
  have h4 := h3.set (T' := { T with v4 := A }) 16 (.int .u16 A.pt) rfl
  exact ⟨h4, fun t d ht => h3.rt _ _ (h2.rt _ _ (h1.rt _ _ (h.rt _ _ ht)))⟩

set_option maxRecDepth 1000000 in
set_option maxHeartbeats 8000000 in
theorem um65_wp {w0 w : World} {R P : Nat} {T : TP} {a4 a6 : Addr} {x0 x6 : Value} (b o n c : Nat) (y0 y1 y2 y3 y4 y5 : Int) (pt : Int) (a : Act) (hf : Fr a R P x0 x6 (.slice (some ⟨b, o, none⟩) n c)) (hu : Ub w0 R P w T) (hg : Gl w0 a4 a6) (hn : 6 < n) (hnc : n ≤ c) (hc2 : c ≤ 9223372036854775807) (hpt : y4 * 256 + y5 = pt) (hy0 : 0 ≤ y0 ∧ y0 ≤ 255) (hy1 : 0 ≤ y1 ∧ y1 ≤ 255) (hy2 : 0 ≤ y2 ∧ y2 ≤ 255) (hy3 : 0 ≤ y3 ∧ y3 ≤ 255) (hy4 : 0 ≤ y4 ∧ y4 ≤ 255) (hy5 : 0 ≤ y5 ∧ y5 ≤ 255) (c0 : w.cell? ⟨b, o, none⟩ = some (.int .u8 y0)) (c1 : w.cell? ⟨b, o + 1, none⟩ = some (.int .u8 y1)) (c2 : w.cell? ⟨b, o + 2, none⟩ = some (.int .u8 y2)) (c3 : w.cell? ⟨b, o + 3, none⟩ = some (.int .u8 y3)) (c4 : w.cell? ⟨b, o + 4, none⟩ = some (.int .u8 y4)) (c5 : w.cell? ⟨b, o + 5, none⟩ = some (.int .u8 y5))
    {K E : Act → World → Prop} (hK : ∀ (a' : Act) (w' : World), Fr a' R P x0 x6 (.slice (some ⟨b, o, none⟩) n c) → Ub w0 R P w' { T with v4 := ⟨0, (281470681743360 + (((y0 * 256 + y1) * 256 + y2) * 256 + y3)), some a4, pt⟩ } → (∀ t d, Rt w t d → Rt w' t d) → K a' w') :
    Code.wp Tryd.prog um65 (Exit.then K (Qr E)) a w := by
  have HU := Lib.hid hu
  have HK' := Lib.hid hK
  have K4 : Hid (∀ W' : World, W'.heap = w.heap → Calls Tryd.prog 41 #[.agg #[.int .u8 y0, .int .u8 y1, .int .u8 y2, .int .u8 y3]] W' fun e w' => e = .returned (.agg #[.int .u64 0, .int .u64 (281470681743360 + (((y0 * 256 + y1) * 256 + y2) * 256 + y3)), .pointer (some a4)]) ∧ Hid (Below w.heap.size W' w')) := fun W' hW =>
    (af4 a4 a6 y0 y1 y2 y3 hy0 hy1 hy2 hy3 W' ((hu.gl hg).of_heap hW)).mono fun e w' ⟨h1, h2⟩ => ⟨h1, by rw [← hW]; exact h2.out⟩
  have K2 : Hid (∀ (W' : World) (cc : Nat), (∀ p : Addr, p.block < w.heap.size → W'.cell? p = w.cell? p) → Calls Tryd.prog 42 #[.slice (some ⟨b, o + 4, none⟩) 2 cc] W' fun e w' => e = .returned (.int .u16 pt) ∧ ∃ z, w' = W'.drewN z) := fun W' cc hW =>
    (bu16 b (o + 4) 2 cc y4 y5 hy4 hy5 W' (by omega) (by omega) ((hW _ (World.block_lt_of_cell? _ _ c4)).trans c4) ((hW _ (World.block_lt_of_cell? _ _ c5)).trans c5)).mono fun e w' ⟨h1, h2⟩ => ⟨by rw [h1, hpt], h2⟩
  have hat : ∀ w, (Instr.arrayAt 98 (.slice (some ⟨b, o, none⟩) 4 c)).run Tryd.prog w = .ok (.pointer (some ⟨b, o, none⟩)) w := fun w => run_arrayAt w 98 _ 4 _ 4 c Tryd.underlying98 (Nat.le_refl _)
  have hc4 : c ≠ 4 := by omega
  have hci : (4 : Int) ≤ (c : Int) := by omega
  have hni : (4 : Int) ≤ (n : Int) := by omega
  have hcj : (2 : Int) ≤ ((c - 4 : Nat) : Int) := by omega
  have hcj' : (2 : Int) ≤ (c : Int) - 4 := by omega
  have hbb := World.block_lt_of_cell? _ _ c0
  clear hu hg hK hpt c4 c5
  obtain ⟨f, rfl⟩ := hf.lit
  clear hf
  conv => arg 2; whnf
  go_region_law (first | (go_simp; go_at_call 41; refine (K4.out _ (by rfl)).mono ?_; rintro e w1 ⟨rfl, H1⟩) | (go_simp; go_at_call 42; refine (K2.out _ _ (fun p hp => H1.out.cell hp)).mono ?_; rintro e w2 ⟨rfl, z, rfl⟩) | (go_simp; go_at_call 36; refine (apf _ _ _ _ _).mono ?_; rintro e w3 ⟨rfl, H3⟩; have HB : Hid (Below w.heap.size w w3) := (below_drewN (⟨H1.out.os, H1.out.tape, H1.out.output, H1.out.size, H1.out.block⟩ : Below w.heap.size w w1) z).trans (H3.out.mono H1.out.size); have HU3 := Lib.hid (HU.out.below HB.out); have s0 := HU3.out.cell 13 _ rfl; have s1 := HU3.out.cell 14 _ rfl; have s2 := HU3.out.cell 15 _ rfl; have s3 := HU3.out.cell 16 _ rfl; have q0 := HU3.out.free 13; have q1 := HU3.out.free 14; have q2 := HU3.out.free 15; have q3 := HU3.out.free 16))
  all_goals
    go_wp2_with fail
    have H4 := HU3.out.set_v4 ⟨0, (281470681743360 + (((y0 * 256 + y1) * 256 + y2) * 256 + y3)), some a4, pt⟩
    exact HK'.out _ _ ⟨rfl, rfl, rfl, rfl, rfl, rfl, rfl, rfl⟩ H4.1 (fun t d ht => H4.2 _ _ (ht.below HB.out))


/-- Four cells of the block are set at once. -/
theorem Ub.set_v6 {w0 w : World} {R P : Nat} {T : TP} (h : Ub w0 R P w T) (A : PA) : Ub w0 R P (w.setCells P 17 A.l) { T with v6 := A } ∧ ∀ t d, Rt w t d → Rt (w.setCells P 17 A.l) t d := by
  have h1 := h.set (T' := { T with v6 := ⟨A.hi, T.v6.lo, T.v6.z, T.v6.pt⟩ }) 17 (.int .u64 A.hi) rfl
  have h2 := h1.set (T' := { T with v6 := ⟨A.hi, A.lo, T.v6.z, T.v6.pt⟩ }) 18 (.int .u64 A.lo) rfl
  have h3 := h2.set (T' := { T with v6 := ⟨A.hi, A.lo, A.z, T.v6.pt⟩ }) 19 (.pointer A.z) rfl
  have h4 := h3.set (T' := { T with v6 := A }) 20 (.int .u16 A.pt) rfl
  exact ⟨h4, fun t d ht => h3.rt _ _ (h2.rt _ _ (h1.rt _ _ (h.rt _ _ ht)))⟩

set_option maxRecDepth 1000000 in
set_option maxHeartbeats 8000000 in
theorem um67_wp {w0 w : World} {R P : Nat} {T : TP} {a4 a6 : Addr} {x0 x6 : Value} (b o n c : Nat) (y0 y1 y2 y3 y4 y5 y6 y7 y8 y9 y10 y11 y12 y13 y14 y15 y16 y17 : Int) (pt : Int) (a : Act) (hf : Fr a R P x0 x6 (.slice (some ⟨b, o, none⟩) n c)) (hu : Ub w0 R P w T) (hg : Gl w0 a4 a6) (hn : 18 < n) (hnc : n ≤ c) (hc2 : c ≤ 9223372036854775807) (hpt : y16 * 256 + y17 = pt) (hy0 : 0 ≤ y0 ∧ y0 ≤ 255) (hy1 : 0 ≤ y1 ∧ y1 ≤ 255) (hy2 : 0 ≤ y2 ∧ y2 ≤ 255) (hy3 : 0 ≤ y3 ∧ y3 ≤ 255) (hy4 : 0 ≤ y4 ∧ y4 ≤ 255) (hy5 : 0 ≤ y5 ∧ y5 ≤ 255) (hy6 : 0 ≤ y6 ∧ y6 ≤ 255) (hy7 : 0 ≤ y7 ∧ y7 ≤ 255) (hy8 : 0 ≤ y8 ∧ y8 ≤ 255) (hy9 : 0 ≤ y9 ∧ y9 ≤ 255) (hy10 : 0 ≤ y10 ∧ y10 ≤ 255) (hy11 : 0 ≤ y11 ∧ y11 ≤ 255) (hy12 : 0 ≤ y12 ∧ y12 ≤ 255) (hy13 : 0 ≤ y13 ∧ y13 ≤ 255) (hy14 : 0 ≤ y14 ∧ y14 ≤ 255) (hy15 : 0 ≤ y15 ∧ y15 ≤ 255) (hy16 : 0 ≤ y16 ∧ y16 ≤ 255) (hy17 : 0 ≤ y17 ∧ y17 ≤ 255) (c0 : w.cell? ⟨b, o, none⟩ = some (.int .u8 y0)) (c1 : w.cell? ⟨b, o + 1, none⟩ = some (.int .u8 y1)) (c2 : w.cell? ⟨b, o + 2, none⟩ = some (.int .u8 y2)) (c3 : w.cell? ⟨b, o + 3, none⟩ = some (.int .u8 y3)) (c4 : w.cell? ⟨b, o + 4, none⟩ = some (.int .u8 y4)) (c5 : w.cell? ⟨b, o + 5, none⟩ = some (.int .u8 y5)) (c6 : w.cell? ⟨b, o + 6, none⟩ = some (.int .u8 y6)) (c7 : w.cell? ⟨b, o + 7, none⟩ = some (.int .u8 y7)) (c8 : w.cell? ⟨b, o + 8, none⟩ = some (.int .u8 y8)) (c9 : w.cell? ⟨b, o + 9, none⟩ = some (.int .u8 y9)) (c10 : w.cell? ⟨b, o + 10, none⟩ = some (.int .u8 y10)) (c11 : w.cell? ⟨b, o + 11, none⟩ = some (.int .u8 y11)) (c12 : w.cell? ⟨b, o + 12, none⟩ = some (.int .u8 y12)) (c13 : w.cell? ⟨b, o + 13, none⟩ = some (.int .u8 y13)) (c14 : w.cell? ⟨b, o + 14, none⟩ = some (.int .u8 y14)) (c15 : w.cell? ⟨b, o + 15, none⟩ = some (.int .u8 y15)) (c16 : w.cell? ⟨b, o + 16, none⟩ = some (.int .u8 y16)) (c17 : w.cell? ⟨b, o + 17, none⟩ = some (.int .u8 y17))
    {K E : Act → World → Prop} (hK : ∀ (a' : Act) (w' : World), Fr a' R P x0 x6 (.slice (some ⟨b, o, none⟩) n c) → Ub w0 R P w' { T with v6 := ⟨(((((((y0 * 256 + y1) * 256 + y2) * 256 + y3) * 256 + y4) * 256 + y5) * 256 + y6) * 256 + y7), (((((((y8 * 256 + y9) * 256 + y10) * 256 + y11) * 256 + y12) * 256 + y13) * 256 + y14) * 256 + y15), some a6, pt⟩ } → (∀ t d, Rt w t d → Rt w' t d) → K a' w') :
    Code.wp Tryd.prog um67 (Exit.then K (Qr E)) a w := by
  have HU := Lib.hid hu
  have HK' := Lib.hid hK
  have K4 : Hid (∀ W' : World, W'.heap = w.heap → Calls Tryd.prog 43 #[.agg #[.int .u8 y0, .int .u8 y1, .int .u8 y2, .int .u8 y3, .int .u8 y4, .int .u8 y5, .int .u8 y6, .int .u8 y7, .int .u8 y8, .int .u8 y9, .int .u8 y10, .int .u8 y11, .int .u8 y12, .int .u8 y13, .int .u8 y14, .int .u8 y15]] W' fun e w' => e = .returned (.agg #[.int .u64 (((((((y0 * 256 + y1) * 256 + y2) * 256 + y3) * 256 + y4) * 256 + y5) * 256 + y6) * 256 + y7), .int .u64 (((((((y8 * 256 + y9) * 256 + y10) * 256 + y11) * 256 + y12) * 256 + y13) * 256 + y14) * 256 + y15), .pointer (some a6)]) ∧ Hid (Below w.heap.size W' w')) := fun W' hW =>
    (af16 a4 a6 y0 y1 y2 y3 y4 y5 y6 y7 y8 y9 y10 y11 y12 y13 y14 y15 hy0 hy1 hy2 hy3 hy4 hy5 hy6 hy7 hy8 hy9 hy10 hy11 hy12 hy13 hy14 hy15 W' ((hu.gl hg).of_heap hW)).mono fun e w' ⟨h1, h2⟩ => ⟨h1, by rw [← hW]; exact h2.out⟩
  have K2 : Hid (∀ (W' : World) (cc : Nat), (∀ p : Addr, p.block < w.heap.size → W'.cell? p = w.cell? p) → Calls Tryd.prog 42 #[.slice (some ⟨b, o + 16, none⟩) 2 cc] W' fun e w' => e = .returned (.int .u16 pt) ∧ ∃ z, w' = W'.drewN z) := fun W' cc hW =>
    (bu16 b (o + 16) 2 cc y16 y17 hy16 hy17 W' (by omega) (by omega) ((hW _ (World.block_lt_of_cell? _ _ c16)).trans c16) ((hW _ (World.block_lt_of_cell? _ _ c17)).trans c17)).mono fun e w' ⟨h1, h2⟩ => ⟨by rw [h1, hpt], h2⟩
  have hat : ∀ w, (Instr.arrayAt 102 (.slice (some ⟨b, o, none⟩) 16 c)).run Tryd.prog w = .ok (.pointer (some ⟨b, o, none⟩)) w := fun w => run_arrayAt w 102 _ 16 _ 16 c Tryd.underlying102 (Nat.le_refl _)
  have hc4 : c ≠ 16 := by omega
  have hci : (16 : Int) ≤ (c : Int) := by omega
  have hni : (16 : Int) ≤ (n : Int) := by omega
  have hcj : (2 : Int) ≤ ((c - 16 : Nat) : Int) := by omega
  have hcj' : (2 : Int) ≤ (c : Int) - 16 := by omega
  have hbb := World.block_lt_of_cell? _ _ c0
  clear hu hg hK hpt c16 c17
  obtain ⟨f, rfl⟩ := hf.lit
  clear hf
  conv => arg 2; whnf
  go_region_law (first | (go_simp; go_at_call 43; refine (K4.out _ (by rfl)).mono ?_; rintro e w1 ⟨rfl, H1⟩) | (go_simp; go_at_call 42; refine (K2.out _ _ (fun p hp => H1.out.cell hp)).mono ?_; rintro e w2 ⟨rfl, z, rfl⟩) | (go_simp; go_at_call 36; refine (apf _ _ _ _ _).mono ?_; rintro e w3 ⟨rfl, H3⟩; have HB : Hid (Below w.heap.size w w3) := (below_drewN (⟨H1.out.os, H1.out.tape, H1.out.output, H1.out.size, H1.out.block⟩ : Below w.heap.size w w1) z).trans (H3.out.mono H1.out.size); have HU3 := Lib.hid (HU.out.below HB.out); have s0 := HU3.out.cell 17 _ rfl; have s1 := HU3.out.cell 18 _ rfl; have s2 := HU3.out.cell 19 _ rfl; have s3 := HU3.out.cell 20 _ rfl; have q0 := HU3.out.free 17; have q1 := HU3.out.free 18; have q2 := HU3.out.free 19; have q3 := HU3.out.free 20))
  all_goals
    go_wp2_with fail
    have H4 := HU3.out.set_v6 ⟨(((((((y0 * 256 + y1) * 256 + y2) * 256 + y3) * 256 + y4) * 256 + y5) * 256 + y6) * 256 + y7), (((((((y8 * 256 + y9) * 256 + y10) * 256 + y11) * 256 + y12) * 256 + y13) * 256 + y14) * 256 + y15), some a6, pt⟩
    exact HK'.out _ _ ⟨rfl, rfl, rfl, rfl, rfl, rfl, rfl, rfl⟩ H4.1 (fun t d ht => H4.2 _ _ (ht.below HB.out))

end Go.Proofs.YtdjdcpcomhjnjaaDoor

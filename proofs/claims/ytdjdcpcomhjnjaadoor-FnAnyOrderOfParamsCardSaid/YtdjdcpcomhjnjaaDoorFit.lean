/- spec.Fits: what it says where it says yes. Conditions: none. -/
import Derived.Test.YtdjdcpcomhjnjaaDoorMq
import Derived.Test.YtdjdcpcomhjnjaaDoorSprp
namespace Go.Proofs.YtdjdcpcomhjnjaaDoor
open Go.RowKit
set_option linter.unusedVariables false
set_option linter.unusedSimpArgs false
structure Ff (a : Act) (P : Nat) : Prop where
  sz : a.tmps.size = 191
  df : a.defers = []
  t1 : a.tmps[1]? = some (.pointer (some ⟨P, 0, none⟩))
set_option maxRecDepth 100000 in
theorem lit191 {a : Act} {P : Nat} (hs : a.tmps.size = 191) (hd : a.defers = []) (h1 : a.tmps[1]? = some (.pointer (some ⟨P, 0, none⟩))) : ∃ f : Nat → Value, a = ⟨#[f 0, .pointer (some ⟨P, 0, none⟩), f 2, f 3, f 4, f 5, f 6, f 7, f 8, f 9, f 10, f 11, f 12, f 13, f 14, f 15, f 16, f 17, f 18, f 19, f 20, f 21, f 22, f 23, f 24, f 25, f 26, f 27, f 28, f 29, f 30, f 31, f 32, f 33, f 34, f 35, f 36, f 37, f 38, f 39, f 40, f 41, f 42, f 43, f 44, f 45, f 46, f 47, f 48, f 49, f 50, f 51, f 52, f 53, f 54, f 55, f 56, f 57, f 58, f 59, f 60, f 61, f 62, f 63, f 64, f 65, f 66, f 67, f 68, f 69, f 70, f 71, f 72, f 73, f 74, f 75, f 76, f 77, f 78, f 79, f 80, f 81, f 82, f 83, f 84, f 85, f 86, f 87, f 88, f 89, f 90, f 91, f 92, f 93, f 94, f 95, f 96, f 97, f 98, f 99, f 100, f 101, f 102, f 103, f 104, f 105, f 106, f 107, f 108, f 109, f 110, f 111, f 112, f 113, f 114, f 115, f 116, f 117, f 118, f 119, f 120, f 121, f 122, f 123, f 124, f 125, f 126, f 127, f 128, f 129, f 130, f 131, f 132, f 133, f 134, f 135, f 136, f 137, f 138, f 139, f 140, f 141, f 142, f 143, f 144, f 145, f 146, f 147, f 148, f 149, f 150, f 151, f 152, f 153, f 154, f 155, f 156, f 157, f 158, f 159, f 160, f 161, f 162, f 163, f 164, f 165, f 166, f 167, f 168, f 169, f 170, f 171, f 172, f 173, f 174, f 175, f 176, f 177, f 178, f 179, f 180, f 181, f 182, f 183, f 184, f 185, f 186, f 187, f 188, f 189, f 190], []⟩ := by
  obtain ⟨f, hf, e⟩ := lit_ofN 191 a hs hd
  have e1 := (hf 1 (by decide)).symm.trans h1
  simp only [Option.some.injEq] at e1
  refine ⟨f, ?_⟩
  have hl : ((List.range 191).map f).toArray = #[f 0, f 1, f 2, f 3, f 4, f 5, f 6, f 7, f 8, f 9, f 10, f 11, f 12, f 13, f 14, f 15, f 16, f 17, f 18, f 19, f 20, f 21, f 22, f 23, f 24, f 25, f 26, f 27, f 28, f 29, f 30, f 31, f 32, f 33, f 34, f 35, f 36, f 37, f 38, f 39, f 40, f 41, f 42, f 43, f 44, f 45, f 46, f 47, f 48, f 49, f 50, f 51, f 52, f 53, f 54, f 55, f 56, f 57, f 58, f 59, f 60, f 61, f 62, f 63, f 64, f 65, f 66, f 67, f 68, f 69, f 70, f 71, f 72, f 73, f 74, f 75, f 76, f 77, f 78, f 79, f 80, f 81, f 82, f 83, f 84, f 85, f 86, f 87, f 88, f 89, f 90, f 91, f 92, f 93, f 94, f 95, f 96, f 97, f 98, f 99, f 100, f 101, f 102, f 103, f 104, f 105, f 106, f 107, f 108, f 109, f 110, f 111, f 112, f 113, f 114, f 115, f 116, f 117, f 118, f 119, f 120, f 121, f 122, f 123, f 124, f 125, f 126, f 127, f 128, f 129, f 130, f 131, f 132, f 133, f 134, f 135, f 136, f 137, f 138, f 139, f 140, f 141, f 142, f 143, f 144, f 145, f 146, f 147, f 148, f 149, f 150, f 151, f 152, f 153, f 154, f 155, f 156, f 157, f 158, f 159, f 160, f 161, f 162, f 163, f 164, f 165, f 166, f 167, f 168, f 169, f 170, f 171, f 172, f 173, f 174, f 175, f 176, f 177, f 178, f 179, f 180, f 181, f 182, f 183, f 184, f 185, f 186, f 187, f 188, f 189, f 190] := by kernel_rfl
  rw [e, hl, e1]

def FE (w1 : World) (Q : Exit → Act → World → Prop) : Prop := ∀ (a : Act) (w : World), a.defers = [] → a.tmps[2]? = some (.bool false) → Below w1.heap.size w1 w → Q .ret a w
noncomputable def fp1 : Code := cl (cr (Tryd.f12.body.getD .skip))
noncomputable def fp2 : Code := cl (cr (cr (Tryd.f12.body.getD .skip)))
noncomputable def fp3 : Code := cl (cr (cr (cr (Tryd.f12.body.getD .skip))))
noncomputable def fp4 : Code := cl (cr (cr (cr (cr (Tryd.f12.body.getD .skip)))))
noncomputable def fp5 : Code := cl (cr (cr (cr (cr (cr (Tryd.f12.body.getD .skip))))))
noncomputable def fp6 : Code := cr (cr (cr (cr (cr (cr (Tryd.f12.body.getD .skip))))))
set_option maxRecDepth 1000000 in
set_option maxHeartbeats 8000000 in
theorem fp1_wp {w1 w : World} {P : Nat} {A0 A1 A2 : Option Addr} {n0 c0 n1 c1 n2 c2 : Nat} (a : Act) (hf : Ff a P) (hb : Below w1.heap.size w1 w) (h0 : w1.cell? ⟨P, 0, none⟩ = some (.slice A0 n0 c0)) (h1 : w1.cell? ⟨P, 2, none⟩ = some (.slice A1 n1 c1)) (h2 : w1.cell? ⟨P, 3, none⟩ = some (.slice A2 n2 c2))
    {K : Act → World → Prop} {Q : Exit → Act → World → Prop} (hK : ∀ a' w', Ff a' P → Below w1.heap.size w1 w' → (n0 ≤ 20 ∧ n1 ≤ 20 ∧ n2 ≤ 20) → K a' w') (hE : FE w1 Q) :
    Code.wp Tryd.prog fp1 (Exit.then K Q) a w := by
  have HB := Lib.hid hb
  have HK := Lib.hid hK
  have HE := Lib.hid hE
  clear hK hE
  have hcell : ∀ {p : Addr} {v : Value}, w1.cell? p = some v → w.cell? p = some v := fun h => (hb.cell (World.block_lt_of_cell? _ _ h)).trans h
  have u0 := hcell h0
  have u1 := hcell h1
  have u2 := hcell h2
  have HB2 : Hid (Below w1.heap.size w1 (w.alloc (.cells #[.slice A0 n0 c0, .slice A1 n1 c1, .slice A2 n2 c2] 22 (0, 0)))) := hb.alloc hb.size _
  have g0 : (w.alloc (.cells #[.slice A0 n0 c0, .slice A1 n1 c1, .slice A2 n2 c2] 22 (0, 0))).cell? ⟨w.heap.size, 0, none⟩ = some (.slice A0 n0 c0) := (cell_of_row _ _ 0 _ _ (0, 0) (heap_alloc_new w _)).trans rfl
  have g1 : (w.alloc (.cells #[.slice A0 n0 c0, .slice A1 n1 c1, .slice A2 n2 c2] 22 (0, 0))).cell? ⟨w.heap.size, 1, none⟩ = some (.slice A1 n1 c1) := (cell_of_row _ _ 1 _ _ (0, 0) (heap_alloc_new w _)).trans rfl
  have g2 : (w.alloc (.cells #[.slice A0 n0 c0, .slice A1 n1 c1, .slice A2 n2 c2] 22 (0, 0))).cell? ⟨w.heap.size, 2, none⟩ = some (.slice A2 n2 c2) := (cell_of_row _ _ 2 _ _ (0, 0) (heap_alloc_new w _)).trans rfl
  clear h0 h1 h2 hcell hb
  obtain ⟨f, rfl⟩ := lit191 hf.sz hf.df hf.t1
  clear hf
  conv => arg 2; whnf
  go_upto_block 0 with fail
  change Code.wp _ _ _ _ (w.alloc (.cells #[.slice A0 n0 c0, .slice A1 n1 c1, .slice A2 n2 c2] 22 (0, 0)))
  obtain ⟨w2, hw2⟩ : ∃ w2, w.alloc (.cells #[.slice A0 n0 c0, .slice A1 n1 c1, .slice A2 n2 c2] 22 (0, 0)) = w2 := ⟨_, rfl⟩
  rw [hw2] at HB2 g0 g1 g2 ⊢
  clear hw2
  refine wp_block ?_
  go_loopw [16] (fun i wr => ∃ q : Nat, q ≤ 3 ∧ i = .int .i64 q ∧ Hid (wr = w2) ∧ Hid ((1 ≤ q → n0 ≤ 20) ∧ (2 ≤ q → n1 ≤ 20) ∧ (3 ≤ q → n2 ≤ 20))) (fun i _ => 3 - (intOf i).toNat)
  case atStart => exact ⟨0, by omega, rfl, Lib.hid rfl, Lib.hid ⟨fun h => by omega, fun h => by omega, fun h => by omega⟩⟩
  case round =>
    obtain ⟨q, hq, rfl, HW, HN⟩ := hrel
    obtain rfl := HW.out
    rcases (show q = 0 ∨ q = 1 ∨ q = 2 ∨ q = 3 by omega) with rfl | rfl | rfl | rfl
    · by_cases hl : n0 ≤ 20
      · have hli : ¬ (20 : Int) < (n0 : Int) := by omega
        go_wp2_with fail
        go_roundw
        case rel => exact ⟨1, by omega, by go_num, Lib.hid trivial, Lib.hid ⟨fun h => hl, fun h => by omega, fun h => by omega⟩⟩
        case measure => simp [intOf]
      · have hli : (20 : Int) < (n0 : Int) := by omega
        go_wp2_with fail
        exact HE.out _ _ rfl rfl HB2.out
    · by_cases hl : n1 ≤ 20
      · have hli : ¬ (20 : Int) < (n1 : Int) := by omega
        go_wp2_with fail
        go_roundw
        case rel => exact ⟨2, by omega, by go_num, Lib.hid trivial, Lib.hid ⟨fun h => HN.out.1 (by omega), fun h => hl, fun h => by omega⟩⟩
        case measure => simp [intOf]
      · have hli : (20 : Int) < (n1 : Int) := by omega
        go_wp2_with fail
        exact HE.out _ _ rfl rfl HB2.out
    · by_cases hl : n2 ≤ 20
      · have hli : ¬ (20 : Int) < (n2 : Int) := by omega
        go_wp2_with fail
        go_roundw
        case rel => exact ⟨3, by omega, by go_num, Lib.hid trivial, Lib.hid ⟨fun h => HN.out.1 (by omega), fun h => HN.out.2.1 (by omega), fun h => hl⟩⟩
        case measure => simp [intOf]
      · have hli : (20 : Int) < (n2 : Int) := by omega
        go_wp2_with fail
        exact HE.out _ _ rfl rfl HB2.out
    · go_wp2_with fail
      exact HK.out _ _ ⟨rfl, rfl, rfl⟩ HB2.out ⟨HN.out.1 (by omega), HN.out.2.1 (by omega), HN.out.2.2 (by omega)⟩
set_option maxRecDepth 1000000 in
set_option maxHeartbeats 8000000 in
theorem fp2_wp {w1 w : World} {P : Nat} {A : Option Addr} {n c : Nat} (a : Act) (hf : Ff a P) (hb : Below w1.heap.size w1 w) (h0 : w1.cell? ⟨P, 1, none⟩ = some (.slice A n c))
    {K : Act → World → Prop} {Q : Exit → Act → World → Prop} (hK : ∀ a' w', Ff a' P → Below w1.heap.size w1 w' → (A ≠ none → n = 16) → K a' w') (hE : FE w1 Q) :
    Code.wp Tryd.prog fp2 (Exit.then K Q) a w := by
  have HB := Lib.hid hb
  have HK := Lib.hid hK
  have HE := Lib.hid hE
  clear hK hE
  have hcell : ∀ {p : Addr} {v : Value}, w1.cell? p = some v → w.cell? p = some v := fun h => (hb.cell (World.block_lt_of_cell? _ _ h)).trans h
  have u0 := hcell h0
  have q22 := run_neq_nil
  clear h0 hcell hb
  cases A with
  | none =>
    obtain ⟨f, rfl⟩ := lit191 hf.sz hf.df hf.t1
    clear hf
    conv => arg 2; whnf
    go_wp2_with fail
    exact HK.out _ _ ⟨rfl, rfl, rfl⟩ HB.out (fun h => absurd rfl h)
  | some ad =>
    by_cases hl : n = 16
    · have hli : ((n : Int) == 16) = true := by rw [beq_iff_eq]; omega
      have HL := Lib.hid hl
      clear hl
      obtain ⟨f, rfl⟩ := lit191 hf.sz hf.df hf.t1
      clear hf
      conv => arg 2; whnf
      go_wp2_with fail
      exact HK.out _ _ ⟨rfl, rfl, rfl⟩ HB.out (fun _ => HL.out)
    · have hli : ((n : Int) == 16) = false := by rw [beq_eq_false_iff_ne]; omega
      obtain ⟨f, rfl⟩ := lit191 hf.sz hf.df hf.t1
      clear hf
      conv => arg 2; whnf
      go_wp2_with fail
      exact HE.out _ _ rfl rfl HB.out
set_option maxRecDepth 1000000 in
set_option maxHeartbeats 8000000 in
theorem fp3_wp {w1 w : World} {P : Nat} {idle udp data bl br un sb su ae ad act : Int} (a : Act) (hf : Ff a P) (hb : Below w1.heap.size w1 w) (h_idle : w1.cell? ⟨P, 4, none⟩ = some (.int .i64 idle)) (h_udp : w1.cell? ⟨P, 5, none⟩ = some (.int .i64 udp)) (h_data : w1.cell? ⟨P, 6, none⟩ = some (.int .i64 data)) (h_bl : w1.cell? ⟨P, 7, none⟩ = some (.int .i64 bl)) (h_br : w1.cell? ⟨P, 8, none⟩ = some (.int .i64 br)) (h_un : w1.cell? ⟨P, 9, none⟩ = some (.int .i64 un)) (h_sb : w1.cell? ⟨P, 10, none⟩ = some (.int .i64 sb)) (h_su : w1.cell? ⟨P, 11, none⟩ = some (.int .i64 su)) (h_ae : w1.cell? ⟨P, 12, none⟩ = some (.int .i64 ae)) (h_ad : w1.cell? ⟨P, 13, none⟩ = some (.int .i64 ad)) (h_act : w1.cell? ⟨P, 21, none⟩ = some (.int .i64 act))
    {K : Act → World → Prop} {Q : Exit → Act → World → Prop} (hK : ∀ a' w', Ff a' P → Below w1.heap.size w1 w' → (0 ≤ idle ∧ idle ≤ 4611686018427387903) ∧ (0 ≤ udp ∧ udp ≤ 4611686018427387903) ∧ (0 ≤ data ∧ data ≤ 4611686018427387903) ∧ (0 ≤ bl ∧ bl ≤ 4611686018427387903) ∧ (0 ≤ br ∧ br ≤ 4611686018427387903) ∧ (0 ≤ un ∧ un ≤ 4611686018427387903) ∧ (0 ≤ sb ∧ sb ≤ 4611686018427387903) ∧ (0 ≤ su ∧ su ≤ 4611686018427387903) ∧ (0 ≤ ae ∧ ae ≤ 4611686018427387903) ∧ (0 ≤ ad ∧ ad ≤ 4611686018427387903) ∧ (0 ≤ act ∧ act ≤ 4611686018427387903) → K a' w') (hE : FE w1 Q) :
    Code.wp Tryd.prog fp3 (Exit.then K Q) a w := by
  have HB := Lib.hid hb
  have HK := Lib.hid hK
  have HE := Lib.hid hE
  clear hK hE
  have hcell : ∀ {p : Addr} {v : Value}, w1.cell? p = some v → w.cell? p = some v := fun h => (hb.cell (World.block_lt_of_cell? _ _ h)).trans h
  have u0 := hcell h_idle
  have u1 := hcell h_udp
  have u2 := hcell h_data
  have u3 := hcell h_bl
  have u4 := hcell h_br
  have u5 := hcell h_un
  have u6 := hcell h_sb
  have u7 := hcell h_su
  have u8 := hcell h_ae
  have u9 := hcell h_ad
  have u10 := hcell h_act
  have HB2 : Hid (Below w1.heap.size w1 (w.alloc (.cells #[.int .i64 idle, .int .i64 udp, .int .i64 data, .int .i64 bl, .int .i64 br, .int .i64 un, .int .i64 sb, .int .i64 su, .int .i64 ae, .int .i64 ad, .int .i64 act] 2 (0, 0)))) := hb.alloc hb.size _
  have g0 : (w.alloc (.cells #[.int .i64 idle, .int .i64 udp, .int .i64 data, .int .i64 bl, .int .i64 br, .int .i64 un, .int .i64 sb, .int .i64 su, .int .i64 ae, .int .i64 ad, .int .i64 act] 2 (0, 0))).cell? ⟨w.heap.size, 0, none⟩ = some (.int .i64 idle) := (cell_of_row _ _ 0 _ _ (0, 0) (heap_alloc_new w _)).trans rfl
  have g1 : (w.alloc (.cells #[.int .i64 idle, .int .i64 udp, .int .i64 data, .int .i64 bl, .int .i64 br, .int .i64 un, .int .i64 sb, .int .i64 su, .int .i64 ae, .int .i64 ad, .int .i64 act] 2 (0, 0))).cell? ⟨w.heap.size, 1, none⟩ = some (.int .i64 udp) := (cell_of_row _ _ 1 _ _ (0, 0) (heap_alloc_new w _)).trans rfl
  have g2 : (w.alloc (.cells #[.int .i64 idle, .int .i64 udp, .int .i64 data, .int .i64 bl, .int .i64 br, .int .i64 un, .int .i64 sb, .int .i64 su, .int .i64 ae, .int .i64 ad, .int .i64 act] 2 (0, 0))).cell? ⟨w.heap.size, 2, none⟩ = some (.int .i64 data) := (cell_of_row _ _ 2 _ _ (0, 0) (heap_alloc_new w _)).trans rfl
  have g3 : (w.alloc (.cells #[.int .i64 idle, .int .i64 udp, .int .i64 data, .int .i64 bl, .int .i64 br, .int .i64 un, .int .i64 sb, .int .i64 su, .int .i64 ae, .int .i64 ad, .int .i64 act] 2 (0, 0))).cell? ⟨w.heap.size, 3, none⟩ = some (.int .i64 bl) := (cell_of_row _ _ 3 _ _ (0, 0) (heap_alloc_new w _)).trans rfl
  have g4 : (w.alloc (.cells #[.int .i64 idle, .int .i64 udp, .int .i64 data, .int .i64 bl, .int .i64 br, .int .i64 un, .int .i64 sb, .int .i64 su, .int .i64 ae, .int .i64 ad, .int .i64 act] 2 (0, 0))).cell? ⟨w.heap.size, 4, none⟩ = some (.int .i64 br) := (cell_of_row _ _ 4 _ _ (0, 0) (heap_alloc_new w _)).trans rfl
  have g5 : (w.alloc (.cells #[.int .i64 idle, .int .i64 udp, .int .i64 data, .int .i64 bl, .int .i64 br, .int .i64 un, .int .i64 sb, .int .i64 su, .int .i64 ae, .int .i64 ad, .int .i64 act] 2 (0, 0))).cell? ⟨w.heap.size, 5, none⟩ = some (.int .i64 un) := (cell_of_row _ _ 5 _ _ (0, 0) (heap_alloc_new w _)).trans rfl
  have g6 : (w.alloc (.cells #[.int .i64 idle, .int .i64 udp, .int .i64 data, .int .i64 bl, .int .i64 br, .int .i64 un, .int .i64 sb, .int .i64 su, .int .i64 ae, .int .i64 ad, .int .i64 act] 2 (0, 0))).cell? ⟨w.heap.size, 6, none⟩ = some (.int .i64 sb) := (cell_of_row _ _ 6 _ _ (0, 0) (heap_alloc_new w _)).trans rfl
  have g7 : (w.alloc (.cells #[.int .i64 idle, .int .i64 udp, .int .i64 data, .int .i64 bl, .int .i64 br, .int .i64 un, .int .i64 sb, .int .i64 su, .int .i64 ae, .int .i64 ad, .int .i64 act] 2 (0, 0))).cell? ⟨w.heap.size, 7, none⟩ = some (.int .i64 su) := (cell_of_row _ _ 7 _ _ (0, 0) (heap_alloc_new w _)).trans rfl
  have g8 : (w.alloc (.cells #[.int .i64 idle, .int .i64 udp, .int .i64 data, .int .i64 bl, .int .i64 br, .int .i64 un, .int .i64 sb, .int .i64 su, .int .i64 ae, .int .i64 ad, .int .i64 act] 2 (0, 0))).cell? ⟨w.heap.size, 8, none⟩ = some (.int .i64 ae) := (cell_of_row _ _ 8 _ _ (0, 0) (heap_alloc_new w _)).trans rfl
  have g9 : (w.alloc (.cells #[.int .i64 idle, .int .i64 udp, .int .i64 data, .int .i64 bl, .int .i64 br, .int .i64 un, .int .i64 sb, .int .i64 su, .int .i64 ae, .int .i64 ad, .int .i64 act] 2 (0, 0))).cell? ⟨w.heap.size, 9, none⟩ = some (.int .i64 ad) := (cell_of_row _ _ 9 _ _ (0, 0) (heap_alloc_new w _)).trans rfl
  have g10 : (w.alloc (.cells #[.int .i64 idle, .int .i64 udp, .int .i64 data, .int .i64 bl, .int .i64 br, .int .i64 un, .int .i64 sb, .int .i64 su, .int .i64 ae, .int .i64 ad, .int .i64 act] 2 (0, 0))).cell? ⟨w.heap.size, 10, none⟩ = some (.int .i64 act) := (cell_of_row _ _ 10 _ _ (0, 0) (heap_alloc_new w _)).trans rfl
  clear h_idle h_udp h_data h_bl h_br h_un h_sb h_su h_ae h_ad h_act hcell hb
  obtain ⟨f, rfl⟩ := lit191 hf.sz hf.df hf.t1
  clear hf
  conv => arg 2; whnf
  go_upto_block 2 with fail
  change Code.wp _ _ _ _ (w.alloc (.cells #[.int .i64 idle, .int .i64 udp, .int .i64 data, .int .i64 bl, .int .i64 br, .int .i64 un, .int .i64 sb, .int .i64 su, .int .i64 ae, .int .i64 ad, .int .i64 act] 2 (0, 0)))
  obtain ⟨w2, hw2⟩ : ∃ w2, w.alloc (.cells #[.int .i64 idle, .int .i64 udp, .int .i64 data, .int .i64 bl, .int .i64 br, .int .i64 un, .int .i64 sb, .int .i64 su, .int .i64 ae, .int .i64 ad, .int .i64 act] 2 (0, 0)) = w2 := ⟨_, rfl⟩
  rw [hw2] at HB2 g0 g1 g2 g3 g4 g5 g6 g7 g8 g9 g10 ⊢
  clear hw2 u0 u1 u2 u3 u4 u5 u6 u7 u8 u9 u10
  refine wp_block ?_
  go_loopw [57] (fun i wr => ∃ q : Nat, q ≤ 11 ∧ i = .int .i64 q ∧ Hid (wr = w2) ∧ Hid ((1 ≤ q → 0 ≤ idle ∧ idle ≤ 4611686018427387903) ∧ (2 ≤ q → 0 ≤ udp ∧ udp ≤ 4611686018427387903) ∧ (3 ≤ q → 0 ≤ data ∧ data ≤ 4611686018427387903) ∧ (4 ≤ q → 0 ≤ bl ∧ bl ≤ 4611686018427387903) ∧ (5 ≤ q → 0 ≤ br ∧ br ≤ 4611686018427387903) ∧ (6 ≤ q → 0 ≤ un ∧ un ≤ 4611686018427387903) ∧ (7 ≤ q → 0 ≤ sb ∧ sb ≤ 4611686018427387903) ∧ (8 ≤ q → 0 ≤ su ∧ su ≤ 4611686018427387903) ∧ (9 ≤ q → 0 ≤ ae ∧ ae ≤ 4611686018427387903) ∧ (10 ≤ q → 0 ≤ ad ∧ ad ≤ 4611686018427387903) ∧ (11 ≤ q → 0 ≤ act ∧ act ≤ 4611686018427387903))) (fun i _ => 11 - (intOf i).toNat)
  case atStart => exact ⟨0, by omega, rfl, Lib.hid rfl, Lib.hid (by refine ⟨?_, ?_, ?_, ?_, ?_, ?_, ?_, ?_, ?_, ?_, ?_⟩ <;> (intro h; omega))⟩
  case round =>
    obtain ⟨q, hq, rfl, HW, HN⟩ := hrel
    obtain rfl := HW.out
    obtain ⟨N0, N1, N2, N3, N4, N5, N6, N7, N8, N9, N10⟩ := HN.out
    rcases (show q = 0 ∨ q = 1 ∨ q = 2 ∨ q = 3 ∨ q = 4 ∨ q = 5 ∨ q = 6 ∨ q = 7 ∨ q = 8 ∨ q = 9 ∨ q = 10 ∨ q = 11 by omega) with rfl | rfl | rfl | rfl | rfl | rfl | rfl | rfl | rfl | rfl | rfl | rfl
    · clear HN
      by_cases h1 : idle < 0
      · go_wp2_with fail
        exact HE.out _ _ rfl rfl HB2.out
      · by_cases h2 : 4611686018427387903 < idle
        · go_wp2_with fail
          exact HE.out _ _ rfl rfl HB2.out
        · go_wp2_with fail
          go_roundw
          case rel => exact ⟨1, by omega, by go_num, Lib.hid trivial, Lib.hid ⟨fun h => by omega, fun h => by omega, fun h => by omega, fun h => by omega, fun h => by omega, fun h => by omega, fun h => by omega, fun h => by omega, fun h => by omega, fun h => by omega, fun h => by omega⟩⟩
          case measure => simp [intOf]
    · clear HN
      by_cases h1 : udp < 0
      · go_wp2_with fail
        exact HE.out _ _ rfl rfl HB2.out
      · by_cases h2 : 4611686018427387903 < udp
        · go_wp2_with fail
          exact HE.out _ _ rfl rfl HB2.out
        · go_wp2_with fail
          go_roundw
          case rel => exact ⟨2, by omega, by go_num, Lib.hid trivial, Lib.hid ⟨fun h => by omega, fun h => by omega, fun h => by omega, fun h => by omega, fun h => by omega, fun h => by omega, fun h => by omega, fun h => by omega, fun h => by omega, fun h => by omega, fun h => by omega⟩⟩
          case measure => simp [intOf]
    · clear HN
      by_cases h1 : data < 0
      · go_wp2_with fail
        exact HE.out _ _ rfl rfl HB2.out
      · by_cases h2 : 4611686018427387903 < data
        · go_wp2_with fail
          exact HE.out _ _ rfl rfl HB2.out
        · go_wp2_with fail
          go_roundw
          case rel => exact ⟨3, by omega, by go_num, Lib.hid trivial, Lib.hid ⟨fun h => by omega, fun h => by omega, fun h => by omega, fun h => by omega, fun h => by omega, fun h => by omega, fun h => by omega, fun h => by omega, fun h => by omega, fun h => by omega, fun h => by omega⟩⟩
          case measure => simp [intOf]
    · clear HN
      by_cases h1 : bl < 0
      · go_wp2_with fail
        exact HE.out _ _ rfl rfl HB2.out
      · by_cases h2 : 4611686018427387903 < bl
        · go_wp2_with fail
          exact HE.out _ _ rfl rfl HB2.out
        · go_wp2_with fail
          go_roundw
          case rel => exact ⟨4, by omega, by go_num, Lib.hid trivial, Lib.hid ⟨fun h => by omega, fun h => by omega, fun h => by omega, fun h => by omega, fun h => by omega, fun h => by omega, fun h => by omega, fun h => by omega, fun h => by omega, fun h => by omega, fun h => by omega⟩⟩
          case measure => simp [intOf]
    · clear HN
      by_cases h1 : br < 0
      · go_wp2_with fail
        exact HE.out _ _ rfl rfl HB2.out
      · by_cases h2 : 4611686018427387903 < br
        · go_wp2_with fail
          exact HE.out _ _ rfl rfl HB2.out
        · go_wp2_with fail
          go_roundw
          case rel => exact ⟨5, by omega, by go_num, Lib.hid trivial, Lib.hid ⟨fun h => by omega, fun h => by omega, fun h => by omega, fun h => by omega, fun h => by omega, fun h => by omega, fun h => by omega, fun h => by omega, fun h => by omega, fun h => by omega, fun h => by omega⟩⟩
          case measure => simp [intOf]
    · clear HN
      by_cases h1 : un < 0
      · go_wp2_with fail
        exact HE.out _ _ rfl rfl HB2.out
      · by_cases h2 : 4611686018427387903 < un
        · go_wp2_with fail
          exact HE.out _ _ rfl rfl HB2.out
        · go_wp2_with fail
          go_roundw
          case rel => exact ⟨6, by omega, by go_num, Lib.hid trivial, Lib.hid ⟨fun h => by omega, fun h => by omega, fun h => by omega, fun h => by omega, fun h => by omega, fun h => by omega, fun h => by omega, fun h => by omega, fun h => by omega, fun h => by omega, fun h => by omega⟩⟩
          case measure => simp [intOf]
    · clear HN
      by_cases h1 : sb < 0
      · go_wp2_with fail
        exact HE.out _ _ rfl rfl HB2.out
      · by_cases h2 : 4611686018427387903 < sb
        · go_wp2_with fail
          exact HE.out _ _ rfl rfl HB2.out
        · go_wp2_with fail
          go_roundw
          case rel => exact ⟨7, by omega, by go_num, Lib.hid trivial, Lib.hid ⟨fun h => by omega, fun h => by omega, fun h => by omega, fun h => by omega, fun h => by omega, fun h => by omega, fun h => by omega, fun h => by omega, fun h => by omega, fun h => by omega, fun h => by omega⟩⟩
          case measure => simp [intOf]
    · clear HN
      by_cases h1 : su < 0
      · go_wp2_with fail
        exact HE.out _ _ rfl rfl HB2.out
      · by_cases h2 : 4611686018427387903 < su
        · go_wp2_with fail
          exact HE.out _ _ rfl rfl HB2.out
        · go_wp2_with fail
          go_roundw
          case rel => exact ⟨8, by omega, by go_num, Lib.hid trivial, Lib.hid ⟨fun h => by omega, fun h => by omega, fun h => by omega, fun h => by omega, fun h => by omega, fun h => by omega, fun h => by omega, fun h => by omega, fun h => by omega, fun h => by omega, fun h => by omega⟩⟩
          case measure => simp [intOf]
    · clear HN
      by_cases h1 : ae < 0
      · go_wp2_with fail
        exact HE.out _ _ rfl rfl HB2.out
      · by_cases h2 : 4611686018427387903 < ae
        · go_wp2_with fail
          exact HE.out _ _ rfl rfl HB2.out
        · go_wp2_with fail
          go_roundw
          case rel => exact ⟨9, by omega, by go_num, Lib.hid trivial, Lib.hid ⟨fun h => by omega, fun h => by omega, fun h => by omega, fun h => by omega, fun h => by omega, fun h => by omega, fun h => by omega, fun h => by omega, fun h => by omega, fun h => by omega, fun h => by omega⟩⟩
          case measure => simp [intOf]
    · clear HN
      by_cases h1 : ad < 0
      · go_wp2_with fail
        exact HE.out _ _ rfl rfl HB2.out
      · by_cases h2 : 4611686018427387903 < ad
        · go_wp2_with fail
          exact HE.out _ _ rfl rfl HB2.out
        · go_wp2_with fail
          go_roundw
          case rel => exact ⟨10, by omega, by go_num, Lib.hid trivial, Lib.hid ⟨fun h => by omega, fun h => by omega, fun h => by omega, fun h => by omega, fun h => by omega, fun h => by omega, fun h => by omega, fun h => by omega, fun h => by omega, fun h => by omega, fun h => by omega⟩⟩
          case measure => simp [intOf]
    · clear HN
      by_cases h1 : act < 0
      · go_wp2_with fail
        exact HE.out _ _ rfl rfl HB2.out
      · by_cases h2 : 4611686018427387903 < act
        · go_wp2_with fail
          exact HE.out _ _ rfl rfl HB2.out
        · go_wp2_with fail
          go_roundw
          case rel => exact ⟨11, by omega, by go_num, Lib.hid trivial, Lib.hid ⟨fun h => by omega, fun h => by omega, fun h => by omega, fun h => by omega, fun h => by omega, fun h => by omega, fun h => by omega, fun h => by omega, fun h => by omega, fun h => by omega, fun h => by omega⟩⟩
          case measure => simp [intOf]
    · go_wp2_with fail
      exact HK.out _ _ ⟨rfl, rfl, rfl⟩ HB2.out ⟨N0 (by omega), N1 (by omega), N2 (by omega), N3 (by omega), N4 (by omega), N5 (by omega), N6 (by omega), N7 (by omega), N8 (by omega), N9 (by omega), N10 (by omega)⟩
set_option maxRecDepth 1000000 in
set_option maxHeartbeats 8000000 in
theorem fp4_wp {w1 w : World} {P : Nat} {idle udp sb su ae ad act : Int} (a : Act) (hf : Ff a P) (hb : Below w1.heap.size w1 w) (h_idle : w1.cell? ⟨P, 4, none⟩ = some (.int .i64 idle)) (h_udp : w1.cell? ⟨P, 5, none⟩ = some (.int .i64 udp)) (h_sb : w1.cell? ⟨P, 10, none⟩ = some (.int .i64 sb)) (h_su : w1.cell? ⟨P, 11, none⟩ = some (.int .i64 su)) (h_ae : w1.cell? ⟨P, 12, none⟩ = some (.int .i64 ae)) (h_ad : w1.cell? ⟨P, 13, none⟩ = some (.int .i64 ad)) (h_act : w1.cell? ⟨P, 21, none⟩ = some (.int .i64 act))
    {K : Act → World → Prop} {Q : Exit → Act → World → Prop} (hK : ∀ a' w', Ff a' P → Below w1.heap.size w1 w' → ¬ 1073741824 ≤ idle ∧ ¬ udp < 1200 ∧ ¬ 65527 < udp ∧ ¬ 1152921504606846976 < sb ∧ ¬ 1152921504606846976 < su ∧ ¬ 20 < ae ∧ ¬ 16384 ≤ ad ∧ ¬ act < 2 → K a' w') (hE : FE w1 Q) :
    Code.wp Tryd.prog fp4 (Exit.then K Q) a w := by
  have HB := Lib.hid hb
  have HK := Lib.hid hK
  have HE := Lib.hid hE
  clear hK hE
  have hcell : ∀ {p : Addr} {v : Value}, w1.cell? p = some v → w.cell? p = some v := fun h => (hb.cell (World.block_lt_of_cell? _ _ h)).trans h
  have u_idle := hcell h_idle
  have u_udp := hcell h_udp
  have u_sb := hcell h_sb
  have u_su := hcell h_su
  have u_ae := hcell h_ae
  have u_ad := hcell h_ad
  have u_act := hcell h_act
  clear h_idle h_udp h_sb h_su h_ae h_ad h_act hcell hb
  obtain ⟨f, rfl⟩ := lit191 hf.sz hf.df hf.t1
  clear hf
  conv => arg 2; whnf
  by_cases t0 : 1073741824 ≤ idle
  · go_wp2_with fail
    exact HE.out _ _ rfl rfl HB.out
  by_cases t1 : udp < 1200
  · go_wp2_with fail
    exact HE.out _ _ rfl rfl HB.out
  by_cases t2 : 65527 < udp
  · go_wp2_with fail
    exact HE.out _ _ rfl rfl HB.out
  by_cases t3 : 1152921504606846976 < sb
  · go_wp2_with fail
    exact HE.out _ _ rfl rfl HB.out
  by_cases t4 : 1152921504606846976 < su
  · go_wp2_with fail
    exact HE.out _ _ rfl rfl HB.out
  by_cases t5 : 20 < ae
  · go_wp2_with fail
    exact HE.out _ _ rfl rfl HB.out
  by_cases t6 : 16384 ≤ ad
  · go_wp2_with fail
    exact HE.out _ _ rfl rfl HB.out
  by_cases t7 : act < 2
  · go_wp2_with fail
    exact HE.out _ _ rfl rfl HB.out
  have HT : Hid (¬ 1073741824 ≤ idle ∧ ¬ udp < 1200 ∧ ¬ 65527 < udp ∧ ¬ 1152921504606846976 < sb ∧ ¬ 1152921504606846976 < su ∧ ¬ 20 < ae ∧ ¬ 16384 ≤ ad ∧ ¬ act < 2) := Lib.hid ⟨t0, t1, t2, t3, t4, t5, t6, t7⟩
  go_wp2_with fail
  exact HK.out _ _ ⟨rfl, rfl, rfl⟩ HB.out HT.out
set_option maxRecDepth 1000000 in
set_option maxHeartbeats 8000000 in
theorem fp5_wp {w1 w : World} {P : Nat} {A15 : Option Addr} {n15 c15 : Nat} {A16 : Option Addr} {n16 c16 : Nat} {A19 : Option Addr} {n19 c19 : Nat} {A20 : Option Addr} {n20 c20 : Nat} {p4 p6 : Int} (a : Act) (hf : Ff a P) (hb : Below w1.heap.size w1 w) (h15 : w1.cell? ⟨P, 15, none⟩ = some (.slice A15 n15 c15)) (h16 : w1.cell? ⟨P, 16, none⟩ = some (.slice A16 n16 c16)) (h19 : w1.cell? ⟨P, 19, none⟩ = some (.slice A19 n19 c19)) (h20 : w1.cell? ⟨P, 20, none⟩ = some (.slice A20 n20 c20)) (h17 : w1.cell? ⟨P, 17, none⟩ = some (.int .i64 p4)) (h18 : w1.cell? ⟨P, 18, none⟩ = some (.int .i64 p6))
    {K : Act → World → Prop} {Q : Exit → Act → World → Prop} (hK : A15 ≠ none → ∀ a' w', Ff a' P → Below w1.heap.size w1 w' → K a' w') (hR : ∀ (a : Act) (w : World) (y : Bool), a.defers = [] → a.tmps[2]? = some (.bool y) → Below w1.heap.size w1 w → (y = true → A15 = none ∧ A16 = none ∧ A19 = none ∧ A20 = none ∧ p4 = 0 ∧ p6 = 0) → Q .ret a w) :
    Code.wp Tryd.prog fp5 (Exit.then K Q) a w := by
  have HB := Lib.hid hb
  have HR := Lib.hid hR
  clear hR
  have hcell : ∀ {p : Addr} {v : Value}, w1.cell? p = some v → w.cell? p = some v := fun h => (hb.cell (World.block_lt_of_cell? _ _ h)).trans h
  have HK := Lib.hid hK
  clear hK
  have u15 := hcell h15
  have u16 := hcell h16
  have u17 := hcell h17
  have u18 := hcell h18
  have u19 := hcell h19
  have u20 := hcell h20
  clear h15 h16 h17 h18 h19 h20 hcell hb
  have q22 := run_neq_nil
  have q23 : ∀ (w : World) (a : Option Addr) (n c n' c' : Nat), (binOp .eql 22 (.slice a n c) (.slice none n' c')).run Tryd.prog w = .ok (.bool a.isNone) w := fun w a n c n' c' => Lib.run_eql_slice_nil w _ _ a n c n' c' Tryd.underlying22
  obtain ⟨f, rfl⟩ := lit191 hf.sz hf.df hf.t1
  clear hf
  conv => arg 2; whnf
  cases A15 with
  | some ad =>
    go_wp2_with fail
    exact HK.out (by simp) _ _ ⟨rfl, rfl, rfl⟩ HB.out
  | none =>
    cases A16 with
    | some ad =>
      go_wp2_with fail
      exact HR.out _ _ false rfl rfl HB.out (fun h => by cases h)
    | none =>
      cases A19 with
      | some ad =>
        go_wp2_with fail
        exact HR.out _ _ false rfl rfl HB.out (fun h => by cases h)
      | none =>
        cases A20 with
        | some ad =>
          go_wp2_with fail
          exact HR.out _ _ false rfl rfl HB.out (fun h => by cases h)
        | none =>
          by_cases e4 : p4 = 0
          · have q4 : (p4 == 0) = true := by rw [beq_iff_eq]; exact e4
            have E4 := Lib.hid e4
            clear e4
            by_cases e6 : p6 = 0
            · have q6 : (p6 == 0) = true := by rw [beq_iff_eq]; exact e6
              have E6 := Lib.hid e6
              clear e6
              go_wp2_with fail
              exact HR.out _ _ true rfl rfl HB.out (fun _ => by refine ⟨?_, ?_, ?_, ?_, E4.out, E6.out⟩ <;> trivial)
            · have q6 : (p6 == 0) = false := by rw [beq_eq_false_iff_ne]; exact e6
              go_wp2_with fail
              exact HR.out _ _ false rfl rfl HB.out (fun h => by cases h)
          · have q4 : (p4 == 0) = false := by rw [beq_eq_false_iff_ne]; exact e4
            go_wp2_with fail
            exact HR.out _ _ false rfl rfl HB.out (fun h => by cases h)
set_option maxRecDepth 1000000 in
set_option maxHeartbeats 8000000 in
theorem fp6_wp {w1 w : World} {P : Nat} {A15 : Option Addr} {n15 c15 : Nat} {A16 : Option Addr} {n16 c16 : Nat} {A19 : Option Addr} {n19 c19 : Nat} {A20 : Option Addr} {n20 c20 : Nat} {p4 p6 : Int} {v4 v6 : List Int} (a : Act) (hf : Ff a P) (hb : Below w1.heap.size w1 w) (h15 : w1.cell? ⟨P, 15, none⟩ = some (.slice A15 n15 c15)) (h16 : w1.cell? ⟨P, 16, none⟩ = some (.slice A16 n16 c16)) (h19 : w1.cell? ⟨P, 19, none⟩ = some (.slice A19 n19 c19)) (h20 : w1.cell? ⟨P, 20, none⟩ = some (.slice A20 n20 c20)) (h17 : w1.cell? ⟨P, 17, none⟩ = some (.int .i64 p4)) (h18 : w1.cell? ⟨P, 18, none⟩ = some (.int .i64 p6)) (hz4 : Rt w1 (A15, n15, c15) v4) (hz6 : Rt w1 (A16, n16, c16) v6)
    {K : Act → World → Prop} {Q : Exit → Act → World → Prop}  (hR : ∀ (a : Act) (w : World) (y : Bool), a.defers = [] → a.tmps[2]? = some (.bool y) → Below w1.heap.size w1 w → (y = true → (n15 = 4 ∧ ¬ zeroB v4) ∧ (n16 = 16 ∧ ¬ zeroB v6) ∧ (1 ≤ n19 ∧ n19 ≤ 20) ∧ n20 = 16 ∧ (0 < p4 ∧ p4 ≤ 65535) ∧ (0 < p6 ∧ p6 ≤ 65535)) → Q .ret a w) :
    Code.wp Tryd.prog fp6 (Q) a w := by
  have HB := Lib.hid hb
  have HR := Lib.hid hR
  clear hR
  have hcell : ∀ {p : Addr} {v : Value}, w1.cell? p = some v → w.cell? p = some v := fun h => (hb.cell (World.block_lt_of_cell? _ _ h)).trans h
  have u15 := hcell h15
  have u16 := hcell h16
  have u17 := hcell h17
  have u18 := hcell h18
  have u19 := hcell h19
  have u20 := hcell h20
  have HZ4 := Lib.hid (hz4.below hb)
  have HZ6 := Lib.hid (hz6.below hb)
  clear h15 h16 h17 h18 h19 h20 hcell hb hz4 hz6
  obtain ⟨f, rfl⟩ := lit191 hf.sz hf.df hf.t1
  clear hf
  conv => arg 2; whnf
  by_cases hc1 : n15 = 4
  rotate_left
  · have q1 : ((n15 : Int) == 4) = false := by rw [beq_eq_false_iff_ne]; omega
    go_wp2_with (fail)
    exact HR.out _ _ false rfl rfl HB.out (fun h => by cases h)
  subst hc1
  by_cases hc2 : n16 = 16
  rotate_left
  · have q2 : ((n16 : Int) == 16) = false := by rw [beq_eq_false_iff_ne]; omega
    go_wp2_with (fail)
    exact HR.out _ _ false rfl rfl HB.out (fun h => by cases h)
  subst hc2
  by_cases hc3 : ¬ zeroB v4
  rotate_left
  · have HA4 := Lib.hid (Classical.not_not.1 hc3)
    clear hc3
    go_wp2_with ((go_at_call_of 19 (Value.slice A15 4 c15); refine (zr_yes A15 4 c15 _ _ HZ4.out HA4).mono ?_; rintro e w2 ⟨rfl, rfl⟩))
    exact HR.out _ _ false rfl rfl HB.out (fun h => by cases h)
  have HA4 := Lib.hid hc3
  have hc3 := Lib.hid hc3
  by_cases hc4 : ¬ zeroB v6
  rotate_left
  · have HA6 := Lib.hid (Classical.not_not.1 hc4)
    clear hc4
    go_wp2_with (first | (go_at_call_of 19 (Value.slice A15 4 c15); refine (zr_no A15 4 c15 _ _ HZ4.out HA4).mono ?_; rintro e w2 ⟨rfl, rfl⟩) | (go_at_call_of 19 (Value.slice A16 16 c16); refine (zr_yes A16 16 c16 _ _ HZ6.out HA6).mono ?_; rintro e w2 ⟨rfl, rfl⟩))
    exact HR.out _ _ false rfl rfl HB.out (fun h => by cases h)
  have HA6 := Lib.hid hc4
  have hc4 := Lib.hid hc4
  by_cases hc5 : 0 < n19
  rotate_left
  · have q5 : ¬ (0 : Int) < (n19 : Int) := by omega
    go_wp2_with (first | (go_at_call_of 19 (Value.slice A15 4 c15); refine (zr_no A15 4 c15 _ _ HZ4.out HA4).mono ?_; rintro e w2 ⟨rfl, rfl⟩) | (go_at_call_of 19 (Value.slice A16 16 c16); refine (zr_no A16 16 c16 _ _ HZ6.out HA6).mono ?_; rintro e w2 ⟨rfl, rfl⟩))
    exact HR.out _ _ false rfl rfl HB.out (fun h => by cases h)
  have q5 : (0 : Int) < (n19 : Int) := by omega
  have hc5 := Lib.hid hc5
  by_cases hc6 : n19 ≤ 20
  rotate_left
  · have q6 : ¬ (n19 : Int) ≤ 20 := by omega
    go_wp2_with (first | (go_at_call_of 19 (Value.slice A15 4 c15); refine (zr_no A15 4 c15 _ _ HZ4.out HA4).mono ?_; rintro e w2 ⟨rfl, rfl⟩) | (go_at_call_of 19 (Value.slice A16 16 c16); refine (zr_no A16 16 c16 _ _ HZ6.out HA6).mono ?_; rintro e w2 ⟨rfl, rfl⟩))
    exact HR.out _ _ false rfl rfl HB.out (fun h => by cases h)
  have q6 : (n19 : Int) ≤ 20 := by omega
  have hc6 := Lib.hid hc6
  by_cases hc7 : n20 = 16
  rotate_left
  · have q7 : ((n20 : Int) == 16) = false := by rw [beq_eq_false_iff_ne]; omega
    go_wp2_with (first | (go_at_call_of 19 (Value.slice A15 4 c15); refine (zr_no A15 4 c15 _ _ HZ4.out HA4).mono ?_; rintro e w2 ⟨rfl, rfl⟩) | (go_at_call_of 19 (Value.slice A16 16 c16); refine (zr_no A16 16 c16 _ _ HZ6.out HA6).mono ?_; rintro e w2 ⟨rfl, rfl⟩))
    exact HR.out _ _ false rfl rfl HB.out (fun h => by cases h)
  subst hc7
  by_cases hc8 : 0 < p4
  rotate_left
  · have q8 := hc8
    go_wp2_with (first | (go_at_call_of 19 (Value.slice A15 4 c15); refine (zr_no A15 4 c15 _ _ HZ4.out HA4).mono ?_; rintro e w2 ⟨rfl, rfl⟩) | (go_at_call_of 19 (Value.slice A16 16 c16); refine (zr_no A16 16 c16 _ _ HZ6.out HA6).mono ?_; rintro e w2 ⟨rfl, rfl⟩))
    exact HR.out _ _ false rfl rfl HB.out (fun h => by cases h)
  have q8 := hc8
  have hc8 := Lib.hid hc8
  by_cases hc9 : p4 < 65536
  rotate_left
  · have q9 := hc9
    go_wp2_with (first | (go_at_call_of 19 (Value.slice A15 4 c15); refine (zr_no A15 4 c15 _ _ HZ4.out HA4).mono ?_; rintro e w2 ⟨rfl, rfl⟩) | (go_at_call_of 19 (Value.slice A16 16 c16); refine (zr_no A16 16 c16 _ _ HZ6.out HA6).mono ?_; rintro e w2 ⟨rfl, rfl⟩))
    exact HR.out _ _ false rfl rfl HB.out (fun h => by cases h)
  have q9 := hc9
  have hc9 := Lib.hid hc9
  by_cases hc10 : 0 < p6
  rotate_left
  · have q10 := hc10
    go_wp2_with (first | (go_at_call_of 19 (Value.slice A15 4 c15); refine (zr_no A15 4 c15 _ _ HZ4.out HA4).mono ?_; rintro e w2 ⟨rfl, rfl⟩) | (go_at_call_of 19 (Value.slice A16 16 c16); refine (zr_no A16 16 c16 _ _ HZ6.out HA6).mono ?_; rintro e w2 ⟨rfl, rfl⟩))
    exact HR.out _ _ false rfl rfl HB.out (fun h => by cases h)
  have q10 := hc10
  have hc10 := Lib.hid hc10
  go_wp2_with (first | (go_at_call_of 19 (Value.slice A15 4 c15); refine (zr_no A15 4 c15 _ _ HZ4.out HA4).mono ?_; rintro e w2 ⟨rfl, rfl⟩) | (go_at_call_of 19 (Value.slice A16 16 c16); refine (zr_no A16 16 c16 _ _ HZ6.out HA6).mono ?_; rintro e w2 ⟨rfl, rfl⟩))
  exact HR.out _ _ (decide (p6 < 65536)) rfl rfl HB.out (fun h => ⟨⟨by first | trivial | rfl, hc3.out⟩, ⟨by first | trivial | rfl, hc4.out⟩, ⟨hc5.out, hc6.out⟩, by first | trivial | rfl, ⟨hc8.out, by have := hc9.out; omega⟩, ⟨hc10.out, by have := of_decide_eq_true h; omega⟩⟩)
theorem res_fi (V : Array Value) (w : World) (x : Value) (hy : V[2]? = some x) : (results Tryd.f12 V).run Tryd.prog w = .ok x w := by
  unfold results
  rw [Tryd.results12]
  simp [hy]
theorem rt_nil {w : World} {t : Tri} {d : List Int} (h : Rt w t d) (hn : t.1 = none) : d = [] := by
  have h1 := h.2.2.2.2 hn
  have h2 := h.2.1
  have h3 := h.2.2.1
  exact List.eq_nil_of_length_eq_zero (by omega)
theorem rt_some {w : World} {t : Tri} {d : List Int} (h : Rt w t d) (hn : 0 < d.length) : t.1 ≠ none := fun e => by rw [rt_nil h e] at hn; simp at hn
set_option maxRecDepth 1000000 in
set_option maxHeartbeats 8000000 in
/-- spec.Fits: where it says yes, the parameters can be written. -/
theorem fits4_wp (Q : QP) (S : SP) (w : World) (hq : Qp w Q S) :
    Calls Tryd.prog 12 #[.agg Q.cells] w fun e w' => ∃ y : Bool, e = .returned (.bool y) ∧ Hid ((y = true → Fq Q S ∧ (Q.v4.1 = none ↔ Q.pid.1 = none)) ∧ Below w.heap.size w w') := by
  have hB1 : Below w.heap.size w (w.alloc (.cells Q.cells 24 (0, 0))) := (Below.refl _ _).alloc (Nat.le_refl _) _
  have hP := heap_alloc_new w (.cells Q.cells 24 (0, 0))
  have hq1 := hq.below hB1
  go_enter Tryd.func12, Tryd.ntmps12
  refine wp_seq_k (fun K hK' => ?_)
  have HK' := Lib.hid hK'
  clear hK'
  go_wp2_with fail
  refine HK'.out _ _ ?_
  clear HK'
  change Code.wp _ _ _ _ (w.alloc (.cells Q.cells 24 (0, 0)))
  obtain ⟨w1, hw1⟩ : ∃ w1, w.alloc (.cells Q.cells 24 (0, 0)) = w1 := ⟨_, rfl⟩
  rw [hw1] at hB1 hP hq1 ⊢
  clear hw1
  have hE : ∀ (a : Act) (w' : World) (y : Bool), a.defers = [] → a.tmps[2]? = some (.bool y) → Below w1.heap.size w1 w' → (y = true → Fq Q S ∧ (Q.v4.1 = none ↔ Q.pid.1 = none)) → bodyPost Tryd.prog Tryd.f12 (fun e w' => ∃ y : Bool, e = .returned (.bool y) ∧ Hid ((y = true → Fq Q S ∧ (Q.v4.1 = none ↔ Q.pid.1 = none)) ∧ Below w.heap.size w w')) .ret a w' := fun a w' y hd ht hb hf =>
    bodyPost_ret (v := .bool y) (res_fi _ _ _ ht) hd ⟨y, rfl, hf, hB1.trans (hb.mono hB1.size)⟩
  have hE0 : FE w1 (bodyPost Tryd.prog Tryd.f12 (fun e w' => ∃ y : Bool, e = .returned (.bool y) ∧ Hid ((y = true → Fq Q S ∧ (Q.v4.1 = none ↔ Q.pid.1 = none)) ∧ Below w.heap.size w w'))) := fun a w' hd ht hb => hE a w' false hd ht hb (fun h => by cases h)
  refine wp_seq ?_
  refine fp1_wp (w1 := w1) (P := w.heap.size) _ ⟨rfl, rfl, rfl⟩ (Below.refl _ _) ((cell_of_row _ _ 0 _ _ (0, 0) hP).trans rfl) ((cell_of_row _ _ 2 _ _ (0, 0) hP).trans rfl) ((cell_of_row _ _ 3 _ _ (0, 0) hP).trans rfl) (fun a2 w2 hf2 hb2 hl => ?_) hE0
  refine wp_seq ?_
  refine fp2_wp (w1 := w1) (P := w.heap.size) _ hf2 hb2 ((cell_of_row _ _ 1 _ _ (0, 0) hP).trans rfl) (fun a3 w3 hf3 hb3 ht => ?_) hE0
  refine wp_seq ?_
  refine fp3_wp (w1 := w1) (P := w.heap.size) _ hf3 hb3 ((cell_of_row _ _ 4 _ _ (0, 0) hP).trans rfl) ((cell_of_row _ _ 5 _ _ (0, 0) hP).trans rfl) ((cell_of_row _ _ 6 _ _ (0, 0) hP).trans rfl) ((cell_of_row _ _ 7 _ _ (0, 0) hP).trans rfl) ((cell_of_row _ _ 8 _ _ (0, 0) hP).trans rfl) ((cell_of_row _ _ 9 _ _ (0, 0) hP).trans rfl) ((cell_of_row _ _ 10 _ _ (0, 0) hP).trans rfl) ((cell_of_row _ _ 11 _ _ (0, 0) hP).trans rfl) ((cell_of_row _ _ 12 _ _ (0, 0) hP).trans rfl) ((cell_of_row _ _ 13 _ _ (0, 0) hP).trans rfl) ((cell_of_row _ _ 21 _ _ (0, 0) hP).trans rfl) (fun a4 w4 hf4 hb4 hx => ?_) hE0
  refine wp_seq ?_
  refine fp4_wp (w1 := w1) (P := w.heap.size) _ hf4 hb4 ((cell_of_row _ _ 4 _ _ (0, 0) hP).trans rfl) ((cell_of_row _ _ 5 _ _ (0, 0) hP).trans rfl) ((cell_of_row _ _ 10 _ _ (0, 0) hP).trans rfl) ((cell_of_row _ _ 11 _ _ (0, 0) hP).trans rfl) ((cell_of_row _ _ 12 _ _ (0, 0) hP).trans rfl) ((cell_of_row _ _ 13 _ _ (0, 0) hP).trans rfl) ((cell_of_row _ _ 21 _ _ (0, 0) hP).trans rfl) (fun a5 w5 hf5 hb5 hr => ?_) hE0
  have l0 := hq.od.2.1
  have l1 := hq.is.2.1
  have l2 := hq.rs.2.1
  have key : ((Q.pid.1 = none ∧ S.v4 = [] ∧ S.v6 = [] ∧ S.pid = [] ∧ S.ptok = [] ∧ S.p4 = 0 ∧ S.p6 = 0) ∨ (Q.pid.1 ≠ none ∧ (S.v4.length = 4 ∧ ¬ zeroB S.v4) ∧ (S.v6.length = 16 ∧ ¬ zeroB S.v6) ∧ (1 ≤ S.pid.length ∧ S.pid.length ≤ 20) ∧ S.ptok.length = 16 ∧ (0 < S.p4 ∧ S.p4 ≤ 65535) ∧ (0 < S.p6 ∧ S.p6 ≤ 65535))) → Fq Q S := fun hp => by
    obtain ⟨x_idle, x_udp, x_data, x_bl, x_br, x_un, x_sb, x_su, x_ae, x_ad, x_act⟩ := hx
    obtain ⟨t0, t1, t2, t3, t4, t5, t6, t7⟩ := hr
    rw [hq.idle] at x_idle
    rw [hq.udp] at x_udp
    rw [hq.data] at x_data
    rw [hq.bl] at x_bl
    rw [hq.br] at x_br
    rw [hq.un] at x_un
    rw [hq.sb] at x_sb
    rw [hq.su] at x_su
    rw [hq.ae] at x_ae
    rw [hq.ad] at x_ad
    rw [hq.act] at x_act
    rw [hq.idle] at t0
    rw [hq.udp] at t1
    rw [hq.udp] at t2
    rw [hq.sb] at t3
    rw [hq.su] at t4
    rw [hq.ae] at t5
    rw [hq.ad] at t6
    rw [hq.act] at t7
    refine ⟨fun e => rt_nil hq.od e, by omega, fun e => rt_nil hq.rt e, fun e => ?_, fun e => rt_nil hq.is e, by omega, fun e => rt_nil hq.rs e, by omega, by omega, by omega, by omega, by omega, by omega, by omega, by omega, by omega, by omega, by omega, by omega, hp⟩
    have h1 := hq.rt.2.1
    have h2 := ht e
    omega
  refine wp_seq ?_
  refine fp5_wp (w1 := w1) (P := w.heap.size) _ hf5 hb5 ((cell_of_row _ _ 15 _ _ (0, 0) hP).trans rfl) ((cell_of_row _ _ 16 _ _ (0, 0) hP).trans rfl) ((cell_of_row _ _ 19 _ _ (0, 0) hP).trans rfl) ((cell_of_row _ _ 20 _ _ (0, 0) hP).trans rfl) ((cell_of_row _ _ 17 _ _ (0, 0) hP).trans rfl) ((cell_of_row _ _ 18 _ _ (0, 0) hP).trans rfl) (fun hne a6 w6 hf6 hb6 => ?_) (fun a w' y hd h2 hb hy => hE a w' y hd h2 hb fun h => ?_)
  · refine fp6_wp (K := fun _ _ => True) (w1 := w1) (P := w.heap.size) (v4 := S.v4) (v6 := S.v6) _ hf6 hb6 ((cell_of_row _ _ 15 _ _ (0, 0) hP).trans rfl) ((cell_of_row _ _ 16 _ _ (0, 0) hP).trans rfl) ((cell_of_row _ _ 19 _ _ (0, 0) hP).trans rfl) ((cell_of_row _ _ 20 _ _ (0, 0) hP).trans rfl) ((cell_of_row _ _ 17 _ _ (0, 0) hP).trans rfl) ((cell_of_row _ _ 18 _ _ (0, 0) hP).trans rfl) hq1.v4 hq1.v6 (fun a w' y hd h2 hb hy => hE a w' y hd h2 hb fun h => ?_)
    obtain ⟨⟨e1, e2⟩, ⟨e3, e4⟩, ⟨e5, e6⟩, e7, e8, e9⟩ := hy h
    have m1 := hq.v4.2.1
    have m2 := hq.v6.2.1
    have m3 := hq.pid.2.1
    have m4 := hq.ptok.2.1
    rw [hq.p4] at e8
    rw [hq.p6] at e9
    have hpn := rt_some hq.pid (by omega)
    exact ⟨key (.inr ⟨hpn, ⟨by omega, e2⟩, ⟨by omega, e4⟩, ⟨by omega, by omega⟩, by omega, e8, e9⟩), ⟨fun e => absurd e hne, fun e => absurd e hpn⟩⟩
  · obtain ⟨e1, e2, e3, e4, e5, e6⟩ := hy h
    rw [hq.p4] at e5
    rw [hq.p6] at e6
    exact ⟨key (.inl ⟨e3, rt_nil hq.v4 e1, rt_nil hq.v6 e2, rt_nil hq.pid e3, rt_nil hq.ptok e4, e5, e6⟩), ⟨fun _ => e3, fun _ => e1⟩⟩
theorem fits_wp (Q : QP) (S : SP) (w : World) (hq : Qp w Q S) :
    Calls Tryd.prog 12 #[.agg Q.cells] w fun e w' => ∃ y : Bool, e = .returned (.bool y) ∧ Hid ((y = true → Fq Q S) ∧ Below w.heap.size w w') := by
  refine (fits4_wp Q S w hq).mono ?_
  rintro e w' ⟨y, rfl, H⟩
  exact ⟨y, rfl, fun h => (H.out.1 h).1, H.out.2⟩
end Go.Proofs.YtdjdcpcomhjnjaaDoor

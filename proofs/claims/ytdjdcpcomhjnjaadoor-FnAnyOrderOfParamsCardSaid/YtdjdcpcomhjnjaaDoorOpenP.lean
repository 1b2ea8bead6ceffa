/- The laws' parameters as they come in. Conditions: none. -/
import Derived.Test.YtdjdcpcomhjnjaaDoorFrame
import Derived.Test.YtdjdcpcomhjnjaaDoorRp
namespace Go.Proofs.YtdjdcpcomhjnjaaDoor
open Go.ChangeShapes Go.WideShapes Go.ChangeAt Go.RowKit
set_option linter.unusedVariables false
theorem sl_open {H : Type} {enc : TypeId × Value → H} {W : World} {fuel : Nat} {c : Value} {x : DataW H × List MemPlace} (hf : DataW.trod enc Tryd.prog W 0 (fun _ => true) true fuel 22 [c] = some x) : ∃ (t : Tri) (d : List Int), c = triV t ∧ Rt W t d := by
  rcases open_ints Tryd.underlying22 Tryd.underlying5 (by kernel_rfl) hf with ⟨hcs, _⟩ | ⟨x, l, k, zs, hcs, _, hl, hm, hz, _, hcell, hwz⟩
  · obtain rfl : c = .slice none 0 0 := by simpa using hcs
    exact ⟨(none, 0, 0), [], rfl, Rt.nil_ W⟩
  · obtain rfl : c = .slice (some x) l k := by simpa using hcs
    have hz' : zs.length = k := by simpa using hz
    have hlen : (zs.take l).length = l := by rw [List.length_take]; omega
    refine ⟨(some x, l, k), zs.take l, rfl, Rd.take ⟨bs_of_wf hwz, fun hp => ?_⟩ l, hlen, hl, by unfold maxLen at hm; simp only; omega, fun e => by cases e⟩
    obtain ⟨b, off, spot⟩ := x
    have hc := hcell 0 hp
    have hspot : spot = none := by simpa [Addr.add] using World.cell?_spot hc
    subst hspot
    exact ⟨b, off, rfl, fun i hi => by have := hcell i hi; rwa [Addr.add_lit] at this⟩
set_option maxRecDepth 100000 in
set_option maxHeartbeats 2000000 in
theorem openedP {H : Type} {enc : TypeId × Value → H} {W : World} {base : Nat} {v : Value} {d : DataW H} {p : List MemPlace}
    (hok : Value.okWide Tryd.prog W .any base 24 v) (h : DataW.Trod enc Tryd.prog W 0 (fun _ => true) true 24 v d p) : ∃ (Q : QP) (S : SP), v = .agg Q.cells ∧ Qp W Q S := by
  obtain ⟨cs, rfl, hsz⟩ := okWide_struct Tryd.underlying24 hok
  have hC : Tryd.prog.cellsOf 24 = 22 := by kernel_rfl
  have hCs : Tryd.prog.cellsOf 22 = 1 := by kernel_rfl
  have hCi : Tryd.prog.cellsOf 2 = 1 := by kernel_rfl
  have hCn : Tryd.prog.cellsOf 3 = 1 := by kernel_rfl
  have hCb : Tryd.prog.cellsOf 4 = 1 := by kernel_rfl
  rw [hC] at hsz
  obtain ⟨l⟩ := cs
  obtain ⟨fuel, hf⟩ := h
  match l, hsz, hf with
  | [c0, c1, c2, c3, c4, c5, c6, c7, c8, c9, c10, c11, c12, c13, c14, c15, c16, c17, c18, c19, c20, c21], _, hf =>
    obtain ⟨xs, m, _, _, _, hn, hel⟩ := DataW.trod_struct (cs := [c0, c1, c2, c3, c4, c5, c6, c7, c8, c9, c10, c11, c12, c13, c14, c15, c16, c17, c18, c19, c20, c21]) Tryd.underlying24 hf
    have hn' : xs.length = 22 := hn
    have e0 : DataW.trod enc Tryd.prog W 0 (fun _ => true) true m 22 [c0] = some (xs[0]'(by omega)) := by
      have h0 := hel 0 _ rfl
      rw [List.getElem?_eq_getElem (by omega)] at h0
      rw [← h0]
      show _ = DataW.trod enc Tryd.prog W 0 (fun _ => true) true m 22 (List.take (Tryd.prog.cellsOf 22) (List.drop 0 [c0, c1, c2, c3, c4, c5, c6, c7, c8, c9, c10, c11, c12, c13, c14, c15, c16, c17, c18, c19, c20, c21]))
      rw [hCs]
      rfl
    have e1 : DataW.trod enc Tryd.prog W 0 (fun _ => true) true m 22 [c1] = some (xs[1]'(by omega)) := by
      have h0 := hel 1 _ rfl
      rw [List.getElem?_eq_getElem (by omega)] at h0
      rw [← h0]
      show _ = DataW.trod enc Tryd.prog W 0 (fun _ => true) true m 22 (List.take (Tryd.prog.cellsOf 22) (List.drop 1 [c0, c1, c2, c3, c4, c5, c6, c7, c8, c9, c10, c11, c12, c13, c14, c15, c16, c17, c18, c19, c20, c21]))
      rw [hCs]
      rfl
    have e2 : DataW.trod enc Tryd.prog W 0 (fun _ => true) true m 22 [c2] = some (xs[2]'(by omega)) := by
      have h0 := hel 2 _ rfl
      rw [List.getElem?_eq_getElem (by omega)] at h0
      rw [← h0]
      show _ = DataW.trod enc Tryd.prog W 0 (fun _ => true) true m 22 (List.take (Tryd.prog.cellsOf 22) (List.drop 2 [c0, c1, c2, c3, c4, c5, c6, c7, c8, c9, c10, c11, c12, c13, c14, c15, c16, c17, c18, c19, c20, c21]))
      rw [hCs]
      rfl
    have e3 : DataW.trod enc Tryd.prog W 0 (fun _ => true) true m 22 [c3] = some (xs[3]'(by omega)) := by
      have h0 := hel 3 _ rfl
      rw [List.getElem?_eq_getElem (by omega)] at h0
      rw [← h0]
      show _ = DataW.trod enc Tryd.prog W 0 (fun _ => true) true m 22 (List.take (Tryd.prog.cellsOf 22) (List.drop 3 [c0, c1, c2, c3, c4, c5, c6, c7, c8, c9, c10, c11, c12, c13, c14, c15, c16, c17, c18, c19, c20, c21]))
      rw [hCs]
      rfl
    have e4 : DataW.trod enc Tryd.prog W 0 (fun _ => true) true m 2 [c4] = some (xs[4]'(by omega)) := by
      have h0 := hel 4 _ rfl
      rw [List.getElem?_eq_getElem (by omega)] at h0
      rw [← h0]
      show _ = DataW.trod enc Tryd.prog W 0 (fun _ => true) true m 2 (List.take (Tryd.prog.cellsOf 2) (List.drop 4 [c0, c1, c2, c3, c4, c5, c6, c7, c8, c9, c10, c11, c12, c13, c14, c15, c16, c17, c18, c19, c20, c21]))
      rw [hCi]
      rfl
    have e5 : DataW.trod enc Tryd.prog W 0 (fun _ => true) true m 2 [c5] = some (xs[5]'(by omega)) := by
      have h0 := hel 5 _ rfl
      rw [List.getElem?_eq_getElem (by omega)] at h0
      rw [← h0]
      show _ = DataW.trod enc Tryd.prog W 0 (fun _ => true) true m 2 (List.take (Tryd.prog.cellsOf 2) (List.drop 5 [c0, c1, c2, c3, c4, c5, c6, c7, c8, c9, c10, c11, c12, c13, c14, c15, c16, c17, c18, c19, c20, c21]))
      rw [hCi]
      rfl
    have e6 : DataW.trod enc Tryd.prog W 0 (fun _ => true) true m 2 [c6] = some (xs[6]'(by omega)) := by
      have h0 := hel 6 _ rfl
      rw [List.getElem?_eq_getElem (by omega)] at h0
      rw [← h0]
      show _ = DataW.trod enc Tryd.prog W 0 (fun _ => true) true m 2 (List.take (Tryd.prog.cellsOf 2) (List.drop 6 [c0, c1, c2, c3, c4, c5, c6, c7, c8, c9, c10, c11, c12, c13, c14, c15, c16, c17, c18, c19, c20, c21]))
      rw [hCi]
      rfl
    have e7 : DataW.trod enc Tryd.prog W 0 (fun _ => true) true m 2 [c7] = some (xs[7]'(by omega)) := by
      have h0 := hel 7 _ rfl
      rw [List.getElem?_eq_getElem (by omega)] at h0
      rw [← h0]
      show _ = DataW.trod enc Tryd.prog W 0 (fun _ => true) true m 2 (List.take (Tryd.prog.cellsOf 2) (List.drop 7 [c0, c1, c2, c3, c4, c5, c6, c7, c8, c9, c10, c11, c12, c13, c14, c15, c16, c17, c18, c19, c20, c21]))
      rw [hCi]
      rfl
    have e8 : DataW.trod enc Tryd.prog W 0 (fun _ => true) true m 2 [c8] = some (xs[8]'(by omega)) := by
      have h0 := hel 8 _ rfl
      rw [List.getElem?_eq_getElem (by omega)] at h0
      rw [← h0]
      show _ = DataW.trod enc Tryd.prog W 0 (fun _ => true) true m 2 (List.take (Tryd.prog.cellsOf 2) (List.drop 8 [c0, c1, c2, c3, c4, c5, c6, c7, c8, c9, c10, c11, c12, c13, c14, c15, c16, c17, c18, c19, c20, c21]))
      rw [hCi]
      rfl
    have e9 : DataW.trod enc Tryd.prog W 0 (fun _ => true) true m 2 [c9] = some (xs[9]'(by omega)) := by
      have h0 := hel 9 _ rfl
      rw [List.getElem?_eq_getElem (by omega)] at h0
      rw [← h0]
      show _ = DataW.trod enc Tryd.prog W 0 (fun _ => true) true m 2 (List.take (Tryd.prog.cellsOf 2) (List.drop 9 [c0, c1, c2, c3, c4, c5, c6, c7, c8, c9, c10, c11, c12, c13, c14, c15, c16, c17, c18, c19, c20, c21]))
      rw [hCi]
      rfl
    have e10 : DataW.trod enc Tryd.prog W 0 (fun _ => true) true m 2 [c10] = some (xs[10]'(by omega)) := by
      have h0 := hel 10 _ rfl
      rw [List.getElem?_eq_getElem (by omega)] at h0
      rw [← h0]
      show _ = DataW.trod enc Tryd.prog W 0 (fun _ => true) true m 2 (List.take (Tryd.prog.cellsOf 2) (List.drop 10 [c0, c1, c2, c3, c4, c5, c6, c7, c8, c9, c10, c11, c12, c13, c14, c15, c16, c17, c18, c19, c20, c21]))
      rw [hCi]
      rfl
    have e11 : DataW.trod enc Tryd.prog W 0 (fun _ => true) true m 2 [c11] = some (xs[11]'(by omega)) := by
      have h0 := hel 11 _ rfl
      rw [List.getElem?_eq_getElem (by omega)] at h0
      rw [← h0]
      show _ = DataW.trod enc Tryd.prog W 0 (fun _ => true) true m 2 (List.take (Tryd.prog.cellsOf 2) (List.drop 11 [c0, c1, c2, c3, c4, c5, c6, c7, c8, c9, c10, c11, c12, c13, c14, c15, c16, c17, c18, c19, c20, c21]))
      rw [hCi]
      rfl
    have e12 : DataW.trod enc Tryd.prog W 0 (fun _ => true) true m 2 [c12] = some (xs[12]'(by omega)) := by
      have h0 := hel 12 _ rfl
      rw [List.getElem?_eq_getElem (by omega)] at h0
      rw [← h0]
      show _ = DataW.trod enc Tryd.prog W 0 (fun _ => true) true m 2 (List.take (Tryd.prog.cellsOf 2) (List.drop 12 [c0, c1, c2, c3, c4, c5, c6, c7, c8, c9, c10, c11, c12, c13, c14, c15, c16, c17, c18, c19, c20, c21]))
      rw [hCi]
      rfl
    have e13 : DataW.trod enc Tryd.prog W 0 (fun _ => true) true m 2 [c13] = some (xs[13]'(by omega)) := by
      have h0 := hel 13 _ rfl
      rw [List.getElem?_eq_getElem (by omega)] at h0
      rw [← h0]
      show _ = DataW.trod enc Tryd.prog W 0 (fun _ => true) true m 2 (List.take (Tryd.prog.cellsOf 2) (List.drop 13 [c0, c1, c2, c3, c4, c5, c6, c7, c8, c9, c10, c11, c12, c13, c14, c15, c16, c17, c18, c19, c20, c21]))
      rw [hCi]
      rfl
    have e14 : DataW.trod enc Tryd.prog W 0 (fun _ => true) true m 4 [c14] = some (xs[14]'(by omega)) := by
      have h0 := hel 14 _ rfl
      rw [List.getElem?_eq_getElem (by omega)] at h0
      rw [← h0]
      show _ = DataW.trod enc Tryd.prog W 0 (fun _ => true) true m 4 (List.take (Tryd.prog.cellsOf 4) (List.drop 14 [c0, c1, c2, c3, c4, c5, c6, c7, c8, c9, c10, c11, c12, c13, c14, c15, c16, c17, c18, c19, c20, c21]))
      rw [hCb]
      rfl
    have e15 : DataW.trod enc Tryd.prog W 0 (fun _ => true) true m 22 [c15] = some (xs[15]'(by omega)) := by
      have h0 := hel 15 _ rfl
      rw [List.getElem?_eq_getElem (by omega)] at h0
      rw [← h0]
      show _ = DataW.trod enc Tryd.prog W 0 (fun _ => true) true m 22 (List.take (Tryd.prog.cellsOf 22) (List.drop 15 [c0, c1, c2, c3, c4, c5, c6, c7, c8, c9, c10, c11, c12, c13, c14, c15, c16, c17, c18, c19, c20, c21]))
      rw [hCs]
      rfl
    have e16 : DataW.trod enc Tryd.prog W 0 (fun _ => true) true m 22 [c16] = some (xs[16]'(by omega)) := by
      have h0 := hel 16 _ rfl
      rw [List.getElem?_eq_getElem (by omega)] at h0
      rw [← h0]
      show _ = DataW.trod enc Tryd.prog W 0 (fun _ => true) true m 22 (List.take (Tryd.prog.cellsOf 22) (List.drop 16 [c0, c1, c2, c3, c4, c5, c6, c7, c8, c9, c10, c11, c12, c13, c14, c15, c16, c17, c18, c19, c20, c21]))
      rw [hCs]
      rfl
    have e17 : DataW.trod enc Tryd.prog W 0 (fun _ => true) true m 3 [c17] = some (xs[17]'(by omega)) := by
      have h0 := hel 17 _ rfl
      rw [List.getElem?_eq_getElem (by omega)] at h0
      rw [← h0]
      show _ = DataW.trod enc Tryd.prog W 0 (fun _ => true) true m 3 (List.take (Tryd.prog.cellsOf 3) (List.drop 17 [c0, c1, c2, c3, c4, c5, c6, c7, c8, c9, c10, c11, c12, c13, c14, c15, c16, c17, c18, c19, c20, c21]))
      rw [hCn]
      rfl
    have e18 : DataW.trod enc Tryd.prog W 0 (fun _ => true) true m 3 [c18] = some (xs[18]'(by omega)) := by
      have h0 := hel 18 _ rfl
      rw [List.getElem?_eq_getElem (by omega)] at h0
      rw [← h0]
      show _ = DataW.trod enc Tryd.prog W 0 (fun _ => true) true m 3 (List.take (Tryd.prog.cellsOf 3) (List.drop 18 [c0, c1, c2, c3, c4, c5, c6, c7, c8, c9, c10, c11, c12, c13, c14, c15, c16, c17, c18, c19, c20, c21]))
      rw [hCn]
      rfl
    have e19 : DataW.trod enc Tryd.prog W 0 (fun _ => true) true m 22 [c19] = some (xs[19]'(by omega)) := by
      have h0 := hel 19 _ rfl
      rw [List.getElem?_eq_getElem (by omega)] at h0
      rw [← h0]
      show _ = DataW.trod enc Tryd.prog W 0 (fun _ => true) true m 22 (List.take (Tryd.prog.cellsOf 22) (List.drop 19 [c0, c1, c2, c3, c4, c5, c6, c7, c8, c9, c10, c11, c12, c13, c14, c15, c16, c17, c18, c19, c20, c21]))
      rw [hCs]
      rfl
    have e20 : DataW.trod enc Tryd.prog W 0 (fun _ => true) true m 22 [c20] = some (xs[20]'(by omega)) := by
      have h0 := hel 20 _ rfl
      rw [List.getElem?_eq_getElem (by omega)] at h0
      rw [← h0]
      show _ = DataW.trod enc Tryd.prog W 0 (fun _ => true) true m 22 (List.take (Tryd.prog.cellsOf 22) (List.drop 20 [c0, c1, c2, c3, c4, c5, c6, c7, c8, c9, c10, c11, c12, c13, c14, c15, c16, c17, c18, c19, c20, c21]))
      rw [hCs]
      rfl
    have e21 : DataW.trod enc Tryd.prog W 0 (fun _ => true) true m 2 [c21] = some (xs[21]'(by omega)) := by
      have h0 := hel 21 _ rfl
      rw [List.getElem?_eq_getElem (by omega)] at h0
      rw [← h0]
      show _ = DataW.trod enc Tryd.prog W 0 (fun _ => true) true m 2 (List.take (Tryd.prog.cellsOf 2) (List.drop 21 [c0, c1, c2, c3, c4, c5, c6, c7, c8, c9, c10, c11, c12, c13, c14, c15, c16, c17, c18, c19, c20, c21]))
      rw [hCi]
      rfl
    obtain ⟨t0, d0, rfl, r0⟩ := sl_open e0
    obtain ⟨t1, d1, rfl, r1⟩ := sl_open e1
    obtain ⟨t2, d2, rfl, r2⟩ := sl_open e2
    obtain ⟨t3, d3, rfl, r3⟩ := sl_open e3
    obtain ⟨b4, g4, _⟩ := DataW.trod_int Tryd.underlying2 e4
    obtain rfl : c4 = .int .i64 b4 := by simpa using g4
    obtain ⟨b5, g5, _⟩ := DataW.trod_int Tryd.underlying2 e5
    obtain rfl : c5 = .int .i64 b5 := by simpa using g5
    obtain ⟨b6, g6, _⟩ := DataW.trod_int Tryd.underlying2 e6
    obtain rfl : c6 = .int .i64 b6 := by simpa using g6
    obtain ⟨b7, g7, _⟩ := DataW.trod_int Tryd.underlying2 e7
    obtain rfl : c7 = .int .i64 b7 := by simpa using g7
    obtain ⟨b8, g8, _⟩ := DataW.trod_int Tryd.underlying2 e8
    obtain rfl : c8 = .int .i64 b8 := by simpa using g8
    obtain ⟨b9, g9, _⟩ := DataW.trod_int Tryd.underlying2 e9
    obtain rfl : c9 = .int .i64 b9 := by simpa using g9
    obtain ⟨b10, g10, _⟩ := DataW.trod_int Tryd.underlying2 e10
    obtain rfl : c10 = .int .i64 b10 := by simpa using g10
    obtain ⟨b11, g11, _⟩ := DataW.trod_int Tryd.underlying2 e11
    obtain rfl : c11 = .int .i64 b11 := by simpa using g11
    obtain ⟨b12, g12, _⟩ := DataW.trod_int Tryd.underlying2 e12
    obtain rfl : c12 = .int .i64 b12 := by simpa using g12
    obtain ⟨b13, g13, _⟩ := DataW.trod_int Tryd.underlying2 e13
    obtain rfl : c13 = .int .i64 b13 := by simpa using g13
    obtain ⟨b14, g14, _⟩ := DataW.trod_bool Tryd.underlying4 e14
    obtain rfl : c14 = .bool b14 := by simpa using g14
    obtain ⟨t15, d15, rfl, r15⟩ := sl_open e15
    obtain ⟨t16, d16, rfl, r16⟩ := sl_open e16
    obtain ⟨b17, g17, _⟩ := DataW.trod_int Tryd.underlying3 e17
    obtain rfl : c17 = .int .i64 b17 := by simpa using g17
    obtain ⟨b18, g18, _⟩ := DataW.trod_int Tryd.underlying3 e18
    obtain rfl : c18 = .int .i64 b18 := by simpa using g18
    obtain ⟨t19, d19, rfl, r19⟩ := sl_open e19
    obtain ⟨t20, d20, rfl, r20⟩ := sl_open e20
    obtain ⟨b21, g21, _⟩ := DataW.trod_int Tryd.underlying2 e21
    obtain rfl : c21 = .int .i64 b21 := by simpa using g21
    exact ⟨⟨t0, t1, t2, t3, b4, b5, b6, b7, b8, b9, b10, b11, b12, b13, b14, t15, t16, b17, b18, t19, t20, b21⟩, ⟨d0, d1, d2, d3, b4, b5, b6, b7, b8, b9, b10, b11, b12, b13, b14, d15, d16, b17, b18, d19, d20, b21⟩, rfl, ⟨r0, r1, r2, r3, rfl, rfl, rfl, rfl, rfl, rfl, rfl, rfl, rfl, rfl, rfl, r15, r16, rfl, rfl, r19, r20, rfl⟩⟩

end Go.Proofs.YtdjdcpcomhjnjaaDoor

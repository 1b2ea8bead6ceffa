/- The reference's reading of parameters: its frame, bytes. Conditions: none. -/
import Derived.Test.YtdjdcpcomhjnjaaDoorSpp
namespace Go.Proofs.YtdjdcpcomhjnjaaDoor
open Go.RowKit
set_option linter.unusedVariables false
set_option linter.unusedSimpArgs false

/-- The frame between the pieces. -/
structure Fg (a : Act) (R P G : Nat) (x0 x5 : Value) (op : Bool) : Prop where
  sz : a.tmps.size = 235
  df : a.defers = []
  t0 : a.tmps[0]? = some x0
  t2 : a.tmps[2]? = some (.pointer (some ⟨R, 0, none⟩))
  t4 : a.tmps[4]? = some (.pointer (some ⟨P, 0, none⟩))
  t5 : a.tmps[5]? = some x5
  t6 : a.tmps[6]? = some (.pointer (some ⟨G, 0, none⟩))
  t7 : a.tmps[7]? = some (.bool op)
structure Fgs (a : Act) (R P G : Nat) (x0 x5 : Value) (op : Bool) (x8 x9 : Value) : Prop where
  fg : Fg a R P G x0 x5 op
  t8 : a.tmps[8]? = some x8
  t9 : a.tmps[9]? = some x9
/-- A return with an error. -/
structure Es (a : Act) (w0 : World) (R : Nat) (w : World) : Prop where
  df : a.defers = []
  t2 : a.tmps[2]? = some (.pointer (some ⟨R, 0, none⟩))
  t3 : a.tmps[3]? = some (.int .i64 1)
  hr : ∃ Z : QP, w.heap[R]? = some (.cells Z.cells 24 (0, 0))
  bel : Below w0.heap.size w0 w
def SK (w w0 : World) (R P G : Nat) (x0 x5 : Value) (Q : QP) (S : SP) (t : Tri) (id : Int) (v : List Int) (op : Bool) (Qx : Exit → Act → World → Prop) : Prop :=
  ∀ (a' : Act) (w' : World) (Q' : QP) (S' : SP) (op' : Bool), Fg a' R P G x0 x5 op' → Us w0 R P w' Q' → (∀ W, Qp W Q S → Rt W t v → Qp W Q' S') → w.grownBy w' (some P) → ((op' = false → op = false ∧ sgood id v ∧ S' = upd S id v) ∧ (op' = true → op = true ∨ ¬ sgood id v)) → Qx .normal a' w' ∧ Qx (.exit 1) a' w'
def SE (w0 : World) (R : Nat) (id : Int) (v : List Int) (Qx : Exit → Act → World → Prop) : Prop := ∀ (a' : Act) (w' : World), Es a' w0 R w' → ¬ iok id v → Qx .ret a' w'
theorem grown_refl (w : World) (P : Nat) : w.grownBy w (some P) := ⟨rfl, rfl, rfl, Nat.le_refl _, fun _ _ _ => rfl⟩
noncomputable def spLoop : Code := cl (cl (cl (cr (cr (cr (cr (cr (Tryd.f7.body.getD .skip))))))))
noncomputable def sp7 : Code := cr (cr (cr (cr (cr (cl (cr spLoop))))))
theorem al_yes (A : Option Addr) (n c : Nat) (v : List Int) (w : World) (hr : Rd w A v) (hn : Hid (v.length = n)) (hnc : n ≤ c) (hc2 : c ≤ 9223372036854775807) (x : Int) (hx : Hid (num v = x)) (ha : Hid (alone v)) :
    Calls Tryd.prog 20 #[.slice A n c] w fun e w' => e = .returned (.tuple #[.int .i64 x, .bool true]) ∧ w' = w :=
  (al_wp A n c v w hr hn hnc hc2).mono fun e w' ⟨y, h1, h2, h3⟩ => by
    obtain rfl := h2.out.2 ha.out
    exact ⟨by rw [h1, hx.out], h3⟩
theorem al_no (A : Option Addr) (n c : Nat) (v : List Int) (w : World) (hr : Rd w A v) (hn : Hid (v.length = n)) (hnc : n ≤ c) (hc2 : c ≤ 9223372036854775807) (x : Int) (hx : Hid (num v = x)) (ha : Hid (¬ alone v)) :
    Calls Tryd.prog 20 #[.slice A n c] w fun e w' => e = .returned (.tuple #[.int .i64 x, .bool false]) ∧ w' = w :=
  (al_wp A n c v w hr hn hnc hc2).mono fun e w' ⟨y, h1, h2, h3⟩ => by
    cases y
    · exact ⟨by rw [h1, hx.out], h3⟩
    · exact absurd (h2.out.1 rfl) ha.out
set_option maxRecDepth 100000 in
theorem lit235 {a : Act} {R P G : Nat} {x0 x5 : Value} {op : Bool} (hs : a.tmps.size = 235) (hd : a.defers = []) (h0 : a.tmps[0]? = some (x0)) (h2 : a.tmps[2]? = some (.pointer (some ⟨R, 0, none⟩))) (h4 : a.tmps[4]? = some (.pointer (some ⟨P, 0, none⟩))) (h5 : a.tmps[5]? = some (x5)) (h6 : a.tmps[6]? = some (.pointer (some ⟨G, 0, none⟩))) (h7 : a.tmps[7]? = some (.bool op)) : ∃ f : Nat → Value, a = ⟨#[x0, f 1, .pointer (some ⟨R, 0, none⟩), f 3, .pointer (some ⟨P, 0, none⟩), x5, .pointer (some ⟨G, 0, none⟩), .bool op, f 8, f 9, f 10, f 11, f 12, f 13, f 14, f 15, f 16, f 17, f 18, f 19, f 20, f 21, f 22, f 23, f 24, f 25, f 26, f 27, f 28, f 29, f 30, f 31, f 32, f 33, f 34, f 35, f 36, f 37, f 38, f 39, f 40, f 41, f 42, f 43, f 44, f 45, f 46, f 47, f 48, f 49, f 50, f 51, f 52, f 53, f 54, f 55, f 56, f 57, f 58, f 59, f 60, f 61, f 62, f 63, f 64, f 65, f 66, f 67, f 68, f 69, f 70, f 71, f 72, f 73, f 74, f 75, f 76, f 77, f 78, f 79, f 80, f 81, f 82, f 83, f 84, f 85, f 86, f 87, f 88, f 89, f 90, f 91, f 92, f 93, f 94, f 95, f 96, f 97, f 98, f 99, f 100, f 101, f 102, f 103, f 104, f 105, f 106, f 107, f 108, f 109, f 110, f 111, f 112, f 113, f 114, f 115, f 116, f 117, f 118, f 119, f 120, f 121, f 122, f 123, f 124, f 125, f 126, f 127, f 128, f 129, f 130, f 131, f 132, f 133, f 134, f 135, f 136, f 137, f 138, f 139, f 140, f 141, f 142, f 143, f 144, f 145, f 146, f 147, f 148, f 149, f 150, f 151, f 152, f 153, f 154, f 155, f 156, f 157, f 158, f 159, f 160, f 161, f 162, f 163, f 164, f 165, f 166, f 167, f 168, f 169, f 170, f 171, f 172, f 173, f 174, f 175, f 176, f 177, f 178, f 179, f 180, f 181, f 182, f 183, f 184, f 185, f 186, f 187, f 188, f 189, f 190, f 191, f 192, f 193, f 194, f 195, f 196, f 197, f 198, f 199, f 200, f 201, f 202, f 203, f 204, f 205, f 206, f 207, f 208, f 209, f 210, f 211, f 212, f 213, f 214, f 215, f 216, f 217, f 218, f 219, f 220, f 221, f 222, f 223, f 224, f 225, f 226, f 227, f 228, f 229, f 230, f 231, f 232, f 233, f 234], []⟩ := by
  obtain ⟨f, hf, e⟩ := lit_ofN 235 a hs hd
  have e0 := (hf 0 (by decide)).symm.trans h0
  have e2 := (hf 2 (by decide)).symm.trans h2
  have e4 := (hf 4 (by decide)).symm.trans h4
  have e5 := (hf 5 (by decide)).symm.trans h5
  have e6 := (hf 6 (by decide)).symm.trans h6
  have e7 := (hf 7 (by decide)).symm.trans h7
  simp only [Option.some.injEq] at e0 e2 e4 e5 e6 e7
  refine ⟨f, ?_⟩
  have hl : ((List.range 235).map f).toArray = #[f 0, f 1, f 2, f 3, f 4, f 5, f 6, f 7, f 8, f 9, f 10, f 11, f 12, f 13, f 14, f 15, f 16, f 17, f 18, f 19, f 20, f 21, f 22, f 23, f 24, f 25, f 26, f 27, f 28, f 29, f 30, f 31, f 32, f 33, f 34, f 35, f 36, f 37, f 38, f 39, f 40, f 41, f 42, f 43, f 44, f 45, f 46, f 47, f 48, f 49, f 50, f 51, f 52, f 53, f 54, f 55, f 56, f 57, f 58, f 59, f 60, f 61, f 62, f 63, f 64, f 65, f 66, f 67, f 68, f 69, f 70, f 71, f 72, f 73, f 74, f 75, f 76, f 77, f 78, f 79, f 80, f 81, f 82, f 83, f 84, f 85, f 86, f 87, f 88, f 89, f 90, f 91, f 92, f 93, f 94, f 95, f 96, f 97, f 98, f 99, f 100, f 101, f 102, f 103, f 104, f 105, f 106, f 107, f 108, f 109, f 110, f 111, f 112, f 113, f 114, f 115, f 116, f 117, f 118, f 119, f 120, f 121, f 122, f 123, f 124, f 125, f 126, f 127, f 128, f 129, f 130, f 131, f 132, f 133, f 134, f 135, f 136, f 137, f 138, f 139, f 140, f 141, f 142, f 143, f 144, f 145, f 146, f 147, f 148, f 149, f 150, f 151, f 152, f 153, f 154, f 155, f 156, f 157, f 158, f 159, f 160, f 161, f 162, f 163, f 164, f 165, f 166, f 167, f 168, f 169, f 170, f 171, f 172, f 173, f 174, f 175, f 176, f 177, f 178, f 179, f 180, f 181, f 182, f 183, f 184, f 185, f 186, f 187, f 188, f 189, f 190, f 191, f 192, f 193, f 194, f 195, f 196, f 197, f 198, f 199, f 200, f 201, f 202, f 203, f 204, f 205, f 206, f 207, f 208, f 209, f 210, f 211, f 212, f 213, f 214, f 215, f 216, f 217, f 218, f 219, f 220, f 221, f 222, f 223, f 224, f 225, f 226, f 227, f 228, f 229, f 230, f 231, f 232, f 233, f 234] := by kernel_rfl
  rw [e, hl, e0, e2, e4, e5, e6, e7]
theorem Fg.lit {a : Act} {R P G : Nat} {x0 x5 : Value} {op : Bool} (h : Fg a R P G x0 x5 op) : ∃ f : Nat → Value, a = ⟨#[x0, f 1, .pointer (some ⟨R, 0, none⟩), f 3, .pointer (some ⟨P, 0, none⟩), x5, .pointer (some ⟨G, 0, none⟩), .bool op, f 8, f 9, f 10, f 11, f 12, f 13, f 14, f 15, f 16, f 17, f 18, f 19, f 20, f 21, f 22, f 23, f 24, f 25, f 26, f 27, f 28, f 29, f 30, f 31, f 32, f 33, f 34, f 35, f 36, f 37, f 38, f 39, f 40, f 41, f 42, f 43, f 44, f 45, f 46, f 47, f 48, f 49, f 50, f 51, f 52, f 53, f 54, f 55, f 56, f 57, f 58, f 59, f 60, f 61, f 62, f 63, f 64, f 65, f 66, f 67, f 68, f 69, f 70, f 71, f 72, f 73, f 74, f 75, f 76, f 77, f 78, f 79, f 80, f 81, f 82, f 83, f 84, f 85, f 86, f 87, f 88, f 89, f 90, f 91, f 92, f 93, f 94, f 95, f 96, f 97, f 98, f 99, f 100, f 101, f 102, f 103, f 104, f 105, f 106, f 107, f 108, f 109, f 110, f 111, f 112, f 113, f 114, f 115, f 116, f 117, f 118, f 119, f 120, f 121, f 122, f 123, f 124, f 125, f 126, f 127, f 128, f 129, f 130, f 131, f 132, f 133, f 134, f 135, f 136, f 137, f 138, f 139, f 140, f 141, f 142, f 143, f 144, f 145, f 146, f 147, f 148, f 149, f 150, f 151, f 152, f 153, f 154, f 155, f 156, f 157, f 158, f 159, f 160, f 161, f 162, f 163, f 164, f 165, f 166, f 167, f 168, f 169, f 170, f 171, f 172, f 173, f 174, f 175, f 176, f 177, f 178, f 179, f 180, f 181, f 182, f 183, f 184, f 185, f 186, f 187, f 188, f 189, f 190, f 191, f 192, f 193, f 194, f 195, f 196, f 197, f 198, f 199, f 200, f 201, f 202, f 203, f 204, f 205, f 206, f 207, f 208, f 209, f 210, f 211, f 212, f 213, f 214, f 215, f 216, f 217, f 218, f 219, f 220, f 221, f 222, f 223, f 224, f 225, f 226, f 227, f 228, f 229, f 230, f 231, f 232, f 233, f 234], []⟩ := lit235 h.sz h.df h.t0 h.t2 h.t4 h.t5 h.t6 h.t7
set_option maxRecDepth 100000 in
theorem lit235s {a : Act} {R P G : Nat} {x0 x5 x8 x9 : Value} {op : Bool} (hs : a.tmps.size = 235) (hd : a.defers = []) (h0 : a.tmps[0]? = some (x0)) (h2 : a.tmps[2]? = some (.pointer (some ⟨R, 0, none⟩))) (h4 : a.tmps[4]? = some (.pointer (some ⟨P, 0, none⟩))) (h5 : a.tmps[5]? = some (x5)) (h6 : a.tmps[6]? = some (.pointer (some ⟨G, 0, none⟩))) (h7 : a.tmps[7]? = some (.bool op)) (h8 : a.tmps[8]? = some (x8)) (h9 : a.tmps[9]? = some (x9)) : ∃ f : Nat → Value, a = ⟨#[x0, f 1, .pointer (some ⟨R, 0, none⟩), f 3, .pointer (some ⟨P, 0, none⟩), x5, .pointer (some ⟨G, 0, none⟩), .bool op, x8, x9, f 10, f 11, f 12, f 13, f 14, f 15, f 16, f 17, f 18, f 19, f 20, f 21, f 22, f 23, f 24, f 25, f 26, f 27, f 28, f 29, f 30, f 31, f 32, f 33, f 34, f 35, f 36, f 37, f 38, f 39, f 40, f 41, f 42, f 43, f 44, f 45, f 46, f 47, f 48, f 49, f 50, f 51, f 52, f 53, f 54, f 55, f 56, f 57, f 58, f 59, f 60, f 61, f 62, f 63, f 64, f 65, f 66, f 67, f 68, f 69, f 70, f 71, f 72, f 73, f 74, f 75, f 76, f 77, f 78, f 79, f 80, f 81, f 82, f 83, f 84, f 85, f 86, f 87, f 88, f 89, f 90, f 91, f 92, f 93, f 94, f 95, f 96, f 97, f 98, f 99, f 100, f 101, f 102, f 103, f 104, f 105, f 106, f 107, f 108, f 109, f 110, f 111, f 112, f 113, f 114, f 115, f 116, f 117, f 118, f 119, f 120, f 121, f 122, f 123, f 124, f 125, f 126, f 127, f 128, f 129, f 130, f 131, f 132, f 133, f 134, f 135, f 136, f 137, f 138, f 139, f 140, f 141, f 142, f 143, f 144, f 145, f 146, f 147, f 148, f 149, f 150, f 151, f 152, f 153, f 154, f 155, f 156, f 157, f 158, f 159, f 160, f 161, f 162, f 163, f 164, f 165, f 166, f 167, f 168, f 169, f 170, f 171, f 172, f 173, f 174, f 175, f 176, f 177, f 178, f 179, f 180, f 181, f 182, f 183, f 184, f 185, f 186, f 187, f 188, f 189, f 190, f 191, f 192, f 193, f 194, f 195, f 196, f 197, f 198, f 199, f 200, f 201, f 202, f 203, f 204, f 205, f 206, f 207, f 208, f 209, f 210, f 211, f 212, f 213, f 214, f 215, f 216, f 217, f 218, f 219, f 220, f 221, f 222, f 223, f 224, f 225, f 226, f 227, f 228, f 229, f 230, f 231, f 232, f 233, f 234], []⟩ := by
  obtain ⟨f, hf, e⟩ := lit_ofN 235 a hs hd
  have e0 := (hf 0 (by decide)).symm.trans h0
  have e2 := (hf 2 (by decide)).symm.trans h2
  have e4 := (hf 4 (by decide)).symm.trans h4
  have e5 := (hf 5 (by decide)).symm.trans h5
  have e6 := (hf 6 (by decide)).symm.trans h6
  have e7 := (hf 7 (by decide)).symm.trans h7
  have e8 := (hf 8 (by decide)).symm.trans h8
  have e9 := (hf 9 (by decide)).symm.trans h9
  simp only [Option.some.injEq] at e0 e2 e4 e5 e6 e7 e8 e9
  refine ⟨f, ?_⟩
  have hl : ((List.range 235).map f).toArray = #[f 0, f 1, f 2, f 3, f 4, f 5, f 6, f 7, f 8, f 9, f 10, f 11, f 12, f 13, f 14, f 15, f 16, f 17, f 18, f 19, f 20, f 21, f 22, f 23, f 24, f 25, f 26, f 27, f 28, f 29, f 30, f 31, f 32, f 33, f 34, f 35, f 36, f 37, f 38, f 39, f 40, f 41, f 42, f 43, f 44, f 45, f 46, f 47, f 48, f 49, f 50, f 51, f 52, f 53, f 54, f 55, f 56, f 57, f 58, f 59, f 60, f 61, f 62, f 63, f 64, f 65, f 66, f 67, f 68, f 69, f 70, f 71, f 72, f 73, f 74, f 75, f 76, f 77, f 78, f 79, f 80, f 81, f 82, f 83, f 84, f 85, f 86, f 87, f 88, f 89, f 90, f 91, f 92, f 93, f 94, f 95, f 96, f 97, f 98, f 99, f 100, f 101, f 102, f 103, f 104, f 105, f 106, f 107, f 108, f 109, f 110, f 111, f 112, f 113, f 114, f 115, f 116, f 117, f 118, f 119, f 120, f 121, f 122, f 123, f 124, f 125, f 126, f 127, f 128, f 129, f 130, f 131, f 132, f 133, f 134, f 135, f 136, f 137, f 138, f 139, f 140, f 141, f 142, f 143, f 144, f 145, f 146, f 147, f 148, f 149, f 150, f 151, f 152, f 153, f 154, f 155, f 156, f 157, f 158, f 159, f 160, f 161, f 162, f 163, f 164, f 165, f 166, f 167, f 168, f 169, f 170, f 171, f 172, f 173, f 174, f 175, f 176, f 177, f 178, f 179, f 180, f 181, f 182, f 183, f 184, f 185, f 186, f 187, f 188, f 189, f 190, f 191, f 192, f 193, f 194, f 195, f 196, f 197, f 198, f 199, f 200, f 201, f 202, f 203, f 204, f 205, f 206, f 207, f 208, f 209, f 210, f 211, f 212, f 213, f 214, f 215, f 216, f 217, f 218, f 219, f 220, f 221, f 222, f 223, f 224, f 225, f 226, f 227, f 228, f 229, f 230, f 231, f 232, f 233, f 234] := by kernel_rfl
  rw [e, hl, e0, e2, e4, e5, e6, e7, e8, e9]
theorem Fgs.lit {a : Act} {R P G : Nat} {x0 x5 x8 x9 : Value} {op : Bool} (h : Fgs a R P G x0 x5 op x8 x9) : ∃ f : Nat → Value, a = ⟨#[x0, f 1, .pointer (some ⟨R, 0, none⟩), f 3, .pointer (some ⟨P, 0, none⟩), x5, .pointer (some ⟨G, 0, none⟩), .bool op, x8, x9, f 10, f 11, f 12, f 13, f 14, f 15, f 16, f 17, f 18, f 19, f 20, f 21, f 22, f 23, f 24, f 25, f 26, f 27, f 28, f 29, f 30, f 31, f 32, f 33, f 34, f 35, f 36, f 37, f 38, f 39, f 40, f 41, f 42, f 43, f 44, f 45, f 46, f 47, f 48, f 49, f 50, f 51, f 52, f 53, f 54, f 55, f 56, f 57, f 58, f 59, f 60, f 61, f 62, f 63, f 64, f 65, f 66, f 67, f 68, f 69, f 70, f 71, f 72, f 73, f 74, f 75, f 76, f 77, f 78, f 79, f 80, f 81, f 82, f 83, f 84, f 85, f 86, f 87, f 88, f 89, f 90, f 91, f 92, f 93, f 94, f 95, f 96, f 97, f 98, f 99, f 100, f 101, f 102, f 103, f 104, f 105, f 106, f 107, f 108, f 109, f 110, f 111, f 112, f 113, f 114, f 115, f 116, f 117, f 118, f 119, f 120, f 121, f 122, f 123, f 124, f 125, f 126, f 127, f 128, f 129, f 130, f 131, f 132, f 133, f 134, f 135, f 136, f 137, f 138, f 139, f 140, f 141, f 142, f 143, f 144, f 145, f 146, f 147, f 148, f 149, f 150, f 151, f 152, f 153, f 154, f 155, f 156, f 157, f 158, f 159, f 160, f 161, f 162, f 163, f 164, f 165, f 166, f 167, f 168, f 169, f 170, f 171, f 172, f 173, f 174, f 175, f 176, f 177, f 178, f 179, f 180, f 181, f 182, f 183, f 184, f 185, f 186, f 187, f 188, f 189, f 190, f 191, f 192, f 193, f 194, f 195, f 196, f 197, f 198, f 199, f 200, f 201, f 202, f 203, f 204, f 205, f 206, f 207, f 208, f 209, f 210, f 211, f 212, f 213, f 214, f 215, f 216, f 217, f 218, f 219, f 220, f 221, f 222, f 223, f 224, f 225, f 226, f 227, f 228, f 229, f 230, f 231, f 232, f 233, f 234], []⟩ := lit235s h.fg.sz h.fg.df h.fg.t0 h.fg.t2 h.fg.t4 h.fg.t5 h.fg.t6 h.fg.t7 h.t8 h.t9
set_option maxRecDepth 1000000 in
set_option maxHeartbeats 8000000 in
theorem sp_c0 {w0 w : World} {R P G : Nat} {Q : QP} {S : SP} {x0 x5 : Value} {A : Option Addr} {n c : Nat} {v : List Int} {op : Bool} (a : Act) (hf : Fgs a R P G x0 x5 op (.int .u64 0) (.slice A n c)) (hu : Us w0 R P w Q) (hq : Qp w Q S) (hv : Rt w (A, n, c) v)
    {Qx : Exit → Act → World → Prop} (hK : SK w w0 R P G x0 x5 Q S (A, n, c) 0 v op Qx) (hE : SE w0 R 0 v Qx) :
    Code.wp Tryd.prog sp7 Qx a w := by
  have HU := Lib.hid hu
  have HQ := Lib.hid hq
  have HK := Lib.hid hK
  have HE := Lib.hid hE
  have HR : Hid (Rd w A v) := hv.1
  have hn : Hid (v.length = n) := hv.2.1
  have hnc : n ≤ c := hv.2.2.1
  have hc2 : c ≤ 9223372036854775807 := hv.2.2.2.1
  have u0 := hu.cell 0 _ rfl
  have f0 := hu.free 0
  have HV := Lib.hid hv
  have hb0 := num_bds hv.1.1
  obtain ⟨x, hx⟩ : ∃ x, Hid (num v = x) := ⟨_, Lib.hid rfl⟩
  rw [hx.out] at hb0
  obtain ⟨hb0, hb1⟩ := hb0
  clear hu hq hv hK hE
  obtain ⟨f, rfl⟩ := hf.lit
  clear hf
  conv => arg 2; whnf
  have HU1 := Lib.hid (HU.out.set (Q' := { Q with od := (A, n, c) }) 0 (triV (A, n, c)) rfl)
  have HQ1 : Hid (∀ W, Qp W Q S → Rt W (A, n, c) v → Qp W { Q with od := (A, n, c) } (upd S 0 v)) := Lib.hid fun W h1 h2 => by
    rw [show upd S 0 v = { S with od := v } from rfl]
    exact { h1 with od := h2 }
  have hg := Lib.hid (grownBy_set w P 0 (triV (A, n, c)))
  have hik : iok 0 v := ⟨fun h => by omega, fun h => by omega, fun h => by omega, fun h => absurd h (by unfold isNum; omega)⟩
  have HI := Lib.hid hik
  clear hik
  by_cases hl : n ≤ 20
  · have hgd : sgood 0 v := ⟨HI.out, fun _ => by rw [hn.out]; exact hl, fun h => by omega, fun h => by omega, fun h => by omega⟩
    have HGd := Lib.hid hgd
    have hli : ¬ (20 : Int) < (n : Int) := by omega
    clear hgd
    cases op
    · go_wp2_with fail
      exact (HK.out _ _ _ _ _ ⟨rfl, rfl, rfl, rfl, rfl, rfl, rfl, rfl⟩ HU1.out HQ1.out hg.out ⟨fun _ => ⟨rfl, HGd.out, rfl⟩, fun h => by cases h⟩).2
    · go_wp2_with fail
      exact (HK.out _ _ _ _ _ ⟨rfl, rfl, rfl, rfl, rfl, rfl, rfl, rfl⟩ HU1.out HQ1.out hg.out ⟨fun h => (by cases h), fun _ => .inl rfl⟩).2
  · have hgd : ¬ sgood 0 v := fun h => hl (by have := h.2.1 (by omega); rw [hn.out] at this; exact this)
    have HGd := Lib.hid hgd
    have hli : (20 : Int) < (n : Int) := by omega
    clear hgd
    cases op
    all_goals
      go_wp2_with fail
      exact (HK.out _ _ _ _ _ ⟨rfl, rfl, rfl, rfl, rfl, rfl, rfl, rfl⟩ HU1.out HQ1.out hg.out ⟨fun h => (by cases h), fun _ => .inr HGd.out⟩).2
set_option maxRecDepth 1000000 in
set_option maxHeartbeats 8000000 in
theorem sp_c15 {w0 w : World} {R P G : Nat} {Q : QP} {S : SP} {x0 x5 : Value} {A : Option Addr} {n c : Nat} {v : List Int} {op : Bool} (a : Act) (hf : Fgs a R P G x0 x5 op (.int .u64 15) (.slice A n c)) (hu : Us w0 R P w Q) (hq : Qp w Q S) (hv : Rt w (A, n, c) v)
    {Qx : Exit → Act → World → Prop} (hK : SK w w0 R P G x0 x5 Q S (A, n, c) 15 v op Qx) (hE : SE w0 R 15 v Qx) :
    Code.wp Tryd.prog sp7 Qx a w := by
  have HU := Lib.hid hu
  have HQ := Lib.hid hq
  have HK := Lib.hid hK
  have HE := Lib.hid hE
  have HR : Hid (Rd w A v) := hv.1
  have hn : Hid (v.length = n) := hv.2.1
  have hnc : n ≤ c := hv.2.2.1
  have hc2 : c ≤ 9223372036854775807 := hv.2.2.2.1
  have u2 := hu.cell 2 _ rfl
  have f2 := hu.free 2
  have HV := Lib.hid hv
  have hb0 := num_bds hv.1.1
  obtain ⟨x, hx⟩ : ∃ x, Hid (num v = x) := ⟨_, Lib.hid rfl⟩
  rw [hx.out] at hb0
  obtain ⟨hb0, hb1⟩ := hb0
  clear hu hq hv hK hE
  obtain ⟨f, rfl⟩ := hf.lit
  clear hf
  conv => arg 2; whnf
  have HU1 := Lib.hid (HU.out.set (Q' := { Q with is := (A, n, c) }) 2 (triV (A, n, c)) rfl)
  have HQ1 : Hid (∀ W, Qp W Q S → Rt W (A, n, c) v → Qp W { Q with is := (A, n, c) } (upd S 15 v)) := Lib.hid fun W h1 h2 => by
    rw [show upd S 15 v = { S with is := v } from rfl]
    exact { h1 with is := h2 }
  have hg := Lib.hid (grownBy_set w P 2 (triV (A, n, c)))
  have hik : iok 15 v := ⟨fun h => by omega, fun h => by omega, fun h => by omega, fun h => absurd h (by unfold isNum; omega)⟩
  have HI := Lib.hid hik
  clear hik
  by_cases hl : n ≤ 20
  · have hgd : sgood 15 v := ⟨HI.out, fun _ => by rw [hn.out]; exact hl, fun h => by omega, fun h => by omega, fun h => by omega⟩
    have HGd := Lib.hid hgd
    have hli : ¬ (20 : Int) < (n : Int) := by omega
    clear hgd
    cases op
    · go_wp2_with fail
      exact (HK.out _ _ _ _ _ ⟨rfl, rfl, rfl, rfl, rfl, rfl, rfl, rfl⟩ HU1.out HQ1.out hg.out ⟨fun _ => ⟨rfl, HGd.out, rfl⟩, fun h => by cases h⟩).2
    · go_wp2_with fail
      exact (HK.out _ _ _ _ _ ⟨rfl, rfl, rfl, rfl, rfl, rfl, rfl, rfl⟩ HU1.out HQ1.out hg.out ⟨fun h => (by cases h), fun _ => .inl rfl⟩).2
  · have hgd : ¬ sgood 15 v := fun h => hl (by have := h.2.1 (by omega); rw [hn.out] at this; exact this)
    have HGd := Lib.hid hgd
    have hli : (20 : Int) < (n : Int) := by omega
    clear hgd
    cases op
    all_goals
      go_wp2_with fail
      exact (HK.out _ _ _ _ _ ⟨rfl, rfl, rfl, rfl, rfl, rfl, rfl, rfl⟩ HU1.out HQ1.out hg.out ⟨fun h => (by cases h), fun _ => .inr HGd.out⟩).2
set_option maxRecDepth 1000000 in
set_option maxHeartbeats 8000000 in
theorem sp_c16 {w0 w : World} {R P G : Nat} {Q : QP} {S : SP} {x0 x5 : Value} {A : Option Addr} {n c : Nat} {v : List Int} {op : Bool} (a : Act) (hf : Fgs a R P G x0 x5 op (.int .u64 16) (.slice A n c)) (hu : Us w0 R P w Q) (hq : Qp w Q S) (hv : Rt w (A, n, c) v)
    {Qx : Exit → Act → World → Prop} (hK : SK w w0 R P G x0 x5 Q S (A, n, c) 16 v op Qx) (hE : SE w0 R 16 v Qx) :
    Code.wp Tryd.prog sp7 Qx a w := by
  have HU := Lib.hid hu
  have HQ := Lib.hid hq
  have HK := Lib.hid hK
  have HE := Lib.hid hE
  have HR : Hid (Rd w A v) := hv.1
  have hn : Hid (v.length = n) := hv.2.1
  have hnc : n ≤ c := hv.2.2.1
  have hc2 : c ≤ 9223372036854775807 := hv.2.2.2.1
  have u3 := hu.cell 3 _ rfl
  have f3 := hu.free 3
  have HV := Lib.hid hv
  have hb0 := num_bds hv.1.1
  obtain ⟨x, hx⟩ : ∃ x, Hid (num v = x) := ⟨_, Lib.hid rfl⟩
  rw [hx.out] at hb0
  obtain ⟨hb0, hb1⟩ := hb0
  clear hu hq hv hK hE
  obtain ⟨f, rfl⟩ := hf.lit
  clear hf
  conv => arg 2; whnf
  have HU1 := Lib.hid (HU.out.set (Q' := { Q with rs := (A, n, c) }) 3 (triV (A, n, c)) rfl)
  have HQ1 : Hid (∀ W, Qp W Q S → Rt W (A, n, c) v → Qp W { Q with rs := (A, n, c) } (upd S 16 v)) := Lib.hid fun W h1 h2 => by
    rw [show upd S 16 v = { S with rs := v } from rfl]
    exact { h1 with rs := h2 }
  have hg := Lib.hid (grownBy_set w P 3 (triV (A, n, c)))
  have hik : iok 16 v := ⟨fun h => by omega, fun h => by omega, fun h => by omega, fun h => absurd h (by unfold isNum; omega)⟩
  have HI := Lib.hid hik
  clear hik
  by_cases hl : n ≤ 20
  · have hgd : sgood 16 v := ⟨HI.out, fun _ => by rw [hn.out]; exact hl, fun h => by omega, fun h => by omega, fun h => by omega⟩
    have HGd := Lib.hid hgd
    have hli : ¬ (20 : Int) < (n : Int) := by omega
    clear hgd
    cases op
    · go_wp2_with fail
      exact (HK.out _ _ _ _ _ ⟨rfl, rfl, rfl, rfl, rfl, rfl, rfl, rfl⟩ HU1.out HQ1.out hg.out ⟨fun _ => ⟨rfl, HGd.out, rfl⟩, fun h => by cases h⟩).2
    · go_wp2_with fail
      exact (HK.out _ _ _ _ _ ⟨rfl, rfl, rfl, rfl, rfl, rfl, rfl, rfl⟩ HU1.out HQ1.out hg.out ⟨fun h => (by cases h), fun _ => .inl rfl⟩).2
  · have hgd : ¬ sgood 16 v := fun h => hl (by have := h.2.1 (by omega); rw [hn.out] at this; exact this)
    have HGd := Lib.hid hgd
    have hli : (20 : Int) < (n : Int) := by omega
    clear hgd
    cases op
    all_goals
      go_wp2_with fail
      exact (HK.out _ _ _ _ _ ⟨rfl, rfl, rfl, rfl, rfl, rfl, rfl, rfl⟩ HU1.out HQ1.out hg.out ⟨fun h => (by cases h), fun _ => .inr HGd.out⟩).2
set_option maxRecDepth 1000000 in
set_option maxHeartbeats 8000000 in
theorem sp_c2 {w0 w : World} {R P G : Nat} {Q : QP} {S : SP} {x0 x5 : Value} {A : Option Addr} {n c : Nat} {v : List Int} {op : Bool} (a : Act) (hf : Fgs a R P G x0 x5 op (.int .u64 2) (.slice A n c)) (hu : Us w0 R P w Q) (hq : Qp w Q S) (hv : Rt w (A, n, c) v)
    {Qx : Exit → Act → World → Prop} (hK : SK w w0 R P G x0 x5 Q S (A, n, c) 2 v op Qx) (hE : SE w0 R 2 v Qx) :
    Code.wp Tryd.prog sp7 Qx a w := by
  have HU := Lib.hid hu
  have HQ := Lib.hid hq
  have HK := Lib.hid hK
  have HE := Lib.hid hE
  have HR : Hid (Rd w A v) := hv.1
  have hn : Hid (v.length = n) := hv.2.1
  have hnc : n ≤ c := hv.2.2.1
  have hc2 : c ≤ 9223372036854775807 := hv.2.2.2.1
  have u1 := hu.cell 1 _ rfl
  have f1 := hu.free 1
  have HV := Lib.hid hv
  have hb0 := num_bds hv.1.1
  obtain ⟨x, hx⟩ : ∃ x, Hid (num v = x) := ⟨_, Lib.hid rfl⟩
  rw [hx.out] at hb0
  obtain ⟨hb0, hb1⟩ := hb0
  clear hu hq hv hK hE
  obtain ⟨f, rfl⟩ := hf.lit
  clear hf
  conv => arg 2; whnf
  by_cases hl : n = 16
  · have HU1 := Lib.hid (HU.out.set (Q' := { Q with rt := (A, n, c) }) 1 (triV (A, n, c)) rfl)
    have HQ1 : Hid (∀ W, Qp W Q S → Rt W (A, n, c) v → Qp W { Q with rt := (A, n, c) } (upd S 2 v)) := Lib.hid fun W h1 h2 => by
      rw [show upd S 2 v = { S with rt := v } from rfl]
      exact { h1 with rt := h2 }
    have hg := Lib.hid (grownBy_set w P 1 (triV (A, n, c)))
    have HGd : Hid (sgood 2 v) := ⟨⟨fun _ => by rw [hn.out]; exact hl, fun h => by omega, fun h => by omega, fun h => absurd h (by unfold isNum; omega)⟩, fun h => by omega, fun h => by omega, fun h => by omega, fun h => by omega⟩
    have hli : ((n : Int) == 16) = true := by rw [beq_iff_eq]; omega
    clear hl
    go_wp2_with fail
    exact (HK.out _ _ _ _ _ ⟨rfl, rfl, rfl, rfl, rfl, rfl, rfl, rfl⟩ HU1.out HQ1.out hg.out ⟨fun h => ⟨h, HGd.out, rfl⟩, fun h => .inl h⟩).2
  · have HNO : Hid (¬ iok 2 v) := Lib.hid fun h => hl (by have := h.1 rfl; rw [hn.out] at this; exact this)
    have hli : ((n : Int) == 16) = false := by rw [beq_eq_false_iff_ne]; omega
    clear hl
    go_upto_region 25 with fail
    refine wp_region_lit ?_
    refine wpList_load_mid (op := ⟨some 75, .load 24 (.tmp 4), _, _, _, none⟩) rfl 24 (.tmp 4) rfl P 0 rfl _ _ (by exact HU.out.range) Tryd.underlying24 rfl (size_sq.trans (congrArg some (QP.size _).symm)) ?_
    refine wpList_store_mid (op := ⟨none, .store 24 (.tmp 2) (.tmp 75), _, _, _, none⟩) rfl 24 (.tmp 2) (.tmp 75) rfl R 0 _ rfl rfl (by exact HU.out.thereR) size_sq (QP.one _) ?_
    go_wp2_with fail
    exact HE.out _ _ ⟨rfl, rfl, rfl, (HU.out.fin _).1, (HU.out.fin _).2⟩ HNO.out
set_option maxRecDepth 1000000 in
set_option maxHeartbeats 8000000 in
theorem sp_c12 {w0 w : World} {R P G : Nat} {Q : QP} {S : SP} {x0 x5 : Value} {A : Option Addr} {n c : Nat} {v : List Int} {op : Bool} (a : Act) (hf : Fgs a R P G x0 x5 op (.int .u64 12) (.slice A n c)) (hu : Us w0 R P w Q) (hq : Qp w Q S) (hv : Rt w (A, n, c) v)
    {Qx : Exit → Act → World → Prop} (hK : SK w w0 R P G x0 x5 Q S (A, n, c) 12 v op Qx) (hE : SE w0 R 12 v Qx) :
    Code.wp Tryd.prog sp7 Qx a w := by
  have HU := Lib.hid hu
  have HQ := Lib.hid hq
  have HK := Lib.hid hK
  have HE := Lib.hid hE
  have HR : Hid (Rd w A v) := hv.1
  have hn : Hid (v.length = n) := hv.2.1
  have hnc : n ≤ c := hv.2.2.1
  have hc2 : c ≤ 9223372036854775807 := hv.2.2.2.1
  have u14 := hu.cell 14 _ rfl
  have f14 := hu.free 14
  have HV := Lib.hid hv
  have hb0 := num_bds hv.1.1
  obtain ⟨x, hx⟩ : ∃ x, Hid (num v = x) := ⟨_, Lib.hid rfl⟩
  rw [hx.out] at hb0
  obtain ⟨hb0, hb1⟩ := hb0
  clear hu hq hv hK hE
  obtain ⟨f, rfl⟩ := hf.lit
  clear hf
  conv => arg 2; whnf
  have HU1 := Lib.hid (HU.out.set (Q' := { Q with nomig := true }) 14 (.bool true) rfl)
  have HQ1 : Hid (∀ W, Qp W Q S → Rt W (A, n, c) v → Qp W { Q with nomig := true } (upd S 12 v)) := Lib.hid fun W h1 h2 => by
    rw [show upd S 12 v = { S with nomig := true } from rfl]
    exact { h1 with nomig := rfl }
  have hg := Lib.hid (grownBy_set w P 14 (.bool true))
  by_cases hl : n = 0
  · have HGd : Hid (sgood 12 v) := ⟨⟨fun h => by omega, fun _ => by rw [hn.out]; exact hl, fun h => by omega, fun h => absurd h (by unfold isNum; omega)⟩, fun h => by omega, fun h => by omega, fun h => by omega, fun h => by omega⟩
    have hli : ((n : Int) == 0) = true := by rw [beq_iff_eq]; omega
    clear hl
    go_wp2_with fail
    exact (HK.out _ _ _ _ _ ⟨rfl, rfl, rfl, rfl, rfl, rfl, rfl, rfl⟩ HU1.out HQ1.out hg.out ⟨fun h => ⟨h, HGd.out, rfl⟩, fun h => .inl h⟩).2
  · have HNO : Hid (¬ sgood 12 v) := Lib.hid fun h => hl (by have := h.1.2.1 rfl; rw [hn.out] at this; exact this)
    have hli : ((n : Int) == 0) = false := by rw [beq_eq_false_iff_ne]; omega
    clear hl
    go_wp2_with fail
    exact (HK.out _ _ _ _ _ ⟨rfl, rfl, rfl, rfl, rfl, rfl, rfl, rfl⟩ HU1.out HQ1.out hg.out ⟨fun h => (by cases h), fun _ => .inr HNO.out⟩).2
end Go.Proofs.YtdjdcpcomhjnjaaDoor

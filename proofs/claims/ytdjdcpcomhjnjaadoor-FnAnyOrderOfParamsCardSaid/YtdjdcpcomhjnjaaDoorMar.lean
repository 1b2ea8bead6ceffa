/- marshalTransportParameters: numbers, bytes, a flag. Conditions: none. -/
import Derived.Test.YtdjdcpcomhjnjaaDoorRpb
import Derived.Test.YtdjdcpcomhjnjaaDoorAv
import Derived.Test.YtdjdcpcomhjnjaaDoorAvb
import Derived.Test.YtdjdcpcomhjnjaaDoorA8b
import Derived.Test.YtdjdcpcomhjnjaaDoorSp
namespace Go.Proofs.YtdjdcpcomhjnjaaDoor
open Go.RowKit
set_option linter.unusedVariables false
set_option linter.unusedSimpArgs false


theorem run_neq_nil (w : World) (a : Option Addr) (n c n' c' : Nat) : (binOp .neq 22 (.slice a n c) (.slice none n' c')).run Tryd.prog w = .ok (.bool (!a.isNone)) w := run_neq_slice_nil_any w _ _ a n c n' c' Tryd.underlying22
/-- The frame between the parts. -/
structure Mg (a : Act) (P : Nat) (s : Value) : Prop where
  sz : a.tmps.size = 283
  df : a.defers = []
  t1 : a.tmps[1]? = some (.pointer (some ⟨P, 0, none⟩))
  t3 : a.tmps[3]? = some s
/-- What has been written. -/
structure Ms (w1 w : World) (s : Value) (l : List Int) (m : Nat) : Prop where
  bel : Below w1.heap.size w1 w
  own : Own w1.heap.size w s l
  len : l.length ≤ m
theorem Ms.app {w1 w w' : World} {s : Value} {l l' : List Int} {m m' : Nat} {e : Ending} (h : Ms w1 w s l m) (hE : AppEnd w1.heap.size w s l' e w') (hl : l'.length ≤ m') : ∃ s', e = .returned s' ∧ Hid (Ms w1 w' s' l' m') := by
  obtain ⟨s', rfl, ho, _, _, hb, _⟩ := hE
  exact ⟨s', rfl, h.bel.trans hb, ho, hl⟩
theorem Ms.appv {w1 w w' : World} {s : Value} {l : List Int} {m : Nat} {v : Int} {e : Ending} (h : Ms w1 w s l m) (hE : AppEnd w1.heap.size w s (l ++ enc v) e w') : ∃ s', e = .returned s' ∧ Hid (Ms w1 w' s' (l ++ enc v) (m + 8)) :=
  h.app hE (by have := h.len; have := (esz_bd v).2; rw [List.length_append, enc_length]; omega)
theorem Ms.cell {w1 w : World} {s : Value} {l : List Int} {m : Nat} (h : Ms w1 w s l m) {p : Addr} {v : Value} (hc : w1.cell? p = some v) : w.cell? p = some v := (h.bel.cell (World.block_lt_of_cell? _ _ hc)).trans hc
theorem Ms.sep {w1 w : World} {s : Value} {l : List Int} {m : Nat} (h : Ms w1 w s l m) {A : Option Addr} {d : List Int} (hr : Rd w1 A d) : 0 < d.length → Sep A s.ownBlock := hr.sep h.own (Nat.le_refl _)
theorem Ms.le {w1 w : World} {s : Value} {l : List Int} {m : Nat} (h : Ms w1 w s l m) : w1.heap.size ≤ w.heap.size := h.bel.size
def fsec (x : Bool) : List Int := if x then enc 12 ++ [0] else []
def bsec (id : Int) (A : Option Addr) (d : List Int) : List Int := if A = none then [] else enc id ++ (enc (d.length : Nat) ++ d)
def nsec (id dflt x : Int) : List Int := if x = dflt then [] else enc id ++ (enc (esz x : Nat) ++ enc x)

set_option maxRecDepth 100000 in
theorem lit283 {a : Act} {P : Nat} {s : Value} (hs : a.tmps.size = 283) (hd : a.defers = []) (h1 : a.tmps[1]? = some (.pointer (some ⟨P, 0, none⟩))) (h3 : a.tmps[3]? = some (s)) : ∃ f : Nat → Value, a = ⟨#[f 0, .pointer (some ⟨P, 0, none⟩), f 2, s, f 4, f 5, f 6, f 7, f 8, f 9, f 10, f 11, f 12, f 13, f 14, f 15, f 16, f 17, f 18, f 19, f 20, f 21, f 22, f 23, f 24, f 25, f 26, f 27, f 28, f 29, f 30, f 31, f 32, f 33, f 34, f 35, f 36, f 37, f 38, f 39, f 40, f 41, f 42, f 43, f 44, f 45, f 46, f 47, f 48, f 49, f 50, f 51, f 52, f 53, f 54, f 55, f 56, f 57, f 58, f 59, f 60, f 61, f 62, f 63, f 64, f 65, f 66, f 67, f 68, f 69, f 70, f 71, f 72, f 73, f 74, f 75, f 76, f 77, f 78, f 79, f 80, f 81, f 82, f 83, f 84, f 85, f 86, f 87, f 88, f 89, f 90, f 91, f 92, f 93, f 94, f 95, f 96, f 97, f 98, f 99, f 100, f 101, f 102, f 103, f 104, f 105, f 106, f 107, f 108, f 109, f 110, f 111, f 112, f 113, f 114, f 115, f 116, f 117, f 118, f 119, f 120, f 121, f 122, f 123, f 124, f 125, f 126, f 127, f 128, f 129, f 130, f 131, f 132, f 133, f 134, f 135, f 136, f 137, f 138, f 139, f 140, f 141, f 142, f 143, f 144, f 145, f 146, f 147, f 148, f 149, f 150, f 151, f 152, f 153, f 154, f 155, f 156, f 157, f 158, f 159, f 160, f 161, f 162, f 163, f 164, f 165, f 166, f 167, f 168, f 169, f 170, f 171, f 172, f 173, f 174, f 175, f 176, f 177, f 178, f 179, f 180, f 181, f 182, f 183, f 184, f 185, f 186, f 187, f 188, f 189, f 190, f 191, f 192, f 193, f 194, f 195, f 196, f 197, f 198, f 199, f 200, f 201, f 202, f 203, f 204, f 205, f 206, f 207, f 208, f 209, f 210, f 211, f 212, f 213, f 214, f 215, f 216, f 217, f 218, f 219, f 220, f 221, f 222, f 223, f 224, f 225, f 226, f 227, f 228, f 229, f 230, f 231, f 232, f 233, f 234, f 235, f 236, f 237, f 238, f 239, f 240, f 241, f 242, f 243, f 244, f 245, f 246, f 247, f 248, f 249, f 250, f 251, f 252, f 253, f 254, f 255, f 256, f 257, f 258, f 259, f 260, f 261, f 262, f 263, f 264, f 265, f 266, f 267, f 268, f 269, f 270, f 271, f 272, f 273, f 274, f 275, f 276, f 277, f 278, f 279, f 280, f 281, f 282], []⟩ := by
  obtain ⟨f, hf, e⟩ := lit_ofN 283 a hs hd
  have e1 := (hf 1 (by decide)).symm.trans h1
  have e3 := (hf 3 (by decide)).symm.trans h3
  simp only [Option.some.injEq] at e1 e3
  refine ⟨f, ?_⟩
  have hl : ((List.range 283).map f).toArray = #[f 0, f 1, f 2, f 3, f 4, f 5, f 6, f 7, f 8, f 9, f 10, f 11, f 12, f 13, f 14, f 15, f 16, f 17, f 18, f 19, f 20, f 21, f 22, f 23, f 24, f 25, f 26, f 27, f 28, f 29, f 30, f 31, f 32, f 33, f 34, f 35, f 36, f 37, f 38, f 39, f 40, f 41, f 42, f 43, f 44, f 45, f 46, f 47, f 48, f 49, f 50, f 51, f 52, f 53, f 54, f 55, f 56, f 57, f 58, f 59, f 60, f 61, f 62, f 63, f 64, f 65, f 66, f 67, f 68, f 69, f 70, f 71, f 72, f 73, f 74, f 75, f 76, f 77, f 78, f 79, f 80, f 81, f 82, f 83, f 84, f 85, f 86, f 87, f 88, f 89, f 90, f 91, f 92, f 93, f 94, f 95, f 96, f 97, f 98, f 99, f 100, f 101, f 102, f 103, f 104, f 105, f 106, f 107, f 108, f 109, f 110, f 111, f 112, f 113, f 114, f 115, f 116, f 117, f 118, f 119, f 120, f 121, f 122, f 123, f 124, f 125, f 126, f 127, f 128, f 129, f 130, f 131, f 132, f 133, f 134, f 135, f 136, f 137, f 138, f 139, f 140, f 141, f 142, f 143, f 144, f 145, f 146, f 147, f 148, f 149, f 150, f 151, f 152, f 153, f 154, f 155, f 156, f 157, f 158, f 159, f 160, f 161, f 162, f 163, f 164, f 165, f 166, f 167, f 168, f 169, f 170, f 171, f 172, f 173, f 174, f 175, f 176, f 177, f 178, f 179, f 180, f 181, f 182, f 183, f 184, f 185, f 186, f 187, f 188, f 189, f 190, f 191, f 192, f 193, f 194, f 195, f 196, f 197, f 198, f 199, f 200, f 201, f 202, f 203, f 204, f 205, f 206, f 207, f 208, f 209, f 210, f 211, f 212, f 213, f 214, f 215, f 216, f 217, f 218, f 219, f 220, f 221, f 222, f 223, f 224, f 225, f 226, f 227, f 228, f 229, f 230, f 231, f 232, f 233, f 234, f 235, f 236, f 237, f 238, f 239, f 240, f 241, f 242, f 243, f 244, f 245, f 246, f 247, f 248, f 249, f 250, f 251, f 252, f 253, f 254, f 255, f 256, f 257, f 258, f 259, f 260, f 261, f 262, f 263, f 264, f 265, f 266, f 267, f 268, f 269, f 270, f 271, f 272, f 273, f 274, f 275, f 276, f 277, f 278, f 279, f 280, f 281, f 282] := by kernel_rfl
  rw [e, hl, e1, e3]

noncomputable def mk1 : Code := cl (cr (cr (Tryd.f35.body.getD .skip)))
set_option maxRecDepth 1000000 in
set_option maxHeartbeats 8000000 in
theorem ms1 {w1 w : World} {P m : Nat} {s : Value} {l : List Int} {A : Option Addr} {n c : Nat} {d : List Int} (a : Act) (hf : Mg a P s) (hs : Ms w1 w s l m) (hm : m ≤ 100000) (hc : w1.cell? ⟨P, 0, none⟩ = some (.slice A n c)) (hr : Rt w1 (A, n, c) d) (hd : n ≤ 50)
    {K : Act → World → Prop} {Q : Exit → Act → World → Prop} (hK : ∀ a' w' s', Mg a' P s' → Ms w1 w' s' (l ++ bsec 0 A d) (m + 100) → K a' w') :
    Code.wp Tryd.prog mk1 (Exit.then K Q) a w := by
  have HM := Lib.hid hs
  have HK := Lib.hid hK
  have u := hs.cell hc
  clear hs hK
  obtain ⟨f, rfl⟩ := lit283 hf.sz hf.df hf.t1 hf.t3
  clear hf
  have hn : Hid (d.length = n) := hr.2.1
  have hz : Hid (A = none → c = 0) := hr.2.2.2.2
  have HR : Hid (Rd w1 A d) := hr.1
  have q22 := run_neq_nil
  cases A with
  | none =>
    conv => arg 2; whnf
    go_wp2_with fail
    refine HK.out _ _ _ ⟨rfl, rfl, rfl, rfl⟩ ?_
    rw [show bsec 0 none d = [] from rfl, List.append_nil]
    exact ⟨HM.out.bel, HM.out.own, Nat.le_trans HM.out.len (by omega)⟩
  | some ad =>
    have e1 : esz 0 = 1 := rfl
    have e2 := (esz_bd (n : Int)).2
    have hnl := hn.out
    conv => arg 2; whnf
    go_wp2_with (first | (go_at_call 47; refine (av w1.heap.size _ _ 0 _ HM.out.own HM.out.le (by have := HM.out.len; omega) (by omega) (by omega)).mono ?_; rintro e w2 hE; obtain ⟨s', rfl, HM⟩ := HM.out.app (m' := m + 1) hE (by have := HM.out.len; (try simp only [List.length_append, enc_length] at this); simp only [List.length_append, enc_length]; omega); clear hE) | (go_at_call 48; refine (avb w1.heap.size _ _ (some ad) n c d _ HM.out.own HM.out.le (by have := HM.out.len; omega) (HR.out.below HM.out.bel) hn hz (Lib.hid (HM.out.sep HR.out)) (by omega)).mono ?_; rintro e w3 hE; obtain ⟨s'', rfl, HM⟩ := HM.out.app (m' := m + 100) hE (by have := HM.out.len; (try simp only [List.length_append, enc_length] at this); simp only [List.length_append, enc_length]; omega); clear hE))
    refine HK.out _ _ _ ⟨rfl, rfl, rfl, rfl⟩ ?_
    have h := HM.out
    rw [List.append_assoc, List.append_assoc, ← hnl] at h
    exact h

noncomputable def mk2 : Code := cl (cr (cr (cr (Tryd.f35.body.getD .skip))))
set_option maxRecDepth 1000000 in
set_option maxHeartbeats 8000000 in
theorem ms2 {w1 w : World} {P m : Nat} {s : Value} {l : List Int} {x : Int} (a : Act) (hf : Mg a P s) (hs : Ms w1 w s l m) (hm : m ≤ 100000) (hc : w1.cell? ⟨P, 1, none⟩ = some (.int .i64 (x * 1000000))) (h0 : 0 ≤ x) (h1 : x ≤ 4611686018)
    {K : Act → World → Prop} {Q : Exit → Act → World → Prop} (hK : ∀ a' w' s', Mg a' P s' → Ms w1 w' s' (l ++ nsec 1 0 x) (m + 100) → K a' w') :
    Code.wp Tryd.prog mk2 (Exit.then K Q) a w := by
  have HM := Lib.hid hs
  have HK := Lib.hid hK
  have u := hs.cell hc
  clear hs hK
  obtain ⟨f, rfl⟩ := lit283 hf.sz hf.df hf.t1 hf.t3
  clear hf
  have hw : IntKind.u64.wrap x = x := IntWalk.u64_in _ (by omega)
  have hqi : (x * 1000000).tdiv 1000000 = x := Int.mul_tdiv_cancel _ (by decide)
  have e1 : esz 1 = 1 := rfl
  have e2 := esz_bd x
  have e3 := (esz_bd ((esz x : Nat) : Int)).2
  have hw2 : IntKind.u64.wrap ((esz x : Nat) : Int) = ((esz x : Nat) : Int) := IntWalk.u64_in _ (by omega)
  have hw3 : IntKind.i64.wrap x = x := IntWalk.i64_in _ (by omega)
  conv => arg 2; whnf
  by_cases hx : x = 0
  · have hxi : (x == 0) = true := by rw [beq_iff_eq]; exact hx
    have HX := Lib.hid hx
    clear hx
    go_wp2_with fail
    refine HK.out _ _ _ ⟨rfl, rfl, rfl, rfl⟩ ?_
    rw [show nsec 1 0 x = [] from if_pos HX.out, List.append_nil]
    exact ⟨HM.out.bel, HM.out.own, Nat.le_trans HM.out.len (by omega)⟩
  · have hxi : (x == 0) = false := by rw [beq_eq_false_iff_ne]; exact hx
    have HX := Lib.hid hx
    clear hx
    go_wp2_with (first | (go_at_call 49; refine (sv x _ h0 (by omega)).mono ?_; rintro e w2 ⟨rfl, rfl⟩) | (go_at_call 47; refine (av w1.heap.size _ _ _ _ HM.out.own HM.out.le (by have := HM.out.len; omega) (by omega) (by omega)).mono ?_; rintro e w2 hE; obtain ⟨s', rfl, HM⟩ := HM.out.appv hE; clear hE))
    refine HK.out _ _ _ ⟨rfl, rfl, rfl, rfl⟩ ?_
    rw [show nsec 1 0 x = enc 1 ++ (enc (esz x : Nat) ++ enc x) from if_neg HX.out]
    have h := HM.out
    rw [List.append_assoc, List.append_assoc] at h
    exact ⟨h.bel, h.own, Nat.le_trans h.len (by omega)⟩

noncomputable def mk3 : Code := cl (cr (cr (cr (cr (Tryd.f35.body.getD .skip)))))
set_option maxRecDepth 1000000 in
set_option maxHeartbeats 8000000 in
theorem ms3 {w1 w : World} {P m : Nat} {s : Value} {l : List Int} {A : Option Addr} {n c : Nat} {d : List Int} (a : Act) (hf : Mg a P s) (hs : Ms w1 w s l m) (hm : m ≤ 100000) (hc : w1.cell? ⟨P, 2, none⟩ = some (.slice A n c)) (hr : Rt w1 (A, n, c) d) (hd : n ≤ 50)
    {K : Act → World → Prop} {Q : Exit → Act → World → Prop} (hK : ∀ a' w' s', Mg a' P s' → Ms w1 w' s' (l ++ bsec 2 A d) (m + 100) → K a' w') :
    Code.wp Tryd.prog mk3 (Exit.then K Q) a w := by
  have HM := Lib.hid hs
  have HK := Lib.hid hK
  have u := hs.cell hc
  clear hs hK
  obtain ⟨f, rfl⟩ := lit283 hf.sz hf.df hf.t1 hf.t3
  clear hf
  have hn : Hid (d.length = n) := hr.2.1
  have hz : Hid (A = none → c = 0) := hr.2.2.2.2
  have HR : Hid (Rd w1 A d) := hr.1
  have q22 := run_neq_nil
  cases A with
  | none =>
    conv => arg 2; whnf
    go_wp2_with fail
    refine HK.out _ _ _ ⟨rfl, rfl, rfl, rfl⟩ ?_
    rw [show bsec 2 none d = [] from rfl, List.append_nil]
    exact ⟨HM.out.bel, HM.out.own, Nat.le_trans HM.out.len (by omega)⟩
  | some ad =>
    have e1 : esz 2 = 1 := rfl
    have e2 := (esz_bd (n : Int)).2
    have hnl := hn.out
    conv => arg 2; whnf
    go_wp2_with (first | (go_at_call 47; refine (av w1.heap.size _ _ 2 _ HM.out.own HM.out.le (by have := HM.out.len; omega) (by omega) (by omega)).mono ?_; rintro e w2 hE; obtain ⟨s', rfl, HM⟩ := HM.out.app (m' := m + 1) hE (by have := HM.out.len; (try simp only [List.length_append, enc_length] at this); simp only [List.length_append, enc_length]; omega); clear hE) | (go_at_call 48; refine (avb w1.heap.size _ _ (some ad) n c d _ HM.out.own HM.out.le (by have := HM.out.len; omega) (HR.out.below HM.out.bel) hn hz (Lib.hid (HM.out.sep HR.out)) (by omega)).mono ?_; rintro e w3 hE; obtain ⟨s'', rfl, HM⟩ := HM.out.app (m' := m + 100) hE (by have := HM.out.len; (try simp only [List.length_append, enc_length] at this); simp only [List.length_append, enc_length]; omega); clear hE))
    refine HK.out _ _ _ ⟨rfl, rfl, rfl, rfl⟩ ?_
    have h := HM.out
    rw [List.append_assoc, List.append_assoc, ← hnl] at h
    exact h

noncomputable def mk4 : Code := cl (cr (cr (cr (cr (cr (Tryd.f35.body.getD .skip))))))
set_option maxRecDepth 1000000 in
set_option maxHeartbeats 8000000 in
theorem ms4 {w1 w : World} {P m : Nat} {s : Value} {l : List Int} {x : Int} (a : Act) (hf : Mg a P s) (hs : Ms w1 w s l m) (hm : m ≤ 100000) (hc : w1.cell? ⟨P, 3, none⟩ = some (.int .i64 x)) (h0 : 0 ≤ x) (h1 : x ≤ 4611686018427387903)
    {K : Act → World → Prop} {Q : Exit → Act → World → Prop} (hK : ∀ a' w' s', Mg a' P s' → Ms w1 w' s' (l ++ nsec 3 65527 x) (m + 100) → K a' w') :
    Code.wp Tryd.prog mk4 (Exit.then K Q) a w := by
  have HM := Lib.hid hs
  have HK := Lib.hid hK
  have u := hs.cell hc
  clear hs hK
  obtain ⟨f, rfl⟩ := lit283 hf.sz hf.df hf.t1 hf.t3
  clear hf
  have hw : IntKind.u64.wrap x = x := IntWalk.u64_in _ (by omega)
  have hqi : (x * 1000000).tdiv 1000000 = x := Int.mul_tdiv_cancel _ (by decide)
  have e1 : esz 3 = 1 := rfl
  have e2 := esz_bd x
  have e3 := (esz_bd ((esz x : Nat) : Int)).2
  have hw2 : IntKind.u64.wrap ((esz x : Nat) : Int) = ((esz x : Nat) : Int) := IntWalk.u64_in _ (by omega)
  have hw3 : IntKind.i64.wrap x = x := IntWalk.i64_in _ (by omega)
  conv => arg 2; whnf
  by_cases hx : x = 65527
  · have hxi : (x == 65527) = true := by rw [beq_iff_eq]; exact hx
    have HX := Lib.hid hx
    clear hx
    go_wp2_with fail
    refine HK.out _ _ _ ⟨rfl, rfl, rfl, rfl⟩ ?_
    rw [show nsec 3 65527 x = [] from if_pos HX.out, List.append_nil]
    exact ⟨HM.out.bel, HM.out.own, Nat.le_trans HM.out.len (by omega)⟩
  · have hxi : (x == 65527) = false := by rw [beq_eq_false_iff_ne]; exact hx
    have HX := Lib.hid hx
    clear hx
    go_wp2_with (first | (go_at_call 49; refine (sv x _ h0 (by omega)).mono ?_; rintro e w2 ⟨rfl, rfl⟩) | (go_at_call 47; refine (av w1.heap.size _ _ _ _ HM.out.own HM.out.le (by have := HM.out.len; omega) (by omega) (by omega)).mono ?_; rintro e w2 hE; obtain ⟨s', rfl, HM⟩ := HM.out.appv hE; clear hE))
    refine HK.out _ _ _ ⟨rfl, rfl, rfl, rfl⟩ ?_
    rw [show nsec 3 65527 x = enc 3 ++ (enc (esz x : Nat) ++ enc x) from if_neg HX.out]
    have h := HM.out
    rw [List.append_assoc, List.append_assoc] at h
    exact ⟨h.bel, h.own, Nat.le_trans h.len (by omega)⟩

noncomputable def mk5 : Code := cl (cr (cr (cr (cr (cr (cr (Tryd.f35.body.getD .skip)))))))
set_option maxRecDepth 1000000 in
set_option maxHeartbeats 8000000 in
theorem ms5 {w1 w : World} {P m : Nat} {s : Value} {l : List Int} {x : Int} (a : Act) (hf : Mg a P s) (hs : Ms w1 w s l m) (hm : m ≤ 100000) (hc : w1.cell? ⟨P, 4, none⟩ = some (.int .i64 x)) (h0 : 0 ≤ x) (h1 : x ≤ 4611686018427387903)
    {K : Act → World → Prop} {Q : Exit → Act → World → Prop} (hK : ∀ a' w' s', Mg a' P s' → Ms w1 w' s' (l ++ nsec 4 0 x) (m + 100) → K a' w') :
    Code.wp Tryd.prog mk5 (Exit.then K Q) a w := by
  have HM := Lib.hid hs
  have HK := Lib.hid hK
  have u := hs.cell hc
  clear hs hK
  obtain ⟨f, rfl⟩ := lit283 hf.sz hf.df hf.t1 hf.t3
  clear hf
  have hw : IntKind.u64.wrap x = x := IntWalk.u64_in _ (by omega)
  have hqi : (x * 1000000).tdiv 1000000 = x := Int.mul_tdiv_cancel _ (by decide)
  have e1 : esz 4 = 1 := rfl
  have e2 := esz_bd x
  have e3 := (esz_bd ((esz x : Nat) : Int)).2
  have hw2 : IntKind.u64.wrap ((esz x : Nat) : Int) = ((esz x : Nat) : Int) := IntWalk.u64_in _ (by omega)
  have hw3 : IntKind.i64.wrap x = x := IntWalk.i64_in _ (by omega)
  conv => arg 2; whnf
  by_cases hx : x = 0
  · have hxi : (x == 0) = true := by rw [beq_iff_eq]; exact hx
    have HX := Lib.hid hx
    clear hx
    go_wp2_with fail
    refine HK.out _ _ _ ⟨rfl, rfl, rfl, rfl⟩ ?_
    rw [show nsec 4 0 x = [] from if_pos HX.out, List.append_nil]
    exact ⟨HM.out.bel, HM.out.own, Nat.le_trans HM.out.len (by omega)⟩
  · have hxi : (x == 0) = false := by rw [beq_eq_false_iff_ne]; exact hx
    have HX := Lib.hid hx
    clear hx
    go_wp2_with (first | (go_at_call 49; refine (sv x _ h0 (by omega)).mono ?_; rintro e w2 ⟨rfl, rfl⟩) | (go_at_call 47; refine (av w1.heap.size _ _ _ _ HM.out.own HM.out.le (by have := HM.out.len; omega) (by omega) (by omega)).mono ?_; rintro e w2 hE; obtain ⟨s', rfl, HM⟩ := HM.out.appv hE; clear hE))
    refine HK.out _ _ _ ⟨rfl, rfl, rfl, rfl⟩ ?_
    rw [show nsec 4 0 x = enc 4 ++ (enc (esz x : Nat) ++ enc x) from if_neg HX.out]
    have h := HM.out
    rw [List.append_assoc, List.append_assoc] at h
    exact ⟨h.bel, h.own, Nat.le_trans h.len (by omega)⟩

noncomputable def mk6 : Code := cl (cr (cr (cr (cr (cr (cr (cr (Tryd.f35.body.getD .skip))))))))
set_option maxRecDepth 1000000 in
set_option maxHeartbeats 8000000 in
theorem ms6 {w1 w : World} {P m : Nat} {s : Value} {l : List Int} {x : Int} (a : Act) (hf : Mg a P s) (hs : Ms w1 w s l m) (hm : m ≤ 100000) (hc : w1.cell? ⟨P, 5, none⟩ = some (.int .i64 x)) (h0 : 0 ≤ x) (h1 : x ≤ 4611686018427387903)
    {K : Act → World → Prop} {Q : Exit → Act → World → Prop} (hK : ∀ a' w' s', Mg a' P s' → Ms w1 w' s' (l ++ nsec 5 0 x) (m + 100) → K a' w') :
    Code.wp Tryd.prog mk6 (Exit.then K Q) a w := by
  have HM := Lib.hid hs
  have HK := Lib.hid hK
  have u := hs.cell hc
  clear hs hK
  obtain ⟨f, rfl⟩ := lit283 hf.sz hf.df hf.t1 hf.t3
  clear hf
  have hw : IntKind.u64.wrap x = x := IntWalk.u64_in _ (by omega)
  have hqi : (x * 1000000).tdiv 1000000 = x := Int.mul_tdiv_cancel _ (by decide)
  have e1 : esz 5 = 1 := rfl
  have e2 := esz_bd x
  have e3 := (esz_bd ((esz x : Nat) : Int)).2
  have hw2 : IntKind.u64.wrap ((esz x : Nat) : Int) = ((esz x : Nat) : Int) := IntWalk.u64_in _ (by omega)
  have hw3 : IntKind.i64.wrap x = x := IntWalk.i64_in _ (by omega)
  conv => arg 2; whnf
  by_cases hx : x = 0
  · have hxi : (x == 0) = true := by rw [beq_iff_eq]; exact hx
    have HX := Lib.hid hx
    clear hx
    go_wp2_with fail
    refine HK.out _ _ _ ⟨rfl, rfl, rfl, rfl⟩ ?_
    rw [show nsec 5 0 x = [] from if_pos HX.out, List.append_nil]
    exact ⟨HM.out.bel, HM.out.own, Nat.le_trans HM.out.len (by omega)⟩
  · have hxi : (x == 0) = false := by rw [beq_eq_false_iff_ne]; exact hx
    have HX := Lib.hid hx
    clear hx
    go_wp2_with (first | (go_at_call 49; refine (sv x _ h0 (by omega)).mono ?_; rintro e w2 ⟨rfl, rfl⟩) | (go_at_call 47; refine (av w1.heap.size _ _ _ _ HM.out.own HM.out.le (by have := HM.out.len; omega) (by omega) (by omega)).mono ?_; rintro e w2 hE; obtain ⟨s', rfl, HM⟩ := HM.out.appv hE; clear hE))
    refine HK.out _ _ _ ⟨rfl, rfl, rfl, rfl⟩ ?_
    rw [show nsec 5 0 x = enc 5 ++ (enc (esz x : Nat) ++ enc x) from if_neg HX.out]
    have h := HM.out
    rw [List.append_assoc, List.append_assoc] at h
    exact ⟨h.bel, h.own, Nat.le_trans h.len (by omega)⟩

noncomputable def mk7 : Code := cl (cr (cr (cr (cr (cr (cr (cr (cr (Tryd.f35.body.getD .skip)))))))))
set_option maxRecDepth 1000000 in
set_option maxHeartbeats 8000000 in
theorem ms7 {w1 w : World} {P m : Nat} {s : Value} {l : List Int} {x : Int} (a : Act) (hf : Mg a P s) (hs : Ms w1 w s l m) (hm : m ≤ 100000) (hc : w1.cell? ⟨P, 6, none⟩ = some (.int .i64 x)) (h0 : 0 ≤ x) (h1 : x ≤ 4611686018427387903)
    {K : Act → World → Prop} {Q : Exit → Act → World → Prop} (hK : ∀ a' w' s', Mg a' P s' → Ms w1 w' s' (l ++ nsec 6 0 x) (m + 100) → K a' w') :
    Code.wp Tryd.prog mk7 (Exit.then K Q) a w := by
  have HM := Lib.hid hs
  have HK := Lib.hid hK
  have u := hs.cell hc
  clear hs hK
  obtain ⟨f, rfl⟩ := lit283 hf.sz hf.df hf.t1 hf.t3
  clear hf
  have hw : IntKind.u64.wrap x = x := IntWalk.u64_in _ (by omega)
  have hqi : (x * 1000000).tdiv 1000000 = x := Int.mul_tdiv_cancel _ (by decide)
  have e1 : esz 6 = 1 := rfl
  have e2 := esz_bd x
  have e3 := (esz_bd ((esz x : Nat) : Int)).2
  have hw2 : IntKind.u64.wrap ((esz x : Nat) : Int) = ((esz x : Nat) : Int) := IntWalk.u64_in _ (by omega)
  have hw3 : IntKind.i64.wrap x = x := IntWalk.i64_in _ (by omega)
  conv => arg 2; whnf
  by_cases hx : x = 0
  · have hxi : (x == 0) = true := by rw [beq_iff_eq]; exact hx
    have HX := Lib.hid hx
    clear hx
    go_wp2_with fail
    refine HK.out _ _ _ ⟨rfl, rfl, rfl, rfl⟩ ?_
    rw [show nsec 6 0 x = [] from if_pos HX.out, List.append_nil]
    exact ⟨HM.out.bel, HM.out.own, Nat.le_trans HM.out.len (by omega)⟩
  · have hxi : (x == 0) = false := by rw [beq_eq_false_iff_ne]; exact hx
    have HX := Lib.hid hx
    clear hx
    go_wp2_with (first | (go_at_call 49; refine (sv x _ h0 (by omega)).mono ?_; rintro e w2 ⟨rfl, rfl⟩) | (go_at_call 47; refine (av w1.heap.size _ _ _ _ HM.out.own HM.out.le (by have := HM.out.len; omega) (by omega) (by omega)).mono ?_; rintro e w2 hE; obtain ⟨s', rfl, HM⟩ := HM.out.appv hE; clear hE))
    refine HK.out _ _ _ ⟨rfl, rfl, rfl, rfl⟩ ?_
    rw [show nsec 6 0 x = enc 6 ++ (enc (esz x : Nat) ++ enc x) from if_neg HX.out]
    have h := HM.out
    rw [List.append_assoc, List.append_assoc] at h
    exact ⟨h.bel, h.own, Nat.le_trans h.len (by omega)⟩

noncomputable def mk8 : Code := cl (cr (cr (cr (cr (cr (cr (cr (cr (cr (Tryd.f35.body.getD .skip))))))))))
set_option maxRecDepth 1000000 in
set_option maxHeartbeats 8000000 in
theorem ms8 {w1 w : World} {P m : Nat} {s : Value} {l : List Int} {x : Int} (a : Act) (hf : Mg a P s) (hs : Ms w1 w s l m) (hm : m ≤ 100000) (hc : w1.cell? ⟨P, 7, none⟩ = some (.int .i64 x)) (h0 : 0 ≤ x) (h1 : x ≤ 4611686018427387903)
    {K : Act → World → Prop} {Q : Exit → Act → World → Prop} (hK : ∀ a' w' s', Mg a' P s' → Ms w1 w' s' (l ++ nsec 7 0 x) (m + 100) → K a' w') :
    Code.wp Tryd.prog mk8 (Exit.then K Q) a w := by
  have HM := Lib.hid hs
  have HK := Lib.hid hK
  have u := hs.cell hc
  clear hs hK
  obtain ⟨f, rfl⟩ := lit283 hf.sz hf.df hf.t1 hf.t3
  clear hf
  have hw : IntKind.u64.wrap x = x := IntWalk.u64_in _ (by omega)
  have hqi : (x * 1000000).tdiv 1000000 = x := Int.mul_tdiv_cancel _ (by decide)
  have e1 : esz 7 = 1 := rfl
  have e2 := esz_bd x
  have e3 := (esz_bd ((esz x : Nat) : Int)).2
  have hw2 : IntKind.u64.wrap ((esz x : Nat) : Int) = ((esz x : Nat) : Int) := IntWalk.u64_in _ (by omega)
  have hw3 : IntKind.i64.wrap x = x := IntWalk.i64_in _ (by omega)
  conv => arg 2; whnf
  by_cases hx : x = 0
  · have hxi : (x == 0) = true := by rw [beq_iff_eq]; exact hx
    have HX := Lib.hid hx
    clear hx
    go_wp2_with fail
    refine HK.out _ _ _ ⟨rfl, rfl, rfl, rfl⟩ ?_
    rw [show nsec 7 0 x = [] from if_pos HX.out, List.append_nil]
    exact ⟨HM.out.bel, HM.out.own, Nat.le_trans HM.out.len (by omega)⟩
  · have hxi : (x == 0) = false := by rw [beq_eq_false_iff_ne]; exact hx
    have HX := Lib.hid hx
    clear hx
    go_wp2_with (first | (go_at_call 49; refine (sv x _ h0 (by omega)).mono ?_; rintro e w2 ⟨rfl, rfl⟩) | (go_at_call 47; refine (av w1.heap.size _ _ _ _ HM.out.own HM.out.le (by have := HM.out.len; omega) (by omega) (by omega)).mono ?_; rintro e w2 hE; obtain ⟨s', rfl, HM⟩ := HM.out.appv hE; clear hE))
    refine HK.out _ _ _ ⟨rfl, rfl, rfl, rfl⟩ ?_
    rw [show nsec 7 0 x = enc 7 ++ (enc (esz x : Nat) ++ enc x) from if_neg HX.out]
    have h := HM.out
    rw [List.append_assoc, List.append_assoc] at h
    exact ⟨h.bel, h.own, Nat.le_trans h.len (by omega)⟩

noncomputable def mk9 : Code := cl (cr (cr (cr (cr (cr (cr (cr (cr (cr (cr (Tryd.f35.body.getD .skip)))))))))))
set_option maxRecDepth 1000000 in
set_option maxHeartbeats 8000000 in
theorem ms9 {w1 w : World} {P m : Nat} {s : Value} {l : List Int} {x : Int} (a : Act) (hf : Mg a P s) (hs : Ms w1 w s l m) (hm : m ≤ 100000) (hc : w1.cell? ⟨P, 8, none⟩ = some (.int .i64 x)) (h0 : 0 ≤ x) (h1 : x ≤ 4611686018427387903)
    {K : Act → World → Prop} {Q : Exit → Act → World → Prop} (hK : ∀ a' w' s', Mg a' P s' → Ms w1 w' s' (l ++ nsec 8 0 x) (m + 100) → K a' w') :
    Code.wp Tryd.prog mk9 (Exit.then K Q) a w := by
  have HM := Lib.hid hs
  have HK := Lib.hid hK
  have u := hs.cell hc
  clear hs hK
  obtain ⟨f, rfl⟩ := lit283 hf.sz hf.df hf.t1 hf.t3
  clear hf
  have hw : IntKind.u64.wrap x = x := IntWalk.u64_in _ (by omega)
  have hqi : (x * 1000000).tdiv 1000000 = x := Int.mul_tdiv_cancel _ (by decide)
  have e1 : esz 8 = 1 := rfl
  have e2 := esz_bd x
  have e3 := (esz_bd ((esz x : Nat) : Int)).2
  have hw2 : IntKind.u64.wrap ((esz x : Nat) : Int) = ((esz x : Nat) : Int) := IntWalk.u64_in _ (by omega)
  have hw3 : IntKind.i64.wrap x = x := IntWalk.i64_in _ (by omega)
  conv => arg 2; whnf
  by_cases hx : x = 0
  · have hxi : (x == 0) = true := by rw [beq_iff_eq]; exact hx
    have HX := Lib.hid hx
    clear hx
    go_wp2_with fail
    refine HK.out _ _ _ ⟨rfl, rfl, rfl, rfl⟩ ?_
    rw [show nsec 8 0 x = [] from if_pos HX.out, List.append_nil]
    exact ⟨HM.out.bel, HM.out.own, Nat.le_trans HM.out.len (by omega)⟩
  · have hxi : (x == 0) = false := by rw [beq_eq_false_iff_ne]; exact hx
    have HX := Lib.hid hx
    clear hx
    go_wp2_with (first | (go_at_call 49; refine (sv x _ h0 (by omega)).mono ?_; rintro e w2 ⟨rfl, rfl⟩) | (go_at_call 47; refine (av w1.heap.size _ _ _ _ HM.out.own HM.out.le (by have := HM.out.len; omega) (by omega) (by omega)).mono ?_; rintro e w2 hE; obtain ⟨s', rfl, HM⟩ := HM.out.appv hE; clear hE))
    refine HK.out _ _ _ ⟨rfl, rfl, rfl, rfl⟩ ?_
    rw [show nsec 8 0 x = enc 8 ++ (enc (esz x : Nat) ++ enc x) from if_neg HX.out]
    have h := HM.out
    rw [List.append_assoc, List.append_assoc] at h
    exact ⟨h.bel, h.own, Nat.le_trans h.len (by omega)⟩

noncomputable def mk10 : Code := cl (cr (cr (cr (cr (cr (cr (cr (cr (cr (cr (cr (Tryd.f35.body.getD .skip))))))))))))
set_option maxRecDepth 1000000 in
set_option maxHeartbeats 8000000 in
theorem ms10 {w1 w : World} {P m : Nat} {s : Value} {l : List Int} {x : Int} (a : Act) (hf : Mg a P s) (hs : Ms w1 w s l m) (hm : m ≤ 100000) (hc : w1.cell? ⟨P, 9, none⟩ = some (.int .i64 x)) (h0 : 0 ≤ x) (h1 : x ≤ 4611686018427387903)
    {K : Act → World → Prop} {Q : Exit → Act → World → Prop} (hK : ∀ a' w' s', Mg a' P s' → Ms w1 w' s' (l ++ nsec 9 0 x) (m + 100) → K a' w') :
    Code.wp Tryd.prog mk10 (Exit.then K Q) a w := by
  have HM := Lib.hid hs
  have HK := Lib.hid hK
  have u := hs.cell hc
  clear hs hK
  obtain ⟨f, rfl⟩ := lit283 hf.sz hf.df hf.t1 hf.t3
  clear hf
  have hw : IntKind.u64.wrap x = x := IntWalk.u64_in _ (by omega)
  have hqi : (x * 1000000).tdiv 1000000 = x := Int.mul_tdiv_cancel _ (by decide)
  have e1 : esz 9 = 1 := rfl
  have e2 := esz_bd x
  have e3 := (esz_bd ((esz x : Nat) : Int)).2
  have hw2 : IntKind.u64.wrap ((esz x : Nat) : Int) = ((esz x : Nat) : Int) := IntWalk.u64_in _ (by omega)
  have hw3 : IntKind.i64.wrap x = x := IntWalk.i64_in _ (by omega)
  conv => arg 2; whnf
  by_cases hx : x = 0
  · have hxi : (x == 0) = true := by rw [beq_iff_eq]; exact hx
    have HX := Lib.hid hx
    clear hx
    go_wp2_with fail
    refine HK.out _ _ _ ⟨rfl, rfl, rfl, rfl⟩ ?_
    rw [show nsec 9 0 x = [] from if_pos HX.out, List.append_nil]
    exact ⟨HM.out.bel, HM.out.own, Nat.le_trans HM.out.len (by omega)⟩
  · have hxi : (x == 0) = false := by rw [beq_eq_false_iff_ne]; exact hx
    have HX := Lib.hid hx
    clear hx
    go_wp2_with (first | (go_at_call 49; refine (sv x _ h0 (by omega)).mono ?_; rintro e w2 ⟨rfl, rfl⟩) | (go_at_call 47; refine (av w1.heap.size _ _ _ _ HM.out.own HM.out.le (by have := HM.out.len; omega) (by omega) (by omega)).mono ?_; rintro e w2 hE; obtain ⟨s', rfl, HM⟩ := HM.out.appv hE; clear hE))
    refine HK.out _ _ _ ⟨rfl, rfl, rfl, rfl⟩ ?_
    rw [show nsec 9 0 x = enc 9 ++ (enc (esz x : Nat) ++ enc x) from if_neg HX.out]
    have h := HM.out
    rw [List.append_assoc, List.append_assoc] at h
    exact ⟨h.bel, h.own, Nat.le_trans h.len (by omega)⟩

noncomputable def mk11 : Code := cl (cr (cr (cr (cr (cr (cr (cr (cr (cr (cr (cr (cr (Tryd.f35.body.getD .skip)))))))))))))
set_option maxRecDepth 1000000 in
set_option maxHeartbeats 8000000 in
theorem ms11 {w1 w : World} {P m : Nat} {s : Value} {l : List Int} {x : Int} (a : Act) (hf : Mg a P s) (hs : Ms w1 w s l m) (hm : m ≤ 100000) (hc : w1.cell? ⟨P, 10, none⟩ = some (.int .i8 x)) (h0 : 0 ≤ x) (h1 : x ≤ 120)
    {K : Act → World → Prop} {Q : Exit → Act → World → Prop} (hK : ∀ a' w' s', Mg a' P s' → Ms w1 w' s' (l ++ nsec 10 3 x) (m + 100) → K a' w') :
    Code.wp Tryd.prog mk11 (Exit.then K Q) a w := by
  have HM := Lib.hid hs
  have HK := Lib.hid hK
  have u := hs.cell hc
  clear hs hK
  obtain ⟨f, rfl⟩ := lit283 hf.sz hf.df hf.t1 hf.t3
  clear hf
  have hw : IntKind.u64.wrap x = x := IntWalk.u64_in _ (by omega)
  have hqi : (x * 1000000).tdiv 1000000 = x := Int.mul_tdiv_cancel _ (by decide)
  have e1 : esz 10 = 1 := rfl
  have e2 := esz_bd x
  have e3 := (esz_bd ((esz x : Nat) : Int)).2
  have hw2 : IntKind.u64.wrap ((esz x : Nat) : Int) = ((esz x : Nat) : Int) := IntWalk.u64_in _ (by omega)
  have hw3 : IntKind.i64.wrap x = x := IntWalk.i64_in _ (by omega)
  conv => arg 2; whnf
  by_cases hx : x = 3
  · have hxi : (x == 3) = true := by rw [beq_iff_eq]; exact hx
    have HX := Lib.hid hx
    clear hx
    go_wp2_with fail
    refine HK.out _ _ _ ⟨rfl, rfl, rfl, rfl⟩ ?_
    rw [show nsec 10 3 x = [] from if_pos HX.out, List.append_nil]
    exact ⟨HM.out.bel, HM.out.own, Nat.le_trans HM.out.len (by omega)⟩
  · have hxi : (x == 3) = false := by rw [beq_eq_false_iff_ne]; exact hx
    have HX := Lib.hid hx
    clear hx
    go_wp2_with (first | (go_at_call 49; refine (sv x _ h0 (by omega)).mono ?_; rintro e w2 ⟨rfl, rfl⟩) | (go_at_call 47; refine (av w1.heap.size _ _ _ _ HM.out.own HM.out.le (by have := HM.out.len; omega) (by omega) (by omega)).mono ?_; rintro e w2 hE; obtain ⟨s', rfl, HM⟩ := HM.out.appv hE; clear hE))
    refine HK.out _ _ _ ⟨rfl, rfl, rfl, rfl⟩ ?_
    rw [show nsec 10 3 x = enc 10 ++ (enc (esz x : Nat) ++ enc x) from if_neg HX.out]
    have h := HM.out
    rw [List.append_assoc, List.append_assoc] at h
    exact ⟨h.bel, h.own, Nat.le_trans h.len (by omega)⟩

noncomputable def mk12 : Code := cl (cr (cr (cr (cr (cr (cr (cr (cr (cr (cr (cr (cr (cr (Tryd.f35.body.getD .skip))))))))))))))
set_option maxRecDepth 1000000 in
set_option maxHeartbeats 8000000 in
theorem ms12 {w1 w : World} {P m : Nat} {s : Value} {l : List Int} {x : Int} (a : Act) (hf : Mg a P s) (hs : Ms w1 w s l m) (hm : m ≤ 100000) (hc : w1.cell? ⟨P, 11, none⟩ = some (.int .i64 (x * 1000000))) (h0 : 0 ≤ x) (h1 : x ≤ 4611686018)
    {K : Act → World → Prop} {Q : Exit → Act → World → Prop} (hK : ∀ a' w' s', Mg a' P s' → Ms w1 w' s' (l ++ nsec 11 25 x) (m + 100) → K a' w') :
    Code.wp Tryd.prog mk12 (Exit.then K Q) a w := by
  have HM := Lib.hid hs
  have HK := Lib.hid hK
  have u := hs.cell hc
  clear hs hK
  obtain ⟨f, rfl⟩ := lit283 hf.sz hf.df hf.t1 hf.t3
  clear hf
  have hw : IntKind.u64.wrap x = x := IntWalk.u64_in _ (by omega)
  have hqi : (x * 1000000).tdiv 1000000 = x := Int.mul_tdiv_cancel _ (by decide)
  have e1 : esz 11 = 1 := rfl
  have e2 := esz_bd x
  have e3 := (esz_bd ((esz x : Nat) : Int)).2
  have hw2 : IntKind.u64.wrap ((esz x : Nat) : Int) = ((esz x : Nat) : Int) := IntWalk.u64_in _ (by omega)
  have hw3 : IntKind.i64.wrap x = x := IntWalk.i64_in _ (by omega)
  conv => arg 2; whnf
  by_cases hx : x = 25
  · have hxi : (x == 25) = true := by rw [beq_iff_eq]; exact hx
    have HX := Lib.hid hx
    clear hx
    go_wp2_with fail
    refine HK.out _ _ _ ⟨rfl, rfl, rfl, rfl⟩ ?_
    rw [show nsec 11 25 x = [] from if_pos HX.out, List.append_nil]
    exact ⟨HM.out.bel, HM.out.own, Nat.le_trans HM.out.len (by omega)⟩
  · have hxi : (x == 25) = false := by rw [beq_eq_false_iff_ne]; exact hx
    have HX := Lib.hid hx
    clear hx
    go_wp2_with (first | (go_at_call 49; refine (sv x _ h0 (by omega)).mono ?_; rintro e w2 ⟨rfl, rfl⟩) | (go_at_call 47; refine (av w1.heap.size _ _ _ _ HM.out.own HM.out.le (by have := HM.out.len; omega) (by omega) (by omega)).mono ?_; rintro e w2 hE; obtain ⟨s', rfl, HM⟩ := HM.out.appv hE; clear hE))
    refine HK.out _ _ _ ⟨rfl, rfl, rfl, rfl⟩ ?_
    rw [show nsec 11 25 x = enc 11 ++ (enc (esz x : Nat) ++ enc x) from if_neg HX.out]
    have h := HM.out
    rw [List.append_assoc, List.append_assoc] at h
    exact ⟨h.bel, h.own, Nat.le_trans h.len (by omega)⟩

noncomputable def mk13 : Code := cl (cr (cr (cr (cr (cr (cr (cr (cr (cr (cr (cr (cr (cr (cr (Tryd.f35.body.getD .skip)))))))))))))))
set_option maxRecDepth 1000000 in
set_option maxHeartbeats 8000000 in
theorem ms13 {w1 w : World} {P m : Nat} {s : Value} {l : List Int} {x : Bool} (a : Act) (hf : Mg a P s) (hs : Ms w1 w s l m) (hm : m ≤ 100000) (hc : w1.cell? ⟨P, 12, none⟩ = some (.bool x))
    {K : Act → World → Prop} {Q : Exit → Act → World → Prop} (hK : ∀ a' w' s', Mg a' P s' → Ms w1 w' s' (l ++ fsec x) (m + 100) → K a' w') :
    Code.wp Tryd.prog mk13 (Exit.then K Q) a w := by
  have HM := Lib.hid hs
  have HK := Lib.hid hK
  have u := hs.cell hc
  clear hs hK
  obtain ⟨f, rfl⟩ := lit283 hf.sz hf.df hf.t1 hf.t3
  clear hf
  have e1 : esz 12 = 1 := rfl
  have hbs0 : Bs [(0 : Int)] := fun y hy => by simp at hy; omega
  conv => arg 2; whnf
  cases x
  · go_wp2_with fail
    refine HK.out _ _ _ ⟨rfl, rfl, rfl, rfl⟩ ?_
    rw [show fsec false = [] from rfl, List.append_nil]
    exact ⟨HM.out.bel, HM.out.own, Nat.le_trans HM.out.len (by omega)⟩
  · go_wp2_with (first | (go_at_call 47; refine (av w1.heap.size _ _ _ _ HM.out.own HM.out.le (by have := HM.out.len; omega) (by omega) (by omega)).mono ?_; rintro e w2 hE; obtain ⟨s', rfl, HM⟩ := HM.out.appv hE; clear hE) | (have HRz := Lib.hid (Rd.new w2 [0] hbs0 5); at_builtin; refine wpList_app w1.heap.size _ rfl _ _ rfl _ _ rfl (HM.out.own.alloc _) (some ⟨w2.heap.size, 0, none⟩) 1 1 [0] rfl rfl (by exact HRz.out) (by simp) (by have := HM.out.len; (try simp only [List.length_append, enc_length] at this); simp only [List.length_append, enc_length]; omega) (by have := HM.out.le; simp; omega) ?_; intro s2 w3 ho1 hg1 ha1 hb1 hn1))
    refine HK.out _ _ _ ⟨rfl, rfl, rfl, rfl⟩ ?_
    rw [show fsec true = enc 12 ++ [0] from rfl, ← List.append_assoc]
    exact ⟨(HM.out.bel.alloc HM.out.le _).trans hb1, ho1, by have := HM.out.len; simp only [List.length_append, enc_length, List.length_cons, List.length_nil] at this ⊢; omega⟩

noncomputable def mk15 : Code := cl (cr (cr (cr (cr (cr (cr (cr (cr (cr (cr (cr (cr (cr (cr (cr (cr (Tryd.f35.body.getD .skip)))))))))))))))))
set_option maxRecDepth 1000000 in
set_option maxHeartbeats 8000000 in
theorem ms15 {w1 w : World} {P m : Nat} {s : Value} {l : List Int} {x : Int} (a : Act) (hf : Mg a P s) (hs : Ms w1 w s l m) (hm : m ≤ 100000) (hc : w1.cell? ⟨P, 23, none⟩ = some (.int .i64 x)) (h0 : 0 ≤ x) (h1 : x ≤ 4611686018427387903)
    {K : Act → World → Prop} {Q : Exit → Act → World → Prop} (hK : ∀ a' w' s', Mg a' P s' → Ms w1 w' s' (l ++ nsec 14 2 x) (m + 100) → K a' w') :
    Code.wp Tryd.prog mk15 (Exit.then K Q) a w := by
  have HM := Lib.hid hs
  have HK := Lib.hid hK
  have u := hs.cell hc
  clear hs hK
  obtain ⟨f, rfl⟩ := lit283 hf.sz hf.df hf.t1 hf.t3
  clear hf
  have hw : IntKind.u64.wrap x = x := IntWalk.u64_in _ (by omega)
  have hqi : (x * 1000000).tdiv 1000000 = x := Int.mul_tdiv_cancel _ (by decide)
  have e1 : esz 14 = 1 := rfl
  have e2 := esz_bd x
  have e3 := (esz_bd ((esz x : Nat) : Int)).2
  have hw2 : IntKind.u64.wrap ((esz x : Nat) : Int) = ((esz x : Nat) : Int) := IntWalk.u64_in _ (by omega)
  have hw3 : IntKind.i64.wrap x = x := IntWalk.i64_in _ (by omega)
  conv => arg 2; whnf
  by_cases hx : x = 2
  · have hxi : (x == 2) = true := by rw [beq_iff_eq]; exact hx
    have HX := Lib.hid hx
    clear hx
    go_wp2_with fail
    refine HK.out _ _ _ ⟨rfl, rfl, rfl, rfl⟩ ?_
    rw [show nsec 14 2 x = [] from if_pos HX.out, List.append_nil]
    exact ⟨HM.out.bel, HM.out.own, Nat.le_trans HM.out.len (by omega)⟩
  · have hxi : (x == 2) = false := by rw [beq_eq_false_iff_ne]; exact hx
    have HX := Lib.hid hx
    clear hx
    go_wp2_with (first | (go_at_call 49; refine (sv x _ h0 (by omega)).mono ?_; rintro e w2 ⟨rfl, rfl⟩) | (go_at_call 47; refine (av w1.heap.size _ _ _ _ HM.out.own HM.out.le (by have := HM.out.len; omega) (by omega) (by omega)).mono ?_; rintro e w2 hE; obtain ⟨s', rfl, HM⟩ := HM.out.appv hE; clear hE))
    refine HK.out _ _ _ ⟨rfl, rfl, rfl, rfl⟩ ?_
    rw [show nsec 14 2 x = enc 14 ++ (enc (esz x : Nat) ++ enc x) from if_neg HX.out]
    have h := HM.out
    rw [List.append_assoc, List.append_assoc] at h
    exact ⟨h.bel, h.own, Nat.le_trans h.len (by omega)⟩

noncomputable def mk16 : Code := cl (cr (cr (cr (cr (cr (cr (cr (cr (cr (cr (cr (cr (cr (cr (cr (cr (cr (Tryd.f35.body.getD .skip))))))))))))))))))
set_option maxRecDepth 1000000 in
set_option maxHeartbeats 8000000 in
theorem ms16 {w1 w : World} {P m : Nat} {s : Value} {l : List Int} {A : Option Addr} {n c : Nat} {d : List Int} (a : Act) (hf : Mg a P s) (hs : Ms w1 w s l m) (hm : m ≤ 100000) (hc : w1.cell? ⟨P, 24, none⟩ = some (.slice A n c)) (hr : Rt w1 (A, n, c) d) (hd : n ≤ 50)
    {K : Act → World → Prop} {Q : Exit → Act → World → Prop} (hK : ∀ a' w' s', Mg a' P s' → Ms w1 w' s' (l ++ bsec 15 A d) (m + 100) → K a' w') :
    Code.wp Tryd.prog mk16 (Exit.then K Q) a w := by
  have HM := Lib.hid hs
  have HK := Lib.hid hK
  have u := hs.cell hc
  clear hs hK
  obtain ⟨f, rfl⟩ := lit283 hf.sz hf.df hf.t1 hf.t3
  clear hf
  have hn : Hid (d.length = n) := hr.2.1
  have hz : Hid (A = none → c = 0) := hr.2.2.2.2
  have HR : Hid (Rd w1 A d) := hr.1
  have q22 := run_neq_nil
  cases A with
  | none =>
    conv => arg 2; whnf
    go_wp2_with fail
    refine HK.out _ _ _ ⟨rfl, rfl, rfl, rfl⟩ ?_
    rw [show bsec 15 none d = [] from rfl, List.append_nil]
    exact ⟨HM.out.bel, HM.out.own, Nat.le_trans HM.out.len (by omega)⟩
  | some ad =>
    have e1 : esz 15 = 1 := rfl
    have e2 := (esz_bd (n : Int)).2
    have hnl := hn.out
    conv => arg 2; whnf
    go_wp2_with (first | (go_at_call 47; refine (av w1.heap.size _ _ 15 _ HM.out.own HM.out.le (by have := HM.out.len; omega) (by omega) (by omega)).mono ?_; rintro e w2 hE; obtain ⟨s', rfl, HM⟩ := HM.out.app (m' := m + 1) hE (by have := HM.out.len; (try simp only [List.length_append, enc_length] at this); simp only [List.length_append, enc_length]; omega); clear hE) | (go_at_call 48; refine (avb w1.heap.size _ _ (some ad) n c d _ HM.out.own HM.out.le (by have := HM.out.len; omega) (HR.out.below HM.out.bel) hn hz (Lib.hid (HM.out.sep HR.out)) (by omega)).mono ?_; rintro e w3 hE; obtain ⟨s'', rfl, HM⟩ := HM.out.app (m' := m + 100) hE (by have := HM.out.len; (try simp only [List.length_append, enc_length] at this); simp only [List.length_append, enc_length]; omega); clear hE))
    refine HK.out _ _ _ ⟨rfl, rfl, rfl, rfl⟩ ?_
    have h := HM.out
    rw [List.append_assoc, List.append_assoc, ← hnl] at h
    exact h

noncomputable def mk17 : Code := cl (cr (cr (cr (cr (cr (cr (cr (cr (cr (cr (cr (cr (cr (cr (cr (cr (cr (cr (Tryd.f35.body.getD .skip)))))))))))))))))))
set_option maxRecDepth 1000000 in
set_option maxHeartbeats 8000000 in
theorem ms17 {w1 w : World} {P m : Nat} {s : Value} {l : List Int} {A : Option Addr} {n c : Nat} {d : List Int} (a : Act) (hf : Mg a P s) (hs : Ms w1 w s l m) (hm : m ≤ 100000) (hc : w1.cell? ⟨P, 25, none⟩ = some (.slice A n c)) (hr : Rt w1 (A, n, c) d) (hd : n ≤ 50)
    {K : Act → World → Prop} {Q : Exit → Act → World → Prop} (hK : ∀ a' w' s', Mg a' P s' → Ms w1 w' s' (l ++ bsec 16 A d) (m + 100) → K a' w') :
    Code.wp Tryd.prog mk17 (Exit.then K Q) a w := by
  have HM := Lib.hid hs
  have HK := Lib.hid hK
  have u := hs.cell hc
  clear hs hK
  obtain ⟨f, rfl⟩ := lit283 hf.sz hf.df hf.t1 hf.t3
  clear hf
  have hn : Hid (d.length = n) := hr.2.1
  have hz : Hid (A = none → c = 0) := hr.2.2.2.2
  have HR : Hid (Rd w1 A d) := hr.1
  have q22 := run_neq_nil
  cases A with
  | none =>
    conv => arg 2; whnf
    go_wp2_with fail
    refine HK.out _ _ _ ⟨rfl, rfl, rfl, rfl⟩ ?_
    rw [show bsec 16 none d = [] from rfl, List.append_nil]
    exact ⟨HM.out.bel, HM.out.own, Nat.le_trans HM.out.len (by omega)⟩
  | some ad =>
    have e1 : esz 16 = 1 := rfl
    have e2 := (esz_bd (n : Int)).2
    have hnl := hn.out
    conv => arg 2; whnf
    go_wp2_with (first | (go_at_call 47; refine (av w1.heap.size _ _ 16 _ HM.out.own HM.out.le (by have := HM.out.len; omega) (by omega) (by omega)).mono ?_; rintro e w2 hE; obtain ⟨s', rfl, HM⟩ := HM.out.app (m' := m + 1) hE (by have := HM.out.len; (try simp only [List.length_append, enc_length] at this); simp only [List.length_append, enc_length]; omega); clear hE) | (go_at_call 48; refine (avb w1.heap.size _ _ (some ad) n c d _ HM.out.own HM.out.le (by have := HM.out.len; omega) (HR.out.below HM.out.bel) hn hz (Lib.hid (HM.out.sep HR.out)) (by omega)).mono ?_; rintro e w3 hE; obtain ⟨s'', rfl, HM⟩ := HM.out.app (m' := m + 100) hE (by have := HM.out.len; (try simp only [List.length_append, enc_length] at this); simp only [List.length_append, enc_length]; omega); clear hE))
    refine HK.out _ _ _ ⟨rfl, rfl, rfl, rfl⟩ ?_
    have h := HM.out
    rw [List.append_assoc, List.append_assoc, ← hnl] at h
    exact h

end Go.Proofs.YtdjdcpcomhjnjaaDoor

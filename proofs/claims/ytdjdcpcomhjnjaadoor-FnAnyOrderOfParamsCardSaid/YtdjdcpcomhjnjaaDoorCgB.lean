/- spec.Chosen: the flag, the preferred address. spec.Chosen: parameters of other numbers. spec.Chosen: its last loop. spec.Chosen: its last loop, whole. spec.Chosen, whole. laws.FnAnyOrderOfParams: its walk. Conditions: as each part says. -/
import Derived.Test.YtdjdcpcomhjnjaaDoorCgA
import Derived.ArgAppend
import Derived.Deep.Upon
import Derived.Laws.EntriesVeiled
import Derived.Test.YtdjdcpcomhjnjaaDoorAlk
import Derived.Test.YtdjdcpcomhjnjaaDoorFrame
import Derived.Deep.RegionHeld3
namespace Go.Proofs.YtdjdcpcomhjnjaaDoor
section
open Go.RowKit
set_option linter.unusedVariables false
set_option linter.unusedSimpArgs false
structure F15 (a : Act) (P PT PF PL PA : Nat) (Av : Option Addr) (m cv : Nat) : Prop where
  sz : a.tmps.size = 195
  df : a.defers = []
  t2 : a.tmps[2]? = some (.pointer (some ⟨P, 0, none⟩))
  t5 : a.tmps[5]? = some (.pointer (some ⟨PT, 0, none⟩))
  t6 : a.tmps[6]? = some (.pointer (some ⟨PF, 0, none⟩))
  t7 : a.tmps[7]? = some (.pointer (some ⟨PL, 0, none⟩))
  t8 : a.tmps[8]? = some (.pointer (some ⟨PA, 0, none⟩))
  t9 : a.tmps[9]? = some (.func (Fn.func 26) #[] #[.pointer (some ⟨PA, 0, none⟩), .pointer (some ⟨PL, 0, none⟩)])
  t15 : a.tmps[15]? = some (.slice Av m cv)
set_option maxRecDepth 100000 in
theorem lit15 {a : Act} {P PT PF PL PA : Nat} {Av : Option Addr} {m cv : Nat} (hs : a.tmps.size = 195) (hd : a.defers = []) (h2 : a.tmps[2]? = some (.pointer (some ⟨P, 0, none⟩))) (h5 : a.tmps[5]? = some (.pointer (some ⟨PT, 0, none⟩))) (h6 : a.tmps[6]? = some (.pointer (some ⟨PF, 0, none⟩))) (h7 : a.tmps[7]? = some (.pointer (some ⟨PL, 0, none⟩))) (h8 : a.tmps[8]? = some (.pointer (some ⟨PA, 0, none⟩))) (h9 : a.tmps[9]? = some (.func (Fn.func 26) #[] #[.pointer (some ⟨PA, 0, none⟩), .pointer (some ⟨PL, 0, none⟩)])) (h15 : a.tmps[15]? = some (.slice Av m cv)) : ∃ f : Nat → Value, a = ⟨#[f 0, f 1, .pointer (some ⟨P, 0, none⟩), f 3, f 4, .pointer (some ⟨PT, 0, none⟩), .pointer (some ⟨PF, 0, none⟩), .pointer (some ⟨PL, 0, none⟩), .pointer (some ⟨PA, 0, none⟩), .func (Fn.func 26) #[] #[.pointer (some ⟨PA, 0, none⟩), .pointer (some ⟨PL, 0, none⟩)], f 10, f 11, f 12, f 13, f 14, .slice Av m cv, f 16, f 17, f 18, f 19, f 20, f 21, f 22, f 23, f 24, f 25, f 26, f 27, f 28, f 29, f 30, f 31, f 32, f 33, f 34, f 35, f 36, f 37, f 38, f 39, f 40, f 41, f 42, f 43, f 44, f 45, f 46, f 47, f 48, f 49, f 50, f 51, f 52, f 53, f 54, f 55, f 56, f 57, f 58, f 59, f 60, f 61, f 62, f 63, f 64, f 65, f 66, f 67, f 68, f 69, f 70, f 71, f 72, f 73, f 74, f 75, f 76, f 77, f 78, f 79, f 80, f 81, f 82, f 83, f 84, f 85, f 86, f 87, f 88, f 89, f 90, f 91, f 92, f 93, f 94, f 95, f 96, f 97, f 98, f 99, f 100, f 101, f 102, f 103, f 104, f 105, f 106, f 107, f 108, f 109, f 110, f 111, f 112, f 113, f 114, f 115, f 116, f 117, f 118, f 119, f 120, f 121, f 122, f 123, f 124, f 125, f 126, f 127, f 128, f 129, f 130, f 131, f 132, f 133, f 134, f 135, f 136, f 137, f 138, f 139, f 140, f 141, f 142, f 143, f 144, f 145, f 146, f 147, f 148, f 149, f 150, f 151, f 152, f 153, f 154, f 155, f 156, f 157, f 158, f 159, f 160, f 161, f 162, f 163, f 164, f 165, f 166, f 167, f 168, f 169, f 170, f 171, f 172, f 173, f 174, f 175, f 176, f 177, f 178, f 179, f 180, f 181, f 182, f 183, f 184, f 185, f 186, f 187, f 188, f 189, f 190, f 191, f 192, f 193, f 194], []⟩ := by
  obtain ⟨f, hf, e⟩ := lit_ofN 195 a hs hd
  have e2 := (hf 2 (by decide)).symm.trans h2
  have e5 := (hf 5 (by decide)).symm.trans h5
  have e6 := (hf 6 (by decide)).symm.trans h6
  have e7 := (hf 7 (by decide)).symm.trans h7
  have e8 := (hf 8 (by decide)).symm.trans h8
  have e9 := (hf 9 (by decide)).symm.trans h9
  have e15 := (hf 15 (by decide)).symm.trans h15
  simp only [Option.some.injEq] at e2 e5 e6 e7 e8 e9 e15
  refine ⟨f, ?_⟩
  have hl : ((List.range 195).map f).toArray = #[f 0, f 1, f 2, f 3, f 4, f 5, f 6, f 7, f 8, f 9, f 10, f 11, f 12, f 13, f 14, f 15, f 16, f 17, f 18, f 19, f 20, f 21, f 22, f 23, f 24, f 25, f 26, f 27, f 28, f 29, f 30, f 31, f 32, f 33, f 34, f 35, f 36, f 37, f 38, f 39, f 40, f 41, f 42, f 43, f 44, f 45, f 46, f 47, f 48, f 49, f 50, f 51, f 52, f 53, f 54, f 55, f 56, f 57, f 58, f 59, f 60, f 61, f 62, f 63, f 64, f 65, f 66, f 67, f 68, f 69, f 70, f 71, f 72, f 73, f 74, f 75, f 76, f 77, f 78, f 79, f 80, f 81, f 82, f 83, f 84, f 85, f 86, f 87, f 88, f 89, f 90, f 91, f 92, f 93, f 94, f 95, f 96, f 97, f 98, f 99, f 100, f 101, f 102, f 103, f 104, f 105, f 106, f 107, f 108, f 109, f 110, f 111, f 112, f 113, f 114, f 115, f 116, f 117, f 118, f 119, f 120, f 121, f 122, f 123, f 124, f 125, f 126, f 127, f 128, f 129, f 130, f 131, f 132, f 133, f 134, f 135, f 136, f 137, f 138, f 139, f 140, f 141, f 142, f 143, f 144, f 145, f 146, f 147, f 148, f 149, f 150, f 151, f 152, f 153, f 154, f 155, f 156, f 157, f 158, f 159, f 160, f 161, f 162, f 163, f 164, f 165, f 166, f 167, f 168, f 169, f 170, f 171, f 172, f 173, f 174, f 175, f 176, f 177, f 178, f 179, f 180, f 181, f 182, f 183, f 184, f 185, f 186, f 187, f 188, f 189, f 190, f 191, f 192, f 193, f 194] := by kernel_rfl
  rw [e, hl, e2, e5, e6, e7, e8, e9, e15]
theorem St.le {w0 : World} {B PT PA k k' : Nat} {w : World} {ps : List (Int × List Int)} (h : St w0 B PT PA k w ps) (hk : k ≤ k') : St w0 B PT PA k' w ps := by
  obtain ⟨N, t, S, ts, bs, h1, h2, h3, h4⟩ := h
  exact ⟨N, t, S, ts, bs, h1, h2, by omega, by omega⟩
theorem sep_none (A : Option Addr) : Sep A none := fun a h e => by cases e
theorem wrap_u8i (x : Int) : IntKind.u8.wrap x = x % 256 := by rw [IntKind.wrap_u8]
noncomputable def c9 : Code := cl (cr (cr (cr (cr (cr (cr (cr (cr (cr (Tryd.f13.body.getD .skip))))))))))
set_option maxRecDepth 1000000 in
set_option maxHeartbeats 8000000 in
/-- The flag. -/
theorem c9_wp {B P PN PT PF PL PA : Nat} {A : Option Addr} {n c : Nat} {wi w0 w : World} {Qq : QP} {SS : SP} {ps : List (Int × List Int)} (x : Px B P PN PT PF PL PA A n c wi w0 Qq SS) (a : Act) (hf : Fx a P PT PF PL PA) (hst : St w0 B PT PA 15 w ps)
    {K : Act → World → Prop} {Q : Exit → Act → World → Prop} (hK : ∀ a' w', Fx a' P PT PF PL PA → St w0 B PT PA 16 w' (ps ++ fo SS.nomig) → K a' w') :
    Code.wp Tryd.prog c9 (Exit.then K Q) a w := by
  obtain ⟨f, rfl⟩ := lit195 hf.sz hf.df hf.t2 hf.t5 hf.t6 hf.t7 hf.t8 hf.t9
  clear hf
  conv => arg 2; whnf
  obtain ⟨N, t0, S0, ts0, bs0, hc0, ha0, ht0, hl0⟩ := hst
  have u14 := x.pc hc0.fr (i := 14) (v := .bool Qq.nomig) rfl
  have hnm : Qq.nomig = SS.nomig := x.hq.nomig
  rw [hnm] at u14
  have HPU := Lib.hid (pu_wp none 0 0 [] x.cx hc0 (id := 12) (by omega) (by omega) (by omega) (Rt.nil_ w) (by omega) (fun h => by simp at h) (by omega))
  have HC := Lib.hid hc0
  have HA0 := Lib.hid ha0
  have HK := Lib.hid hK
  clear hc0 ha0 hK x hnm
  cases hb : SS.nomig with
  | false =>
    rw [hb] at u14 HK
    go_wp2_with fail
    exact HK.out _ _ ⟨rfl, rfl, rfl, rfl, rfl, rfl, rfl, rfl⟩ ⟨N, t0, S0, ts0, bs0, HC.out, by show allP (_ ++ []) _; rw [List.append_nil]; exact HA0.out, by omega, by omega⟩
  | true =>
    rw [hb] at u14 HK
    go_wp2_with (go_at_call 26; refine HPU.out.mono ?_; rintro e w2 ⟨t2, S2, y, b, rfl, H2⟩)
    exact HK.out _ _ ⟨rfl, rfl, rfl, rfl, rfl, rfl, rfl, rfl⟩ ⟨_, t2, S2, ts0 ++ [y], bs0 ++ [b], H2.out.2.2.2.1, allP_snoc HA0.out H2.out.2.2.1, by have := H2.out.2.1; omega, by rw [List.length_append]; simp; omega⟩
noncomputable def c10 : Code := cl (cr (cr (cr (cr (cr (cr (cr (cr (cr (cr (Tryd.f13.body.getD .skip)))))))))))
noncomputable def c22 : Code := cl (cl (cr c10))
noncomputable def c23 : Code := cl (cr (cl (cr c10)))
noncomputable def c24 : Code := cr (cr (cl (cr c10)))
set_option maxRecDepth 1000000 in
set_option maxHeartbeats 8000000 in
theorem c22_wp {B P PN PT PF PL PA : Nat} {A : Option Addr} {n c : Nat} {wi w0 w : World} {Qq : QP} {SS : SP} {N : Nat} {t : Int} {S : Value} {ts : List Tri} {bs : List (List Int)}  (px : Px B P PN PT PF PL PA A n c wi w0 Qq SS) (a : Act) (hf : Fx a P PT PF PL PA) (hc : Cw w0 B PT PA N w t S ts bs) (h4 : SS.v4.length = 4) (hp0 : 0 ≤ Qq.p4) (hp1 : Qq.p4 ≤ 65535)
    {K : Act → World → Prop} (hK : ∀ a' w' Av m cv, F15 a' P PT PF PL PA Av m cv → Cw w0 B PT PA w.heap.size w' t S ts bs → Own w.heap.size w' (.slice Av m cv) (SS.v4 ++ [Qq.p4 / 256, Qq.p4 % 256]) → K a' w') :
    Code.wp Tryd.prog c22 (Exit.then K (Qr fun _ _ => False)) a w := by
  have HS : Hid (∀ (W : World), Two B PT PA w0 W → W.cell? ⟨P, 15, none⟩ = some (.slice Qq.v4.1 Qq.v4.2.1 Qq.v4.2.2) ∧ W.cell? ⟨P, 17, none⟩ = some (.int .i64 Qq.p4)) := Lib.hid (fun (W : World) (h : Two B PT PA w0 W) => (⟨px.pc h (i := 15) (v := .slice Qq.v4.1 Qq.v4.2.1 Qq.v4.2.2) rfl, px.pc h (i := 17) (v := .int .i64 Qq.p4) rfl⟩ : W.cell? ⟨P, 15, none⟩ = some (.slice Qq.v4.1 Qq.v4.2.1 Qq.v4.2.2) ∧ W.cell? ⟨P, 17, none⟩ = some (.int .i64 Qq.p4)))
  have HD : Hid (Cw w0 B PT PA w.heap.size w.drew t S ts bs) := Lib.hid (hc.up.drewN 1)
  have R4 : Hid (Rt w.drew (Qq.v4.1, Qq.v4.2.1, Qq.v4.2.2) SS.v4) := Lib.hid (px.rt (hc.up.drewN 1).fr px.hq.v4)
  have HK := Lib.hid hK
  have hl4 : SS.v4.length ≤ 4 := Nat.le_of_eq h4
  have hm4 : Qq.v4.2.1 ≤ 4 := by have := px.hq.v4.2.1; omega
  have HBs : Hid (Bs [Qq.p4 / 256, Qq.p4 % 256]) := Lib.hid (Bs.cons (by omega) (Bs.cons (by omega) Bs.nil))
  have hw1 : IntKind.u8.wrap (Qq.p4 / 256) = Qq.p4 / 256 := by rw [wrap_u8i]; omega
  have hw0 : IntKind.u8.wrap Qq.p4 = Qq.p4 % 256 := wrap_u8i _
  clear hK px hc h4
  obtain ⟨f, rfl⟩ := lit195 hf.sz hf.df hf.t2 hf.t5 hf.t6 hf.t7 hf.t8 hf.t9
  clear hf
  conv => arg 2; whnf
  refine wp_region_held_drew (S := fun w' => w'.cell? ⟨P, 15, none⟩ = some (.slice Qq.v4.1 Qq.v4.2.1 Qq.v4.2.2) ∧ w'.cell? ⟨P, 17, none⟩ = some (.int .i64 Qq.p4)) (by kernel_rfl) (by exact HS.out _ HD.out.fr) (fun hHeld => ?_)
  refine wpAnyH_take (i := 0) (oi := ⟨some 116, _, _, _, _, none⟩) (v := ?v0_1) rfl (by kernel_rfl) (by kernel_rfl) (by kernel_rfl) (fun _ _ _ h => h) (Or.inl ⟨by rfl, ?hy0_1⟩) (by assumption) ?rest0_1
  case hy0_1 => (intro wq hSw; (try dsimp only at hSw); go_simp; (try with_reducible rfl))
  try simp only [Act.put, List.setIfInBounds_toArray, List.set_cons_zero, List.set_cons_succ]
  refine wpAnyH_take (i := 1) (oi := ⟨some 117, _, _, _, _, none⟩) (v := ?v1_2) rfl (by kernel_rfl) (by kernel_rfl) (by kernel_rfl) (fun _ _ _ h => h) (Or.inl ⟨by rfl, ?hy1_2⟩) (by assumption) ?rest1_2
  case hy1_2 => (intro wq hSw; (try dsimp only at hSw); go_simp; (try with_reducible rfl))
  try simp only [Act.put, List.setIfInBounds_toArray, List.set_cons_zero, List.set_cons_succ]
  refine wpAnyH_take (i := 3) (oi := ⟨some 119, _, _, _, _, none⟩) (v := ?v3_3) rfl (by kernel_rfl) (by kernel_rfl) (by kernel_rfl) (fun _ _ _ h => h) (Or.inl ⟨by rfl, ?hy3_3⟩) (by assumption) ?rest3_3
  case hy3_3 => (intro wq hSw; (try dsimp only at hSw); go_simp; (try with_reducible rfl))
  try simp only [Act.put, List.setIfInBounds_toArray, List.set_cons_zero, List.set_cons_succ]
  refine wpAnyH_take (i := 4) (oi := ⟨some 120, _, _, _, _, none⟩) (v := ?v4_4) rfl (by kernel_rfl) (by kernel_rfl) (by kernel_rfl) (fun _ _ _ h => h) (Or.inl ⟨by rfl, ?hy4_4⟩) (by assumption) ?rest4_4
  case hy4_4 => (intro wq hSw; (try dsimp only at hSw); go_simp; (try with_reducible rfl))
  try simp only [Act.put, List.setIfInBounds_toArray, List.set_cons_zero, List.set_cons_succ]
  refine wpAnyH_take (i := 5) (oi := ⟨some 121, _, _, _, _, none⟩) (v := ?v5_5) rfl (by kernel_rfl) (by kernel_rfl) (by kernel_rfl) (fun _ _ _ h => h) (Or.inl ⟨by rfl, ?hy5_5⟩) (by assumption) ?rest5_5
  case hy5_5 => (intro wq hSw; (try dsimp only at hSw); go_simp; (try with_reducible rfl))
  try simp only [Act.put, List.setIfInBounds_toArray, List.set_cons_zero, List.set_cons_succ]
  refine wpAnyH_take (i := 6) (oi := ⟨some 122, _, _, _, _, none⟩) (v := ?v6_6) rfl (by kernel_rfl) (by kernel_rfl) (by kernel_rfl) (fun _ _ _ h => h) (Or.inl ⟨by rfl, ?hy6_6⟩) (by assumption) ?rest6_6
  case hy6_6 => (intro wq hSw; (try dsimp only at hSw); go_simp; (try with_reducible rfl))
  try simp only [Act.put, List.setIfInBounds_toArray, List.set_cons_zero, List.set_cons_succ]
  refine wpAnyH_take (i := 7) (oi := ⟨some 123, _, _, _, _, none⟩) (v := ?v7_7) rfl (by kernel_rfl) (by kernel_rfl) (by kernel_rfl) (fun _ _ _ h => h) (Or.inl ⟨by rfl, ?hy7_7⟩) (by assumption) ?rest7_7
  case hy7_7 => (intro wq hSw; (try dsimp only at hSw); go_simp; (try with_reducible rfl))
  try simp only [Act.put, List.setIfInBounds_toArray, List.set_cons_zero, List.set_cons_succ]
  refine wpAnyH_take (i := 8) (oi := ⟨some 124, _, _, _, _, none⟩) (v := ?v8_8) rfl (by kernel_rfl) (by kernel_rfl) (by kernel_rfl) (fun _ _ _ h => h) (Or.inl ⟨by rfl, ?hy8_8⟩) (by assumption) ?rest8_8
  case hy8_8 => (intro wq hSw; (try dsimp only at hSw); go_simp; (try with_reducible rfl))
  try simp only [Act.put, List.setIfInBounds_toArray, List.set_cons_zero, List.set_cons_succ]
  refine wpAnyH_take (i := 9) (oi := ⟨some 125, _, _, _, _, none⟩) (v := ?v9_9) rfl (by kernel_rfl) (by kernel_rfl) (by kernel_rfl) (fun _ _ _ h => h) (Or.inl ⟨by rfl, ?hy9_9⟩) (by assumption) ?rest9_9
  case hy9_9 => (intro wq hSw; (try dsimp only at hSw); go_simp; (try with_reducible rfl))
  try simp only [Act.put, List.setIfInBounds_toArray, List.set_cons_zero, List.set_cons_succ]
  refine wpAnyH_ready (rs := [2, 10]) (by kernel_rfl) (by simp) (AllReadyH.cons (o := ⟨some 118, _, _, _, _, none⟩) rfl (fun K hK => ?_) (AllReadyH.cons (o := ⟨some 126, _, _, _, _, none⟩) rfl (fun K hK => ?_) AllReadyH.nil))
  · refine step_app (by rfl) (.const (.slice none 0 0)) (.tmp 117) (by rfl) w.heap.size (.slice none 0 0) [] (by rfl) (by exact Own.nil_ _ _) Qq.v4.1 Qq.v4.2.1 Qq.v4.2.2 SS.v4 (by rfl) (by exact R4.out.2.1) (by exact R4.out.1) (by exact R4.out.2.2.2.2) (by simp; omega) (by exact Nat.le_refl _) ?_
    intro A3 m3 c3 w3 ho3 hg3 ha3
    have H3 := Lib.hid (HD.out.same hg3 (.inl rfl))
    have HO3 := Lib.hid ho3
    clear ho3 hg3 ha3
    refine hK.out _ _ (by exact HS.out _ H3.out.fr) (fun hHeld => ?_)
    clear hK K
    try simp only [Act.put, List.setIfInBounds_toArray, List.set_cons_zero, List.set_cons_succ]
    refine wpAnyH_ready (rs := [10]) (by kernel_rfl) (by simp) (AllReadyH.cons (o := ⟨some 126, _, _, _, _, none⟩) rfl (fun K hK => ?_) AllReadyH.nil)
    go_simp
    refine hK.out _ _ (by exact HS.out _ (H3.out.alloc _).fr) (fun hHeld => ?_)
    clear hK K
    try simp only [Act.put, List.setIfInBounds_toArray, List.set_cons_zero, List.set_cons_succ]
    refine wpAnyH_ready (rs := [11]) (by kernel_rfl) (by simp) (AllReadyH.cons (o := ⟨some 127, _, _, _, _, none⟩) rfl (fun K hK => ?_) AllReadyH.nil)
    refine step_app (by rfl) (.tmp 118) (.tmp 126) (by rfl) w.heap.size (.slice A3 m3 c3) ([] ++ SS.v4) (by rfl) (by exact HO3.out.alloc _) (some ⟨w3.heap.size, 0, none⟩) 2 2 [Qq.p4 / 256, Qq.p4 % 256] (by rfl) (by rfl) (by exact Rd.new w3 [Qq.p4 / 256, Qq.p4 % 256] HBs.out 5) (fun h => by cases h) (by simp; omega) (by exact (H3.out.alloc (.cells #[.int .u8 (Qq.p4 / 256), .int .u8 (Qq.p4 % 256)] 5 (0, 0))).le) ?_
    intro A4 m4 c4 w4 ho4 hg4 ha4
    have H4 := Lib.hid ((H3.out.alloc (.cells #[.int .u8 (Qq.p4 / 256), .int .u8 (Qq.p4 % 256)] 5 (0, 0))).same hg4 (row_far (HO3.out.alloc (.cells #[.int .u8 (Qq.p4 / 256), .int .u8 (Qq.p4 % 256)] 5 (0, 0))) (Nat.le_refl _)))
    have HO4 := Lib.hid ho4
    clear ho4 hg4 ha4
    refine hK.out _ _ (by exact HS.out _ H4.out.fr) (fun hHeld => ?_)
    clear hK K
    try simp only [Act.put, List.setIfInBounds_toArray, List.set_cons_zero, List.set_cons_succ]
    refine wpAnyH_take (i := 12) (oi := ⟨some 15, _, _, _, _, none⟩) (v := ?v12_10) rfl (by kernel_rfl) (by kernel_rfl) (by kernel_rfl) (fun _ _ _ h => h) (Or.inl ⟨by rfl, ?hy12_10⟩) (by assumption) ?rest12_10
    case hy12_10 => (intro wq hSw; (try dsimp only at hSw); go_simp; (try with_reducible rfl))
    try simp only [Act.put, List.setIfInBounds_toArray, List.set_cons_zero, List.set_cons_succ]
    refine wpAnyH_done (by kernel_rfl) ?_ _
    exact HK.out _ _ A4 m4 c4 ⟨rfl, rfl, rfl, rfl, rfl, rfl, rfl, rfl, rfl⟩ H4.out (by rw [List.nil_append] at HO4; exact HO4.out)
  · go_simp
    refine hK.out _ _ (by exact HS.out _ (HD.out.alloc _).fr) (fun hHeld => ?_)
    clear hK K
    try simp only [Act.put, List.setIfInBounds_toArray, List.set_cons_zero, List.set_cons_succ]
    refine wpAnyH_ready (rs := [2]) (by kernel_rfl) (by simp) (AllReadyH.cons (o := ⟨some 118, _, _, _, _, none⟩) rfl (fun K hK => ?_) AllReadyH.nil)
    refine step_app (by rfl) (.const (.slice none 0 0)) (.tmp 117) (by rfl) w.heap.size (.slice none 0 0) [] (by rfl) (by exact Own.nil_ _ _) Qq.v4.1 Qq.v4.2.1 Qq.v4.2.2 SS.v4 (by rfl) (by exact R4.out.2.1) (by exact R4.out.1.alloc (.cells #[.int .u8 (Qq.p4 / 256), .int .u8 (Qq.p4 % 256)] 5 (0, 0))) (by exact R4.out.2.2.2.2) (by simp; omega) (by exact (HD.out.alloc (.cells #[.int .u8 (Qq.p4 / 256), .int .u8 (Qq.p4 % 256)] 5 (0, 0))).le) ?_
    intro A3 m3 c3 w3 ho3 hg3 ha3
    have H3 := Lib.hid ((HD.out.alloc _).same hg3 (.inl rfl))
    have HO3 := Lib.hid ho3
    have HR3 := Lib.hid ((Rd.new w.drew [Qq.p4 / 256, Qq.p4 % 256] HBs.out 5).grown hg3 (fun _ => sep_none _))
    clear ho3 hg3 ha3
    refine hK.out _ _ (by exact HS.out _ H3.out.fr) (fun hHeld => ?_)
    clear hK K
    try simp only [Act.put, List.setIfInBounds_toArray, List.set_cons_zero, List.set_cons_succ]
    refine wpAnyH_ready (rs := [11]) (by kernel_rfl) (by simp) (AllReadyH.cons (o := ⟨some 127, _, _, _, _, none⟩) rfl (fun K hK => ?_) AllReadyH.nil)
    refine step_app (by rfl) (.tmp 118) (.tmp 126) (by rfl) w.heap.size (.slice A3 m3 c3) ([] ++ SS.v4) (by rfl) (by exact HO3.out) (some ⟨w.heap.size, 0, none⟩) 2 2 [Qq.p4 / 256, Qq.p4 % 256] (by rfl) (by rfl) (by exact HR3.out) (fun h => by cases h) (by simp; omega) (by exact H3.out.le) ?_
    intro A4 m4 c4 w4 ho4 hg4 ha4
    have H4 := Lib.hid (H3.out.same hg4 (row_far HO3.out (Nat.le_refl _)))
    have HO4 := Lib.hid ho4
    clear ho4 hg4 ha4
    refine hK.out _ _ (by exact HS.out _ H4.out.fr) (fun hHeld => ?_)
    clear hK K
    try simp only [Act.put, List.setIfInBounds_toArray, List.set_cons_zero, List.set_cons_succ]
    refine wpAnyH_take (i := 12) (oi := ⟨some 15, _, _, _, _, none⟩) (v := ?v12_11) rfl (by kernel_rfl) (by kernel_rfl) (by kernel_rfl) (fun _ _ _ h => h) (Or.inl ⟨by rfl, ?hy12_11⟩) (by assumption) ?rest12_11
    case hy12_11 => (intro wq hSw; (try dsimp only at hSw); go_simp; (try with_reducible rfl))
    try simp only [Act.put, List.setIfInBounds_toArray, List.set_cons_zero, List.set_cons_succ]
    refine wpAnyH_done (by kernel_rfl) ?_ _
    exact HK.out _ _ A4 m4 c4 ⟨rfl, rfl, rfl, rfl, rfl, rfl, rfl, rfl, rfl⟩ H4.out (by rw [List.nil_append] at HO4; exact HO4.out)
set_option maxRecDepth 1000000 in
set_option maxHeartbeats 8000000 in
theorem c23_wp {B P PN PT PF PL PA : Nat} {A : Option Addr} {n c : Nat} {wi w0 w : World} {Qq : QP} {SS : SP} {N : Nat} {t : Int} {S : Value} {ts : List Tri} {bs : List (List Int)} {Av : Option Addr} {m cv : Nat} {l : List Int} (px : Px B P PN PT PF PL PA A n c wi w0 Qq SS) (a : Act) (hf : F15 a P PT PF PL PA Av m cv) (hc : Cw w0 B PT PA N w t S ts bs) (ho : Own N w (.slice Av m cv) l) (hll : l.length ≤ 100) (h6 : SS.v6.length = 16) (hp0 : 0 ≤ Qq.p6) (hp1 : Qq.p6 ≤ 65535) (hpn : Qq.pid.2.1 ≤ 20)
    {K : Act → World → Prop} (hK : ∀ a' w' Av m cv, F15 a' P PT PF PL PA Av m cv → Cw w0 B PT PA N w' t S ts bs → Own N w' (.slice Av m cv) (l ++ SS.v6 ++ [Qq.p6 / 256, Qq.p6 % 256, (Qq.pid.2.1 : Int)]) → K a' w') :
    Code.wp Tryd.prog c23 (Exit.then K (Qr fun _ _ => False)) a w := by
  have HS : Hid (∀ (W : World), Two B PT PA w0 W → W.cell? ⟨P, 16, none⟩ = some (.slice Qq.v6.1 Qq.v6.2.1 Qq.v6.2.2) ∧ W.cell? ⟨P, 18, none⟩ = some (.int .i64 Qq.p6) ∧ W.cell? ⟨P, 19, none⟩ = some (.slice Qq.pid.1 Qq.pid.2.1 Qq.pid.2.2)) := Lib.hid (fun (W : World) (h : Two B PT PA w0 W) => (⟨px.pc h (i := 16) (v := .slice Qq.v6.1 Qq.v6.2.1 Qq.v6.2.2) rfl, px.pc h (i := 18) (v := .int .i64 Qq.p6) rfl, px.pc h (i := 19) (v := .slice Qq.pid.1 Qq.pid.2.1 Qq.pid.2.2) rfl⟩ : W.cell? ⟨P, 16, none⟩ = some (.slice Qq.v6.1 Qq.v6.2.1 Qq.v6.2.2) ∧ W.cell? ⟨P, 18, none⟩ = some (.int .i64 Qq.p6) ∧ W.cell? ⟨P, 19, none⟩ = some (.slice Qq.pid.1 Qq.pid.2.1 Qq.pid.2.2)))
  have HD : Hid (Cw w0 B PT PA N w.drew t S ts bs) := Lib.hid (hc.drewN 1)
  have HO : Hid (Own N w.drew (.slice Av m cv) l) := Lib.hid (ho.drewN 1)
  have R6 : Hid (Rt w.drew (Qq.v6.1, Qq.v6.2.1, Qq.v6.2.2) SS.v6) := Lib.hid (px.rt (hc.drewN 1).fr px.hq.v6)
  have HSP : Hid (0 < [Qq.p6 / 256, Qq.p6 % 256, (Qq.pid.2.1 : Int)].length → Sep (some ⟨w.drew.heap.size, 0, none⟩) (Value.slice Av m cv).ownBlock) := Lib.hid (fun _ a ha e => by
    have h1 := (ho.lt _ e).2
    have h2 : a = ⟨w.drew.heap.size, 0, none⟩ := by simpa using ha.symm
    rw [h2] at h1
    have h3 : w.heap.size < w.heap.size := h1
    omega)
  have HK := Lib.hid hK
  have hm6 : Qq.v6.2.1 ≤ 16 := by have := px.hq.v6.2.1; omega
  have hl6 : SS.v6.length ≤ 16 := Nat.le_of_eq h6
  have HBs : Hid (Bs [Qq.p6 / 256, Qq.p6 % 256, (Qq.pid.2.1 : Int)]) := Lib.hid (Bs.cons (by omega) (Bs.cons (by omega) (Bs.cons (by omega) Bs.nil)))
  have hw1 : IntKind.u8.wrap (Qq.p6 / 256) = Qq.p6 / 256 := by rw [wrap_u8i]; omega
  have hw0 : IntKind.u8.wrap Qq.p6 = Qq.p6 % 256 := wrap_u8i _
  have hw2 : IntKind.u8.wrap (Qq.pid.2.1 : Int) = (Qq.pid.2.1 : Int) := by rw [wrap_u8i]; omega
  clear hK px hc h6 ho
  obtain ⟨f, rfl⟩ := lit15 hf.sz hf.df hf.t2 hf.t5 hf.t6 hf.t7 hf.t8 hf.t9 hf.t15
  clear hf
  conv => arg 2; whnf
  refine wp_region_held_drew (S := fun w' => w'.cell? ⟨P, 16, none⟩ = some (.slice Qq.v6.1 Qq.v6.2.1 Qq.v6.2.2) ∧ w'.cell? ⟨P, 18, none⟩ = some (.int .i64 Qq.p6) ∧ w'.cell? ⟨P, 19, none⟩ = some (.slice Qq.pid.1 Qq.pid.2.1 Qq.pid.2.2)) (by kernel_rfl) (by exact HS.out _ HD.out.fr) (fun hHeld => ?_)
  refine wpAnyH_take (i := 0) (oi := ⟨some 128, _, _, _, _, none⟩) (v := ?v0_1) rfl (by kernel_rfl) (by kernel_rfl) (by kernel_rfl) (fun _ _ _ h => h) (Or.inl ⟨by rfl, ?hy0_1⟩) (by assumption) ?rest0_1
  case hy0_1 => (intro wq hSw; (try dsimp only at hSw); go_simp; (try with_reducible rfl))
  try simp only [Act.put, List.setIfInBounds_toArray, List.set_cons_zero, List.set_cons_succ]
  refine wpAnyH_take (i := 1) (oi := ⟨some 129, _, _, _, _, none⟩) (v := ?v1_2) rfl (by kernel_rfl) (by kernel_rfl) (by kernel_rfl) (fun _ _ _ h => h) (Or.inl ⟨by rfl, ?hy1_2⟩) (by assumption) ?rest1_2
  case hy1_2 => (intro wq hSw; (try dsimp only at hSw); go_simp; (try with_reducible rfl))
  try simp only [Act.put, List.setIfInBounds_toArray, List.set_cons_zero, List.set_cons_succ]
  refine wpAnyH_take (i := 2) (oi := ⟨some 130, _, _, _, _, none⟩) (v := ?v2_3) rfl (by kernel_rfl) (by kernel_rfl) (by kernel_rfl) (fun _ _ _ h => h) (Or.inl ⟨by rfl, ?hy2_3⟩) (by assumption) ?rest2_3
  case hy2_3 => (intro wq hSw; (try dsimp only at hSw); go_simp; (try with_reducible rfl))
  try simp only [Act.put, List.setIfInBounds_toArray, List.set_cons_zero, List.set_cons_succ]
  refine wpAnyH_take (i := 4) (oi := ⟨some 132, _, _, _, _, none⟩) (v := ?v4_4) rfl (by kernel_rfl) (by kernel_rfl) (by kernel_rfl) (fun _ _ _ h => h) (Or.inl ⟨by rfl, ?hy4_4⟩) (by assumption) ?rest4_4
  case hy4_4 => (intro wq hSw; (try dsimp only at hSw); go_simp; (try with_reducible rfl))
  try simp only [Act.put, List.setIfInBounds_toArray, List.set_cons_zero, List.set_cons_succ]
  refine wpAnyH_take (i := 5) (oi := ⟨some 133, _, _, _, _, none⟩) (v := ?v5_5) rfl (by kernel_rfl) (by kernel_rfl) (by kernel_rfl) (fun _ _ _ h => h) (Or.inl ⟨by rfl, ?hy5_5⟩) (by assumption) ?rest5_5
  case hy5_5 => (intro wq hSw; (try dsimp only at hSw); go_simp; (try with_reducible rfl))
  try simp only [Act.put, List.setIfInBounds_toArray, List.set_cons_zero, List.set_cons_succ]
  refine wpAnyH_take (i := 6) (oi := ⟨some 134, _, _, _, _, none⟩) (v := ?v6_6) rfl (by kernel_rfl) (by kernel_rfl) (by kernel_rfl) (fun _ _ _ h => h) (Or.inl ⟨by rfl, ?hy6_6⟩) (by assumption) ?rest6_6
  case hy6_6 => (intro wq hSw; (try dsimp only at hSw); go_simp; (try with_reducible rfl))
  try simp only [Act.put, List.setIfInBounds_toArray, List.set_cons_zero, List.set_cons_succ]
  refine wpAnyH_take (i := 7) (oi := ⟨some 135, _, _, _, _, none⟩) (v := ?v7_7) rfl (by kernel_rfl) (by kernel_rfl) (by kernel_rfl) (fun _ _ _ h => h) (Or.inl ⟨by rfl, ?hy7_7⟩) (by assumption) ?rest7_7
  case hy7_7 => (intro wq hSw; (try dsimp only at hSw); go_simp; (try with_reducible rfl))
  try simp only [Act.put, List.setIfInBounds_toArray, List.set_cons_zero, List.set_cons_succ]
  refine wpAnyH_take (i := 8) (oi := ⟨some 136, _, _, _, _, none⟩) (v := ?v8_8) rfl (by kernel_rfl) (by kernel_rfl) (by kernel_rfl) (fun _ _ _ h => h) (Or.inl ⟨by rfl, ?hy8_8⟩) (by assumption) ?rest8_8
  case hy8_8 => (intro wq hSw; (try dsimp only at hSw); go_simp; (try with_reducible rfl))
  try simp only [Act.put, List.setIfInBounds_toArray, List.set_cons_zero, List.set_cons_succ]
  refine wpAnyH_take (i := 9) (oi := ⟨some 137, _, _, _, _, none⟩) (v := ?v9_9) rfl (by kernel_rfl) (by kernel_rfl) (by kernel_rfl) (fun _ _ _ h => h) (Or.inl ⟨by rfl, ?hy9_9⟩) (by assumption) ?rest9_9
  case hy9_9 => (intro wq hSw; (try dsimp only at hSw); go_simp; (try with_reducible rfl))
  try simp only [Act.put, List.setIfInBounds_toArray, List.set_cons_zero, List.set_cons_succ]
  refine wpAnyH_take (i := 10) (oi := ⟨some 138, _, _, _, _, none⟩) (v := ?v10_10) rfl (by kernel_rfl) (by kernel_rfl) (by kernel_rfl) (fun _ _ _ h => h) (Or.inl ⟨by rfl, ?hy10_10⟩) (by assumption) ?rest10_10
  case hy10_10 => (intro wq hSw; (try dsimp only at hSw); go_simp; (try with_reducible rfl))
  try simp only [Act.put, List.setIfInBounds_toArray, List.set_cons_zero, List.set_cons_succ]
  refine wpAnyH_take (i := 11) (oi := ⟨some 139, _, _, _, _, none⟩) (v := ?v11_11) rfl (by kernel_rfl) (by kernel_rfl) (by kernel_rfl) (fun _ _ _ h => h) (Or.inl ⟨by rfl, ?hy11_11⟩) (by assumption) ?rest11_11
  case hy11_11 => (intro wq hSw; (try dsimp only at hSw); go_simp; (try with_reducible rfl))
  try simp only [Act.put, List.setIfInBounds_toArray, List.set_cons_zero, List.set_cons_succ]
  refine wpAnyH_take (i := 12) (oi := ⟨some 140, _, _, _, _, none⟩) (v := ?v12_12) rfl (by kernel_rfl) (by kernel_rfl) (by kernel_rfl) (fun _ _ _ h => h) (Or.inl ⟨by rfl, ?hy12_12⟩) (by assumption) ?rest12_12
  case hy12_12 => (intro wq hSw; (try dsimp only at hSw); go_simp; (try with_reducible rfl))
  try simp only [Act.put, List.setIfInBounds_toArray, List.set_cons_zero, List.set_cons_succ]
  refine wpAnyH_take (i := 13) (oi := ⟨some 141, _, _, _, _, none⟩) (v := ?v13_13) rfl (by kernel_rfl) (by kernel_rfl) (by kernel_rfl) (fun _ _ _ h => h) (Or.inl ⟨by rfl, ?hy13_13⟩) (by assumption) ?rest13_13
  case hy13_13 => (intro wq hSw; (try dsimp only at hSw); go_simp; (try with_reducible rfl))
  try simp only [Act.put, List.setIfInBounds_toArray, List.set_cons_zero, List.set_cons_succ]
  refine wpAnyH_take (i := 14) (oi := ⟨some 142, _, _, _, _, none⟩) (v := ?v14_14) rfl (by kernel_rfl) (by kernel_rfl) (by kernel_rfl) (fun _ _ _ h => h) (Or.inl ⟨by rfl, ?hy14_14⟩) (by assumption) ?rest14_14
  case hy14_14 => (intro wq hSw; (try dsimp only at hSw); go_simp; (try with_reducible rfl))
  try simp only [Act.put, List.setIfInBounds_toArray, List.set_cons_zero, List.set_cons_succ]
  refine wpAnyH_ready (rs := [3, 15]) (by kernel_rfl) (by simp) (AllReadyH.cons (o := ⟨some 131, _, _, _, _, none⟩) rfl (fun K hK => ?_) (AllReadyH.cons (o := ⟨some 143, _, _, _, _, none⟩) rfl (fun K hK => ?_) AllReadyH.nil))
  · refine step_app (by rfl) (.tmp 128) (.tmp 130) (by rfl) N (.slice Av m cv) l (by rfl) (by exact HO.out) Qq.v6.1 Qq.v6.2.1 Qq.v6.2.2 SS.v6 (by rfl) (by exact R6.out.2.1) (by exact R6.out.1) (by exact R6.out.2.2.2.2) (by omega) (by exact HD.out.le) ?_
    intro A3 m3 c3 w3 ho3 hg3 ha3
    have H3 := Lib.hid (HD.out.same hg3 (row_far HO.out (Nat.le_refl _)))
    have HO3 := Lib.hid ho3
    clear ho3 hg3 ha3
    refine hK.out _ _ (by exact HS.out _ H3.out.fr) (fun hHeld => ?_)
    clear hK K
    try simp only [Act.put, List.setIfInBounds_toArray, List.set_cons_zero, List.set_cons_succ]
    refine wpAnyH_ready (rs := [15]) (by kernel_rfl) (by simp) (AllReadyH.cons (o := ⟨some 143, _, _, _, _, none⟩) rfl (fun K hK => ?_) AllReadyH.nil)
    go_simp
    refine hK.out _ _ (by exact HS.out _ (H3.out.alloc _).fr) (fun hHeld => ?_)
    clear hK K
    try simp only [Act.put, List.setIfInBounds_toArray, List.set_cons_zero, List.set_cons_succ]
    refine wpAnyH_ready (rs := [16]) (by kernel_rfl) (by simp) (AllReadyH.cons (o := ⟨some 144, _, _, _, _, none⟩) rfl (fun K hK => ?_) AllReadyH.nil)
    refine step_app (by rfl) (.tmp 131) (.tmp 143) (by rfl) N (.slice A3 m3 c3) (l ++ SS.v6) (by rfl) (by exact HO3.out.alloc _) (some ⟨w3.heap.size, 0, none⟩) 3 3 [Qq.p6 / 256, Qq.p6 % 256, (Qq.pid.2.1 : Int)] (by rfl) (by rfl) (by exact Rd.new w3 [Qq.p6 / 256, Qq.p6 % 256, (Qq.pid.2.1 : Int)] HBs.out 5) (fun h => by cases h) (by rw [List.length_append]; omega) (by exact (H3.out.alloc (.cells #[.int .u8 (Qq.p6 / 256), .int .u8 (Qq.p6 % 256), .int .u8 (Qq.pid.2.1 : Int)] 5 (0, 0))).le) ?_
    intro A4 m4 c4 w4 ho4 hg4 ha4
    have H4 := Lib.hid ((H3.out.alloc (.cells #[.int .u8 (Qq.p6 / 256), .int .u8 (Qq.p6 % 256), .int .u8 (Qq.pid.2.1 : Int)] 5 (0, 0))).same hg4 (row_far (HO3.out.alloc (.cells #[.int .u8 (Qq.p6 / 256), .int .u8 (Qq.p6 % 256), .int .u8 (Qq.pid.2.1 : Int)] 5 (0, 0))) (Nat.le_refl _)))
    have HO4 := Lib.hid ho4
    clear ho4 hg4 ha4
    refine hK.out _ _ (by exact HS.out _ H4.out.fr) (fun hHeld => ?_)
    clear hK K
    try simp only [Act.put, List.setIfInBounds_toArray, List.set_cons_zero, List.set_cons_succ]
    refine wpAnyH_take (i := 17) (oi := ⟨some 15, _, _, _, _, none⟩) (v := ?v17_15) rfl (by kernel_rfl) (by kernel_rfl) (by kernel_rfl) (fun _ _ _ h => h) (Or.inl ⟨by rfl, ?hy17_15⟩) (by assumption) ?rest17_15
    case hy17_15 => (intro wq hSw; (try dsimp only at hSw); go_simp; (try with_reducible rfl))
    try simp only [Act.put, List.setIfInBounds_toArray, List.set_cons_zero, List.set_cons_succ]
    refine wpAnyH_done (by kernel_rfl) ?_ _
    exact HK.out _ _ A4 m4 c4 ⟨rfl, rfl, rfl, rfl, rfl, rfl, rfl, rfl, rfl⟩ H4.out HO4.out
  · go_simp
    refine hK.out _ _ (by exact HS.out _ (HD.out.alloc _).fr) (fun hHeld => ?_)
    clear hK K
    try simp only [Act.put, List.setIfInBounds_toArray, List.set_cons_zero, List.set_cons_succ]
    refine wpAnyH_ready (rs := [3]) (by kernel_rfl) (by simp) (AllReadyH.cons (o := ⟨some 131, _, _, _, _, none⟩) rfl (fun K hK => ?_) AllReadyH.nil)
    refine step_app (by rfl) (.tmp 128) (.tmp 130) (by rfl) N (.slice Av m cv) l (by rfl) (by exact HO.out.alloc (.cells #[.int .u8 (Qq.p6 / 256), .int .u8 (Qq.p6 % 256), .int .u8 (Qq.pid.2.1 : Int)] 5 (0, 0))) Qq.v6.1 Qq.v6.2.1 Qq.v6.2.2 SS.v6 (by rfl) (by exact R6.out.2.1) (by exact R6.out.1.alloc (.cells #[.int .u8 (Qq.p6 / 256), .int .u8 (Qq.p6 % 256), .int .u8 (Qq.pid.2.1 : Int)] 5 (0, 0))) (by exact R6.out.2.2.2.2) (by omega) (by exact (HD.out.alloc (.cells #[.int .u8 (Qq.p6 / 256), .int .u8 (Qq.p6 % 256), .int .u8 (Qq.pid.2.1 : Int)] 5 (0, 0))).le) ?_
    intro A3 m3 c3 w3 ho3 hg3 ha3
    have H3 := Lib.hid ((HD.out.alloc (.cells #[.int .u8 (Qq.p6 / 256), .int .u8 (Qq.p6 % 256), .int .u8 (Qq.pid.2.1 : Int)] 5 (0, 0))).same hg3 (row_far (HO.out.alloc (.cells #[.int .u8 (Qq.p6 / 256), .int .u8 (Qq.p6 % 256), .int .u8 (Qq.pid.2.1 : Int)] 5 (0, 0))) (Nat.le_refl _)))
    have HO3 := Lib.hid ho3
    have HR3 := Lib.hid ((Rd.new w.drew [Qq.p6 / 256, Qq.p6 % 256, (Qq.pid.2.1 : Int)] HBs.out 5).grown hg3 HSP.out)
    clear ho3 hg3 ha3
    refine hK.out _ _ (by exact HS.out _ H3.out.fr) (fun hHeld => ?_)
    clear hK K
    try simp only [Act.put, List.setIfInBounds_toArray, List.set_cons_zero, List.set_cons_succ]
    refine wpAnyH_ready (rs := [16]) (by kernel_rfl) (by simp) (AllReadyH.cons (o := ⟨some 144, _, _, _, _, none⟩) rfl (fun K hK => ?_) AllReadyH.nil)
    refine step_app (by rfl) (.tmp 131) (.tmp 143) (by rfl) N (.slice A3 m3 c3) (l ++ SS.v6) (by rfl) (by exact HO3.out) (some ⟨w.heap.size, 0, none⟩) 3 3 [Qq.p6 / 256, Qq.p6 % 256, (Qq.pid.2.1 : Int)] (by rfl) (by rfl) (by exact HR3.out) (fun h => by cases h) (by rw [List.length_append]; omega) (by exact H3.out.le) ?_
    intro A4 m4 c4 w4 ho4 hg4 ha4
    have H4 := Lib.hid (H3.out.same hg4 (row_far HO3.out (Nat.le_refl _)))
    have HO4 := Lib.hid ho4
    clear ho4 hg4 ha4
    refine hK.out _ _ (by exact HS.out _ H4.out.fr) (fun hHeld => ?_)
    clear hK K
    try simp only [Act.put, List.setIfInBounds_toArray, List.set_cons_zero, List.set_cons_succ]
    refine wpAnyH_take (i := 17) (oi := ⟨some 15, _, _, _, _, none⟩) (v := ?v17_16) rfl (by kernel_rfl) (by kernel_rfl) (by kernel_rfl) (fun _ _ _ h => h) (Or.inl ⟨by rfl, ?hy17_16⟩) (by assumption) ?rest17_16
    case hy17_16 => (intro wq hSw; (try dsimp only at hSw); go_simp; (try with_reducible rfl))
    try simp only [Act.put, List.setIfInBounds_toArray, List.set_cons_zero, List.set_cons_succ]
    refine wpAnyH_done (by kernel_rfl) ?_ _
    exact HK.out _ _ A4 m4 c4 ⟨rfl, rfl, rfl, rfl, rfl, rfl, rfl, rfl, rfl⟩ H4.out HO4.out
set_option maxRecDepth 1000000 in
set_option maxHeartbeats 8000000 in
theorem c24_wp {B P PN PT PF PL PA : Nat} {A : Option Addr} {n c : Nat} {wi w0 w : World} {Qq : QP} {SS : SP} {N : Nat} {t : Int} {S : Value} {ts : List Tri} {bs : List (List Int)} {Av : Option Addr} {m cv : Nat} {l : List Int} (px : Px B P PN PT PF PL PA A n c wi w0 Qq SS) (a : Act) (hf : F15 a P PT PF PL PA Av m cv) (hc : Cw w0 B PT PA N w t S ts bs) (ho : Own N w (.slice Av m cv) l) (hll : l.length ≤ 100) (h7 : SS.ptok.length ≤ 16) (hpn : Qq.pid.2.1 ≤ 20) (ht : t ≤ 1000) (hl : ts.length ≤ 900)
    {K : Act → World → Prop} (hK : ∀ a' w' t' S' y b, Fx a' P PT PF PL PA → Cw w0 B PT PA w'.heap.size w' t' S' (ts ++ [y]) (bs ++ [b]) → isP (13, l ++ SS.pid ++ SS.ptok) b → t' ≤ t + 6 → K a' w') :
    Code.wp Tryd.prog c24 (Exit.then K (Qr fun _ _ => False)) a w := by
  have HS : Hid (∀ (W : World), Two B PT PA w0 W → W.cell? ⟨P, 19, none⟩ = some (.slice Qq.pid.1 Qq.pid.2.1 Qq.pid.2.2) ∧ W.cell? ⟨P, 20, none⟩ = some (.slice Qq.ptok.1 Qq.ptok.2.1 Qq.ptok.2.2)) := Lib.hid (fun (W : World) (h : Two B PT PA w0 W) => (⟨px.pc h (i := 19) (v := .slice Qq.pid.1 Qq.pid.2.1 Qq.pid.2.2) rfl, px.pc h (i := 20) (v := .slice Qq.ptok.1 Qq.ptok.2.1 Qq.ptok.2.2) rfl⟩ : W.cell? ⟨P, 19, none⟩ = some (.slice Qq.pid.1 Qq.pid.2.1 Qq.pid.2.2) ∧ W.cell? ⟨P, 20, none⟩ = some (.slice Qq.ptok.1 Qq.ptok.2.1 Qq.ptok.2.2)))
  have HD : Hid (Cw w0 B PT PA N w.drew t S ts bs) := Lib.hid (hc.drewN 1)
  have HO : Hid (Own N w.drew (.slice Av m cv) l) := Lib.hid (ho.drewN 1)
  have R1 : Hid (Rt w.drew (Qq.pid.1, Qq.pid.2.1, Qq.pid.2.2) SS.pid) := Lib.hid (px.rt (hc.drewN 1).fr px.hq.pid)
  have HPN : Hid (PT < N) := Lib.hid (by have := hc.pp; have := hc.bn; omega)
  have HPX := Lib.hid px
  have HK := Lib.hid hK
  have hmt : Qq.ptok.2.1 ≤ 16 := by have := px.hq.ptok.2.1; omega
  have hlp : SS.pid.length ≤ 20 := by have := px.hq.pid.2.1; omega
  have hlt : SS.ptok.length ≤ 16 := h7
  clear hK px hc h7 ho
  obtain ⟨f, rfl⟩ := lit15 hf.sz hf.df hf.t2 hf.t5 hf.t6 hf.t7 hf.t8 hf.t9 hf.t15
  clear hf
  conv => arg 2; whnf
  refine wp_region_held_drew (S := fun w' => w'.cell? ⟨P, 19, none⟩ = some (.slice Qq.pid.1 Qq.pid.2.1 Qq.pid.2.2) ∧ w'.cell? ⟨P, 20, none⟩ = some (.slice Qq.ptok.1 Qq.ptok.2.1 Qq.ptok.2.2)) (by kernel_rfl) (by exact HS.out _ HD.out.fr) (fun hHeld => ?_)
  refine wpAnyH_take (i := 0) (oi := ⟨some 145, _, _, _, _, none⟩) (v := ?v0_1) rfl (by kernel_rfl) (by kernel_rfl) (by kernel_rfl) (fun _ _ _ h => h) (Or.inl ⟨by rfl, ?hy0_1⟩) (by assumption) ?rest0_1
  case hy0_1 => (intro wq hSw; (try dsimp only at hSw); go_simp; (try with_reducible rfl))
  try simp only [Act.put, List.setIfInBounds_toArray, List.set_cons_zero, List.set_cons_succ]
  refine wpAnyH_take (i := 1) (oi := ⟨some 146, _, _, _, _, none⟩) (v := ?v1_2) rfl (by kernel_rfl) (by kernel_rfl) (by kernel_rfl) (fun _ _ _ h => h) (Or.inl ⟨by rfl, ?hy1_2⟩) (by assumption) ?rest1_2
  case hy1_2 => (intro wq hSw; (try dsimp only at hSw); go_simp; (try with_reducible rfl))
  try simp only [Act.put, List.setIfInBounds_toArray, List.set_cons_zero, List.set_cons_succ]
  refine wpAnyH_take (i := 2) (oi := ⟨some 147, _, _, _, _, none⟩) (v := ?v2_3) rfl (by kernel_rfl) (by kernel_rfl) (by kernel_rfl) (fun _ _ _ h => h) (Or.inl ⟨by rfl, ?hy2_3⟩) (by assumption) ?rest2_3
  case hy2_3 => (intro wq hSw; (try dsimp only at hSw); go_simp; (try with_reducible rfl))
  try simp only [Act.put, List.setIfInBounds_toArray, List.set_cons_zero, List.set_cons_succ]
  refine wpAnyH_take (i := 3) (oi := ⟨some 148, _, _, _, _, none⟩) (v := ?v3_4) rfl (by kernel_rfl) (by kernel_rfl) (by kernel_rfl) (fun _ _ _ h => h) (Or.inl ⟨by rfl, ?hy3_4⟩) (by assumption) ?rest3_4
  case hy3_4 => (intro wq hSw; (try dsimp only at hSw); go_simp; (try with_reducible rfl))
  try simp only [Act.put, List.setIfInBounds_toArray, List.set_cons_zero, List.set_cons_succ]
  refine wpAnyH_take (i := 5) (oi := ⟨some 150, _, _, _, _, none⟩) (v := ?v5_5) rfl (by kernel_rfl) (by kernel_rfl) (by kernel_rfl) (fun _ _ _ h => h) (Or.inl ⟨by rfl, ?hy5_5⟩) (by assumption) ?rest5_5
  case hy5_5 => (intro wq hSw; (try dsimp only at hSw); go_simp; (try with_reducible rfl))
  try simp only [Act.put, List.setIfInBounds_toArray, List.set_cons_zero, List.set_cons_succ]
  refine wpAnyH_take (i := 6) (oi := ⟨some 151, _, _, _, _, none⟩) (v := ?v6_6) rfl (by kernel_rfl) (by kernel_rfl) (by kernel_rfl) (fun _ _ _ h => h) (Or.inl ⟨by rfl, ?hy6_6⟩) (by assumption) ?rest6_6
  case hy6_6 => (intro wq hSw; (try dsimp only at hSw); go_simp; (try with_reducible rfl))
  try simp only [Act.put, List.setIfInBounds_toArray, List.set_cons_zero, List.set_cons_succ]
  refine wpAnyH_ready (rs := [4]) (by kernel_rfl) (by simp) (AllReadyH.cons (o := ⟨some 149, _, _, _, _, none⟩) rfl (fun K hK => ?_) AllReadyH.nil)
  refine step_app (by rfl) (.tmp 146) (.tmp 148) (by rfl) N (.slice Av m cv) l (by rfl) (by exact HO.out) Qq.pid.1 Qq.pid.2.1 Qq.pid.2.2 SS.pid (by rfl) (by exact R1.out.2.1) (by exact R1.out.1) (by exact R1.out.2.2.2.2) (by omega) (by exact HD.out.le) ?_
  intro A3 m3 c3 w3 ho3 hg3 ha3
  have H3 := Lib.hid (HD.out.same hg3 (row_far HO.out (Nat.le_refl _)))
  have HO3 := Lib.hid ho3
  have R3 := Lib.hid (HPX.out.rt H3.out.fr HPX.out.hq.ptok)
  clear ho3 hg3 ha3
  refine hK.out _ _ (by exact HS.out _ H3.out.fr) (fun hHeld => ?_)
  clear hK K
  try simp only [Act.put, List.setIfInBounds_toArray, List.set_cons_zero, List.set_cons_succ]
  refine wpAnyH_ready (rs := [7]) (by kernel_rfl) (by simp) (AllReadyH.cons (o := ⟨some 152, _, _, _, _, none⟩) rfl (fun K hK => ?_) AllReadyH.nil)
  refine step_app (by rfl) (.tmp 149) (.tmp 151) (by rfl) N (.slice A3 m3 c3) (l ++ SS.pid) (by rfl) (by exact HO3.out) Qq.ptok.1 Qq.ptok.2.1 Qq.ptok.2.2 SS.ptok (by rfl) (by exact R3.out.2.1) (by exact R3.out.1) (by exact R3.out.2.2.2.2) (by rw [List.length_append]; omega) (by exact H3.out.le) ?_
  intro A4 m4 c4 w4 ho4 hg4 ha4
  have H4 := Lib.hid (H3.out.same hg4 (row_far HO3.out (Nat.le_refl _)))
  have HO4 := Lib.hid ho4
  clear ho4 hg4 ha4
  have hrt := own_rt HO4.out
  have hm4 : m4 ≤ 1000 := by have := hrt.2.1; simp only [List.length_append] at this; omega
  have HPU := Lib.hid (pu_wp A4 m4 c4 (l ++ SS.pid ++ SS.ptok) HPX.out.cx H4.out (id := 13) (by omega) (by omega) (by omega) hrt hm4 (own_sep HO4.out HPN.out) (by omega))
  clear hrt
  refine hK.out _ _ (by exact HS.out _ H4.out.fr) (fun hHeld => ?_)
  clear hK K
  try simp only [Act.put, List.setIfInBounds_toArray, List.set_cons_zero, List.set_cons_succ]
  refine wpAnyH_ready (rs := [8]) (by kernel_rfl) (by simp) (AllReadyH.cons (o := ⟨some 153, _, _, _, _, none⟩) rfl (fun K hK => ?_) AllReadyH.nil)
  go_simp
  go_at_call 26
  refine HPU.out.mono ?_
  rintro e w5 ⟨t5, S5, y, b, rfl, H5⟩
  dsimp only
  refine hK.out _ _ (by exact HS.out _ H5.out.2.2.2.1.fr) (fun hHeld => ?_)
  clear hK K
  try simp only [Act.put, List.setIfInBounds_toArray, List.set_cons_zero, List.set_cons_succ]
  refine wpAnyH_done (by kernel_rfl) ?_ _
  exact HK.out _ _ t5 S5 y b ⟨rfl, rfl, rfl, rfl, rfl, rfl, rfl, rfl⟩ H5.out.2.2.2.1 H5.out.2.2.1 H5.out.2.1
set_option maxRecDepth 1000000 in
set_option maxHeartbeats 8000000 in
/-- The preferred address. -/
theorem c10_wp {B P PN PT PF PL PA : Nat} {A : Option Addr} {n c : Nat} {wi w0 w : World} {Qq : QP} {SS : SP} {ps : List (Int × List Int)} (x : Px B P PN PT PF PL PA A n c wi w0 Qq SS) (a : Act) (hf : Fx a P PT PF PL PA) (hst : St w0 B PT PA 16 w ps)
    {K : Act → World → Prop} {Q : Exit → Act → World → Prop} (hK : ∀ a' w', Fx a' P PT PF PL PA → St w0 B PT PA 17 w' (ps ++ po Qq.pid.1 (pv SS)) → K a' w') :
    Code.wp Tryd.prog c10 (Exit.then K Q) a w := by
  obtain ⟨f, rfl⟩ := lit195 hf.sz hf.df hf.t2 hf.t5 hf.t6 hf.t7 hf.t8 hf.t9
  clear hf
  conv => arg 2; whnf
  obtain ⟨N, t0, S0, ts0, bs0, hc0, ha0, ht0, hl0⟩ := hst
  have u15 := x.pc hc0.fr (i := 15) (v := .slice Qq.v4.1 Qq.v4.2.1 Qq.v4.2.2) rfl
  have HC := Lib.hid hc0
  have HA0 := Lib.hid ha0
  have HK := Lib.hid hK
  have HPX := Lib.hid x
  have hfv := Lib.hid x.fv
  clear hc0 ha0 hK x
  cases hv4 : Qq.v4.1 with
  | none =>
    have hpn : Qq.pid.1 = none := hfv.out.1 hv4
    rw [hv4] at u15
    rw [hpn] at HK
    go_wp2_with fail
    exact HK.out _ _ ⟨rfl, rfl, rfl, rfl, rfl, rfl, rfl, rfl⟩ ⟨N, t0, S0, ts0, bs0, HC.out, by show allP (_ ++ []) _; rw [List.append_nil]; exact HA0.out, by omega, by omega⟩
  | some ad =>
    rw [hv4] at u15
    have hpn : Qq.pid.1 ≠ none := fun e => by have := hfv.out.2 e; rw [hv4] at this; cases this
    rcases HPX.out.fq.pre with ⟨e, _⟩ | ⟨_, h4, h6, hd, htk, hp4, hp6⟩
    · exact absurd e hpn
    have hpo : po Qq.pid.1 (pv SS) = [(13, pv SS)] := by unfold po; rw [if_neg hpn]
    rw [hpo] at HK
    have e4 : Qq.p4 = SS.p4 := HPX.out.hq.p4
    have e6 : Qq.p6 = SS.p6 := HPX.out.hq.p6
    have e7 : SS.pid.length = Qq.pid.2.1 := HPX.out.hq.pid.2.1
    have HE := Lib.hid (And.intro e4 (And.intro e6 e7))
    have g1 := Lib.hid h4.1
    have g2 := Lib.hid h6.1
    have g3 : Hid (SS.ptok.length ≤ 16) := Lib.hid (by omega)
    have g4 : Hid (Qq.pid.2.1 ≤ 20) := Lib.hid (by omega)
    have g5 : Hid (0 ≤ Qq.p4 ∧ Qq.p4 ≤ 65535 ∧ 0 ≤ Qq.p6 ∧ Qq.p6 ≤ 65535) := Lib.hid (by rw [e4, e6]; omega)
    clear h4 h6 hd htk hp4 hp6 e4 e6 e7 hpn hpo hv4
    go_upto_region 22 with fail
    refine wp_then (E := fun _ _ => False) (K := fun a' w' => ∃ (Av : Option Addr) (m cv : Nat), F15 a' P PT PF PL PA Av m cv ∧ Hid (Cw w0 B PT PA w.heap.size w' t0 S0 ts0 bs0 ∧ Own w.heap.size w' (.slice Av m cv) (SS.v4 ++ [Qq.p4 / 256, Qq.p4 % 256]))) (c22_wp HPX.out _ ⟨rfl, rfl, rfl, rfl, rfl, rfl, rfl, rfl⟩ HC.out g1.out g5.out.1 g5.out.2.1 (fun a' w' Av m cv k1 k2 k3 => ⟨Av, m, cv, k1, Lib.hid ⟨k2, k3⟩⟩)) (fun _ _ h => h.elim) ?_
    rintro a1 w1 ⟨A1, m1, c1, hf1, H1⟩
    obtain ⟨g, rfl⟩ := lit15 hf1.sz hf1.df hf1.t2 hf1.t5 hf1.t6 hf1.t7 hf1.t8 hf1.t9 hf1.t15
    clear hf1
    simp only [Exit.then]
    go_upto_region 23 with fail
    refine wp_then (E := fun _ _ => False) (K := fun a' w' => ∃ (Av : Option Addr) (m cv : Nat), F15 a' P PT PF PL PA Av m cv ∧ Hid (Cw w0 B PT PA w.heap.size w' t0 S0 ts0 bs0 ∧ Own w.heap.size w' (.slice Av m cv) (SS.v4 ++ [Qq.p4 / 256, Qq.p4 % 256] ++ SS.v6 ++ [Qq.p6 / 256, Qq.p6 % 256, (Qq.pid.2.1 : Int)]))) (c23_wp HPX.out _ ⟨rfl, rfl, rfl, rfl, rfl, rfl, rfl, rfl, rfl⟩ H1.out.1 H1.out.2 (by simp only [List.length_append, List.length_cons, List.length_nil]; have := g1.out; omega) g2.out g5.out.2.2.1 g5.out.2.2.2 g4.out (fun a' w' Av m cv k1 k2 k3 => ⟨Av, m, cv, k1, Lib.hid ⟨k2, k3⟩⟩)) (fun _ _ h => h.elim) ?_
    rintro a2 w2 ⟨A2, m2, c2, hf2, H2⟩
    obtain ⟨k, rfl⟩ := lit15 hf2.sz hf2.df hf2.t2 hf2.t5 hf2.t6 hf2.t7 hf2.t8 hf2.t9 hf2.t15
    clear hf2
    simp only [Exit.then]
    go_upto_region 24 with fail
    refine wp_then (E := fun _ _ => False) (K := fun a' w' => ∃ (t' : Int) (S' : Value) (y : Tri) (b : List Int), Fx a' P PT PF PL PA ∧ Hid (Cw w0 B PT PA w'.heap.size w' t' S' (ts0 ++ [y]) (bs0 ++ [b]) ∧ isP (13, SS.v4 ++ [Qq.p4 / 256, Qq.p4 % 256] ++ SS.v6 ++ [Qq.p6 / 256, Qq.p6 % 256, (Qq.pid.2.1 : Int)] ++ SS.pid ++ SS.ptok) b ∧ t' ≤ t0 + 6)) (c24_wp HPX.out _ ⟨rfl, rfl, rfl, rfl, rfl, rfl, rfl, rfl, rfl⟩ H2.out.1 H2.out.2 (by simp only [List.length_append, List.length_cons, List.length_nil]; have := g1.out; have := g2.out; omega) g3.out g4.out (by omega) (by omega) (fun a' w' t' S' y b k1 k2 k3 k4 => ⟨t', S', y, b, k1, Lib.hid ⟨k2, k3, k4⟩⟩)) (fun _ _ h => h.elim) ?_
    rintro a3 w3 ⟨t3, S3, y, b, hf3, H3⟩
    simp only [Exit.then]
    have hpv : SS.v4 ++ [Qq.p4 / 256, Qq.p4 % 256] ++ SS.v6 ++ [Qq.p6 / 256, Qq.p6 % 256, (Qq.pid.2.1 : Int)] ++ SS.pid ++ SS.ptok = pv SS := by
      obtain ⟨e4, e6, e7⟩ := HE.out
      rw [e4, e6, ← e7]
      simp [pv, List.append_assoc]
    have h3 := H3.out
    rw [hpv] at h3
    exact HK.out _ _ hf3 ⟨_, t3, S3, ts0 ++ [y], bs0 ++ [b], h3.1, allP_snoc HA0.out h3.2.1, by have := h3.2.2; omega, by rw [List.length_append]; simp; omega⟩
end

section
open Go.RowKit
set_option linter.unusedVariables false
set_option linter.unusedSimpArgs false
set_option maxRecDepth 100000 in
theorem mk_run (r : Int) (h0 : 0 ≤ r) (h1 : r < 5) (w : World) : (Instr.makeSlice 22 (.int .i64 r) (.int .i64 r)).run Tryd.prog w = .ok (.slice (some ⟨w.heap.size, 0, none⟩) r.toNat r.toNat) (w.alloc (.cells (vals (List.replicate r.toNat 0)).toArray 5 (0, 0))) := by
  rcases (show r = 0 ∨ r = 1 ∨ r = 2 ∨ r = 3 ∨ r = 4 by omega) with rfl | rfl | rfl | rfl | rfl <;> kernel_rfl
theorem zz_own (k : Nat) (hk : k ≤ 100) (w : World) : Own w.heap.size (w.alloc (.cells (vals (List.replicate k 0)).toArray 5 (0, 0))) (.slice (some ⟨w.heap.size, 0, none⟩) k k) (List.replicate k 0) := by
  have h := Own.new w (List.replicate k 0) (fun x hx => by rw [List.eq_of_mem_replicate hx]; omega) (by rw [List.length_replicate]; exact Nat.le_trans hk (by decide))
  rwa [List.length_replicate] at h
theorem far_id {r t : Int} (h0 : 0 ≤ r) (h1 : r < 1000) (h2 : 0 ≤ t) (h3 : t ≤ 100000) : IntKind.i64.wrap (17 + t) = 17 + t ∧ IntKind.i64.wrap (r + (17 + t)) = r + (17 + t) ∧ IntKind.u64.wrap (r + (17 + t)) = r + (17 + t) := ⟨IntWalk.i64_in _ (by omega), IntWalk.i64_in _ (by omega), IntWalk.u64_in _ (by omega)⟩
theorem Cw.ct {w0 : World} {B PT PA N : Nat} {w : World} {t : Int} {S : Value} {ts : List Tri} {bs : List (List Int)} (h : Cw w0 B PT PA N w t S ts bs) : w.cell? ⟨PT, 0, none⟩ = some (.int .i64 t) := (cell_of_row _ _ 0 _ _ (0, 0) h.tt).trans rfl
/-- One of another number. -/
theorem far_pu {B PN PT PF PL PA N : Nat} {A : Option Addr} {n c : Nat} {w0 w : World} {t r r1 t1 : Int} {S : Value} {ts : List Tri} {bs : List (List Int)} (x : Cx B PN PT PF PL PA A n c w0) (h : Cw w0 B PT PA N w t S ts bs) (ht : t ≤ 1000) (hr0 : 0 ≤ r) (hr1 : r < 5) (h0 : 0 ≤ r1) (h1 : r1 < 1000) (h2 : 0 ≤ t1) (h3 : t1 ≤ 100000) (hl : ts.length ≤ 900) :
    Calls Tryd.prog 26 #[.int .u64 (r1 + (17 + t1)), .slice (some ⟨w.heap.size, 0, none⟩) r.toNat r.toNat, .pointer (some ⟨PA, 0, none⟩), .pointer (some ⟨PL, 0, none⟩)] (w.alloc (.cells (vals (List.replicate r.toNat 0)).toArray 5 (0, 0))) fun e w' => ∃ (t' : Int) (S' : Value) (y : Tri) (b : List Int), e = .returned (.tuple #[]) ∧ Hid (t' ≤ t + 6 ∧ isP (r1 + (17 + t1), List.replicate r.toNat 0) b ∧ Cw w0 B PT PA w'.heap.size w' t' S' (ts ++ [y]) (bs ++ [b])) := by
  have ho := zz_own r.toNat (by omega) w
  have h5 := h.le
  have h6 := h.bn
  have h7 := h.pp
  refine (pu_wp _ _ _ _ x (h.alloc _) (id := r1 + (17 + t1)) (by omega) (by omega) (by omega) (own_rt ho) (by omega) (own_sep ho (by omega)) (by omega)).mono ?_
  rintro e w' ⟨t', S', y, b, rfl, H⟩
  exact ⟨t', S', y, b, rfl, Lib.hid ⟨H.out.2.1, H.out.2.2.1, H.out.2.2.2.1⟩⟩
noncomputable def c11 : Code := cl (cr (cr (cr (cr (cr (cr (cr (cr (cr (cr (cr (Tryd.f13.body.getD .skip))))))))))))
set_option maxRecDepth 1000000 in
set_option maxHeartbeats 8000000 in
/-- Others. -/
theorem c11_wp {B P PN PT PF PL PA : Nat} {A : Option Addr} {n c : Nat} {wi w0 w : World} {Qq : QP} {SS : SP} {ps : List (Int × List Int)} (x : Px B P PN PT PF PL PA A n c wi w0 Qq SS) (a : Act) (hf : Fx a P PT PF PL PA) (hst : St w0 B PT PA 17 w ps)
    {K : Act → World → Prop} {Q : Exit → Act → World → Prop} (hK : ∀ a' w' fs, Fx a' P PT PF PL PA → (∀ f ∈ fs, 16 < f.1) → St w0 B PT PA 20 w' (ps ++ fs) → K a' w') :
    Code.wp Tryd.prog c11 (Exit.then K Q) a w := by
  obtain ⟨f, rfl⟩ := lit195 hf.sz hf.df hf.t2 hf.t5 hf.t6 hf.t7 hf.t8 hf.t9
  clear hf
  conv => arg 2; whnf
  obtain ⟨N, t0, S0, ts0, bs0, hc0, ha0, ht0, hl0⟩ := hst
  have uF := x.cx.f_ hc0.fr
  have KN := Lib.hid (nx_cw (m := 3) x.cx hc0 (by omega) (by omega) (by omega))
  have HA0 := Lib.hid ha0
  have HK := Lib.hid hK
  have HPX := Lib.hid x
  clear hc0 ha0 hK x
  go_upto_block 4 with (go_at_call 23; refine KN.out.mono ?_; rintro e w1 ⟨r, t1, rfl, H1⟩)
  have hr0 := H1.out.1
  have hr1 := H1.out.2.1
  have ht1 := H1.out.2.2.2.1
  have HC1 := Lib.hid H1.out.2.2.2.2.1
  clear H1 KN uF
  obtain ⟨R, rfl⟩ : ∃ R : Nat, r = (R : Int) := ⟨r.toNat, by omega⟩
  refine wp_block ?_
  go_loopw [156] (fun i wr => ∃ (q N : Nat) (t : Int) (S : Value) (ts : List Tri) (bs : List (List Int)) (fs : List (Int × List Int)), q ≤ R ∧ i = .int .i64 q ∧ t ≤ 341 + 20 * (q : Int) ∧ ts.length ≤ 17 + q ∧ Hid (Cw w0 B PT PA N wr t S ts bs) ∧ Hid (allP (ps ++ fs) bs) ∧ Hid (∀ f ∈ fs, 16 < f.1)) (fun i _ => R - (intOf i).toNat)
  case atStart => exact ⟨0, N, t1, S0, ts0, bs0, [], by omega, rfl, by omega, by omega, HC1, Lib.hid (by rw [List.append_nil]; exact HA0.out), Lib.hid (fun f hf => by simp at hf)⟩
  case round =>
    clear HC1 HA0 ht1
    obtain ⟨q, N1, t, S, ts, bs, fs, hq, rfl, ht, hl, HC, HA, HF⟩ := hrel
    by_cases hqr : q = R
    · subst hqr
      have hlt : ¬ (q : Int) < (q : Int) := by omega
      go_wp2_with fail
      exact HK.out _ _ fs ⟨rfl, rfl, rfl, rfl, rfl, rfl, rfl, rfl⟩ HF.out ⟨N1, t, S, ts, bs, HC.out, HA.out, by omega, by omega⟩
    · have hlt : (q : Int) < (R : Int) := by omega
      have hwq : IntKind.i64.wrap ((q : Int) + 1) = (q : Int) + 1 := IntWalk.i64_in _ (by omega)
      have uF := HPX.out.cx.f_ HC.out.fr
      have K1 := Lib.hid (nx_cw (m := 1000) HPX.out.cx HC.out (by omega) (by omega) (by omega))
      go_upto_region 28 with (go_at_call 23; refine K1.out.mono ?_; rintro e w2 ⟨r1, t2, rfl, H2⟩)
      have a0 := H2.out.1
      have a1 := H2.out.2.1
      have a2 := H2.out.2.2.1
      have a3 := H2.out.2.2.2.1
      have HC2 := Lib.hid H2.out.2.2.2.2.1
      have a4 := HC2.out.t0
      clear H2 K1 uF
      have uT := HC2.out.ct
      have uF := HPX.out.cx.f_ HC2.out.fr
      obtain ⟨hwa, hwb, hwc⟩ := far_id a0 a1 a4 (show t2 ≤ 100000 by omega)
      have K5 := Lib.hid (nx_cw (m := 5) HPX.out.cx HC2.out (by omega) (by omega) (by omega))
      have KP : Hid (∀ (w3 : World) (r t3 : Int), Cw w0 B PT PA N1 w3 t3 S ts bs → t3 ≤ t2 + 1 → 0 ≤ r → r < 5 → _) := Lib.hid (fun w3 r t3 g1 g2 g3 g4 => far_pu (r1 := r1) (t1 := t2) HPX.out.cx g1 (by omega) g3 g4 a0 a1 a4 (by omega) (by omega))
      go_wp2_with (first
        | (go_at_call 23; refine K5.out.mono ?_; rintro e w3 ⟨r5, t3, rfl, H3⟩; have hmk := mk_run r5 H3.out.1 H3.out.2.1)
        | (go_at_call 26; refine (KP.out w3 r5 t3 H3.out.2.2.2.2.1 H3.out.2.2.2.1 H3.out.1 H3.out.2.1).mono ?_; rintro e w4 ⟨t4, S4, y, b, rfl, H4⟩))
      have b1 := H4.out.1
      have b2 := H3.out.2.2.2.1
      go_roundw
      case rel => exact ⟨q + 1, _, t4, S4, ts ++ [y], bs ++ [b], fs ++ [(r1 + (17 + t2), List.replicate r5.toNat 0)], by omega, by go_num, by omega, by rw [List.length_append]; simp; omega, Lib.hid H4.out.2.2, Lib.hid (by rw [← List.append_assoc]; exact allP_snoc HA.out H4.out.2.1), Lib.hid (fun f hf => by
        rcases List.mem_append.1 hf with hf | hf
        · exact HF.out f hf
        · obtain rfl : f = (r1 + (17 + t2), List.replicate r5.toNat 0) := by simpa using hf
          show 16 < r1 + (17 + t2)
          omega)⟩
      case measure => simp [intOf]; omega
end

section
open Go.RowKit
set_option linter.unusedVariables false
set_option linter.unusedSimpArgs false
structure F17 (a : Act) (P PT PF PL PA : Nat) (Ao : Option Addr) (mo co : Nat) : Prop where
  sz : a.tmps.size = 195
  df : a.defers = []
  t2 : a.tmps[2]? = some (.pointer (some ⟨P, 0, none⟩))
  t5 : a.tmps[5]? = some (.pointer (some ⟨PT, 0, none⟩))
  t6 : a.tmps[6]? = some (.pointer (some ⟨PF, 0, none⟩))
  t7 : a.tmps[7]? = some (.pointer (some ⟨PL, 0, none⟩))
  t8 : a.tmps[8]? = some (.pointer (some ⟨PA, 0, none⟩))
  t9 : a.tmps[9]? = some (.func (Fn.func 26) #[] #[.pointer (some ⟨PA, 0, none⟩), .pointer (some ⟨PL, 0, none⟩)])
  t17 : a.tmps[17]? = some (.slice Ao mo co)
structure F18 (a : Act) (P PT PF PL PA : Nat) (Ao : Option Addr) (mo co : Nat) (i : Nat) : Prop where
  sz : a.tmps.size = 195
  df : a.defers = []
  t2 : a.tmps[2]? = some (.pointer (some ⟨P, 0, none⟩))
  t5 : a.tmps[5]? = some (.pointer (some ⟨PT, 0, none⟩))
  t6 : a.tmps[6]? = some (.pointer (some ⟨PF, 0, none⟩))
  t7 : a.tmps[7]? = some (.pointer (some ⟨PL, 0, none⟩))
  t8 : a.tmps[8]? = some (.pointer (some ⟨PA, 0, none⟩))
  t9 : a.tmps[9]? = some (.func (Fn.func 26) #[] #[.pointer (some ⟨PA, 0, none⟩), .pointer (some ⟨PL, 0, none⟩)])
  t17 : a.tmps[17]? = some (.slice Ao mo co)
  t18 : a.tmps[18]? = some (.int .i64 i)
set_option maxRecDepth 100000 in
theorem lit17 {a : Act} {P PT PF PL PA : Nat} {Ao : Option Addr} {mo co : Nat} (hs : a.tmps.size = 195) (hd : a.defers = []) (h2 : a.tmps[2]? = some (.pointer (some ⟨P, 0, none⟩))) (h5 : a.tmps[5]? = some (.pointer (some ⟨PT, 0, none⟩))) (h6 : a.tmps[6]? = some (.pointer (some ⟨PF, 0, none⟩))) (h7 : a.tmps[7]? = some (.pointer (some ⟨PL, 0, none⟩))) (h8 : a.tmps[8]? = some (.pointer (some ⟨PA, 0, none⟩))) (h9 : a.tmps[9]? = some (.func (Fn.func 26) #[] #[.pointer (some ⟨PA, 0, none⟩), .pointer (some ⟨PL, 0, none⟩)])) (h17 : a.tmps[17]? = some (.slice Ao mo co)) : ∃ f : Nat → Value, a = ⟨#[f 0, f 1, .pointer (some ⟨P, 0, none⟩), f 3, f 4, .pointer (some ⟨PT, 0, none⟩), .pointer (some ⟨PF, 0, none⟩), .pointer (some ⟨PL, 0, none⟩), .pointer (some ⟨PA, 0, none⟩), .func (Fn.func 26) #[] #[.pointer (some ⟨PA, 0, none⟩), .pointer (some ⟨PL, 0, none⟩)], f 10, f 11, f 12, f 13, f 14, f 15, f 16, .slice Ao mo co, f 18, f 19, f 20, f 21, f 22, f 23, f 24, f 25, f 26, f 27, f 28, f 29, f 30, f 31, f 32, f 33, f 34, f 35, f 36, f 37, f 38, f 39, f 40, f 41, f 42, f 43, f 44, f 45, f 46, f 47, f 48, f 49, f 50, f 51, f 52, f 53, f 54, f 55, f 56, f 57, f 58, f 59, f 60, f 61, f 62, f 63, f 64, f 65, f 66, f 67, f 68, f 69, f 70, f 71, f 72, f 73, f 74, f 75, f 76, f 77, f 78, f 79, f 80, f 81, f 82, f 83, f 84, f 85, f 86, f 87, f 88, f 89, f 90, f 91, f 92, f 93, f 94, f 95, f 96, f 97, f 98, f 99, f 100, f 101, f 102, f 103, f 104, f 105, f 106, f 107, f 108, f 109, f 110, f 111, f 112, f 113, f 114, f 115, f 116, f 117, f 118, f 119, f 120, f 121, f 122, f 123, f 124, f 125, f 126, f 127, f 128, f 129, f 130, f 131, f 132, f 133, f 134, f 135, f 136, f 137, f 138, f 139, f 140, f 141, f 142, f 143, f 144, f 145, f 146, f 147, f 148, f 149, f 150, f 151, f 152, f 153, f 154, f 155, f 156, f 157, f 158, f 159, f 160, f 161, f 162, f 163, f 164, f 165, f 166, f 167, f 168, f 169, f 170, f 171, f 172, f 173, f 174, f 175, f 176, f 177, f 178, f 179, f 180, f 181, f 182, f 183, f 184, f 185, f 186, f 187, f 188, f 189, f 190, f 191, f 192, f 193, f 194], []⟩ := by
  obtain ⟨f, hf, e⟩ := lit_ofN 195 a hs hd
  have e2 := (hf 2 (by decide)).symm.trans h2
  have e5 := (hf 5 (by decide)).symm.trans h5
  have e6 := (hf 6 (by decide)).symm.trans h6
  have e7 := (hf 7 (by decide)).symm.trans h7
  have e8 := (hf 8 (by decide)).symm.trans h8
  have e9 := (hf 9 (by decide)).symm.trans h9
  have e17 := (hf 17 (by decide)).symm.trans h17
  simp only [Option.some.injEq] at e2 e5 e6 e7 e8 e9 e17
  refine ⟨f, ?_⟩
  have hl : ((List.range 195).map f).toArray = #[f 0, f 1, f 2, f 3, f 4, f 5, f 6, f 7, f 8, f 9, f 10, f 11, f 12, f 13, f 14, f 15, f 16, f 17, f 18, f 19, f 20, f 21, f 22, f 23, f 24, f 25, f 26, f 27, f 28, f 29, f 30, f 31, f 32, f 33, f 34, f 35, f 36, f 37, f 38, f 39, f 40, f 41, f 42, f 43, f 44, f 45, f 46, f 47, f 48, f 49, f 50, f 51, f 52, f 53, f 54, f 55, f 56, f 57, f 58, f 59, f 60, f 61, f 62, f 63, f 64, f 65, f 66, f 67, f 68, f 69, f 70, f 71, f 72, f 73, f 74, f 75, f 76, f 77, f 78, f 79, f 80, f 81, f 82, f 83, f 84, f 85, f 86, f 87, f 88, f 89, f 90, f 91, f 92, f 93, f 94, f 95, f 96, f 97, f 98, f 99, f 100, f 101, f 102, f 103, f 104, f 105, f 106, f 107, f 108, f 109, f 110, f 111, f 112, f 113, f 114, f 115, f 116, f 117, f 118, f 119, f 120, f 121, f 122, f 123, f 124, f 125, f 126, f 127, f 128, f 129, f 130, f 131, f 132, f 133, f 134, f 135, f 136, f 137, f 138, f 139, f 140, f 141, f 142, f 143, f 144, f 145, f 146, f 147, f 148, f 149, f 150, f 151, f 152, f 153, f 154, f 155, f 156, f 157, f 158, f 159, f 160, f 161, f 162, f 163, f 164, f 165, f 166, f 167, f 168, f 169, f 170, f 171, f 172, f 173, f 174, f 175, f 176, f 177, f 178, f 179, f 180, f 181, f 182, f 183, f 184, f 185, f 186, f 187, f 188, f 189, f 190, f 191, f 192, f 193, f 194] := by kernel_rfl
  rw [e, hl, e2, e5, e6, e7, e8, e9, e17]
set_option maxRecDepth 100000 in
theorem lit18 {a : Act} {P PT PF PL PA : Nat} {Ao : Option Addr} {mo co i : Nat} (hs : a.tmps.size = 195) (hd : a.defers = []) (h2 : a.tmps[2]? = some (.pointer (some ⟨P, 0, none⟩))) (h5 : a.tmps[5]? = some (.pointer (some ⟨PT, 0, none⟩))) (h6 : a.tmps[6]? = some (.pointer (some ⟨PF, 0, none⟩))) (h7 : a.tmps[7]? = some (.pointer (some ⟨PL, 0, none⟩))) (h8 : a.tmps[8]? = some (.pointer (some ⟨PA, 0, none⟩))) (h9 : a.tmps[9]? = some (.func (Fn.func 26) #[] #[.pointer (some ⟨PA, 0, none⟩), .pointer (some ⟨PL, 0, none⟩)])) (h17 : a.tmps[17]? = some (.slice Ao mo co)) (h18 : a.tmps[18]? = some (.int .i64 i)) : ∃ f : Nat → Value, a = ⟨#[f 0, f 1, .pointer (some ⟨P, 0, none⟩), f 3, f 4, .pointer (some ⟨PT, 0, none⟩), .pointer (some ⟨PF, 0, none⟩), .pointer (some ⟨PL, 0, none⟩), .pointer (some ⟨PA, 0, none⟩), .func (Fn.func 26) #[] #[.pointer (some ⟨PA, 0, none⟩), .pointer (some ⟨PL, 0, none⟩)], f 10, f 11, f 12, f 13, f 14, f 15, f 16, .slice Ao mo co, .int .i64 i, f 19, f 20, f 21, f 22, f 23, f 24, f 25, f 26, f 27, f 28, f 29, f 30, f 31, f 32, f 33, f 34, f 35, f 36, f 37, f 38, f 39, f 40, f 41, f 42, f 43, f 44, f 45, f 46, f 47, f 48, f 49, f 50, f 51, f 52, f 53, f 54, f 55, f 56, f 57, f 58, f 59, f 60, f 61, f 62, f 63, f 64, f 65, f 66, f 67, f 68, f 69, f 70, f 71, f 72, f 73, f 74, f 75, f 76, f 77, f 78, f 79, f 80, f 81, f 82, f 83, f 84, f 85, f 86, f 87, f 88, f 89, f 90, f 91, f 92, f 93, f 94, f 95, f 96, f 97, f 98, f 99, f 100, f 101, f 102, f 103, f 104, f 105, f 106, f 107, f 108, f 109, f 110, f 111, f 112, f 113, f 114, f 115, f 116, f 117, f 118, f 119, f 120, f 121, f 122, f 123, f 124, f 125, f 126, f 127, f 128, f 129, f 130, f 131, f 132, f 133, f 134, f 135, f 136, f 137, f 138, f 139, f 140, f 141, f 142, f 143, f 144, f 145, f 146, f 147, f 148, f 149, f 150, f 151, f 152, f 153, f 154, f 155, f 156, f 157, f 158, f 159, f 160, f 161, f 162, f 163, f 164, f 165, f 166, f 167, f 168, f 169, f 170, f 171, f 172, f 173, f 174, f 175, f 176, f 177, f 178, f 179, f 180, f 181, f 182, f 183, f 184, f 185, f 186, f 187, f 188, f 189, f 190, f 191, f 192, f 193, f 194], []⟩ := by
  obtain ⟨f, hf, e⟩ := lit_ofN 195 a hs hd
  have e2 := (hf 2 (by decide)).symm.trans h2
  have e5 := (hf 5 (by decide)).symm.trans h5
  have e6 := (hf 6 (by decide)).symm.trans h6
  have e7 := (hf 7 (by decide)).symm.trans h7
  have e8 := (hf 8 (by decide)).symm.trans h8
  have e9 := (hf 9 (by decide)).symm.trans h9
  have e17 := (hf 17 (by decide)).symm.trans h17
  have e18 := (hf 18 (by decide)).symm.trans h18
  simp only [Option.some.injEq] at e2 e5 e6 e7 e8 e9 e17 e18
  refine ⟨f, ?_⟩
  have hl : ((List.range 195).map f).toArray = #[f 0, f 1, f 2, f 3, f 4, f 5, f 6, f 7, f 8, f 9, f 10, f 11, f 12, f 13, f 14, f 15, f 16, f 17, f 18, f 19, f 20, f 21, f 22, f 23, f 24, f 25, f 26, f 27, f 28, f 29, f 30, f 31, f 32, f 33, f 34, f 35, f 36, f 37, f 38, f 39, f 40, f 41, f 42, f 43, f 44, f 45, f 46, f 47, f 48, f 49, f 50, f 51, f 52, f 53, f 54, f 55, f 56, f 57, f 58, f 59, f 60, f 61, f 62, f 63, f 64, f 65, f 66, f 67, f 68, f 69, f 70, f 71, f 72, f 73, f 74, f 75, f 76, f 77, f 78, f 79, f 80, f 81, f 82, f 83, f 84, f 85, f 86, f 87, f 88, f 89, f 90, f 91, f 92, f 93, f 94, f 95, f 96, f 97, f 98, f 99, f 100, f 101, f 102, f 103, f 104, f 105, f 106, f 107, f 108, f 109, f 110, f 111, f 112, f 113, f 114, f 115, f 116, f 117, f 118, f 119, f 120, f 121, f 122, f 123, f 124, f 125, f 126, f 127, f 128, f 129, f 130, f 131, f 132, f 133, f 134, f 135, f 136, f 137, f 138, f 139, f 140, f 141, f 142, f 143, f 144, f 145, f 146, f 147, f 148, f 149, f 150, f 151, f 152, f 153, f 154, f 155, f 156, f 157, f 158, f 159, f 160, f 161, f 162, f 163, f 164, f 165, f 166, f 167, f 168, f 169, f 170, f 171, f 172, f 173, f 174, f 175, f 176, f 177, f 178, f 179, f 180, f 181, f 182, f 183, f 184, f 185, f 186, f 187, f 188, f 189, f 190, f 191, f 192, f 193, f 194] := by kernel_rfl
  rw [e, hl, e2, e5, e6, e7, e8, e9, e17, e18]
/-- A slice of slices of bytes, at the beginning of its block. -/
def RdS (w : World) (g c : Nat) (ts : List Tri) : Prop := ts.length ≤ c ∧ c ≤ maxLen ∧ ∃ cs : Array Value, w.heap[g]? = some (.cells cs 22 (0, 0)) ∧ ∀ (i : Nat) (t : Tri), ts[i]? = some t → cs[i]? = some (triV t)
theorem RdS.cell {w : World} {g c : Nat} {ts : List Tri} (h : RdS w g c ts) {i : Nat} {t : Tri} (hi : ts[i]? = some t) : w.cell? ⟨g, i, none⟩ = some (triV t) := by
  obtain ⟨_, _, cs, h1, h2⟩ := h
  rw [cell_of_row _ _ _ _ _ (0, 0) h1]
  exact h2 i t hi
theorem RdS.grown {w w' : World} {g c : Nat} {ts : List Tri} {row : Option Nat} (h : RdS w g c ts) (hg : w.grownBy w' row) (hr : some g ≠ row) : RdS w' g c ts := by
  obtain ⟨a, b, cs, h1, h2⟩ := h
  exact ⟨a, b, cs, (hg.block g (cell_in h1) hr).trans h1, h2⟩
theorem flatB (l : List Tri) : flat EB l = l.map triV := by
  unfold flat
  induction l with
  | nil => rfl
  | cons a l ih => simp [EB] at ih ⊢; exact ih
theorem RdS.of_own {B : Nat} {w : World} {s : Value} {l : List Tri} (h : OwnE EB B w s l) (hl : 0 < l.length) : ∃ g c, s = .slice (some ⟨g, 0, none⟩) l.length c ∧ RdS w g c l := by
  rcases h.2 with ⟨rfl, h0⟩ | ⟨g, cap, cur, rfl, _, hh, h1, h2, _, h3⟩
  · omega
  · refine ⟨g, cap, rfl, h1, h2, cur, hh, fun i t hi => ?_⟩
    have hi' : i < l.length := (List.getElem?_eq_some_iff.1 hi).1
    rw [flatB] at h3
    have e : (cur.toList.take (l.length * EB.k))[i]? = some (triV t) := by rw [h3, List.getElem?_map, hi]; rfl
    rw [List.getElem?_take] at e
    split at e
    · rwa [Array.getElem?_toList] at e
    · cases e
set_option maxRecDepth 100000 in
/-- One is taken out: append onto a slice cut at its end. -/
theorem run_out {w : World} {g c : Nat} {ts : List Tri} (h : RdS w g c ts) {i : Nat} (hi : i < ts.length) (ty : TypeId) (A : Addr) (c' : Nat) (hA : 0 < ts.length - (i + 1) → A = ⟨g, i + 1, none⟩) (hn : ts.length ≤ 1000) :
    ∃ (g' c2 : Nat) (w' : World), (Builtin.append_ #[53, 53] ty #[.slice (some ⟨g, 0, none⟩) i i, .slice (some A) (ts.length - (i + 1)) c']).run Tryd.prog w = .ok (.slice (some ⟨g', 0, none⟩) (ts.length - 1) c2) w' ∧ RdS w' g' c2 (ts.take i ++ ts.drop (i + 1)) ∧ w.grownBy w' none := by
  obtain ⟨inf, hi1, hz0, hz1, hz2⟩ := info_parts2 info_slb
  have hlen : (ts.take i ++ ts.drop (i + 1)).length = ts.length - 1 := by rw [List.length_append, List.length_take, List.length_drop]; omega
  by_cases h0 : ts.length - (i + 1) = 0
  · have hS : Src Tryd.prog inf.size 53 (.slice (some A) 0 c') 0 [] w := by
      have hl : ∀ (W : World), (loadCells A 0).run Tryd.prog W = .ok #[] W := fun W => by simpa using run_loadCells_list (P := Tryd.prog) W A [] (by simp)
      exact ⟨.inl ⟨_, Tryd.underlying53⟩, fun _ => by simp [Builtin.lenOf], by simp [Builtin.firstCells, hl], by simp [Builtin.firstCells, hl], by simp, by simp⟩
    have hr := run_append_nothing (P := Tryd.prog) w _ _ ty _ inf Tryd.underlying53 hi1 (some ⟨g, 0, none⟩) i i (Nat.le_refl _) _ hS
    have hi2 : i = ts.length - 1 := by omega
    refine ⟨g, i, w, by rw [h0, hr, ← hi2], ?_, World.grownBy.refl _ _⟩
    obtain ⟨a, b, cs, h1, h2⟩ := h
    refine ⟨by rw [hlen]; omega, by omega, cs, h1, fun j t hj => ?_⟩
    have hd : ts.drop (i + 1) = [] := List.drop_eq_nil_of_le (by omega)
    rw [hd, List.append_nil, List.getElem?_take] at hj
    split at hj
    · exact h2 j t hj
    · cases hj
  · have hA' := hA (by omega)
    subst hA'
    have ho : ∀ j u, ((ts.take i).map triV)[j]? = some u → w.cell? ((⟨g, 0, none⟩ : Addr).add j) = some u := fun j u hu => by
      rw [List.getElem?_map] at hu
      cases ht : (ts.take i)[j]? with
      | none => rw [ht] at hu; cases hu
      | some t =>
        rw [ht] at hu
        obtain rfl : triV t = u := by simpa using hu
        rw [List.getElem?_take] at ht
        split at ht
        · rw [Addr.add_lit, Nat.zero_add]; exact h.cell ht
        · cases ht
    have hn2 : ∀ j u, ((ts.drop (i + 1)).map triV)[j]? = some u → w.cell? ((⟨g, i + 1, none⟩ : Addr).add j) = some u := fun j u hu => by
      rw [List.getElem?_map] at hu
      cases ht : (ts.drop (i + 1))[j]? with
      | none => rw [ht] at hu; cases hu
      | some t =>
        rw [ht] at hu
        obtain rfl : triV t = u := by simpa using hu
        rw [List.getElem?_drop] at ht
        rw [Addr.add_lit]
        exact h.cell ht
    obtain ⟨v', w', hr, hw, hg⟩ := run_append_arg_grows (P := Tryd.prog) w _ ty _ inf (.slice none 0 0) 1 24 Tryd.underlying53 hi1 hz0 hz1 hz2 rfl (by decide) ⟨g, 0, none⟩ i i ((ts.take i).map triV) (by simp; omega) ho ⟨g, i + 1, none⟩ (ts.length - (i + 1)) c' ((ts.drop (i + 1)).map triV) (by simp) hn2 (by omega) (by unfold maxLen; omega) (by omega)
    have hown : OwnE EB w.heap.size w' v' (ts.take i ++ ts.drop (i + 1)) := by
      unfold OwnE
      rw [flatB, List.map_append, hlen, show ts.length - 1 = i + (ts.length - (i + 1)) by omega]
      exact hw
    obtain ⟨g', c2, rfl, hR⟩ := RdS.of_own hown (by rw [hlen]; omega)
    exact ⟨g', c2, w', by rw [hr, hlen], hR, hg⟩
theorem step_out {ops : Array Oper} {o : Oper} {a : Act} {w : World} {K : Act → World → Prop} {Q : Exit → Act → World → Prop} {F : Prop} (hgd : o.guard = none) (s x : Operand)
    (ho : o.op = .call { callee := .builtin .append, args := #[s, x], argTypes := #[53, 53] }) {g c : Nat} {ts : List Tri} (hr : RdS w g c ts) {i : Nat} (hi : i < ts.length) (A : Addr) (c' : Nat) (hs : a.eval s = .slice (some ⟨g, 0, none⟩) i i) (hx : a.eval x = .slice (some A) (ts.length - (i + 1)) c') (hA : 0 < ts.length - (i + 1) → A = ⟨g, i + 1, none⟩) (hn : ts.length ≤ 1000)
    (h : ∀ (g' c2 : Nat) (w' : World), RdS w' g' c2 (ts.take i ++ ts.drop (i + 1)) → w.grownBy w' none → K (a.put o.dst (.slice (some ⟨g', 0, none⟩) (ts.length - 1) c2)) w') :
    if Region.wanted o (yielded ops a.tmps) = true then Oper.wp Tryd.prog o a w K Q else F := by
  have hw : Region.wanted o (yielded ops a.tmps) = true := by simp [Region.wanted, hgd]
  rw [if_pos hw]
  obtain ⟨g', c2, w', hrun, h2, h3⟩ := run_out hr hi o.type A c' hA hn
  unfold Oper.wp execOp
  simp only [ho, resolve, invoke, builtin, Sem.run_bind, Sem.run_pure, Result.andThen_ok, List.map_toArray, List.map_cons, List.map_nil, hs, hx, hrun]
  exact h g' c2 w' h2 h3
noncomputable def c13 : Code := cl (cr (cr (cr (cr (cr (cr (cr (cr (cr (cr (cr (cr (cr (Tryd.f13.body.getD .skip))))))))))))))
noncomputable def c13L : Code := cl (cl c13)
noncomputable def c35 : Code := cr (cr (cl (cr c13L)))
set_option maxRecDepth 1000000 in
set_option maxHeartbeats 8000000 in
theorem c35_wp {P PT PF PL PA g c i : Nat} {Ao : Option Addr} {mo co : Nat} {w : World} {ts : List Tri} (a : Act) (hf : F18 a P PT PF PL PA Ao mo co i) (hr : RdS w g c ts) (hi : i < ts.length) (hn : ts.length ≤ 1000) (hP : w.heap[PA]? = some (.cells #[.slice (some ⟨g, 0, none⟩) ts.length c] 53 (0, 0)))
    {K : Act → World → Prop} (hK : ∀ a' w2 g2 c2, F17 a' P PT PF PL PA Ao mo co → RdS w2 g2 c2 (ts.take i ++ ts.drop (i + 1)) → w.drew.grownBy w2 none → K a' (w2.setCell ⟨PA, 0, none⟩ (.slice (some ⟨g2, 0, none⟩) (ts.length - 1) c2))) :
    Code.wp Tryd.prog c35 (Exit.then K (Qr fun _ _ => False)) a w := by
  have HR : Hid (RdS w.drew g c ts) := Lib.hid hr
  have HP2 : Hid (∀ w2, w.drew.grownBy w2 none → w2.cell? ⟨PA, 0, none⟩ = some (.slice (some ⟨g, 0, none⟩) ts.length c) ∧ w2.frozen? ⟨PA, 0, none⟩ = false) := Lib.hid (fun w2 hg => by
    have h1 : w2.heap[PA]? = some (.cells #[.slice (some ⟨g, 0, none⟩) ts.length c] 53 (0, 0)) := (hg.block PA (cell_in hP) (fun e => by cases e)).trans hP
    exact ⟨(cell_of_row _ _ 0 _ _ (0, 0) h1).trans rfl, cell_free 0 h1⟩)
  have uA : w.drew.cell? ⟨PA, 0, none⟩ = some (.slice (some ⟨g, 0, none⟩) ts.length c) := (cell_of_row _ _ 0 _ _ (0, 0) hP).trans rfl
  have hlc : ts.length ≤ c := hr.1
  have hcm : c ≤ 9223372036854775807 := Nat.le_trans hr.2.1 (by decide)
  have i0 : (0 : Int) ≤ (i : Int) := by omega
  have i1 : (i : Int) ≤ (ts.length : Int) := by omega
  have i2 : (i : Int) ≤ (c : Int) := by omega
  have i3 : (0 : Int) ≤ (i : Int) + 1 := by omega
  have i4 : (i : Int) + 1 ≤ (ts.length : Int) := by omega
  have hw1 : IntKind.i64.wrap ((i : Int) + 1) = (i : Int) + 1 := IntWalk.i64_in _ (by omega)
  obtain ⟨A1, hA1⟩ : ∃ A1 : Addr, (if c = i + 1 then some (⟨g, 0, none⟩ : Addr) else some ⟨g, i + 1, none⟩) = some A1 := by
    by_cases e : c = i + 1
    · exact ⟨_, by rw [if_pos e]⟩
    · exact ⟨_, by rw [if_neg e]⟩
  have HA : Hid (0 < ts.length - (i + 1) → A1 = ⟨g, i + 1, none⟩) := Lib.hid (fun h => by
    rw [if_neg (by omega)] at hA1
    simpa using hA1.symm)
  have HK := Lib.hid hK
  clear hr hP hK
  obtain ⟨f, rfl⟩ := lit18 hf.sz hf.df hf.t2 hf.t5 hf.t6 hf.t7 hf.t8 hf.t9 hf.t17 hf.t18
  clear hf
  conv => arg 2; whnf
  refine wp_region_held_drew (S := fun _ => True) (by kernel_rfl) (by trivial) (fun hHeld => ?_)
  refine wpAnyH_take (i := 1) (oi := ⟨some 186, _, _, _, _, none⟩) (v := ?v1_1) rfl (by kernel_rfl) (by kernel_rfl) (by kernel_rfl) (fun _ _ _ h => h) (Or.inl ⟨by rfl, ?hy1_1⟩) (by assumption) ?rest1_1
  case hy1_1 => (intro wq hSw; (try dsimp only at hSw); go_simp; (try with_reducible rfl))
  try simp only [Act.put, List.setIfInBounds_toArray, List.set_cons_zero, List.set_cons_succ]
  refine wpAnyH_take (i := 2) (oi := ⟨some 187, _, _, _, _, none⟩) (v := ?v2_2) rfl (by kernel_rfl) (by kernel_rfl) (by kernel_rfl) (fun _ _ _ h => h) (Or.inl ⟨by rfl, ?hy2_2⟩) (by assumption) ?rest2_2
  case hy2_2 => (intro wq hSw; (try dsimp only at hSw); go_simp; (try with_reducible rfl))
  try simp only [Act.put, List.setIfInBounds_toArray, List.set_cons_zero, List.set_cons_succ]
  refine wpAnyH_take (i := 5) (oi := ⟨some 190, _, _, _, _, none⟩) (v := ?v5_3) rfl (by kernel_rfl) (by kernel_rfl) (by kernel_rfl) (fun _ _ _ h => h) (Or.inl ⟨by rfl, ?hy5_3⟩) (by assumption) ?rest5_3
  case hy5_3 => (intro wq hSw; (try dsimp only at hSw); go_simp; (try with_reducible rfl))
  try simp only [Act.put, List.setIfInBounds_toArray, List.set_cons_zero, List.set_cons_succ]
  refine wpAnyH_take (i := 6) (oi := ⟨some 191, _, _, _, _, none⟩) (v := ?v6_4) rfl (by kernel_rfl) (by kernel_rfl) (by kernel_rfl) (fun _ _ _ h => h) (Or.inl ⟨by rfl, ?hy6_4⟩) (by assumption) ?rest6_4
  case hy6_4 => (intro wq hSw; (try dsimp only at hSw); go_simp; (try with_reducible rfl))
  try simp only [Act.put, List.setIfInBounds_toArray, List.set_cons_zero, List.set_cons_succ]
  refine wpAnyH_ready (rs := [0, 4]) (by kernel_rfl) (by simp) (AllReadyH.cons (o := ⟨some 185, _, _, _, _, none⟩) rfl (fun K hK => ?_) (AllReadyH.cons (o := ⟨some 189, _, _, _, _, none⟩) rfl (fun K hK => ?_) AllReadyH.nil))
  · go_simp
    refine hK.out _ _ (by trivial) (fun hHeld => ?_)
    clear hK K
    try simp only [Act.put, List.setIfInBounds_toArray, List.set_cons_zero, List.set_cons_succ]
    refine wpAnyH_take (i := 3) (oi := ⟨some 188, _, _, _, _, none⟩) (v := ?v3_5) rfl (by kernel_rfl) (by kernel_rfl) (by kernel_rfl) (fun _ _ _ h => h) (Or.inl ⟨by rfl, ?hy3_5⟩) (by assumption) ?rest3_5
    case hy3_5 => (intro wq hSw; (try dsimp only at hSw); go_simp; (try with_reducible rfl))
    try simp only [Act.put, List.setIfInBounds_toArray, List.set_cons_zero, List.set_cons_succ]
    refine wpAnyH_ready (rs := [4]) (by kernel_rfl) (by simp) (AllReadyH.cons (o := ⟨some 189, _, _, _, _, none⟩) rfl (fun K hK => ?_) AllReadyH.nil)
    go_simp
    refine hK.out _ _ (by trivial) (fun hHeld => ?_)
    clear hK K
    try simp only [Act.put, List.setIfInBounds_toArray, List.set_cons_zero, List.set_cons_succ]
    refine wpAnyH_take (i := 7) (oi := ⟨some 192, _, _, _, _, none⟩) (v := ?v7_6) rfl (by kernel_rfl) (by kernel_rfl) (by kernel_rfl) (fun _ _ _ h => h) (Or.inl ⟨by rfl, ?hy7_6⟩) (by assumption) ?rest7_6
    case hy7_6 => (intro wq hSw; (try dsimp only at hSw); go_simp; (try with_reducible rfl))
    try simp only [Act.put, List.setIfInBounds_toArray, List.set_cons_zero, List.set_cons_succ]
    refine wpAnyH_ready (rs := [8]) (by kernel_rfl) (by simp) (AllReadyH.cons (o := ⟨some 193, _, _, _, _, none⟩) rfl (fun K hK => ?_) AllReadyH.nil)
    refine step_out (by rfl) (.tmp 188) (.tmp 192) (by rfl) (by exact HR.out) hi A1 (c - (i + 1)) (by rfl) (by rfl) HA.out hn ?_
    intro g2 c2 w2 hr2 hg2
    have HR2 := Lib.hid hr2
    have HG2 := Lib.hid hg2
    have hA2 := HP2.out w2 hg2
    have uA2 := hA2.1
    have fA2 := hA2.2
    clear hr2 hg2 hA2
    refine hK.out _ _ (by trivial) (fun hHeld => ?_)
    clear hK K
    try simp only [Act.put, List.setIfInBounds_toArray, List.set_cons_zero, List.set_cons_succ]
    refine wpAnyH_ready (rs := [9]) (by kernel_rfl) (by simp) (AllReadyH.cons (o := ⟨none, _, _, _, _, none⟩) rfl (fun K hK => ?_) AllReadyH.nil)
    go_simp
    refine hK.out _ _ (by trivial) (fun hHeld => ?_)
    clear hK K
    try simp only [Act.put, List.setIfInBounds_toArray, List.set_cons_zero, List.set_cons_succ]
    refine wpAnyH_done (by kernel_rfl) ?_ _
    exact HK.out _ w2 g2 c2 ⟨rfl, rfl, rfl, rfl, rfl, rfl, rfl, rfl, rfl⟩ HR2.out HG2.out
  · go_simp
    refine hK.out _ _ (by trivial) (fun hHeld => ?_)
    clear hK K
    try simp only [Act.put, List.setIfInBounds_toArray, List.set_cons_zero, List.set_cons_succ]
    refine wpAnyH_take (i := 7) (oi := ⟨some 192, _, _, _, _, none⟩) (v := ?v7_7) rfl (by kernel_rfl) (by kernel_rfl) (by kernel_rfl) (fun _ _ _ h => h) (Or.inl ⟨by rfl, ?hy7_7⟩) (by assumption) ?rest7_7
    case hy7_7 => (intro wq hSw; (try dsimp only at hSw); go_simp; (try with_reducible rfl))
    try simp only [Act.put, List.setIfInBounds_toArray, List.set_cons_zero, List.set_cons_succ]
    refine wpAnyH_ready (rs := [0]) (by kernel_rfl) (by simp) (AllReadyH.cons (o := ⟨some 185, _, _, _, _, none⟩) rfl (fun K hK => ?_) AllReadyH.nil)
    go_simp
    refine hK.out _ _ (by trivial) (fun hHeld => ?_)
    clear hK K
    try simp only [Act.put, List.setIfInBounds_toArray, List.set_cons_zero, List.set_cons_succ]
    refine wpAnyH_take (i := 3) (oi := ⟨some 188, _, _, _, _, none⟩) (v := ?v3_8) rfl (by kernel_rfl) (by kernel_rfl) (by kernel_rfl) (fun _ _ _ h => h) (Or.inl ⟨by rfl, ?hy3_8⟩) (by assumption) ?rest3_8
    case hy3_8 => (intro wq hSw; (try dsimp only at hSw); go_simp; (try with_reducible rfl))
    try simp only [Act.put, List.setIfInBounds_toArray, List.set_cons_zero, List.set_cons_succ]
    refine wpAnyH_ready (rs := [8]) (by kernel_rfl) (by simp) (AllReadyH.cons (o := ⟨some 193, _, _, _, _, none⟩) rfl (fun K hK => ?_) AllReadyH.nil)
    refine step_out (by rfl) (.tmp 188) (.tmp 192) (by rfl) (by exact HR.out) hi A1 (c - (i + 1)) (by rfl) (by rfl) HA.out hn ?_
    intro g2 c2 w2 hr2 hg2
    have HR2 := Lib.hid hr2
    have HG2 := Lib.hid hg2
    have hA2 := HP2.out w2 hg2
    have uA2 := hA2.1
    have fA2 := hA2.2
    clear hr2 hg2 hA2
    refine hK.out _ _ (by trivial) (fun hHeld => ?_)
    clear hK K
    try simp only [Act.put, List.setIfInBounds_toArray, List.set_cons_zero, List.set_cons_succ]
    refine wpAnyH_ready (rs := [9]) (by kernel_rfl) (by simp) (AllReadyH.cons (o := ⟨none, _, _, _, _, none⟩) rfl (fun K hK => ?_) AllReadyH.nil)
    go_simp
    refine hK.out _ _ (by trivial) (fun hHeld => ?_)
    clear hK K
    try simp only [Act.put, List.setIfInBounds_toArray, List.set_cons_zero, List.set_cons_succ]
    refine wpAnyH_done (by kernel_rfl) ?_ _
    exact HK.out _ w2 g2 c2 ⟨rfl, rfl, rfl, rfl, rfl, rfl, rfl, rfl, rfl⟩ HR2.out HG2.out
end

section
open Go.RowKit
set_option linter.unusedVariables false
set_option linter.unusedSimpArgs false
theorem take_one : ∀ {ps : List (Int × List Int)} {bs : List (List Int)} {i : Nat}, allP ps bs → i < bs.length → ∃ p b, bs[i]? = some b ∧ isP p b ∧ allP (ps.eraseIdx i) (bs.eraseIdx i) ∧ (p :: ps.eraseIdx i).Perm ps
  | [], [], i, _, hi => by simp at hi
  | p :: ps, b :: bs, 0, ⟨h1, h2⟩, _ => ⟨p, b, rfl, h1, h2, List.Perm.refl _⟩
  | p :: ps, b :: bs, i + 1, ⟨h1, h2⟩, hi => by
    obtain ⟨q, d, e, h3, h4, h5⟩ := take_one h2 (show i < bs.length by simpa using hi)
    exact ⟨q, d, e, h3, ⟨h1, h4⟩, (List.Perm.swap _ _ _).trans (h5.cons p)⟩
/-- What is left of all. -/
structure Lr (w0 : World) (B PT PA Z : Nat) (w : World) (t : Int) (S : Value) (ts : List Tri) (bs : List (List Int)) : Prop where
  fr : Two B PT PA w0 w
  tt : w.heap[PT]? = some (.cells #[.int .i64 t] 3 (0, 0))
  aa : w.heap[PA]? = some (.cells #[S] 53 (0, 0))
  rd : 0 < ts.length → ∃ g c, S = .slice (some ⟨g, 0, none⟩) ts.length c ∧ RdS w g c ts
  nl : ts.length = 0 → ∃ A c, S = .slice A 0 c
  ln : ts.length = bs.length
  rb : ∀ (i : Nat) (x : Tri) (d : List Int), ts[i]? = some x → bs[i]? = some d → Own B w (triV x) d
  lt : ∀ (i : Nat) (x : Tri), ts[i]? = some x → ∀ k, (triV x).ownBlock = some k → k < Z
  le : Z ≤ w.heap.size
  bz : B ≤ Z
  pp : PT < PA ∧ PA < B
  lb : ∀ d ∈ bs, d.length ≤ 2000
  t0 : 0 ≤ t
theorem Lr.of_cw {w0 : World} {B PT PA N : Nat} {w : World} {t : Int} {S : Value} {ts : List Tri} {bs : List (List Int)} (h : Cw w0 B PT PA N w t S ts bs) : Lr w0 B PT PA w.heap.size w t S ts bs := by
  have h' := h.up
  refine ⟨h.fr, h.tt, h.aa, fun hl => RdS.of_own h.own hl, fun hl => ?_, h.rb.1, h.rb.2, h'.lt, h'.le, h'.bn, h.pp, h.lb, h.t0⟩
  have hn : ts = [] := List.eq_nil_of_length_eq_zero hl
  subst hn
  rcases h.own.form with ⟨e, _⟩ | ⟨g, c, e, _⟩
  · exact ⟨none, 0, e⟩
  · exact ⟨_, c, e⟩
theorem Lr.keep {w0 : World} {B PT PA Z : Nat} {w w' : World} {t t' : Int} {S : Value} {ts : List Tri} {bs : List (List Int)} {row : Option Nat} (h : Lr w0 B PT PA Z w t S ts bs) (hg : w.grownBy w' row) (hr : row = none ∨ row = some PT ∨ ∃ k, row = some k ∧ Z ≤ k ∧ ∀ cs, w.heap[k]? ≠ some (.cells cs 22 (0, 0))) (ht : w'.heap[PT]? = some (.cells #[.int .i64 t'] 3 (0, 0))) (ht0 : 0 ≤ t') : Lr w0 B PT PA Z w' t' S ts bs := by
  have h1 := h.le
  have h2 := h.bz
  have h3 := h.pp
  have low : ∀ k, k < Z → k ≠ PT → some k ≠ row := fun k hk hp e => by
    rcases hr with rfl | rfl | ⟨j, rfl, hj, _⟩
    · cases e
    · exact hp (by simpa using e)
    · have : k = j := by simpa using e
      omega
  refine ⟨h.fr.trans ⟨hg.os, hg.tape, hg.output, hg.size, fun j a b c => hg.block j (by omega) (low j (by omega) b)⟩, ht, (hg.block PA (by omega) (low PA (by omega) (by omega))).trans h.aa, fun hl => ?_, h.nl, h.ln, fun i x d hx hd => (h.rb i x d hx hd).kept hg ?_, h.lt, Nat.le_trans h1 hg.size, h2, h3, h.lb, ht0⟩
  · obtain ⟨g, c, e, hR⟩ := h.rd hl
    refine ⟨g, c, e, hR.grown hg fun e2 => ?_⟩
    obtain ⟨_, _, cs, hcs, _⟩ := hR
    rcases hr with rfl | rfl | ⟨j, rfl, _, hj⟩
    · cases e2
    · have : g = PT := by simpa using e2
      subst this
      rw [h.tt] at hcs
      simp only [Option.some.injEq, Obj.cells.injEq] at hcs
      have h4 := hcs.2.1
      revert h4
      decide
    · have : g = j := by simpa using e2
      subst this
      exact hj cs hcs
  · cases hs : (triV x).ownBlock with
    | none => exact .inl rfl
    | some k => exact .inr (low k (h.lt i x hx k hs) (by have := ((h.rb i x d hx hd).lt k hs).1; omega))
theorem own_no {B : Nat} {w : World} {s : Value} {l : List Int} (h : Own B w s l) {Z : Nat} (hZ : Z ≤ B) : s.ownBlock = none ∨ ∃ k, s.ownBlock = some k ∧ Z ≤ k ∧ ∀ cs, w.heap[k]? ≠ some (.cells cs 22 (0, 0)) := by
  rcases h.2.2 with ⟨rfl, _⟩ | ⟨g, cap, cur, rfl, hg, hh, _⟩
  · exact .inl rfl
  · refine .inr ⟨g, rfl, Nat.le_trans hZ hg, fun cs e => ?_⟩
    rw [hh] at e
    simp only [Option.some.injEq, Obj.cells.injEq] at e
    have h2 := e.2.1
    revert h2
    decide
theorem Lr.same {w0 : World} {B PT PA Z : Nat} {w w' : World} {t : Int} {S : Value} {ts : List Tri} {bs : List (List Int)} {row : Option Nat} (h : Lr w0 B PT PA Z w t S ts bs) (hg : w.grownBy w' row) (hr : row = none ∨ ∃ k, row = some k ∧ Z ≤ k ∧ ∀ cs, w.heap[k]? ≠ some (.cells cs 22 (0, 0))) : Lr w0 B PT PA Z w' t S ts bs := by
  have h1 := h.le
  have h2 := h.bz
  have h3 := h.pp
  refine h.keep hg (hr.imp id .inr) ((hg.block PT (by omega) fun e => ?_).trans h.tt) h.t0
  rcases hr with rfl | ⟨j, rfl, hj, _⟩
  · cases e
  · have : PT = j := by simpa using e
    omega
/-- One is taken out. -/
theorem Lr.out {w0 : World} {B PT PA Z : Nat} {w w2 : World} {t : Int} {S : Value} {ts : List Tri} {bs : List (List Int)} {i g2 c2 : Nat} (h : Lr w0 B PT PA Z w t S ts bs) (hi : i < ts.length) (hR : RdS w2 g2 c2 (ts.take i ++ ts.drop (i + 1))) (hg : w.drew.grownBy w2 none) : Lr w0 B PT PA Z (w2.setCell ⟨PA, 0, none⟩ (.slice (some ⟨g2, 0, none⟩) (ts.length - 1) c2)) t (.slice (some ⟨g2, 0, none⟩) (ts.length - 1) c2) (ts.eraseIdx i) (bs.eraseIdx i) := by
  have hgw : w.grownBy w2 none := ⟨hg.os, hg.tape, hg.output, hg.size, hg.block⟩
  have k := h.same hgw (.inl rfl)
  have h1 := k.le
  have h2 := k.bz
  have h3 := k.pp
  have hc := cgrown w2 PA 0 (.slice (some ⟨g2, 0, none⟩) (ts.length - 1) c2)
  rw [← List.eraseIdx_eq_take_drop_succ] at hR
  have hl : (ts.eraseIdx i).length = ts.length - 1 := List.length_eraseIdx_of_lt hi
  have hib : i < bs.length := by rw [← h.ln]; exact hi
  have hsz : (w2.setCell ⟨PA, 0, none⟩ (.slice (some ⟨g2, 0, none⟩) (ts.length - 1) c2)).heap.size = w2.heap.size := size_cell _ _ _
  refine ⟨k.fr.trans ⟨hc.os, hc.tape, hc.output, hc.size, fun j a b c => hc.block j (by omega) fun e => c (by simpa using e)⟩, (hc.block PT (by omega) fun e => ?_).trans k.tt, cell_at 0 _ k.aa rfl, fun hn => ⟨g2, c2, by rw [hl], hR.grown hc fun e => ?_⟩, fun hn => ⟨_, c2, by rw [hl] at hn; rw [hn]⟩, ?_, fun j x d hx hd => ?_, fun j x hx => ?_, by rw [hsz]; exact h1, h2, h3, fun d hd => k.lb d (List.eraseIdx_subset hd), k.t0⟩
  · have : PT = PA := by simpa using e
    omega
  · have e' : g2 = PA := by simpa using e
    subst e'
    obtain ⟨_, _, cs, hcs, _⟩ := hR
    have ha := k.aa
    rw [hcs] at ha
    simp only [Option.some.injEq, Obj.cells.injEq] at ha
    have h4 := ha.2.1
    revert h4
    decide
  · rw [hl, List.length_eraseIdx_of_lt hib, h.ln]
  · rw [List.getElem?_eraseIdx] at hx hd
    have key : ∀ q, ts[q]? = some x → bs[q]? = some d → Own B (w2.setCell ⟨PA, 0, none⟩ (.slice (some ⟨g2, 0, none⟩) (ts.length - 1) c2)) (triV x) d := fun q a b => by
      have ho := k.rb q x d a b
      refine ho.kept hc ?_
      cases hs : (triV x).ownBlock with
      | none => exact .inl rfl
      | some m => exact .inr (fun e => absurd (show m = PA by simpa using e) (by have h5 := (ho.lt m hs).1; omega))
    split at hx
    · rename_i hj
      rw [if_pos hj] at hd
      exact key _ hx hd
    · rename_i hj
      rw [if_neg hj] at hd
      exact key _ hx hd
  · rw [List.getElem?_eraseIdx] at hx
    split at hx
    · exact k.lt _ _ hx
    · exact k.lt _ _ hx
/-- The state of the last loop. -/
def LI4 (P PT PF PL PA : Nat) (Z : Nat) (w0 : World) (B : Nat) (ps : List (Int × List Int)) (a : Act) (w : World) : Prop := ∃ (t : Int) (S : Value) (ts : List Tri) (bs bd : List (List Int)) (psr pd : List (Int × List Int)) (Ao : Option Addr) (mo co : Nat), F17 a P PT PF PL PA Ao mo co ∧ t + ts.length ≤ 420 ∧ bd.flatten.length + 2000 * ts.length ≤ 40000 ∧ Hid (Lr w0 B PT PA Z w t S ts bs ∧ Own Z w (.slice Ao mo co) bd.flatten ∧ allP psr bs ∧ allP pd bd ∧ (psr ++ pd).Perm ps)
def lenV : Option Value → Nat
  | some (.slice _ n _) => n
  | _ => 0
def mu4 (PA : Nat) (a : Act) (w : World) : Nat := lenV (w.cell? ⟨PA, 0, none⟩)
theorem Lr.mu {w0 : World} {B PT PA Z : Nat} {w : World} {t : Int} {S : Value} {ts : List Tri} {bs : List (List Int)} (h : Lr w0 B PT PA Z w t S ts bs) (a : Act) : mu4 PA a w = ts.length := by
  have hc : w.cell? ⟨PA, 0, none⟩ = some S := (cell_of_row _ _ 0 _ _ (0, 0) h.aa).trans rfl
  unfold mu4
  rw [hc]
  rcases Nat.eq_zero_or_pos ts.length with h0 | h0
  · obtain ⟨A, c, rfl⟩ := h.nl h0
    exact h0.symm
  · obtain ⟨g, c, rfl, _⟩ := h.rd h0
    rfl
set_option maxRecDepth 1000000 in
set_option maxHeartbeats 8000000 in
theorem r13_wp {B P PN PT PF PL PA : Nat} {A : Option Addr} {n c : Nat} {wi w0 w : World} {Qq : QP} {SS : SP} {Z : Nat} {ps : List (Int × List Int)} (px : Px B P PN PT PF PL PA A n c wi w0 Qq SS) (a : Act) (hI : LI4 P PT PF PL PA Z w0 B ps a w)
    {Qx : Exit → Act → World → Prop} (hX : ∀ a' w' pd bd Ao mo co, F17 a' P PT PF PL PA Ao mo co → Two B PT PA w0 w' → Own Z w' (.slice Ao mo co) bd.flatten → allP pd bd → pd.Perm ps → bd.flatten.length ≤ 40000 → Qx (.exit 6) a' w') :
    Code.wp Tryd.prog c13L (Exit.then (fun a' w' => LI4 P PT PF PL PA Z w0 B ps a' w' ∧ mu4 PA a' w' < mu4 PA a w) Qx) a w := by
  obtain ⟨t, S, ts, bs, bd, psr, pd, Ao, mo, co, hf, ht, hbl, HI⟩ := hI
  rw [HI.out.1.mu a]
  have HX := Lib.hid hX
  have HP := Lib.hid px
  have o1 := px.cx.o1; have o2 := px.cx.o2; have o3 := px.cx.o3; have o4 := px.cx.o4; have o5 := px.cx.o5
  clear hX px
  have uA : w.cell? ⟨PA, 0, none⟩ = some S := (cell_of_row _ _ 0 _ _ (0, 0) HI.out.1.aa).trans rfl
  rcases Nat.eq_zero_or_pos ts.length with h0 | h0
  · obtain ⟨A', c', rfl⟩ := HI.out.1.nl h0
    obtain ⟨f, rfl⟩ := lit17 hf.sz hf.df hf.t2 hf.t5 hf.t6 hf.t7 hf.t8 hf.t9 hf.t17
    clear hf
    conv => arg 2; whnf
    go_wp2_with fail
    refine HX.out _ _ pd bd Ao mo co ⟨rfl, rfl, rfl, rfl, rfl, rfl, rfl, rfl, rfl⟩ HI.out.1.fr HI.out.2.1 HI.out.2.2.2.1 ?_ (by omega)
    have hb : bs = [] := List.eq_nil_of_length_eq_zero (by rw [← HI.out.1.ln]; exact h0)
    have hp : psr = [] := List.eq_nil_of_length_eq_zero (by rw [allP_len HI.out.2.2.1, hb]; rfl)
    have := HI.out.2.2.2.2
    rw [hp] at this
    exact this
  · obtain ⟨g, c1, rfl, hR⟩ := HI.out.1.rd h0
    have HR := Lib.hid hR
    have hn0 : (0 : Int) < (ts.length : Int) := by omega
    obtain ⟨nn, hnn⟩ : ∃ nn, ts.length = nn := ⟨_, rfl⟩
    have uF := HP.out.cx.f_ HI.out.1.fr
    have K1 := Lib.hid (nx_wp PN PT A n c t (ts.length : Int) w (HP.out.cx.n_ HI.out.1.fr) HI.out.1.tt PN (by omega) (HP.out.cx.r_ HI.out.1.fr) HP.out.cx.hn (by omega) HI.out.1.t0 (by omega) hn0 (by omega))
    have HT0 := Lib.hid HI.out.1.t0
    clear hR hnn
    obtain ⟨f, rfl⟩ := lit17 hf.sz hf.df hf.t2 hf.t5 hf.t6 hf.t7 hf.t8 hf.t9 hf.t17
    clear hf
    conv => arg 2; whnf
    go_upto_region 34 with (go_at_call 23; refine K1.out.mono ?_; rintro e w1 ⟨r, t1, rfl, H1⟩)
    obtain ⟨r0, r1, r2, r3, r4, r5⟩ := H1.out
    have t00 := HT0.out
    have HL1 := Lib.hid (HI.out.1.keep r4 (.inr (.inl rfl)) r5 (by omega))
    have HR1 : Hid (RdS w1 g c1 ts) := Lib.hid (by
      obtain ⟨g', c', e, h'⟩ := HL1.out.rd h0
      simp only [Value.slice.injEq, Option.some.injEq, Addr.mk.injEq] at e
      obtain ⟨⟨rfl, _⟩, _, rfl⟩ := e
      exact h')
    have HO1 := Lib.hid (HI.out.2.1.kept r4 (ob_far HI.out.2.1 (by have := HI.out.1.bz; omega)))
    clear r4 r5 H1 uA uF K1
    obtain ⟨R, rfl⟩ : ∃ R : Nat, r = (R : Int) := ⟨r.toNat, by omega⟩
    have hRn : R < ts.length := by omega
    obtain ⟨p, d, e1, e2, e3, e4⟩ := take_one (i := R) HI.out.2.2.1 (by rw [← HI.out.1.ln]; exact hRn)
    obtain ⟨x, hx⟩ : ∃ x, ts[R]? = some x := ⟨_, List.getElem?_eq_getElem hRn⟩
    obtain ⟨Ax, mx, cx⟩ := x
    have uA1 : w1.cell? ⟨PA, 0, none⟩ = some (.slice (some ⟨g, 0, none⟩) ts.length c1) := (cell_of_row _ _ 0 _ _ (0, 0) HL1.out.aa).trans rfl
    have ux : w1.cell? ⟨g, R, none⟩ = some (.slice Ax mx cx) := HR1.out.cell hx
    have hrt := own_rt (HL1.out.rb R _ d hx e1)
    have HRt := Lib.hid hrt
    have hmx : mx ≤ 2000 := by have := HI.out.1.lb d (List.mem_of_getElem? e1); have h9 : d.length = mx := hrt.2.1; omega
    have HE := Lib.hid (And.intro e1 (And.intro e2 (And.intro e3 e4)))
    have HXx := Lib.hid hx
    clear e1 e2 e3 e4 hx hrt
    go_upto_region 35 with (at_builtin; refine wpList_app Z _ rfl (.tmp 179) (.tmp 183) rfl (.slice Ao mo co) bd.flatten rfl HO1.out Ax mx cx d rfl HRt.out.2.1 HRt.out.1 HRt.out.2.2.2.2 (by omega) HL1.out.le ?_; intro v2 w2 ho2 hg2 ha2 hb2 hn2)
    obtain ⟨A2, c2, rfl⟩ := own_val ho2
    have HL2 := Lib.hid (HL1.out.same hg2 (own_no HO1.out (Nat.le_refl _)))
    have HO2 := Lib.hid ho2
    have HR2 : Hid (RdS w2 g c1 ts) := Lib.hid (by
      obtain ⟨g', c', e, h'⟩ := HL2.out.rd h0
      simp only [Value.slice.injEq, Option.some.injEq, Addr.mk.injEq] at e
      obtain ⟨⟨rfl, _⟩, _, rfl⟩ := e
      exact h')
    clear ho2 hg2 ha2 hb2 hn2 uA1 ux
    refine wp_then (E := fun _ _ => False) (K := fun a' w' => ∃ (w3 : World) (g3 c3 : Nat), F17 a' P PT PF PL PA A2 (bd.flatten ++ d).length c2 ∧ Hid (RdS w3 g3 c3 (ts.take R ++ ts.drop (R + 1)) ∧ w2.drew.grownBy w3 none ∧ w' = w3.setCell ⟨PA, 0, none⟩ (.slice (some ⟨g3, 0, none⟩) (ts.length - 1) c3))) (c35_wp (w := w2) _ ⟨rfl, rfl, rfl, rfl, rfl, rfl, rfl, rfl, rfl, rfl⟩ HR2.out hRn (by omega) HL2.out.aa (fun a' w3 g3 c3 k1 k2 k3 => ⟨w3, g3, c3, k1, Lib.hid ⟨k2, k3, rfl⟩⟩)) (fun _ _ h => h.elim) ?_
    rintro a3 w4 ⟨w3, g3, c3, hf3, H3⟩
    obtain ⟨k1, k2, rfl⟩ := H3.out
    have HL3 := HL2.out.out hRn k1 k2
    simp only [Exit.then, Exit.inBlock]
    have hle : (ts.eraseIdx R).length = ts.length - 1 := List.length_eraseIdx_of_lt hRn
    refine ⟨⟨t1, _, ts.eraseIdx R, bs.eraseIdx R, bd ++ [d], psr.eraseIdx R, pd ++ [p], A2, (bd.flatten ++ d).length, c2, hf3, by rw [hle]; omega, by rw [hle, List.flatten_append, List.length_append]; simp only [List.flatten_cons, List.flatten_nil, List.append_nil]; have h9 : d.length = mx := HRt.out.2.1; omega, Lib.hid ⟨HL3, ?_, HE.out.2.2.1, allP_snoc HI.out.2.2.2.1 HE.out.2.1, ?_⟩⟩, ?_⟩
    · have hfl : (bd ++ [d]).flatten = bd.flatten ++ d := by simp
      rw [hfl]
      have h5 : Own Z w3 (.slice A2 (bd.flatten ++ d).length c2) (bd.flatten ++ d) := HO2.out.kept (row := none) ⟨k2.os, k2.tape, k2.output, k2.size, k2.block⟩ (by
        cases (Value.slice A2 (bd.flatten ++ d).length c2).ownBlock with
        | none => exact .inl rfl
        | some k => exact .inr (fun e => by cases e))
      exact h5.kept (cgrown w3 PA 0 _) (ob_far h5 (by have := HL2.out.bz; have := HL2.out.pp; omega))
    · have h6 := HE.out.2.2.2
      have h7 := HI.out.2.2.2.2
      refine List.Perm.trans ?_ h7
      refine List.Perm.trans ?_ (h6.append_right pd)
      rw [← List.append_assoc]
      exact List.perm_append_comm
    · rw [HL3.mu a3, hle]
      omega
set_option maxRecDepth 1000000 in
set_option maxHeartbeats 8000000 in
/-- The last loop. -/
theorem c13_wp {B P PN PT PF PL PA : Nat} {A : Option Addr} {n c : Nat} {wi w0 w : World} {Qq : QP} {SS : SP} {ps : List (Int × List Int)} (x : Px B P PN PT PF PL PA A n c wi w0 Qq SS) (a : Act) (hf : F17 a P PT PF PL PA none 0 0) (hst : St w0 B PT PA 20 w ps)
    {K : Act → World → Prop} {Q : Exit → Act → World → Prop} (hK : ∀ a' w' Ao mo co l, F17 a' P PT PF PL PA Ao mo co → Two B PT PA w0 w' → Rt w' (Ao, mo, co) l → l.length ≤ 40000 → (∃ pd bd, l = List.flatten bd ∧ allP pd bd ∧ pd.Perm ps) → K a' w') :
    Code.wp Tryd.prog c13 (Exit.then K Q) a w := by
  conv => arg 2; whnf
  obtain ⟨N, t0, S0, ts0, bs0, hc0, ha0, ht0, hl0⟩ := hst
  refine wp_block ?_
  refine wp_loop (LI4 P PT PF PL PA w.heap.size w0 B ps) (mu4 PA) ⟨t0, S0, ts0, bs0, [], ps, [], none, 0, 0, hf, by omega, by show ([] : List (List Int)).flatten.length + 2000 * ts0.length ≤ 40000; have h9 : ([] : List (List Int)).flatten.length = 0 := rfl; omega, Lib.hid ⟨Lr.of_cw hc0, Own.nil_ _ _, ha0, trivial, by rw [List.append_nil]⟩⟩ (fun a w hI => r13_wp x a hI (fun a' w' pd bd Ao mo co h1 h2 h3 h4 h5 h6 => ?_))
  exact hK a' w' Ao mo co _ h1 h2 (own_rt h3) h6 ⟨pd, bd, rfl, h4, h5⟩
end

section
open Go.RowKit
set_option linter.unusedVariables false
set_option linter.unusedSimpArgs false
theorem three (w : World) (o0 o1 o2 : Obj) : (((w.alloc o0).alloc o1).alloc o2).heap.size = w.heap.size + 3 ∧ (((w.alloc o0).alloc o1).alloc o2).heap[w.heap.size]? = some o0 ∧ (((w.alloc o0).alloc o1).alloc o2).heap[w.heap.size + 1]? = some o1 ∧ (((w.alloc o0).alloc o1).alloc o2).heap[w.heap.size + 1 + 1]? = some o2 ∧ Below w.heap.size w (((w.alloc o0).alloc o1).alloc o2) := by
  have s0 : (w.alloc o0).heap.size = w.heap.size + 1 := by show (w.heap.push o0).size = _; simp
  have s1 : ((w.alloc o0).alloc o1).heap.size = w.heap.size + 1 + 1 := by show ((w.alloc o0).heap.push o1).size = _; simp [s0]
  have s2 : (((w.alloc o0).alloc o1).alloc o2).heap.size = w.heap.size + 3 := by show (((w.alloc o0).alloc o1).heap.push o2).size = _; simp [s1]
  refine ⟨s2, ?_, ?_, ?_, (((Below.refl _ _).alloc (Nat.le_refl _) _).alloc (by rw [s0]; omega) _).alloc (by rw [s1]; omega) _⟩
  · rw [heap_alloc_old _ _ (by omega), heap_alloc_old _ _ (by omega)]
    exact heap_alloc_new _ _
  · rw [heap_alloc_old _ _ (by omega), ← s0]
    exact heap_alloc_new _ _
  · rw [← s1]
    exact heap_alloc_new _ _
theorem res_ch (V : Array Value) (w : World) (x : Value) (hy : V[4]? = some x) : (results Tryd.f13 V).run Tryd.prog w = .ok x w := by
  unfold results
  rw [Tryd.results13]
  simp [hy]
set_option maxRecDepth 1000000 in
set_option maxHeartbeats 8000000 in
/-- spec.Chosen: what it makes is read as the parameters. -/
theorem ch_wp (Q : QP) (S : SP) (A : Option Addr) (n c : Nat) (w : World) (hq : Qp w Q S) (hf : Fq Q S) (hv : Q.v4.1 = none ↔ Q.pid.1 = none) (hr : RdN w.heap.size w A n) (hn : n ≤ 2147483647) :
    Calls Tryd.prog 13 #[.agg Q.cells, .slice A n c] w fun e w' => ∃ (A' : Option Addr) (m' c' : Nat) (l : List Int), e = .returned (.slice A' m' c') ∧ Hid (Rt w' (A', m', c') l ∧ GoodI l S ∧ Below w.heap.size w w' ∧ l.length ≤ 40000) := by
  have HQ := Lib.hid hq
  have HF := Lib.hid hf
  have HV := Lib.hid hv
  have HR := Lib.hid hr
  clear hq hf hv hr
  obtain ⟨z1, z2, z3, z4, z5⟩ := three w (.cells Q.cells 24 (0, 0)) (.cells #[.slice A n c] 33 (0, 0)) (.cells #[.int .i64 0] 3 (0, 0))
  go_enter Tryd.func13, Tryd.ntmps13
  refine wp_seq_k (fun K1 hK1 => ?_)
  have HK1 := Lib.hid hK1
  clear hK1
  go_wp2_with fail
  refine HK1.out _ _ ?_
  clear HK1
  refine wp_seq_k (fun K1 hK1 => ?_)
  have HK1 := Lib.hid hK1
  clear hK1
  go_wp2_with fail
  refine HK1.out _ _ ?_
  clear HK1
  change Code.wp _ _ _ _ (((w.alloc (.cells Q.cells 24 (0, 0))).alloc (.cells #[.slice A n c] 33 (0, 0))).alloc (.cells #[.int .i64 0] 3 (0, 0)))
  obtain ⟨w2, hw2⟩ : ∃ w2, (((w.alloc (.cells Q.cells 24 (0, 0))).alloc (.cells #[.slice A n c] 33 (0, 0))).alloc (.cells #[.int .i64 0] 3 (0, 0))) = w2 := ⟨_, rfl⟩
  rw [hw2] at z1 z2 z3 z4 z5 ⊢
  clear hw2
  have HZ := Lib.hid (And.intro z1 (And.intro z2 (And.intro z3 (And.intro z4 z5))))
  clear z1 z2 z3 z4 z5
  refine wp_seq_k (fun K1 hK1 => ?_)
  have HK1 := Lib.hid hK1
  clear hK1
  go_wp2_with fail
  refine HK1.out _ _ ?_
  clear HK1
  refine wp_seq_k (fun K1 hK1 => ?_)
  have HK1 := Lib.hid hK1
  clear hK1
  go_wp2_with fail
  refine HK1.out _ _ ?_
  clear HK1
  refine wp_seq_k (fun K1 hK1 => ?_)
  have HK1 := Lib.hid hK1
  clear hK1
  go_wp2_with fail
  refine HK1.out _ _ ?_
  clear HK1
  refine wp_seq_k (fun K1 hK1 => ?_)
  have HK1 := Lib.hid hK1
  clear hK1
  go_wp2_with fail
  refine HK1.out _ _ ?_
  clear HK1
  change Code.wp _ _ _ _ (((w2.alloc (.cells #[.func (Fn.func 23) #[] #[.pointer (some ⟨w.heap.size + 1, 0, none⟩), .pointer (some ⟨w.heap.size + 1 + 1, 0, none⟩)]] 56 (0, 0))).alloc (.cells #[.func (Fn.func 24) #[] #[.pointer (some ⟨w2.heap.size, 0, none⟩)]] 57 (0, 0))).alloc (.cells #[.slice none 0 0] 53 (0, 0)))
  obtain ⟨z1, z2, z3, z4, z5⟩ := HZ.out
  obtain ⟨y1, y2, y3, y4, y5⟩ := three w2 (.cells #[.func (Fn.func 23) #[] #[.pointer (some ⟨w.heap.size + 1, 0, none⟩), .pointer (some ⟨w.heap.size + 1 + 1, 0, none⟩)]] 56 (0, 0)) (.cells #[.func (Fn.func 24) #[] #[.pointer (some ⟨w2.heap.size, 0, none⟩)]] 57 (0, 0)) (.cells #[.slice none 0 0] 53 (0, 0))
  obtain ⟨w0, hw0⟩ : ∃ w0, (((w2.alloc (.cells #[.func (Fn.func 23) #[] #[.pointer (some ⟨w.heap.size + 1, 0, none⟩), .pointer (some ⟨w.heap.size + 1 + 1, 0, none⟩)]] 56 (0, 0))).alloc (.cells #[.func (Fn.func 24) #[] #[.pointer (some ⟨w2.heap.size, 0, none⟩)]] 57 (0, 0))).alloc (.cells #[.slice none 0 0] 53 (0, 0))) = w0 := ⟨_, rfl⟩
  rw [hw0] at y1 y2 y3 y4 y5 ⊢
  clear hw0
  have old : ∀ j, j < w2.heap.size → w0.heap[j]? = w2.heap[j]? := fun j hj => y5.block j hj
  have hb : Below w.heap.size w w0 := z5.trans (y5.mono (by omega))
  have px : Px (w2.heap.size + 1 + 1 + 1) w.heap.size (w.heap.size + 1) (w.heap.size + 1 + 1) w2.heap.size (w2.heap.size + 1) (w2.heap.size + 1 + 1) A n c w w0 Q S := by
    refine ⟨⟨by omega, by omega, by omega, by omega, by omega, hn, ?_, ?_, ?_, ?_⟩, by omega, (old _ (by omega)).trans z2, HQ.out, hb, Nat.le_refl _, HF.out, HV.out⟩
    · exact (cell_of_row _ _ 0 _ _ (0, 0) ((old _ (by omega)).trans z3)).trans rfl
    · exact (cell_of_row _ _ 0 _ _ (0, 0) y2).trans rfl
    · exact (cell_of_row _ _ 0 _ _ (0, 0) y3).trans rfl
    · intro h0
      obtain ⟨b, o, e, hb1, hc1⟩ := HR.out h0
      refine ⟨b, o, e, by omega, fun i hi => ?_⟩
      obtain ⟨x, h1, h2⟩ := hc1 i hi
      exact ⟨x, (hb.cell (p := ⟨b, o + i, none⟩) hb1).trans h1, h2⟩
  have hcw : Cw w0 (w2.heap.size + 1 + 1 + 1) (w.heap.size + 1 + 1) (w2.heap.size + 1 + 1) w0.heap.size w0 0 (.slice none 0 0) [] [] := ⟨Two.refl _ _ _ _, (old _ (by omega)).trans z4, y4, OwnE.nil_ _ _, ⟨rfl, fun i x d h => by simp at h⟩, Nat.le_refl _, by omega, fun k h => (by cases h), fun i x h => by simp at h, by omega, by omega, fun d h => by simp at h⟩
  have hst : St w0 (w2.heap.size + 1 + 1 + 1) (w.heap.size + 1 + 1) (w2.heap.size + 1 + 1) 0 w0 [] := ⟨_, 0, _, [], [], hcw, trivial, by omega, Nat.le_refl _⟩
  have HPX := Lib.hid px
  have HST := Lib.hid hst
  clear px hst hcw old z1 z2 z3 z4 z5 y1 y2 y3 y4 y5 hb
  refine wp_seq ?_
  refine c6_wp HPX.out _ ⟨rfl, rfl, rfl, rfl, rfl, rfl, rfl, rfl⟩ HST.out (fun a1 w1 hf1 hs1 => ?_)
  refine wp_seq ?_
  refine c7_wp HPX.out _ hf1 hs1 (fun a3 w3 U hf3 hs3 => ?_)
  refine wp_seq ?_
  refine c8_wp HPX.out _ hf3 hs3 (fun a4 w4 L hf4 hL hs4 => ?_)
  refine wp_seq ?_
  refine c9_wp HPX.out _ hf4 hs4 (fun a5 w5 hf5 hs5 => ?_)
  refine wp_seq ?_
  refine c10_wp HPX.out _ hf5 hs5 (fun a6 w6 hf6 hs6 => ?_)
  refine wp_seq ?_
  refine c11_wp HPX.out _ hf6 hs6 (fun a7 w7 fs hf7 hfar hs7 => ?_)
  have HS7 := Lib.hid hs7
  have HL := Lib.hid hL
  have HFAR := Lib.hid hfar
  clear hs1 hs3 hs4 hs5 hs6 hs7 hf1 hf3 hf4 hf5 hf6 hL hfar
  obtain ⟨f, rfl⟩ := lit195 hf7.sz hf7.df hf7.t2 hf7.t5 hf7.t6 hf7.t7 hf7.t8 hf7.t9
  clear hf7
  refine wp_seq_k (fun K1 hK1 => ?_)
  have HK1 := Lib.hid hK1
  clear hK1
  go_wp2_with fail
  refine HK1.out _ _ ?_
  clear HK1
  refine wp_seq ?_
  refine c13_wp HPX.out _ ⟨rfl, rfl, rfl, rfl, rfl, rfl, rfl, rfl, rfl⟩ HS7.out (fun a8 w8 Ao mo co l hf8 htw hrt hlen hex => ?_)
  obtain ⟨pd, bd, hl, hpd, hperm⟩ := hex
  have hgood : GoodI l S := by
    refine chosen_good (Q := Q) (L := L) (fs := fs) HF.out HL.out hpd hl ?_ HFAR.out
    refine hperm.trans (List.Perm.of_eq ?_)
    simp [kn, bos, List.append_assoc]
  have HG := Lib.hid hgood
  have HRt := Lib.hid hrt
  have HBel := Lib.hid (HPX.out.bel htw)
  clear hgood hrt htw hl hpd hperm HS7 HPX HST
  obtain ⟨g, rfl⟩ := lit17 hf8.sz hf8.df hf8.t2 hf8.t5 hf8.t6 hf8.t7 hf8.t8 hf8.t9 hf8.t17
  clear hf8
  go_wp2_with fail
  exact bodyPost_ret (v := .slice Ao mo co) (res_ch _ _ _ rfl) rfl ⟨Ao, mo, co, l, rfl, HRt.out, HG.out, HBel.out, hlen⟩
end

section
open Go.RowKit
set_option linter.unusedVariables false
set_option linter.unusedSimpArgs false
section
open Go.ChangeShapes Go.WideShapes Go.ChangeAt
set_option maxRecDepth 100000 in
theorem openedN {H : Type} {enc : TypeId × Value → H} {W : World} {base : Nat} {v : Value} {d : DataW H} {p : List MemPlace}
    (hok : Value.okWide Tryd.prog W .any base 33 v) (h : DataW.Trod enc Tryd.prog W 0 (fun _ => true) true 33 v d p) :
    ∃ A n c, v = .slice A n c ∧ RdN W.heap.size W A n := by
  obtain ⟨a0, len0, cap0, rfl⟩ := okWide_slice Tryd.underlying33 hok
  obtain ⟨fuel, hf⟩ := h
  rcases open_ints Tryd.underlying33 Tryd.underlying3 (by kernel_rfl) hf with ⟨hcs, _⟩ | ⟨x, l, c, zs, hcs, _, hl, hm, hz, _, hcell, hwz⟩
  · simp [Value.cells] at hcs
    obtain ⟨rfl, rfl, rfl⟩ := hcs
    exact ⟨none, 0, 0, rfl, fun h => by omega⟩
  · simp [Value.cells] at hcs
    obtain ⟨rfl, rfl, rfl⟩ := hcs
    have hz' : zs.length = cap0 := by simpa using hz
    refine ⟨some x, len0, cap0, rfl, fun hp => ?_⟩
    obtain ⟨b, off, spot⟩ := x
    have hc := hcell 0 (by omega)
    have hspot : spot = none := by simpa [Addr.add] using World.cell?_spot hc
    subst hspot
    refine ⟨b, off, rfl, World.block_lt_of_cell? _ _ hc, fun i hi => ?_⟩
    have hci := hcell i (by omega)
    rw [Addr.add_lit] at hci
    have hmem : zs.getD i 0 ∈ zs := by
      rw [List.getD_eq_getElem?_getD, List.getElem?_eq_getElem (by omega)]
      exact List.getElem_mem _
    exact ⟨_, hci, bounds_i64 (hwz _ hmem)⟩
end
theorem goodI_I {l : List Int} {S S' : SP} (h : GoodI l S) (h' : GoodI l S') : S = S' := by
  obtain ⟨ps, hp, _, rfl⟩ := h
  obtain ⟨qs, hq, _, rfl⟩ := h'
  rw [path_end hp hq]
set_option maxRecDepth 1000000 in
set_option maxHeartbeats 8000000 in
/-- laws.zzFits1: it answers, always the same. -/
theorem zf_det (Q : QP) (w : World) : ∃ y : Bool, Calls Tryd.prog 11 #[.agg Q.cells] w fun e w' => e = .returned (.bool y) ∧ Hid (Below w.heap.size w w') := by
  have hB : Below w.heap.size w (w.alloc (.cells Q.cells 24 (0, 0))) := (Below.refl _ _).alloc (Nat.le_refl _) _
  have hP := heap_alloc_new w (.cells Q.cells 24 (0, 0))
  obtain ⟨w1, hw1⟩ : ∃ w1, w.alloc (.cells Q.cells 24 (0, 0)) = w1 := ⟨_, rfl⟩
  rw [hw1] at hB hP
  have HB := Lib.hid hB
  have HW1 := Lib.hid hw1
  clear hw1 hB
  obtain ⟨A0, n0, c0, u0⟩ : ∃ A n c, w1.cell? ⟨w.heap.size, 0, none⟩ = some (.slice A n c) := ⟨Q.od.1, Q.od.2.1, Q.od.2.2, (cell_of_row _ _ 0 _ _ (0, 0) hP).trans rfl⟩
  obtain ⟨A1, n1, c1, u1⟩ : ∃ A n c, w1.cell? ⟨w.heap.size, 1, none⟩ = some (.slice A n c) := ⟨Q.rt.1, Q.rt.2.1, Q.rt.2.2, (cell_of_row _ _ 1 _ _ (0, 0) hP).trans rfl⟩
  obtain ⟨A2, n2, c2, u2⟩ : ∃ A n c, w1.cell? ⟨w.heap.size, 2, none⟩ = some (.slice A n c) := ⟨Q.is.1, Q.is.2.1, Q.is.2.2, (cell_of_row _ _ 2 _ _ (0, 0) hP).trans rfl⟩
  obtain ⟨A3, n3, c3, u3⟩ : ∃ A n c, w1.cell? ⟨w.heap.size, 3, none⟩ = some (.slice A n c) := ⟨Q.rs.1, Q.rs.2.1, Q.rs.2.2, (cell_of_row _ _ 3 _ _ (0, 0) hP).trans rfl⟩
  obtain ⟨A15, n15, c15, u15⟩ : ∃ A n c, w1.cell? ⟨w.heap.size, 15, none⟩ = some (.slice A n c) := ⟨Q.v4.1, Q.v4.2.1, Q.v4.2.2, (cell_of_row _ _ 15 _ _ (0, 0) hP).trans rfl⟩
  obtain ⟨A16, n16, c16, u16⟩ : ∃ A n c, w1.cell? ⟨w.heap.size, 16, none⟩ = some (.slice A n c) := ⟨Q.v6.1, Q.v6.2.1, Q.v6.2.2, (cell_of_row _ _ 16 _ _ (0, 0) hP).trans rfl⟩
  obtain ⟨A19, n19, c19, u19⟩ : ∃ A n c, w1.cell? ⟨w.heap.size, 19, none⟩ = some (.slice A n c) := ⟨Q.pid.1, Q.pid.2.1, Q.pid.2.2, (cell_of_row _ _ 19 _ _ (0, 0) hP).trans rfl⟩
  obtain ⟨A20, n20, c20, u20⟩ : ∃ A n c, w1.cell? ⟨w.heap.size, 20, none⟩ = some (.slice A n c) := ⟨Q.ptok.1, Q.ptok.2.1, Q.ptok.2.2, (cell_of_row _ _ 20 _ _ (0, 0) hP).trans rfl⟩
  clear hP
  by_cases h0 : (2147483647 : Int) < (n0 : Int)
  · refine ⟨false, ?_⟩
    go_enter Tryd.func11, Tryd.ntmps11
    go_upto_region 1 with fail
    change Code.wp _ _ _ _ (w.alloc (.cells Q.cells 24 (0, 0)))
    rw [HW1.out]
    go_wp2_with fail
    go_ret
    first | exact ⟨rfl, HB.out⟩ | (simp; exact HB.out)
  by_cases h1 : (2147483647 : Int) < (n1 : Int)
  · refine ⟨false, ?_⟩
    go_enter Tryd.func11, Tryd.ntmps11
    go_upto_region 1 with fail
    change Code.wp _ _ _ _ (w.alloc (.cells Q.cells 24 (0, 0)))
    rw [HW1.out]
    go_wp2_with fail
    go_ret
    first | exact ⟨rfl, HB.out⟩ | (simp; exact HB.out)
  by_cases h2 : (2147483647 : Int) < (n2 : Int)
  · refine ⟨false, ?_⟩
    go_enter Tryd.func11, Tryd.ntmps11
    go_upto_region 1 with fail
    change Code.wp _ _ _ _ (w.alloc (.cells Q.cells 24 (0, 0)))
    rw [HW1.out]
    go_wp2_with fail
    go_ret
    first | exact ⟨rfl, HB.out⟩ | (simp; exact HB.out)
  by_cases h3 : (2147483647 : Int) < (n3 : Int)
  · refine ⟨false, ?_⟩
    go_enter Tryd.func11, Tryd.ntmps11
    go_upto_region 1 with fail
    change Code.wp _ _ _ _ (w.alloc (.cells Q.cells 24 (0, 0)))
    rw [HW1.out]
    go_wp2_with fail
    go_ret
    first | exact ⟨rfl, HB.out⟩ | (simp; exact HB.out)
  by_cases h15 : (2147483647 : Int) < (n15 : Int)
  · refine ⟨false, ?_⟩
    go_enter Tryd.func11, Tryd.ntmps11
    go_upto_region 1 with fail
    change Code.wp _ _ _ _ (w.alloc (.cells Q.cells 24 (0, 0)))
    rw [HW1.out]
    go_wp2_with fail
    go_ret
    first | exact ⟨rfl, HB.out⟩ | (simp; exact HB.out)
  by_cases h16 : (2147483647 : Int) < (n16 : Int)
  · refine ⟨false, ?_⟩
    go_enter Tryd.func11, Tryd.ntmps11
    go_upto_region 1 with fail
    change Code.wp _ _ _ _ (w.alloc (.cells Q.cells 24 (0, 0)))
    rw [HW1.out]
    go_wp2_with fail
    go_ret
    first | exact ⟨rfl, HB.out⟩ | (simp; exact HB.out)
  by_cases h19 : (2147483647 : Int) < (n19 : Int)
  · refine ⟨false, ?_⟩
    go_enter Tryd.func11, Tryd.ntmps11
    go_upto_region 1 with fail
    change Code.wp _ _ _ _ (w.alloc (.cells Q.cells 24 (0, 0)))
    rw [HW1.out]
    go_wp2_with fail
    go_ret
    first | exact ⟨rfl, HB.out⟩ | (simp; exact HB.out)
  by_cases h20 : (2147483647 : Int) < (n20 : Int)
  · refine ⟨false, ?_⟩
    go_enter Tryd.func11, Tryd.ntmps11
    go_upto_region 1 with fail
    change Code.wp _ _ _ _ (w.alloc (.cells Q.cells 24 (0, 0)))
    rw [HW1.out]
    go_wp2_with fail
    go_ret
    first | exact ⟨rfl, HB.out⟩ | (simp; exact HB.out)
  refine ⟨true, ?_⟩
  go_enter Tryd.func11, Tryd.ntmps11
  go_upto_region 1 with fail
  change Code.wp _ _ _ _ (w.alloc (.cells Q.cells 24 (0, 0)))
  rw [HW1.out]
  go_wp2_with fail
  go_ret
  first | exact ⟨rfl, HB.out⟩ | (simp; exact HB.out)
theorem RdN.below {B : Nat} {w w' : World} {A : Option Addr} {n : Nat} (h : RdN B w A n) (hb : Below B w w') : RdN B w' A n := fun hn => by
  obtain ⟨b, o, e, hbb, hc⟩ := h hn
  refine ⟨b, o, e, hbb, fun i hi => ?_⟩
  obtain ⟨x, h1, h2⟩ := hc i hi
  exact ⟨x, (hb.cell (p := ⟨b, o + i, none⟩) hbb).trans h1, h2⟩
theorem RdN.up {B B' : Nat} {w : World} {A : Option Addr} {n : Nat} (h : RdN B w A n) (hB : B ≤ B') : RdN B' w A n := fun hn => by
  obtain ⟨b, o, e, hbb, hc⟩ := h hn
  exact ⟨b, o, e, by omega, hc⟩
set_option maxRecDepth 1000000 in
set_option maxHeartbeats 8000000 in
theorem fnAnyOrderOfParams_walk (Q : QP) (S : SP) (A : Option Addr) (n c : Nat) (w : World) (a4 a6 : Addr) (hq : Qp w Q S) (hr : RdN w.heap.size w A n) (hg : Gl w a4 a6) :
    Calls Tryd.prog 4 #[.agg Q.cells, .slice A n c] w fun e w' => e = .returned (.bool true) ∧ Below w.heap.size w w' := by
  have HB1 : Hid (Below w.heap.size w (w.alloc (.cells Q.cells 24 (0, 0)))) := (Below.refl _ _).alloc (Nat.le_refl _) _
  have HP := Lib.hid (heap_alloc_new w (.cells Q.cells 24 (0, 0)))
  have HQ := Lib.hid (hq.below HB1.out)
  have HG := Lib.hid (hg.below HB1.out (Nat.le_refl _))
  have HR := Lib.hid hr
  clear hq hg hr
  go_enter Tryd.func4, Tryd.ntmps4
  go_upto_region 1 with fail
  change Code.wp _ _ _ _ (w.alloc (.cells Q.cells 24 (0, 0)))
  obtain ⟨w1, hw1⟩ : ∃ w1, w.alloc (.cells Q.cells 24 (0, 0)) = w1 := ⟨_, rfl⟩
  rw [hw1] at HB1 HP HQ HG ⊢
  clear hw1
  obtain ⟨y, kz⟩ := zf_det Q w1
  have KZ := Lib.hid kz
  clear kz
  cases y
  · refine wp_region_lit ?_
    refine wpList_load_mid (op := ⟨some 7, .load 24 (.tmp 2), _, _, _, none⟩) rfl 24 (.tmp 2) rfl w.heap.size 0 rfl Q.cells.toList _ (range_row HP.out) Tryd.underlying24 rfl (size_sq.trans (congrArg some (QP.size Q).symm)) ?_
    go_wp2_with (go_at_call 11; refine KZ.out.mono ?_; rintro e w2 ⟨rfl, H2⟩)
    go_ret
    exact ⟨rfl, HB1.out.trans (H2.out.mono HB1.out.size)⟩
  by_cases hn : (2147483647 : Int) < (n : Int)
  · refine wp_region_lit ?_
    refine wpList_load_mid (op := ⟨some 7, .load 24 (.tmp 2), _, _, _, none⟩) rfl 24 (.tmp 2) rfl w.heap.size 0 rfl Q.cells.toList _ (range_row HP.out) Tryd.underlying24 rfl (size_sq.trans (congrArg some (QP.size Q).symm)) ?_
    go_wp2_with (go_at_call 11; refine KZ.out.mono ?_; rintro e w2 ⟨rfl, H2⟩)
    go_ret
    exact ⟨rfl, HB1.out.trans (H2.out.mono HB1.out.size)⟩
  have hnn : n ≤ 2147483647 := by omega
  refine wp_region_lit ?_
  refine wpList_load_mid (op := ⟨some 7, .load 24 (.tmp 2), _, _, _, none⟩) rfl 24 (.tmp 2) rfl w.heap.size 0 rfl Q.cells.toList _ (range_row HP.out) Tryd.underlying24 rfl (size_sq.trans (congrArg some (QP.size Q).symm)) ?_
  go_upto_region 3 with (go_at_call 11; refine KZ.out.mono ?_; rintro e w2 ⟨rfl, H2⟩)
  have HP := Lib.hid ((H2.out.block _ (cell_in HP.out)).trans HP.out)
  have HQ := Lib.hid (HQ.out.below H2.out)
  have HG := Lib.hid (HG.out.below H2.out (Nat.le_refl _))
  have HB2 := Lib.hid (HB1.out.trans (H2.out.mono HB1.out.size))
  refine wp_region_lit ?_
  refine wpList_load_mid (op := ⟨some 15, .load 24 (.tmp 2), _, _, _, none⟩) rfl 24 (.tmp 2) rfl w.heap.size 0 rfl Q.cells.toList _ (range_row HP.out) Tryd.underlying24 rfl (size_sq.trans (congrArg some (QP.size Q).symm)) ?_
  go_upto_if 17 with (go_at_call 12; refine (fits4_wp Q S w2 HQ.out).mono ?_; rintro e w3 ⟨y, rfl, H3⟩)
  cases y
  · go_wp2_with fail
    go_ret
    exact ⟨rfl, HB2.out.trans (H3.out.2.mono HB2.out.size)⟩
  have HF := Lib.hid (H3.out.1 rfl)
  have HP := Lib.hid ((H3.out.2.block _ (cell_in HP.out)).trans HP.out)
  have HQ := Lib.hid (HQ.out.below H3.out.2)
  have HG := Lib.hid (HG.out.below H3.out.2 (Nat.le_refl _))
  have HB3 := Lib.hid (HB2.out.trans (H3.out.2.mono HB2.out.size))
  have HR3 : Hid (RdN w3.heap.size w3 A n) := Lib.hid ((HR.out.below HB3.out).up HB3.out.size)
  have KR : Hid (∀ A5 n5 c5 l5 w5, Rt w5 (A5, n5, c5) l5 → Below w3.heap.size w3 w5 → l5.length ≤ 40000 → _) := Lib.hid (fun A5 n5 c5 l5 w5 (k1 : Rt w5 (A5, n5, c5) l5) (k2 : Below w3.heap.size w3 w5) (k3 : l5.length ≤ 40000) => ir_wp A5 n5 c5 l5 w5 a4 a6 k1.1 (Lib.hid k1.2.1) k1.2.2.1 k1.2.2.2.1 (by have h9 : l5.length = n5 := k1.2.1; omega) (Lib.hid k1.2.2.2.2) (HG.out.below k2 (Nat.le_refl _)))
  clear H2 H3 HB1 HB2 hn KZ
  go_upto_region 5 with fail
  refine wp_region_lit ?_
  refine wpList_load_mid (op := ⟨some 19, .load 24 (.tmp 2), _, _, _, none⟩) rfl 24 (.tmp 2) rfl w.heap.size 0 rfl Q.cells.toList _ (range_row HP.out) Tryd.underlying24 rfl (size_sq.trans (congrArg some (QP.size Q).symm)) ?_
  go_upto_region 6 with (first | (go_at_call 13; refine (ch_wp Q S A n c w3 HQ.out HF.out.1 HF.out.2 HR3.out hnn).mono ?_; rintro e w5 ⟨A5, n5, c5, l5, rfl, H5⟩) | (go_at_call 8; refine (KR.out A5 n5 c5 l5 w5 H5.out.1 H5.out.2.2.1 H5.out.2.2.2).mono ?_; rintro e w6 ⟨Q6, y6, rfl, H6, HB6⟩) | (refine wpList_store_mid (op := ⟨none, .store 27 (.tmp 5) (.tmp 23), _, _, _, none⟩) rfl 27 (.tmp 5) (.tmp 23) rfl w6.heap.size 0 Q6.cells rfl rfl (there_newq w6 qz 27) size_iq (QP.one Q6) ?_))
  have HW7 := Lib.hid (setCells_all (w := w6.alloc (.cells qz.cells 27 (0, 0))) (vs := Q6.cells) (heap_alloc_new w6 (.cells qz.cells 27 (0, 0))) rfl).1
  have HB7 : Hid (Below w6.heap.size w6 ((w6.alloc (.cells qz.cells 27 (0, 0))).setCells w6.heap.size 0 Q6.cells.toList)) := below_setCells (Nat.le_refl _) (Nat.le_refl _) _ _ ((Below.refl _ _).alloc (Nat.le_refl _) _)
  change Code.wp _ _ _ _ ((w6.alloc (.cells qz.cells 27 (0, 0))).setCells w6.heap.size 0 Q6.cells.toList)
  obtain ⟨w7, hw7⟩ : ∃ w7, ((w6.alloc (.cells qz.cells 27 (0, 0))).setCells w6.heap.size 0 Q6.cells.toList) = w7 := ⟨_, rfl⟩
  rw [hw7] at HW7 HB7 ⊢
  clear hw7
  have HB36 : Hid (Below w3.heap.size w3 w6) := Lib.hid (H5.out.2.2.1.trans (HB6.out.mono H5.out.2.2.1.size))
  have HB37 : Hid (Below w3.heap.size w3 w7) := Lib.hid (HB36.out.trans (HB7.out.mono HB36.out.size))
  have HB07 := Lib.hid (HB3.out.trans (HB37.out.mono HB3.out.size))
  have HP7 := Lib.hid ((HB37.out.block _ (cell_in HP.out)).trans HP.out)
  have HQ7 := Lib.hid (HQ.out.below HB37.out)
  rcases H6.out with ⟨rfl, S', hq6, hgi⟩ | ⟨rfl, hbad⟩
  rotate_left
  · exact absurd hbad (goodI_bad H5.out.2.1)
  have hSS := goodI_I H5.out.2.1 hgi
  subst hSS
  have HQ6 := Lib.hid (hq6.below HB7.out)
  have hW7 := HW7.out
  have hP7 := HP7.out
  clear hq6 hgi H6 H5
  refine wp_region_held_drew (S := fun wx => wx.heap[w6.heap.size]? = some (.cells Q6.cells 27 (0, 0)) ∧ wx.heap[w.heap.size]? = some (.cells Q.cells 24 (0, 0))) (by kernel_rfl) (by exact ⟨hW7, hP7⟩) (fun hHeld => ?_)
  refine wpAnyH_take (i := 0) (v := ?v0) rfl (by kernel_rfl) (by kernel_rfl) (by kernel_rfl) (fun _ _ _ h => h) (Or.inl ⟨by rfl, ?hy0⟩) (by assumption) ?rest0
  case hy0 => (intro wq hSw; go_simp; try with_reducible rfl)
  try simp only [Act.put, List.setIfInBounds_toArray, List.set_cons_zero, List.set_cons_succ]
  refine wpAnyH_take (i := 1) (v := ?v1) rfl (by kernel_rfl) (by kernel_rfl) (by kernel_rfl) (fun _ _ _ h => h) (Or.inl ⟨by rfl, ?hy1⟩) (by assumption) ?rest1
  case hy1 => (intro wq hSw; go_simp; try with_reducible rfl)
  try simp only [Act.put, List.setIfInBounds_toArray, List.set_cons_zero, List.set_cons_succ]
  refine wpAnyH_take (i := 2) (v := .agg Q6.cells.toList.toArray) rfl (by kernel_rfl) (by kernel_rfl) (by kernel_rfl) (fun _ _ _ h => h) (yieldsIf_load_mid (by rfl) 27 (.tmp 5) rfl w6.heap.size 0 rfl Q6.cells.toList _ (fun w hw => range_row hw.1) Tryd.underlying27 rfl (size_iq.trans (congrArg some (QP.size Q6).symm))) (by assumption) ?_
  try simp only [Act.put, List.setIfInBounds_toArray, List.set_cons_zero, List.set_cons_succ]
  refine wpAnyH_take (i := 3) (v := .agg Q.cells.toList.toArray) rfl (by kernel_rfl) (by kernel_rfl) (by kernel_rfl) (fun _ _ _ h => h) (yieldsIf_load_mid (by rfl) 24 (.tmp 2) rfl w.heap.size 0 rfl Q.cells.toList _ (fun w hw => range_row hw.2) Tryd.underlying24 rfl (size_sq.trans (congrArg some (QP.size Q).symm))) (by assumption) ?_
  try simp only [Act.put, List.setIfInBounds_toArray, List.set_cons_zero, List.set_cons_succ]
  refine wpAnyH_ready (rs := [4]) (by kernel_rfl) (by simp) (AllReadyH.cons rfl (fun K hK => ?_) AllReadyH.nil)
  go_simp
  go_at_call_of 10 (Value.agg Q.cells); refine (params_wp Q _).mono ?_; rintro e w8 ⟨rfl, H8⟩
  have HB8 : Hid (Below w7.heap.size w7 w8) := Lib.hid ((below_drewN (Below.refl _ _) 1).trans H8.out)
  refine hK.out _ _ (by exact ⟨(HB8.out.block _ (cell_in HW7.out)).trans HW7.out, (HB8.out.block _ (cell_in HP7.out)).trans HP7.out⟩) (fun hHeld => ?_)
  clear hK K
  try simp only [Act.put, List.setIfInBounds_toArray, List.set_cons_zero, List.set_cons_succ]
  refine wpAnyH_ready (rs := [5]) (by kernel_rfl) (by simp) (AllReadyH.cons rfl (fun K hK => ?_) AllReadyH.nil)
  go_simp
  go_at_call_of 9 (Value.agg Q6.cells); refine (alike_wp Q6 Q S _ (HQ6.out.below HB8.out) (HQ7.out.below HB8.out)).mono ?_; rintro e w9 ⟨rfl, H9⟩
  have HB9 : Hid (Below w7.heap.size w7 w9) := Lib.hid (HB8.out.trans (H9.out.mono HB8.out.size))
  refine hK.out _ _ (by exact ⟨(HB9.out.block _ (cell_in HW7.out)).trans HW7.out, (HB9.out.block _ (cell_in HP7.out)).trans HP7.out⟩) (fun hHeld => ?_)
  clear hK K
  try simp only [Act.put, List.setIfInBounds_toArray, List.set_cons_zero, List.set_cons_succ]
  refine take_d (i := 6) 31 (.bool true) rfl rfl (by kernel_rfl) (by kernel_rfl) (by kernel_rfl) (fun _ _ _ h => h) (Or.inl ⟨by rfl, ?hy6⟩) (by assumption) ?rest6
  case hy6 => (intro wq hSw; go_simp; try with_reducible rfl)
  try simp only [Act.put, List.setIfInBounds_toArray, List.set_cons_zero, List.set_cons_succ]
  refine take_d (i := 7) 4 (.bool true) rfl rfl (by kernel_rfl) (by kernel_rfl) (by kernel_rfl) (fun _ _ _ h => h) (Or.inl ⟨by rfl, ?hy7⟩) (by assumption) ?rest7
  case hy7 => (intro wq hSw; go_simp; try with_reducible rfl)
  try simp only [Act.put, List.setIfInBounds_toArray, List.set_cons_zero, List.set_cons_succ]
  refine wpAnyH_done (by kernel_rfl) ?_ _
  go_wp2_with fail
  go_ret
  exact ⟨rfl, HB07.out.trans (HB9.out.mono HB07.out.size)⟩
end

end Go.Proofs.YtdjdcpcomhjnjaaDoor

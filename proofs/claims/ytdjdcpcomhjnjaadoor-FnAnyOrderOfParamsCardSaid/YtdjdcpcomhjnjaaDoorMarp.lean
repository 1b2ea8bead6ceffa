/- marshalTransportParameters: a preferred address. Conditions: none. -/
import Derived.Test.YtdjdcpcomhjnjaaDoorMar
import Derived.Test.YtdjdcpcomhjnjaaDoorRpb
namespace Go.Proofs.YtdjdcpcomhjnjaaDoor
open Go.RowKit
set_option linter.unusedVariables false
set_option linter.unusedSimpArgs false

theorem Ms.below {w1 w w' : World} {s : Value} {l : List Int} {m : Nat} (h : Ms w1 w s l m) (hb : Below w.heap.size w w') : Ms w1 w' s l m := ⟨h.bel.trans (hb.mono h.bel.size), h.own.below hb, h.len⟩
theorem Ms.ext {w1 w w' : World} {s s' : Value} {l d : List Int} {m k : Nat} (h : Ms w1 w s l m) (hb : Below w1.heap.size w w') (ho : Own w1.heap.size w' s' (l ++ d)) (hd : d.length ≤ k) : Ms w1 w' s' (l ++ d) (m + k) := ⟨h.bel.trans hb, ho, by have := h.len; rw [List.length_append]; omega⟩
theorem Ms.appb {w1 w w' : World} {s : Value} {l : List Int} {m : Nat} {x y : Int} {e : Ending} (h : Ms w1 w s l m) (hE : AppEnd w1.heap.size w s (l ++ [x, y]) e w') : ∃ s', e = .returned s' ∧ Hid (Ms w1 w' s' (l ++ [x, y]) (m + 2)) :=
  h.app hE (by have := h.len; rw [List.length_append]; simp; omega)
theorem Ms.app8 {w1 w w' : World} {s : Value} {l d : List Int} {m : Nat} {x : Int} {e : Ending} (h : Ms w1 w s l m) (hE : AppEnd w1.heap.size w s (l ++ [x] ++ d) e w') (hd : d.length ≤ 50) : ∃ s', e = .returned s' ∧ Hid (Ms w1 w' s' (l ++ [x] ++ d) (m + 51)) :=
  h.app hE (by have := h.len; rw [List.length_append, List.length_append]; simp; omega)
/-- beAppendUint16. -/
theorem bau (B : Nat) (s : Value) (l : List Int) (p : Int) (w : World) (hown : Own B w s l) (hB : B ≤ w.heap.size) (hlen : l.length ≤ 1099511627776) (h0 : 0 ≤ p) (h1 : p ≤ 65535) :
    Calls Tryd.prog 50 #[s, .int .u16 p] w fun e w' => AppEnd B w s (l ++ [p / 256, p % 256]) e w' := by
  have hbs : Bs [p / 256, p % 256] := fun y hy => by simp at hy; omega
  have HR := Lib.hid (Rd.new w _ hbs 5)
  clear hbs
  have hw0 : IntKind.u8.wrap p = p % 256 := wrap_u8 _
  have hw1 : IntKind.u8.wrap (p / 256) = p / 256 := by rw [wrap_u8]; omega
  go_enter Tryd.func50, Tryd.ntmps50
  go_wp2_with (at_builtin; refine wpList_app B _ rfl _ _ rfl _ l rfl (hown.alloc _) (some ⟨w.heap.size, 0, none⟩) 2 2 [p / 256, p % 256] rfl rfl (by exact HR.out) (by simp) (by omega) (by simp; omega) ?_; intro s' w1 hown1 hgrow1 hat1 hbel1 hnil1)
  go_ret
  exact ⟨s', rfl, hown1, grownBy_alloc_left hgrow1, hat1.imp id fun h => ⟨_, h, by simp⟩, ((Below.refl _ _).alloc hB _).trans hbel1, fun h => (hnil1.1 h).1⟩
def psec (A : Option Addr) (v4 v6 pid ptok : List Int) (p4 p6 : Int) : List Int := if A = none then [] else [13] ++ (enc ((25 + pid.length + 16 : Nat) : Int) ++ (v4 ++ ([p4 / 256, p4 % 256] ++ (v6 ++ ([p6 / 256, p6 % 256] ++ ([((pid.length : Nat) : Int)] ++ (pid ++ ptok)))))))
noncomputable def mk14 : Code := cl (cr (cr (cr (cr (cr (cr (cr (cr (cr (cr (cr (cr (cr (cr (cr (Tryd.f35.body.getD .skip))))))))))))))))
set_option maxRecDepth 1000000 in
set_option maxHeartbeats 8000000 in
theorem ms14 {w1 w : World} {P m : Nat} {s : Value} {l : List Int} {A22 A21 z4 z6 : Option Addr} {n21 c21 n22 c22 : Nat} {h4 l4 p4 h6 l6 p6 : Int} {v4 v6 pid ptok : List Int} {a4 a6 : Addr} (a : Act) (hf : Mg a P s) (hs : Ms w1 w s l m) (hm : m ≤ 100000) (hc : w1.cell? ⟨P, 21, none⟩ = some (.slice A21 n21 c21)) (hc22 : w1.cell? ⟨P, 22, none⟩ = some (.slice A22 n22 c22)) (hc13 : w1.cell? ⟨P, 13, none⟩ = some (.int .u64 h4)) (hc14 : w1.cell? ⟨P, 14, none⟩ = some (.int .u64 l4)) (hc15 : w1.cell? ⟨P, 15, none⟩ = some (.pointer z4)) (hc16 : w1.cell? ⟨P, 16, none⟩ = some (.int .u16 p4)) (hc17 : w1.cell? ⟨P, 17, none⟩ = some (.int .u64 h6)) (hc18 : w1.cell? ⟨P, 18, none⟩ = some (.int .u64 l6)) (hc19 : w1.cell? ⟨P, 19, none⟩ = some (.pointer z6)) (hc20 : w1.cell? ⟨P, 20, none⟩ = some (.int .u16 p6)) (hr : Rt w1 (A21, n21, c21) pid) (hr2 : Rt w1 (A22, n22, c22) ptok) (hd : n21 ≤ 50) (hd2 : n22 ≤ 50) (hA4 : Ad4 a4 ⟨h4, l4, z4, p4⟩ v4 p4) (hA6 : Ad6 a6 ⟨h6, l6, z6, p6⟩ v6 p6) (hv4 : v4.length ≤ 16) (hv6 : v6.length ≤ 16) (hg : Gl w1 a4 a6)
    {K : Act → World → Prop} {Q : Exit → Act → World → Prop} (hK : ∀ a' w' s', Mg a' P s' → Ms w1 w' s' (l ++ psec A21 v4 v6 pid ptok p4 p6) (m + 500) → K a' w') :
    Code.wp Tryd.prog mk14 (Exit.then K Q) a w := by
  have HM := Lib.hid hs
  have HK := Lib.hid hK
  have u := hs.cell hc
  have u13 := hs.cell hc13
  have u14 := hs.cell hc14
  have u15 := hs.cell hc15
  have u16 := hs.cell hc16
  have u17 := hs.cell hc17
  have u18 := hs.cell hc18
  have u19 := hs.cell hc19
  have u20 := hs.cell hc20
  have u22 := hs.cell hc22
  clear hs hK
  obtain ⟨f, rfl⟩ := lit283 hf.sz hf.df hf.t1 hf.t3
  clear hf
  have hn : Hid (pid.length = n21) := hr.2.1
  have hz : Hid (A21 = none → c21 = 0) := hr.2.2.2.2
  have HR : Hid (Rd w1 A21 pid) := hr.1
  have HT : Hid (Rt w1 (A22, n22, c22) ptok) := hr2
  have HA4 := Lib.hid hA4
  have HA6 := Lib.hid hA6
  have HG := Lib.hid hg
  have hp4 := ad4_pb hA4
  have hp6 := ad6_pb hA6
  have hbs13 : Bs [(13 : Int)] := fun y hy => by simp at hy; omega
  have q22 := run_neq_nil
  have hw1 : IntKind.i64.wrap (25 + (n21 : Int)) = 25 + (n21 : Int) := IntWalk.i64_in _ (by omega)
  have hw2 : IntKind.i64.wrap (25 + (n21 : Int) + 16) = 25 + (n21 : Int) + 16 := IntWalk.i64_in _ (by omega)
  have hw3 : IntKind.u64.wrap (25 + (n21 : Int) + 16) = 25 + (n21 : Int) + 16 := IntWalk.u64_in _ (by omega)
  have HC21 := Lib.hid hc
  have HC22 := Lib.hid hc22
  have HC13 := Lib.hid hc13
  have HC14 := Lib.hid hc14
  have HC15 := Lib.hid hc15
  have HC16 := Lib.hid hc16
  have HC17 := Lib.hid hc17
  have HC18 := Lib.hid hc18
  have HC19 := Lib.hid hc19
  have HC20 := Lib.hid hc20
  clear hr hr2 hA4 hA6 hg hc hc22 hc13 hc14 hc15 hc16 hc17 hc18 hc19 hc20
  cases A21 with
  | none =>
    conv => arg 2; whnf
    go_wp2_with fail
    refine HK.out _ _ _ ⟨rfl, rfl, rfl, rfl⟩ ?_
    rw [show psec none v4 v6 pid ptok p4 p6 = [] from rfl, List.append_nil]
    exact ⟨HM.out.bel, HM.out.own, Nat.le_trans HM.out.len (by omega)⟩
  | some ad =>
    have HRz := Lib.hid (Rd.new w [13] hbs13 5)
    conv => arg 2; whnf
    go_wp2_with (first | (at_builtin; refine wpList_app w1.heap.size _ rfl (.tmp 207) (.tmp 208) rfl _ _ rfl (HM.out.own.alloc _) (some ⟨w.heap.size, 0, none⟩) 1 1 [13] rfl rfl (by exact HRz.out) (by simp) (by have := HM.out.len; omega) (by have := HM.out.le; simp; omega) ?_; intro s2 w3 ho1 hg1 ha1 hb1 hn1; have HM := Lib.hid (Ms.ext HM.out ((Below.refl _ _).alloc HM.out.le _ |>.trans hb1) ho1 (d := [13]) (k := 1) (by simp)); clear ho1 hg1 ha1 hb1 hn1; have u13 := HM.out.cell HC13.out; have u14 := HM.out.cell HC14.out; have u15 := HM.out.cell HC15.out; have u16 := HM.out.cell HC16.out; have u17 := HM.out.cell HC17.out; have u18 := HM.out.cell HC18.out; have u19 := HM.out.cell HC19.out; have u20 := HM.out.cell HC20.out; have u21 := HM.out.cell HC21.out; have u22 := HM.out.cell HC22.out) | (go_at_call 47; refine (av w1.heap.size _ _ _ _ HM.out.own HM.out.le (by have := HM.out.len; omega) (by omega) (by omega)).mono ?_; rintro e w2 hE; obtain ⟨s', rfl, HM⟩ := HM.out.appv hE; clear hE; have u13 := HM.out.cell HC13.out; have u14 := HM.out.cell HC14.out; have u15 := HM.out.cell HC15.out; have u16 := HM.out.cell HC16.out; have u17 := HM.out.cell HC17.out; have u18 := HM.out.cell HC18.out; have u19 := HM.out.cell HC19.out; have u20 := HM.out.cell HC20.out; have u21 := HM.out.cell HC21.out; have u22 := HM.out.cell HC22.out) | (go_at_call_of 31 (Value.agg #[.int .u64 h4, .int .u64 l4, .pointer z4, .int .u16 p4]); refine (apa h4 l4 p4 z4 _).mono ?_; rintro e wa ⟨rfl, Ha⟩; have HM := Lib.hid (HM.out.below Ha.out); have u13 := HM.out.cell HC13.out; have u14 := HM.out.cell HC14.out; have u15 := HM.out.cell HC15.out; have u16 := HM.out.cell HC16.out; have u17 := HM.out.cell HC17.out; have u18 := HM.out.cell HC18.out; have u19 := HM.out.cell HC19.out; have u20 := HM.out.cell HC20.out; have u21 := HM.out.cell HC21.out; have u22 := HM.out.cell HC22.out) | (go_at_call_of 32 (Value.agg #[.int .u64 h4, .int .u64 l4, .pointer z4]); refine (asl4 a4 a6 h4 l4 p4 p4 z4 v4 HA4.out _ (HG.out.below HM.out.bel (Nat.le_refl _))).mono ?_; rintro e wb ⟨⟨A4, n4, c4⟩, rfl, Hb⟩; have HM := Lib.hid (HM.out.below Hb.out.2); have HR4 := Lib.hid Hb.out.1; clear Hb; have u13 := HM.out.cell HC13.out; have u14 := HM.out.cell HC14.out; have u15 := HM.out.cell HC15.out; have u16 := HM.out.cell HC16.out; have u17 := HM.out.cell HC17.out; have u18 := HM.out.cell HC18.out; have u19 := HM.out.cell HC19.out; have u20 := HM.out.cell HC20.out; have u21 := HM.out.cell HC21.out; have u22 := HM.out.cell HC22.out) | (at_builtin; refine wpList_app w1.heap.size _ rfl (.tmp 218) (.tmp 222) rfl _ _ rfl HM.out.own A4 n4 c4 v4 rfl (HR4.out.2.1) (HR4.out.1) (HR4.out.2.2.2.2) (by have := HM.out.len; have h1 : v4.length = n4 := HR4.out.2.1; omega) HM.out.le ?_; intro s2 w3 ho1 hg1 ha1 hb1 hn1; have HM := Lib.hid (Ms.ext HM.out hb1 ho1 (d := v4) (k := 50) (by omega)); clear ho1 hg1 ha1 hb1 hn1; have u13 := HM.out.cell HC13.out; have u14 := HM.out.cell HC14.out; have u15 := HM.out.cell HC15.out; have u16 := HM.out.cell HC16.out; have u17 := HM.out.cell HC17.out; have u18 := HM.out.cell HC18.out; have u19 := HM.out.cell HC19.out; have u20 := HM.out.cell HC20.out; have u21 := HM.out.cell HC21.out; have u22 := HM.out.cell HC22.out) | (go_at_call_of 33 (Value.agg #[.int .u64 h4, .int .u64 l4, .pointer z4, .int .u16 p4]); refine (app h4 l4 p4 z4 _).mono ?_; rintro e wa ⟨rfl, Ha⟩; have HM := Lib.hid (HM.out.below Ha.out); have u13 := HM.out.cell HC13.out; have u14 := HM.out.cell HC14.out; have u15 := HM.out.cell HC15.out; have u16 := HM.out.cell HC16.out; have u17 := HM.out.cell HC17.out; have u18 := HM.out.cell HC18.out; have u19 := HM.out.cell HC19.out; have u20 := HM.out.cell HC20.out; have u21 := HM.out.cell HC21.out; have u22 := HM.out.cell HC22.out) | (go_at_call 50; refine (bau w1.heap.size _ _ _ _ HM.out.own HM.out.le (by have := HM.out.len; omega) (by omega) (by omega)).mono ?_; rintro e wa hE; obtain ⟨s', rfl, HM⟩ := HM.out.appb hE; clear hE; have u13 := HM.out.cell HC13.out; have u14 := HM.out.cell HC14.out; have u15 := HM.out.cell HC15.out; have u16 := HM.out.cell HC16.out; have u17 := HM.out.cell HC17.out; have u18 := HM.out.cell HC18.out; have u19 := HM.out.cell HC19.out; have u20 := HM.out.cell HC20.out; have u21 := HM.out.cell HC21.out; have u22 := HM.out.cell HC22.out) | (go_at_call_of 31 (Value.agg #[.int .u64 h6, .int .u64 l6, .pointer z6, .int .u16 p6]); refine (apa h6 l6 p6 z6 _).mono ?_; rintro e wa ⟨rfl, Ha⟩; have HM := Lib.hid (HM.out.below Ha.out); have u13 := HM.out.cell HC13.out; have u14 := HM.out.cell HC14.out; have u15 := HM.out.cell HC15.out; have u16 := HM.out.cell HC16.out; have u17 := HM.out.cell HC17.out; have u18 := HM.out.cell HC18.out; have u19 := HM.out.cell HC19.out; have u20 := HM.out.cell HC20.out; have u21 := HM.out.cell HC21.out; have u22 := HM.out.cell HC22.out) | (go_at_call_of 32 (Value.agg #[.int .u64 h6, .int .u64 l6, .pointer z6]); refine (asl6 a4 a6 h6 l6 p6 p6 z6 v6 HA6.out _ (HG.out.below HM.out.bel (Nat.le_refl _))).mono ?_; rintro e wb ⟨⟨A6, n6, c6⟩, rfl, Hb⟩; have HM := Lib.hid (HM.out.below Hb.out.2); have HR6 := Lib.hid Hb.out.1; clear Hb; have u13 := HM.out.cell HC13.out; have u14 := HM.out.cell HC14.out; have u15 := HM.out.cell HC15.out; have u16 := HM.out.cell HC16.out; have u17 := HM.out.cell HC17.out; have u18 := HM.out.cell HC18.out; have u19 := HM.out.cell HC19.out; have u20 := HM.out.cell HC20.out; have u21 := HM.out.cell HC21.out; have u22 := HM.out.cell HC22.out) | (at_builtin; refine wpList_app w1.heap.size _ rfl (.tmp 229) (.tmp 233) rfl _ _ rfl HM.out.own A6 n6 c6 v6 rfl (HR6.out.2.1) (HR6.out.1) (HR6.out.2.2.2.2) (by have := HM.out.len; have h1 : v6.length = n6 := HR6.out.2.1; omega) HM.out.le ?_; intro s2 w3 ho1 hg1 ha1 hb1 hn1; have HM := Lib.hid (Ms.ext HM.out hb1 ho1 (d := v6) (k := 50) (by omega)); clear ho1 hg1 ha1 hb1 hn1; have u13 := HM.out.cell HC13.out; have u14 := HM.out.cell HC14.out; have u15 := HM.out.cell HC15.out; have u16 := HM.out.cell HC16.out; have u17 := HM.out.cell HC17.out; have u18 := HM.out.cell HC18.out; have u19 := HM.out.cell HC19.out; have u20 := HM.out.cell HC20.out; have u21 := HM.out.cell HC21.out; have u22 := HM.out.cell HC22.out) | (go_at_call_of 33 (Value.agg #[.int .u64 h6, .int .u64 l6, .pointer z6, .int .u16 p6]); refine (app h6 l6 p6 z6 _).mono ?_; rintro e wa ⟨rfl, Ha⟩; have HM := Lib.hid (HM.out.below Ha.out); have u13 := HM.out.cell HC13.out; have u14 := HM.out.cell HC14.out; have u15 := HM.out.cell HC15.out; have u16 := HM.out.cell HC16.out; have u17 := HM.out.cell HC17.out; have u18 := HM.out.cell HC18.out; have u19 := HM.out.cell HC19.out; have u20 := HM.out.cell HC20.out; have u21 := HM.out.cell HC21.out; have u22 := HM.out.cell HC22.out) | (go_at_call 51; refine (a8b w1.heap.size _ _ (some ad) n21 c21 pid _ HM.out.own HM.out.le (by have := HM.out.len; omega) (HR.out.below HM.out.bel) hn hz (Lib.hid (HM.out.sep HR.out)) (by omega)).mono ?_; rintro e wa hE; obtain ⟨s', rfl, HM⟩ := HM.out.app8 hE (by have := hn.out; omega); clear hE; have u13 := HM.out.cell HC13.out; have u14 := HM.out.cell HC14.out; have u15 := HM.out.cell HC15.out; have u16 := HM.out.cell HC16.out; have u17 := HM.out.cell HC17.out; have u18 := HM.out.cell HC18.out; have u19 := HM.out.cell HC19.out; have u20 := HM.out.cell HC20.out; have u21 := HM.out.cell HC21.out; have u22 := HM.out.cell HC22.out) | (at_builtin; refine wpList_app w1.heap.size _ rfl (.tmp 244) (.tmp 246) rfl _ _ rfl HM.out.own A22 n22 c22 ptok rfl (HT.out.2.1) ((HT.out.below HM.out.bel).1) (HT.out.2.2.2.2) (by have := HM.out.len; have h1 : ptok.length = n22 := HT.out.2.1; omega) HM.out.le ?_; intro s2 w3 ho1 hg1 ha1 hb1 hn1; have HM := Lib.hid (Ms.ext HM.out hb1 ho1 (d := ptok) (k := 50) (by have h1 : ptok.length = n22 := HT.out.2.1; omega)); clear ho1 hg1 ha1 hb1 hn1))
    refine HK.out _ _ _ ⟨rfl, rfl, rfl, rfl⟩ ?_
    have h := HM.out
    simp only [List.append_assoc] at h
    rw [show psec (some ad) v4 v6 pid ptok p4 p6 = [13] ++ (enc ((25 + pid.length + 16 : Nat) : Int) ++ (v4 ++ ([p4 / 256, p4 % 256] ++ (v6 ++ ([p6 / 256, p6 % 256] ++ ([((pid.length : Nat) : Int)] ++ (pid ++ ptok))))))) from rfl]
    have e1 : ((25 + pid.length + 16 : Nat) : Int) = 25 + (n21 : Int) + 16 := by have := hn.out; omega
    have e2 : ((pid.length : Nat) : Int) = (n21 : Int) := by have := hn.out; omega
    rw [e1, e2]
    exact ⟨h.bel, h.own, Nat.le_trans h.len (by omega)⟩
end Go.Proofs.YtdjdcpcomhjnjaaDoor

/- Contract of parseVersionNegotiation, and the walk of FnVersions. Conditions: none. -/
import Derived.Test.YtdogepkfgobcfaaLongLaw
import Derived.Test.YtdogepkfgobcfaaVers
namespace Go.Proofs.Ytdogepkfgobcfaa
open Go.RowKit
set_option linter.unusedVariables false

set_option maxHeartbeats 2000000 in
theorem pvn (b o n c : Nat) (l : List Int) (w : World) (hr : Rd w (some ⟨b, o, none⟩) l) (hn : Hid (l.length = n)) (hnc : n ≤ c) (hc2 : c ≤ 9223372036854775807) (h128 : 128 ≤ l.getD 0 0) (hyes : Hid (lend l ≤ n)) (x y m : Nat) (hx : Hid (lx l = x)) (hy : Hid (ly l = y)) (hm : Hid (n - lend l = 4 * m)) (hm2 : m ≤ 100) :
    Calls Try.prog 77 #[.slice (some ⟨b, o, none⟩) n c] w fun e w' => (∃ A1 c1 A2 c2 A3 c3, e = .returned (.tuple #[.slice A1 x c1, .slice A2 y c2, .slice A3 (4 * m) c3]) ∧ Rd w' A1 ((l.drop 6).take x) ∧ Rd w' A2 ((l.drop (7 + x)).take y) ∧ Rd w' A3 (l.drop (lend l))) ∧ Below w.heap.size w w' := by
  have HR := Lib.hid hr
  clear hr
  go_enter Try.func77, Try.ntmps77
  go_wp2_with fail
  refine (pg_yes b o n c l _ HR.out hn hnc hc2 h128 hyes.out).mono ?_
  rw [hx.out, hy.out, hm.out]
  rintro e w2 ⟨⟨A1, c1, A2, c2, A3, c3, rfl, k1, k2, k3, -, -⟩, hb2⟩
  have HK := Lib.hid (⟨k1, k2, k3⟩ : Rd w2 A1 _ ∧ Rd w2 A2 _ ∧ Rd w2 A3 _)
  clear k1 k2 k3
  go_wp2_with fail
  go_quiet (fail)
  go_wp2
  go_ret3
  exact ⟨⟨A1, c1, A2, c2, A3, c3, rfl, HK.out.1.alloc _, HK.out.2.1.alloc _, HK.out.2.2.alloc _⟩, below_drewN (hb2.alloc hb2.size _) _⟩

section
variable (d d' v : List Int)
theorem vp_length : ([192] ++ vpk d d' v).length = 7 + d.length + d'.length + 4 * v.length := by
  simp [vpk, vb_length]; omega
theorem vpk_length : (vpk d d' v).length = 6 + d.length + d'.length + 4 * v.length := by
  simp [vpk, vb_length]; omega
theorem vp_0 : ([192] ++ vpk d d' v).getD 0 0 = 192 := rfl
theorem vp_drop1 : ([192] ++ vpk d d' v).drop 1 = vpk d d' v := rfl
theorem vp_form : [192] ++ vpk d d' v = [192, 0, 0, 0, 0, (d.length : Int)] ++ (d ++ ([(d'.length : Int)] ++ (d' ++ vb v))) := by simp [vpk]
theorem vp_lx : lx ([192] ++ vpk d d' v) = d.length := by simp [lx, vpk]
theorem vp_ly : ly ([192] ++ vpk d d' v) = d'.length := by
  unfold ly
  rw [vp_lx, vp_form]
  have : ([192, 0, 0, 0, 0, (d.length : Int)] ++ (d ++ ([(d'.length : Int)] ++ (d' ++ vb v)))).getD (6 + d.length) 0 = (d'.length : Int) := by
    simp only [List.getD]
    rw [List.getElem?_append_right (by simp), List.getElem?_append_right (by simp)]
    simp
  rw [this]
  simp
theorem vp_lend : lend ([192] ++ vpk d d' v) = 7 + d.length + d'.length := by unfold lend; rw [vp_lx, vp_ly]
theorem vp_d : (([192] ++ vpk d d' v).drop 6).take d.length = d := by
  rw [vp_form]
  simp
theorem drop_add_append {α : Type} (a b : List α) (k : Nat) : (a ++ b).drop (a.length + k) = b.drop k := by
  rw [← List.drop_drop, List.drop_left]
theorem vp_s : (([192] ++ vpk d d' v).drop (7 + d.length)).take d'.length = d' := by
  rw [vp_form, show 7 + d.length = [192, 0, 0, 0, 0, (d.length : Int)].length + (d.length + 1) by simp; omega, drop_add_append, drop_add_append]
  simp
theorem vp_v : ([192] ++ vpk d d' v).drop (7 + d.length + d'.length) = vb v := by
  rw [vp_form, show 7 + d.length + d'.length = [192, 0, 0, 0, 0, (d.length : Int)].length + (d.length + ([(d'.length : Int)].length + (d'.length + 0))) by simp; omega, drop_add_append, drop_add_append, drop_add_append, drop_add_append]
  simp
theorem vpk_v : (vpk d d' v).drop (6 + d.length + d'.length) = vb v := by
  rw [← vp_drop1, List.drop_drop, ← vp_v d d' v]
  congr 1
  omega
theorem vp_type : ptype ([192] ++ vpk d d' v) = 6 := by
  rw [vp_form]
  simp [ptype]
end

set_option maxHeartbeats 1000000 in
theorem iversions (g n c : Nat) (l : List Int) (w : World) (hr : Rd w (some ⟨g, 0, none⟩) l) (hn : Hid (l.length = n)) (hb : n ≤ 140737488355328) (h128 : 128 ≤ l.getD 0 0) (hyes : Hid (lend l ≤ n)) (x y m : Nat) (hx : Hid (lx l = x)) (hy : Hid (ly l = y)) (hm : Hid (n - lend l = 4 * m)) (hm2 : m ≤ 100) :
    Calls Try.prog 24 #[.slice (some ⟨g, 0, none⟩) n c] w fun e w' => (∃ A1 c1 A2 c2 A3 c3, e = .returned (.tuple #[.slice A1 x c1, .slice A2 y c2, .slice A3 (4 * m) c3]) ∧ Rd w' A1 ((l.drop 6).take x) ∧ Rd w' A2 ((l.drop (7 + x)).take y) ∧ Rd w' A3 (l.drop (lend l))) ∧ Below w.heap.size w w' := by
  have HR := Lib.hid hr
  clear hr
  have hz : Calls Try.prog 55 #[.slice (some ⟨g, 0, none⟩) n c] w fun e w' => (∃ A1 c1 A2 c2 A3 c3, e = .returned (.tuple #[.slice A1 x c1, .slice A2 y c2, .slice A3 (4 * m) c3]) ∧ Rd w' A1 ((l.drop 6).take x) ∧ Rd w' A2 ((l.drop (7 + x)).take y) ∧ Rd w' A3 (l.drop (lend l))) ∧ Below w.heap.size w w' := by
    go_enter Try.func55, Try.ntmps55
    go_wp2_with fail
    refine (clone_some _ n c l _ HR.out hn (by omega)).mono ?_
    rintro e w1 ⟨⟨g1, cap, rfl, ho1, h11, h12⟩, hb1⟩
    have hr1 := Lib.hid (Rd.of_own ho1)
    clear ho1
    go_wp2_with fail
    refine (pvn g1 0 n cap l _ hr1.out hn h11 h12 h128 hyes x y m hx hy hm hm2).mono ?_
    rintro e w2 ⟨⟨A1, c1, A2, c2, A3, c3, rfl, hk⟩, hb2⟩
    have HK := Lib.hid hk
    clear hk
    go_wp2
    go_ret3
    exact ⟨⟨A1, c1, A2, c2, A3, c3, rfl, HK.out⟩, hb1.trans (hb2.mono hb1.size)⟩
  have HZ := Lib.hid hz
  clear hz
  go_enter Try.func24, Try.ntmps24
  go_wp2_with fail
  refine HZ.out.mono ?_
  rintro e w2 ⟨⟨A1, c1, A2, c2, A3, c3, rfl, hk⟩, hb2⟩
  have HK := Lib.hid hk
  clear hk
  go_wp2
  go_ret3
  exact ⟨⟨A1, c1, A2, c2, A3, c3, rfl, HK.out⟩, hb2⟩

set_option maxHeartbeats 1000000 in
theorem lvn_big (A : Option Addr) (n c : Nat) (A' : Option Addr) (n' c' : Nat) (V : Option Addr) (m cv : Nat) (w : World) (h1 : n ≤ 9223372036854775807) (h2 : n' ≤ 9223372036854775807) (h3 : m ≤ 9223372036854775807) (h : 20 < n ∨ 20 < n' ∨ 100 < m) :
    Calls Try.prog 6 #[.slice A n c, .slice A' n' c', .slice V m cv] w fun e w' => e = .returned (.bool true) ∧ Below w.heap.size w w' := by
  by_cases a : 20 < n
  · by_cases b : 2147483647 < n
    · go_enter Try.func6, Try.ntmps6
      go_wp2
      go_ret
      exact ⟨rfl, Below.refl _ _⟩
    · clear h
      go_enter Try.func6, Try.ntmps6
      go_wp2
      all_goals (go_ret; exact ⟨rfl, Below.refl _ _⟩)
  by_cases a' : 20 < n'
  · clear h
    go_enter Try.func6, Try.ntmps6
    go_wp2
    all_goals (go_ret; exact ⟨rfl, Below.refl _ _⟩)
  · have a2 : 100 < m := by omega
    clear h
    go_enter Try.func6, Try.ntmps6
    go_wp2
    all_goals (go_ret; exact ⟨rfl, Below.refl _ _⟩)

theorem made_form {w w' : World} {L : List Int} {e : Ending} {N : Nat} (h : MadeEnd w L e w') (hN : L.length = N) (h0 : 1 ≤ N) : (∃ g cap, e = .returned (.slice (some ⟨g, 0, none⟩) N cap) ∧ Rd w' (some ⟨g, 0, none⟩) L ∧ N ≤ cap ∧ cap ≤ 9223372036854775807) ∧ Below w.heap.size w w' := by
  obtain ⟨s, rfl, ho, hb⟩ := h
  rcases ho.form with ⟨_, h⟩ | ⟨g, cap, rfl, _, _, h1, h2⟩
  · subst h; simp at hN; omega
  · unfold maxLen at h2
    subst hN
    exact ⟨⟨g, cap, rfl, Rd.of_own ho, h1, by omega⟩, hb⟩

set_option maxHeartbeats 4000000 in
theorem lvn (A : Option Addr) (n c : Nat) (d : List Int) (A' : Option Addr) (n' c' : Nat) (d' : List Int) (V : Option Addr) (m cv : Nat) (v : List Int) (N M : Nat) (w : World) (hr : Rd w A d) (hn : Hid (d.length = n)) (hz : Hid (A = none → c = 0)) (hr' : Rd w A' d') (hn' : Hid (d'.length = n')) (hz' : Hid (A' = none → c' = 0)) (hv : Rd32 w V v) (hm : Hid (v.length = m)) (h20 : n ≤ 20) (h20' : n' ≤ 20) (h100 : m ≤ 100)
    (hN : Hid (N = 7 + n + n' + 4 * m)) (hM : Hid (M = 6 + n + n' + 4 * m)) (hN1 : 7 ≤ N) (hN2 : N ≤ 1000) (hM1 : 4 * m ≤ M) (hM2 : M ≤ 1000) :
    Calls Try.prog 6 #[.slice A n c, .slice A' n' c', .slice V m cv] w fun e w' => e = .returned (.bool true) ∧ Below w.heap.size w w' := by
  have HR := Lib.hid hr
  have HR' := Lib.hid hr'
  have HV := Lib.hid hv
  have hLN : Hid (([192] ++ vpk d d' v).length = N) := by show _ = _; rw [vp_length, hN.out, hn.out, hn'.out, hm.out]
  have hKM : Hid ((vpk d d' v).length = M) := by show _ = _; rw [vpk_length, hM.out, hn.out, hn'.out, hm.out]
  have hKN : Hid ((vpk d d' v).length = N - 1) := by show _ = _; rw [hKM.out, hM.out, hN.out]; omega
  obtain ⟨L, hL⟩ : ∃ L, L = [192] ++ vpk d d' v := ⟨_, rfl⟩
  obtain ⟨K, hK⟩ : ∃ K, K = vpk d d' v := ⟨_, rfl⟩
  rw [← hL] at hLN
  rw [← hK] at hKM hKN
  have avn' := fun w0 (r : Rd w0 A d) (r' : Rd w0 A' d') (rv : Rd32 w0 V v) => (avn A n c d A' n' c' d' V m cv v w0 r hn hz r' hn' hz' rv hm h20 h20' h100).mono fun e w' h => made_form (N := N) (L := L) (by rw [hL]; exact h) hLN.out (by omega)
  have spv' := fun w0 (r : Rd w0 A d) (r' : Rd w0 A' d') (rv : Rd32 w0 V v) (h1 : 1 ≤ M) => (spv A n c d A' n' c' d' V m cv v w0 r hn hz r' hn' hz' rv hm h20 h20' h100).mono fun e w' h => made_form (N := M) (L := K) (by rw [hK]; exact h) hKM.out h1
  have AV := Lib.hid avn'
  have SP := Lib.hid spv'
  have f0 : Hid (L.getD 0 0 = 192) := by show _ = _; rw [hL]; rfl
  have f1 : Hid (L.drop 1 = K) := by show _ = _; rw [hL, hK]; rfl
  have fx : Hid (lx L = n) := by show _ = _; rw [hL, vp_lx, hn.out]
  have fy : Hid (ly L = n') := by show _ = _; rw [hL, vp_ly, hn'.out]
  have fe : Hid (lend L = 7 + n + n') := by show _ = _; rw [hL, vp_lend, hn.out, hn'.out]
  have fd : Hid ((L.drop 6).take n = d) := by show _ = _; rw [hL, ← hn.out, vp_d]
  have fs : Hid ((L.drop (7 + n)).take n' = d') := by show _ = _; rw [hL, ← hn.out, ← hn'.out, vp_s]
  have fv : Hid (L.drop (lend L) = vb v) := by show _ = _; rw [fe.out, hL, ← hn.out, ← hn'.out, vp_v]
  have fk : Hid (K.drop (M - 4 * m) = vb v) := by show _ = _; rw [hM.out, hK, ← hn.out, ← hn'.out, show 6 + d.length + d'.length + 4 * m - 4 * m = 6 + d.length + d'.length by omega, vpk_v]
  have ft : Hid (ptype L = 6) := by show _ = _; rw [hL, vp_type]
  have fl : Hid ((vb v).length = 4 * m) := by show _ = _; rw [vb_length, hm.out]
  have hcm : 6 ≤ M := by have := hM.out; omega
  clear hr hr' hv avn' spv' hL hK
  go_enter Try.func6, Try.ntmps6
  go_wp2_with (first | (go_at_call 21; go_in) | (go_at_call 53; go_in))
  refine (AV.out w HR.out HR'.out HV.out).mono ?_
  rintro e w1 ⟨⟨g1, cap1, rfl, r1, hc1, hd1⟩, hb1⟩
  have HB1 := Lib.hid hb1
  have R1 := Lib.hid r1
  clear r1 hb1
  go_wp2_with fail
  refine (SP.out w1 (HR.out.below HB1.out) (HR'.out.below HB1.out) (HV.out.below HB1.out) (by omega)).mono ?_
  rintro e w2 ⟨⟨g2, cap2, rfl, r2, hc2, hd2⟩, hb2⟩
  have HB2 := Lib.hid (HB1.out.trans (hb2.mono HB1.out.size))
  have R1' := Lib.hid (R1.out.below hb2)
  have R2 := Lib.hid r2
  have c0 : w2.cell? ⟨g1, 0, none⟩ = some (.int .u8 192) := by
    obtain ⟨b', o', e', hc⟩ := R1'.out.2 (by rw [hLN.out]; omega)
    obtain ⟨rfl, rfl⟩ : g1 = b' ∧ 0 = o' := by simpa using e'
    have := hc 0 (by rw [hLN.out]; omega)
    rw [f0.out] at this
    exact this
  have rc : Rd w2 (some ⟨g1, 1, none⟩) K := by
    have := R1'.out.cut_at (k := 1) (cap := cap1) (by rw [hLN.out]; exact hc1)
    rw [if_neg (by omega), f1.out, Nat.zero_add] at this
    exact this
  have RC := Lib.hid rc
  have hcap1 : ¬ cap1 = 1 := by omega
  clear r2 hb2 R1 HB1 AV SP rc
  go_wp2_with (go_at_call 15; go_in)
  refine (beq _ _ _ _ _ _ K _ RC.out R2.out hKN hKM).mono ?_
  rintro e w3 ⟨rfl, rfl⟩
  go_wp2_with (first | (go_at_call 23; go_in) | (go_at_call 54; go_in))
  refine (gpt _ _ _ L _ R1'.out hLN (by omega)).mono ?_
  rw [ft.out]
  rintro e w4 ⟨rfl, q, rfl⟩
  go_wp2_with fail
  refine (iversions g1 N cap1 L _ (R1'.out.drewN q) hLN (by omega) (by rw [f0.out]; decide) (by show _ ≤ _; rw [fe.out, hN.out]; omega) n n' m fx fy (by show _ = _; rw [fe.out, hN.out]; omega) h100).mono ?_
  rw [fd.out, fs.out, fv.out]
  rintro e w5 ⟨⟨A1, c1, A2, c2, A3, c3, rfl, k1, k2, k3⟩, hb5⟩
  have HB5 := Lib.hid ((below_drewN HB2.out q).trans (hb5.mono HB2.out.size))
  have R5 := Lib.hid ((R2.out.drewN q).below hb5)
  have D5 := Lib.hid (HR.out.below HB5.out)
  have S5 := Lib.hid (HR'.out.below HB5.out)
  have K5 := Lib.hid (⟨k1, k2, k3⟩ : Rd w5 A1 d ∧ Rd w5 A2 d' ∧ Rd w5 A3 (vb v))
  clear k1 k2 k3 hb5 R1' RC R2
  have rk := R5.out.cut_at (k := M - 4 * m) (cap := cap2) (by rw [hKM.out]; exact hc2)
  rw [fk.out, Nat.zero_add] at rk
  have hl4 : Hid ((vb v).length = M - (M - 4 * m)) := by show _ = _; rw [fl.out]; omega
  have RK := Lib.hid rk
  clear rk
  go_wp2_with fail
  refine (beq _ _ _ _ _ _ d _ K5.out.1 D5.out hn hn).mono ?_
  rintro e w6 ⟨rfl, rfl⟩
  go_wp2_with fail
  refine (beq _ _ _ _ _ _ d' _ K5.out.2.1 S5.out hn' hn').mono ?_
  rintro e w6 ⟨rfl, rfl⟩
  go_wp2_with fail
  all_goals
    refine (beq _ _ _ _ _ _ (vb v) _ K5.out.2.2 (by have h := RK.out; first | exact h | (rwa [if_pos rfl] at h) | (rwa [if_pos (by assumption)] at h) | (rwa [if_neg (by assumption)] at h)) fl hl4).mono ?_
    rintro e w6 ⟨rfl, rfl⟩
    go_wp2
    go_ret
    exact ⟨rfl, HB5.out⟩

/-- What the walk is told of a slice of numbers of 32 bits that came in. -/
structure U32Arg (w : World) (A : Option Addr) (l : List Int) (c : Nat) : Prop where
  rd : Rd32 w A l
  le : l.length ≤ c
  max : c ≤ maxLen

theorem fnVersions_walk (A : Option Addr) (d : List Int) (c : Nat) (A' : Option Addr) (d' : List Int) (c' : Nat) (V : Option Addr) (v : List Int) (cv : Nat) (w : World) (h : ByteArg w A d c) (h' : ByteArg w A' d' c') (hv : U32Arg w V v cv) :
    Calls Try.prog 6 #[.slice A d.length c, .slice A' d'.length c', .slice V v.length cv] w fun e w' => e = .returned (.bool true) ∧ Below w.heap.size w w' := by
  have a1 := h.le
  have a2 := h.max
  have b1 := h'.le
  have b2 := h'.max
  have e1 := hv.le
  have e2 := hv.max
  unfold maxLen at a2 b2 e2
  by_cases hb : 20 < d.length ∨ 20 < d'.length ∨ 100 < v.length
  · exact lvn_big A _ c A' _ c' V _ cv w (by omega) (by omega) (by omega) hb
  · exact lvn A _ c d A' _ c' d' V _ cv v _ _ w h.rd rfl (fun e => (h.nil e).2) h'.rd rfl (fun e => (h'.nil e).2) hv.rd rfl (by omega) (by omega) (by omega) rfl rfl (by omega) (by omega) (by omega) (by omega)

end Go.Proofs.Ytdogepkfgobcfaa

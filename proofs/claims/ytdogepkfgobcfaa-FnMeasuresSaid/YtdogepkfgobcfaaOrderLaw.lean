/- The walk of FnOrderOfAddsDoesNotMatter. Conditions: none. -/
import Derived.Test.YtdogepkfgobcfaaFrameOps
import Derived.Test.YtdogepkfgobcfaaRangeLops
import Derived.Test.YtdogepkfgobcfaaArr
namespace Go.Proofs.Ytdogepkfgobcfaa
open Go.RowKit
set_option linter.unusedVariables false

/-- An op that adds. -/
def addO (o : Opr) : Opr := ⟨false, o.st, o.en⟩
theorem has_adds : ∀ (l : List Opr) (b : Bool) (x : Int), (∀ o ∈ l, o.sub = false) → (hasF b l x = true ↔ b = true ∨ ∃ o ∈ l, o.st ≤ x ∧ x < o.en) := by
  intro l
  induction l with
  | nil => intro b x _; simp [hasF]
  | cons o l ih =>
    intro b x h
    unfold hasF
    rw [ih _ _ fun q hq => h q (List.mem_cons_of_mem _ hq), h o (List.mem_cons_self ..)]
    constructor
    · rintro (h1 | ⟨q, hq, h1⟩)
      · split at h1
        · rename_i h2
          exact .inr ⟨o, List.mem_cons_self .., h2⟩
        · exact .inl h1
      · exact .inr ⟨q, List.mem_cons_of_mem _ hq, h1⟩
    · rintro (h1 | ⟨q, hq, h1⟩)
      · left
        split
        · rfl
        · exact h1
      · rcases List.mem_cons.1 hq with rfl | hq
        · left
          rw [if_pos h1]
          rfl
        · exact .inr ⟨q, hq, h1⟩
/-- Ranges that are added in another order make the same set. -/
theorem setP_rev (l : List Opr) (h : OpsOk l) (hs : ∀ o ∈ l, o.sub = false) : setP l.reverse = setP l := by
  have h1 := setP_spec l h
  have h2 := setP_spec l.reverse (fun o ho => h o (List.mem_reverse.1 ho))
  refine canon_unique _ _ none none h2.1 h1.1 fun x => ?_
  rw [h1.2 x, h2.2 x]
  unfold has
  rw [has_adds _ _ _ hs, has_adds _ _ _ fun o ho => hs o (List.mem_reverse.1 ho)]
  simp

theorem plain_add (o : Opr) : plainO (addO (plainO o)) = addO (plainO o) := by
  unfold plainO addO
  simp only
  split <;> simp
theorem adds_plain (l : List Opr) : ((l.map plainO).map addO).map plainO = (l.map plainO).map addO := by
  simp only [List.map_map]
  apply List.map_congr_left
  intro o _
  exact plain_add o
theorem bd_adds {l : List Opr} (h : OpsBd l) : OpsBd ((l.map plainO).map addO) := by
  intro o ho
  simp only [List.map_map, List.mem_map] at ho
  obtain ⟨q, hq, rfl⟩ := ho
  have := h q hq
  refine ⟨this.1, ?_⟩
  show -9223372036854775808 ≤ (if q.en < q.st then q.st else q.en) ∧ (if q.en < q.st then q.st else q.en) ≤ 9223372036854775807
  split <;> omega
theorem one_op (w : World) : RdE EOp (w.alloc (.cells #[.bool false, .int .i64 1, .int .i64 2] 41)) (some ⟨w.heap.size, 0, none⟩) [⟨false, 1, 2⟩] := by
  intro _
  refine ⟨w.heap.size, 0, rfl, fun i j v hi hj hv => ?_⟩
  have hi0 : i = 0 := by simp at hi; omega
  subst hi0
  have := new_cells (E := EOp) w [⟨false, 1, 2⟩] 41 (0 * 3 + j) v (by rw [show 0 * 3 + j = 0 * EOp.k + j from rfl, flat_get EOp _ 0 j hi hj]; exact hv)
  rwa [Addr.add_lit] at this

set_option maxRecDepth 100000 in
set_option maxHeartbeats 1000000 in
theorem ord_big (A : Option Addr) (n c : Nat) (w : World) (hn : 2147483647 < n) (hn2 : n ≤ 9223372036854775807) :
    Calls Try.prog 7 #[.slice A n c] w fun e w' => e = .returned (.bool true) ∧ Below w.heap.size w w' := by
  go_enter Try.func7, Try.ntmps7
  go_wp2
  go_ret
  exact ⟨rfl, Below.refl _ _⟩

set_option maxRecDepth 100000 in
set_option maxHeartbeats 2000000 in
theorem ord_in (A : Option Addr) (n c : Nat) (l : List Opr) (w : World) (hr : RdE EOp w A l) (hn : Hid (l.length = n)) (hn2 : n ≤ 2147483647) (hbd : Hid (OpsBd l)) :
    Calls Try.prog 7 #[.slice A n c] w fun e w' => e = .returned (.bool true) ∧ Below w.heap.size w w' := by
  have HR := Lib.hid hr
  clear hr
  go_enter Try.func7, Try.ntmps7
  go_wp2_with fail
  refine (pln A n c l w HR.out hn hn2).mono ?_
  rintro e w1 ⟨s1, rfl, ho1, hb1⟩
  obtain ⟨P, hP⟩ : ∃ P, Hid (P = l.map plainO) := ⟨_, rfl⟩
  have hPn : Hid (P.length = n) := by show _ = _; rw [hP.out, List.length_map]; exact hn.out
  obtain ⟨A1, c1, hs, hr1, -, -⟩ := ho1.shape
  rw [← hP.out, hPn.out] at hs
  rw [← hP.out] at hr1
  subst hs
  have HR1 := Lib.hid hr1
  have HB1 := Lib.hid hb1
  clear hr1 hb1 ho1
  go_wp2_with fail
  go_loopw [3, 19] (fun s i wr => ∃ k : Nat, k ≤ n ∧ i = .int .i64 k ∧ Hid (OwnE EOp w1.heap.size wr s ((P.take k).map addO)) ∧ Hid (Below w1.heap.size w1 wr)) (fun _ i _ => n - (intOf i).toNat)
  case atStart => exact ⟨0, by omega, rfl, OwnE.nil_ _ _, Below.refl _ _⟩
  case round =>
    obtain ⟨k, hk, rfl, HO, HB⟩ := hrel
    by_cases hlt : k < n
    · have hlt' : k < P.length := by rw [hPn.out]; exact hlt
      obtain ⟨b, o, rfl, hc⟩ := (HR1.out.below HB.out) (by omega)
      obtain ⟨c0, c1', c2⟩ := op_cells rfl rfl hc k hlt'
      have hm := Lib.hid (map_snoc addO P k hlt')
      obtain ⟨q, hq⟩ : ∃ q, q = P[k] := ⟨_, rfl⟩
      rw [← hq] at c0 c1' c2 hm
      obtain ⟨x, y, z⟩ := q
      have hlen : Hid (((P.take k).map addO).length + 1 ≤ 1000000000000) := by show _ ≤ _; simp; omega
      have hadd : Hid (addO ⟨x, y, z⟩ = ⟨false, y, z⟩) := rfl
      rw [hadd.out] at hm
      have HN := Lib.hid (new_cells2 EOp wr (.cells #[.bool false, .int .i64 y, .int .i64 z] 41) [⟨false, y, z⟩] 41)
      clear hc hq hlt'
      go_wp2_with (at_builtin; refine wpList_appE (E := EOp) w1.heap.size _ rfl (.tmp 24) (.tmp 26) rfl _ ((P.take k).map addO) rfl ((HO.out.alloc _).alloc _) ⟨wr.heap.size + 1, 0, none⟩ 1 1 [⟨false, y, z⟩] rfl rfl (by exact HN.out) hlen.out (by have := HB.out.size; simp; omega) ?_; intro v1 w2 ho1 hg1 ha1 hb1 hn1; have HO1 := Lib.hid ho1; have HB2 := Lib.hid (((HB.out.alloc HB.out.size _).alloc (by have := HB.out.size; simp; omega) _).trans hb1); clear ho1 hg1 ha1 hb1 hn1)
      go_roundw
      case rel => exact ⟨k + 1, by omega, by go_num, by rw [hm.out]; exact HO1, HB2⟩
      case measure => simp [intOf]; omega
    · obtain rfl : k = n := by omega
      have he : Hid (P.take k = P) := List.take_of_length_le (by rw [hPn.out]; exact Nat.le_refl _)
      rw [he.out] at HO
      obtain ⟨Q, hQ⟩ : ∃ Q, Hid (Q = P.map addO) := ⟨_, rfl⟩
      have hQn : Hid (Q.length = k) := by show _ = _; rw [hQ.out, List.length_map]; exact hPn.out
      rw [← hQ.out] at HO
      obtain ⟨A2, c2, hs, hr2, -, -⟩ := HO.out.shape
      rw [hQn.out] at hs
      subst hs
      obtain ⟨wa, hwa⟩ : ∃ wa, wa = wr := ⟨_, rfl⟩
      rw [← hwa] at hr2 HB ⊢
      have HR2 := Lib.hid hr2
      have HB3 := Lib.hid (HB1.out.trans (HB.out.mono HB1.out.size))
      clear hr2 HO hwa HB HR1 HB1
      go_wp2_with fail
      go_loopw [4, 31] (fun s i wr => ∃ j : Nat, j ≤ k ∧ i = .int .i64 j ∧ Hid (OwnE EOp wa.heap.size wr s (Q.reverse.take j)) ∧ Hid (Below wa.heap.size wa wr)) (fun _ i _ => k - (intOf i).toNat)
      case atStart => exact ⟨0, by omega, rfl, OwnE.nil_ _ _, Below.refl _ _⟩
      case round =>
        obtain ⟨j, hj, rfl, HO, HB⟩ := hrel
        by_cases hlt : j < k
        · have hlt' : j < Q.reverse.length := by rw [List.length_reverse, hQn.out]; exact hlt
          have hlt2 : k - 1 - j < Q.length := by rw [hQn.out]; omega
          obtain ⟨b, o, rfl, hc⟩ := (HR2.out.below HB.out) (by omega)
          obtain ⟨c0, c1', c2'⟩ := op_cells rfl rfl hc (k - 1 - j) hlt2
          have hm := Lib.hid (take_snoc hlt')
          have hrev : Q.reverse[j] = Q[k - 1 - j] := by rw [List.getElem_reverse]; congr 1; rw [hQn.out]
          rw [hrev] at hm
          obtain ⟨q, hq⟩ : ∃ q, q = Q[k - 1 - j] := ⟨_, rfl⟩
          rw [← hq] at c0 c1' c2' hm
          obtain ⟨x, y, z⟩ := q
          have hlen : Hid ((Q.reverse.take j).length + 1 ≤ 1000000000000) := by show _ ≤ _; simp; omega
          have HN := Lib.hid (new_cells (E := EOp) wr [⟨x, y, z⟩] 41)
          have e1 : (k : Int) - 1 - (j : Int) = ((k - 1 - j : Nat) : Int) := by omega
          clear hc hq hlt' hrev hlt2
          go_wp2_with (at_builtin; refine wpList_appE (E := EOp) wa.heap.size _ rfl (.tmp 34) (.tmp 43) rfl _ (Q.reverse.take j) rfl (HO.out.alloc _) ⟨wr.heap.size, 0, none⟩ 1 1 [⟨x, y, z⟩] rfl rfl (by exact HN.out) hlen.out (by have := HB.out.size; simp; omega) ?_; intro v1 w2 ho1 hg1 ha1 hb1 hn1; have HO1 := Lib.hid ho1; have HB2 := Lib.hid ((HB.out.alloc HB.out.size _).trans hb1); clear ho1 hg1 ha1 hb1 hn1)
          go_roundw
          case rel => exact ⟨j + 1, by omega, by go_num, by rw [hm.out]; exact HO1, HB2⟩
          case measure => simp [intOf]; omega
        · obtain rfl : j = k := by omega
          have he : Hid (Q.reverse.take j = Q.reverse) := List.take_of_length_le (by rw [List.length_reverse, hQn.out]; exact Nat.le_refl _)
          rw [he.out] at HO
          obtain ⟨A3, c3, hs, hr3, -, -⟩ := HO.out.shape
          rw [List.length_reverse, hQn.out] at hs
          subst hs
          obtain ⟨wb, hwb⟩ : ∃ wb, wb = wr := ⟨_, rfl⟩
          rw [← hwb] at hr3 HB ⊢
          have HR3 := Lib.hid hr3
          have HR2' := Lib.hid (HR2.out.below HB.out)
          have HB4 := Lib.hid (HB3.out.trans (HB.out.mono HB3.out.size))
          have hbdQ : Hid (OpsBd Q) := by show OpsBd Q; rw [hQ.out, hP.out]; exact bd_adds hbd.out
          have hplQ : Hid (Q.map plainO = Q) := by show _ = _; rw [hQ.out, hP.out]; exact adds_plain l
          have hsub : Hid (∀ o ∈ Q, o.sub = false) := by
            intro o ho
            rw [hQ.out] at ho
            obtain ⟨q, _, rfl⟩ := List.mem_map.1 ho
            rfl
          clear hr3 HO hwb HB HR2 HB3
          go_wp2_with fail
          refine (lops A2 j c2 Q wb HR2'.out hQn hn2 hbdQ).mono ?_
          rintro e w3 ⟨s3, ok, rfl, hok, hb3⟩
          have HB5 := Lib.hid (HB4.out.trans (hb3.mono HB4.out.size))
          have HX2 := Lib.hid (HR2'.out.below hb3)
          have HX3 := Lib.hid (HR3.out.below hb3)
          have HOK := Lib.hid hok
          clear hok hb3 HR2' HR3 HB4
          cases ok
          · go_wp2_with fail
            go_ret
            exact ⟨rfl, HB5.out⟩
          obtain ⟨h200, hopk, -, -⟩ := HOK.out rfl
          rw [hplQ.out] at hopk
          rw [hQn.out] at h200
          have HOpk := Lib.hid hopk
          have hrn : Hid (Q.reverse.length = j) := by show _ = _; rw [List.length_reverse]; exact hQn.out
          have hrk : Hid (OpsOk Q.reverse) := fun o ho => HOpk.out o (List.mem_reverse.1 ho)
          clear hopk HOK
          go_wp2_with fail
          refine (irng A2 j c2 Q w3 HX2.out hQn h200 HOpk).mono ?_
          rintro e w4 ⟨s4, rfl, ho4, hb4⟩
          have HX4 := Lib.hid (HX3.out.below hb4)
          have HB6 := Lib.hid (HB5.out.trans (hb4.mono HB5.out.size))
          have HO4 := Lib.hid ho4
          clear ho4 hb4 HX3 HX2 HB5
          go_wp2_with fail
          refine (irng A3 j c3 Q.reverse w4 HX4.out hrn h200 hrk).mono ?_
          rintro e w5 ⟨s5, rfl, ho5, hb5⟩
          rw [setP_rev Q HOpk.out hsub.out] at ho5
          have HB7 := Lib.hid (HB6.out.trans (hb5.mono HB6.out.size))
          obtain ⟨L, hL⟩ : ∃ L, Hid (L = setP Q) := ⟨_, rfl⟩
          obtain ⟨m, hm⟩ : ∃ m, Hid (L.length = m) := ⟨_, rfl⟩
          rw [← hL.out] at ho5
          obtain ⟨A4, c4, hs4, hr4, -, -⟩ := HO4.out.shape
          obtain ⟨A5, c5, hs5, hr5, -, -⟩ := ho5.shape
          rw [← hL.out] at hs4 hr4
          rw [hm.out] at hs4 hs5
          have HR4 := Lib.hid (hr4.below hb5)
          have HR5 := Lib.hid hr5
          have hm200 : m ≤ 200 := by
            have := setP_len Q Q.length (Nat.le_refl _)
            rw [List.take_of_length_le (Nat.le_refl _), ← hL.out, hm.out, hQn.out] at this
            omega
          subst hs4 hs5
          clear ho5 hb5 hr4 hr5 HO4 HX4 HB6
          go_wp2_with fail
          go_loopw [64] (fun i wr => ∃ q : Nat, q ≤ m ∧ i = .int .i64 q ∧ Hid (RdE EPr wr A4 L) ∧ Hid (RdE EPr wr A5 L) ∧ Hid (Below w.heap.size w wr)) (fun i _ => m - (intOf i).toNat)
          case atStart => exact ⟨0, by omega, rfl, HR4, HR5, HB7⟩
          case round =>
            clear HR4 HR5 HB7
            obtain ⟨q, hq, rfl, HR4, HR5, HB7⟩ := hrel
            by_cases hlt : q < m
            · have hlt' : q < L.length := by rw [hm.out]; exact hlt
              obtain ⟨b4, o4, rfl, hc4⟩ := HR4.out (by omega)
              obtain ⟨b5, o5, rfl, hc5⟩ := HR5.out (by omega)
              obtain ⟨d0, d1⟩ := rg_cells rfl rfl hc4 q hlt'
              obtain ⟨g0, g1⟩ := rg_cells rfl rfl hc5 q hlt'
              obtain ⟨x0, hx0⟩ : ∃ x, x = L[q].1 := ⟨_, rfl⟩
              obtain ⟨x1, hx1⟩ : ∃ x, x = L[q].2 := ⟨_, rfl⟩
              rw [← hx0] at d0 g0
              rw [← hx1] at d1 g1
              clear hc4 hc5 hx0 hx1 hlt'
              have hns := run_neq_same x0 x1
              go_wp2_with fail
              go_quiet (fail)
              clear hns
              go_wp2_with fail
              go_roundw
              case rel => exact ⟨q + 1, by omega, by go_num, HR4.out.drewN nq, HR5.out.drewN nq, below_drewN HB7.out nq⟩
              case measure => simp [intOf]; omega
            · obtain rfl : q = m := by omega
              have hone : Hid ((setP [⟨false, 1, 2⟩]).length = 1) := rfl
              go_wp2_with fail
              refine (irng _ 1 _ [⟨false, 1, 2⟩] _ (one_op wr) rfl (by omega) (by intro o ho; simp at ho; subst ho; exact ⟨by decide, by decide⟩)).mono ?_
              rintro e w6 ⟨s6, rfl, ho6, hb6⟩
              obtain ⟨A6, c6, hs6, -, -, -⟩ := ho6.shape
              rw [hone.out] at hs6
              subst hs6
              have HB8 := Lib.hid (HB7.out.trans ((((Below.refl _ _).alloc (Nat.le_refl _) _).trans (hb6.mono (by simp))).mono HB7.out.size))
              clear hb6 ho6
              go_wp2
              go_ret
              exact ⟨rfl, HB8.out⟩

theorem fnOrderOfAddsDoesNotMatter_walk (A : Option Addr) (l : List Opr) (c : Nat) (w : World) (h : OpsArg w A l c) :
    Calls Try.prog 7 #[.slice A l.length c] w fun e w' => e = .returned (.bool true) ∧ Below w.heap.size w w' := by
  have h1 := h.le
  have h2 := h.max
  unfold maxLen at h2
  by_cases hb : 2147483647 < l.length
  · exact ord_big A _ c w hb (by omega)
  · exact ord_in A _ c l w h.rd rfl (by omega) h.bd

end Go.Proofs.Ytdogepkfgobcfaa

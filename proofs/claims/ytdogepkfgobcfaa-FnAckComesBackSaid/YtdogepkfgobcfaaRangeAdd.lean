/- Contract of rangeset's add. Conditions: the set's slice was made by the call itself. -/
import Derived.Test.YtdogepkfgobcfaaRange
import Derived.BigQuiet
namespace Go.Proofs.Ytdogepkfgobcfaa
open Go.RowKit
set_option linter.unusedVariables false

/-- What add and sub leave. -/
def RsEnd (B p : Nat) (w : World) (l : Rgs) (en : Ending) (w' : World) : Prop := en = .returned (.tuple #[]) ∧ Below B w w' ∧ ∃ A' cap', RS B w' p A' cap' l
theorem RsEnd.of {B p : Nat} {w w1 w' : World} {l l' : Rgs} {en : Ending} (h1 : Below B w w1) (h : en = .returned (.tuple #[]) ∧ Below B w1 w' ∧ ∃ A' cap', RS B w' p A' cap' l) (e : l = l') : RsEnd B p w l' en w' := by
  subst e
  exact ⟨h.1, h1.trans h.2.1, h.2.2⟩

set_option maxRecDepth 100000 in
set_option maxHeartbeats 2000000 in
theorem add_ (B p cap : Nat) (A : Option Addr) (l : Rgs) (s e : Int) (n : Nat) (w : World) (h : RS B w p A cap l) (hn : Hid (l.length = n)) (hbig : n ≤ 100000) :
    Calls Try.prog 90 #[.pointer (some ⟨p, 0, none⟩), .int .i64 s, .int .i64 e] w fun en w' => RsEnd B p w (if s = e then l else addP s e l) en w' := by
  have HS := Lib.hid h
  have c0 := h.cell
  rw [hn.out] at c0
  have f0 := h.free 0
  by_cases hse : s = e
  · clear h
    subst hse
    go_enter Try.func90, Try.ntmps90
    go_wp2
    refine bodyPost_ret (results_none rfl _ _ _) rfl ?_
    exact ⟨rfl, Below.refl _ _, A, cap, by first | exact HS.out | (rw [if_pos rfl]; exact HS.out)⟩
  have hne : (s == e) = false := by simpa using hse
  have hgoal : Hid ((if s = e then l else addP s e l) = addP s e l) := if_neg hse
  rw [hgoal.out]
  clear h hgoal hse
  go_enter Try.func90, Try.ntmps90
  go_wp2_with fail
  go_loop [17] (fun i => ∃ k : Nat, k ≤ n ∧ i = .int .i64 k ∧ AddInv s e l k) (fun i => n - (intOf i).toNat)
  case atStart => exact ⟨0, by omega, rfl, AddInv.zero s e l⟩
  case round =>
    obtain ⟨k, hk, rfl, hai⟩ := hrel
    have AI := Lib.hid hai
    clear hai
    by_cases hlt : k < n
    · obtain ⟨g, rfl, k1, k2, k3, k4, k5⟩ := HS.out.addr (by have := hn.out; omega)
      rw [hn.out] at k4
      unfold maxLen at k5
      have hkl : k < l.length := by rw [hn.out]; exact hlt
      have d0 := HS.out.at0 hkl
      have d1 := HS.out.at1 hkl
      obtain ⟨x0, hx0⟩ : ∃ x, x = l[k].1 := ⟨_, rfl⟩
      obtain ⟨x1, hx1⟩ : ∃ x, x = l[k].2 := ⟨_, rfl⟩
      rw [← hx0] at d0
      rw [← hx1] at d1
      have hx := Lib.hid (⟨hkl, hx0, hx1⟩ : ∃ h : k < l.length, x0 = l[k].1 ∧ x1 = l[k].2)
      have fg0 := HS.out.gfree (k * 2)
      have fg1 := HS.out.gfree (k * 2 + 1)
      clear hx0 hx1 hkl
      by_cases h1 : e < x0
      · go_wp2_with fail
        refine (ins B p cap _ l k n s e w HS.out hn (by omega) (by omega)).mono ?_
        rintro en w' hen
        obtain ⟨hk1, hk2, hk3⟩ := hx.out
        have HE : Hid (RsEnd B p w (addP s e l) en w') := RsEnd.of (Below.refl _ _) hen (AI.out.before hk1 (by omega)).symm
        obtain ⟨rfl, -⟩ := hen
        clear hk1 hk2 hk3
        go_wp2
        refine bodyPost_ret (results_none rfl _ _ _) rfl ?_
        exact HE.out
      by_cases h2 : x1 < s
      · go_wp2_with fail
        go_round
        case rel => exact ⟨k + 1, by omega, by go_num, by obtain ⟨hk1, hk2, hk3⟩ := hx.out; exact AI.out.skip hk1 (by omega) (by omega)⟩
        case measure => simp [intOf]; omega
      by_cases h3 : e ≤ x1
      · by_cases h4 : s < x0
        · have R1 := Lib.hid (HS.out.set0 hx.out.1 s)
          go_wp2_with fail
          refine bodyPost_ret (results_none rfl _ _ _) rfl ?_
          obtain ⟨hk1, hk2, hk3⟩ := hx.out
          refine ⟨rfl, Below.set_ (Below.refl _ _) HS.out.base _ _ _ k1, some ⟨g, 0, none⟩, cap, ?_⟩
          rw [AI.out.inside hk1 (by omega) (by omega) (by omega), show min s l[k].1 = s by omega]
          exact R1.out
        · go_wp2_with fail
          refine bodyPost_ret (results_none rfl _ _ _) rfl ?_
          obtain ⟨hk1, hk2, hk3⟩ := hx.out
          refine ⟨rfl, Below.refl _ _, some ⟨g, 0, none⟩, cap, ?_⟩
          rw [AI.out.inside hk1 (by omega) (by omega) (by omega), show min s l[k].1 = l[k].1 by omega, List.set_getElem_self]
          exact HS.out
      obtain ⟨y, hy⟩ : ∃ y : Int, Hid (y = min s x0) := ⟨_, rfl⟩
      have R1 : Hid (∀ w1 : World, ((s < x0 ∧ (w.setCell ⟨g, k * 2, none⟩ (.int .i64 s)).setCell ⟨g, k * 2 + 1, none⟩ (.int .i64 e) = w1) ∨ (¬ s < x0 ∧ w.setCell ⟨g, k * 2 + 1, none⟩ (.int .i64 e) = w1)) → Hid (RS B w1 p (some ⟨g, 0, none⟩) cap (l.set k (y, e))) ∧ Hid (Below B w w1)) := by
        obtain ⟨hk1, hk2, hk3⟩ := hx.out
        rintro _ (⟨h4, rfl⟩ | ⟨h4, rfl⟩)
        · rw [show y = s by have := hy.out; omega]
          exact ⟨HS.out.set01 hk1 s e, Below.set_ (Below.set_ (Below.refl _ _) HS.out.base _ _ _ k1) (HS.out.set0 hk1 s).base _ _ _ k1⟩
        · rw [show y = l[k].1 by have := hy.out; omega]
          exact ⟨HS.out.set1 hk1 e, Below.set_ (Below.refl _ _) HS.out.base _ _ _ k1⟩
      have hj0 : Hid (SwInv e l k e (k + 1)) := rfl
      by_cases h4 : s < x0
      · go_wp2_with fail
        obtain ⟨w1, hw1⟩ : ∃ w1, (w.setCell ⟨g, k * 2, none⟩ (.int .i64 s)).setCell ⟨g, k * 2 + 1, none⟩ (.int .i64 e) = w1 := ⟨_, rfl⟩
        rw [hw1]
        obtain ⟨R2, H2⟩ := R1.out w1 (.inl ⟨h4, hw1⟩)
        clear hw1 R1 d0 d1 fg0 fg1 c0 f0
        go_loopw [8] (fun j wr => ∃ (kj : Nat) (E : Int), k + 1 ≤ kj ∧ kj ≤ n ∧ j = .int .i64 kj ∧ Hid (RS B wr p (some ⟨g, 0, none⟩) cap (l.set k (y, E))) ∧ Hid (SwInv e l k E kj) ∧ Hid (Below B w wr)) (fun j _ => n - (intOf j).toNat)
        case atStart => exact ⟨k + 1, e, by omega, by omega, by go_num, R2, hj0, H2⟩
        case round =>
          obtain ⟨kj, E, hj1, hj2, rfl, RJ, SJ, BJ⟩ := hrel
          clear R2 H2 hj0
          have hset : Hid ((l.set k (y, E)).length = n) := by show _ = _; simp [hn.out]
          have c0 := RJ.out.cell
          rw [hset.out] at c0
          have hkk : k < (l.set k (y, E)).length := by rw [hset.out]; exact hlt
          have d1 := RJ.out.at1 hkk
          simp only [List.getElem_set_self] at d1
          have fg1 := RJ.out.gfree (k * 2 + 1)
          clear hkk
          by_cases hjn : kj < n
          · have hjl : kj < (l.set k (y, E)).length := by rw [hset.out]; exact hjn
            have hjl2 : kj < l.length := by rw [hn.out]; exact hjn
            have b0 := RJ.out.at0 hjl
            have b1 := RJ.out.at1 hjl
            rw [List.getElem_set_ne (by omega)] at b0 b1
            obtain ⟨z0, hz0⟩ : ∃ x, x = l[kj].1 := ⟨_, rfl⟩
            obtain ⟨z1, hz1⟩ : ∃ x, x = l[kj].2 := ⟨_, rfl⟩
            rw [← hz0] at b0
            rw [← hz1] at b1
            have hz := Lib.hid (⟨hjl2, hz0, hz1⟩ : ∃ h : kj < l.length, z0 = l[kj].1 ∧ z1 = l[kj].2)
            clear hz0 hz1 hjl hjl2
            by_cases hE : z0 ≤ E
            · go_wp2_with fail
              go_quiet (fail)
              by_cases hE2 : E < z1
              · have RN := Lib.hid ((RJ.out.drewN nq).set1 (i := k) (by rw [hset.out]; exact hlt) z1)
                have BN := Lib.hid (Below.set_ (below_drewN BJ.out nq) (RJ.out.drewN nq).base g (k * 2 + 1) (.int .i64 z1) k1)
                go_wp2_with fail
                go_roundw
                case rel => exact ⟨kj + 1, z1, by omega, by omega, by go_num, (by have := RN.out; rw [List.set_set] at this; exact Lib.hid (by simpa using this)), (by obtain ⟨q1, q2, q3⟩ := hz.out; have := SJ.out.step q1 (by omega); rw [if_pos (by omega), ← q3] at this; exact this), BN⟩
                case measure => simp [intOf]; omega
              · go_wp2_with fail
                go_roundw
                case rel => exact ⟨kj + 1, E, by omega, by omega, by go_num, RJ.out.drewN nq, (by obtain ⟨q1, q2, q3⟩ := hz.out; have := SJ.out.step q1 (by omega); rw [if_neg (by omega)] at this; exact this), below_drewN BJ.out nq⟩
                case measure => simp [intOf]; omega
            · go_wp2_with fail
              go_quiet (fail)
              go_wp2_with fail
              refine (rem B p cap _ (l.set k (y, E)) (k + 1) kj n _ (RJ.out.drewN nq) hset (by omega) (by omega) (by omega)).mono ?_
              rintro en w' hen
              have HE : Hid (RsEnd B p w (addP s e l) en w') := RsEnd.of (below_drewN BJ.out nq) hen (by
                obtain ⟨hk1, hk2, hk3⟩ := hx.out
                rw [AI.out.over hk1 (by omega) (by omega) (by omega) hj1 (SJ.out.stop (fun hj => by obtain ⟨q1, q2, q3⟩ := hz.out; omega)), ← hk2, ← hy.out]
                rfl)
              obtain ⟨rfl, -⟩ := hen
              go_wp2
              refine bodyPost_ret (results_none rfl _ _ _) rfl ?_
              exact HE.out
          · obtain rfl : kj = n := by omega
            go_wp2_with fail
            go_quiet (fail)
            go_wp2_with fail
            refine (rem B p cap _ (l.set k (y, E)) (k + 1) kj kj _ (RJ.out.drewN nq) hset (by omega) (by omega) (by omega)).mono ?_
            rintro en w' hen
            have HE : Hid (RsEnd B p w (addP s e l) en w') := RsEnd.of (below_drewN BJ.out nq) hen (by
              obtain ⟨hk1, hk2, hk3⟩ := hx.out
              rw [AI.out.over hk1 (by omega) (by omega) (by omega) hj1 (SJ.out.stop (fun hj => by have := hn.out; omega)), ← hk2, ← hy.out]
              rfl)
            obtain ⟨rfl, -⟩ := hen
            go_wp2
            refine bodyPost_ret (results_none rfl _ _ _) rfl ?_
            exact HE.out
      · go_wp2_with fail
        obtain ⟨w1, hw1⟩ : ∃ w1, w.setCell ⟨g, k * 2 + 1, none⟩ (.int .i64 e) = w1 := ⟨_, rfl⟩
        rw [hw1]
        obtain ⟨R2, H2⟩ := R1.out w1 (.inr ⟨h4, hw1⟩)
        clear hw1 R1 d0 d1 fg0 fg1 c0 f0
        go_loopw [8] (fun j wr => ∃ (kj : Nat) (E : Int), k + 1 ≤ kj ∧ kj ≤ n ∧ j = .int .i64 kj ∧ Hid (RS B wr p (some ⟨g, 0, none⟩) cap (l.set k (y, E))) ∧ Hid (SwInv e l k E kj) ∧ Hid (Below B w wr)) (fun j _ => n - (intOf j).toNat)
        case atStart => exact ⟨k + 1, e, by omega, by omega, by go_num, R2, hj0, H2⟩
        case round =>
          obtain ⟨kj, E, hj1, hj2, rfl, RJ, SJ, BJ⟩ := hrel
          clear R2 H2 hj0
          have hset : Hid ((l.set k (y, E)).length = n) := by show _ = _; simp [hn.out]
          have c0 := RJ.out.cell
          rw [hset.out] at c0
          have hkk : k < (l.set k (y, E)).length := by rw [hset.out]; exact hlt
          have d1 := RJ.out.at1 hkk
          simp only [List.getElem_set_self] at d1
          have fg1 := RJ.out.gfree (k * 2 + 1)
          clear hkk
          by_cases hjn : kj < n
          · have hjl : kj < (l.set k (y, E)).length := by rw [hset.out]; exact hjn
            have hjl2 : kj < l.length := by rw [hn.out]; exact hjn
            have b0 := RJ.out.at0 hjl
            have b1 := RJ.out.at1 hjl
            rw [List.getElem_set_ne (by omega)] at b0 b1
            obtain ⟨z0, hz0⟩ : ∃ x, x = l[kj].1 := ⟨_, rfl⟩
            obtain ⟨z1, hz1⟩ : ∃ x, x = l[kj].2 := ⟨_, rfl⟩
            rw [← hz0] at b0
            rw [← hz1] at b1
            have hz := Lib.hid (⟨hjl2, hz0, hz1⟩ : ∃ h : kj < l.length, z0 = l[kj].1 ∧ z1 = l[kj].2)
            clear hz0 hz1 hjl hjl2
            by_cases hE : z0 ≤ E
            · go_wp2_with fail
              go_quiet (fail)
              by_cases hE2 : E < z1
              · have RN := Lib.hid ((RJ.out.drewN nq).set1 (i := k) (by rw [hset.out]; exact hlt) z1)
                have BN := Lib.hid (Below.set_ (below_drewN BJ.out nq) (RJ.out.drewN nq).base g (k * 2 + 1) (.int .i64 z1) k1)
                go_wp2_with fail
                go_roundw
                case rel => exact ⟨kj + 1, z1, by omega, by omega, by go_num, (by have := RN.out; rw [List.set_set] at this; exact Lib.hid (by simpa using this)), (by obtain ⟨q1, q2, q3⟩ := hz.out; have := SJ.out.step q1 (by omega); rw [if_pos (by omega), ← q3] at this; exact this), BN⟩
                case measure => simp [intOf]; omega
              · go_wp2_with fail
                go_roundw
                case rel => exact ⟨kj + 1, E, by omega, by omega, by go_num, RJ.out.drewN nq, (by obtain ⟨q1, q2, q3⟩ := hz.out; have := SJ.out.step q1 (by omega); rw [if_neg (by omega)] at this; exact this), below_drewN BJ.out nq⟩
                case measure => simp [intOf]; omega
            · go_wp2_with fail
              go_quiet (fail)
              go_wp2_with fail
              refine (rem B p cap _ (l.set k (y, E)) (k + 1) kj n _ (RJ.out.drewN nq) hset (by omega) (by omega) (by omega)).mono ?_
              rintro en w' hen
              have HE : Hid (RsEnd B p w (addP s e l) en w') := RsEnd.of (below_drewN BJ.out nq) hen (by
                obtain ⟨hk1, hk2, hk3⟩ := hx.out
                rw [AI.out.over hk1 (by omega) (by omega) (by omega) hj1 (SJ.out.stop (fun hj => by obtain ⟨q1, q2, q3⟩ := hz.out; omega)), ← hk2, ← hy.out]
                rfl)
              obtain ⟨rfl, -⟩ := hen
              go_wp2
              refine bodyPost_ret (results_none rfl _ _ _) rfl ?_
              exact HE.out
          · obtain rfl : kj = n := by omega
            go_wp2_with fail
            go_quiet (fail)
            go_wp2_with fail
            refine (rem B p cap _ (l.set k (y, E)) (k + 1) kj kj _ (RJ.out.drewN nq) hset (by omega) (by omega) (by omega)).mono ?_
            rintro en w' hen
            have HE : Hid (RsEnd B p w (addP s e l) en w') := RsEnd.of (below_drewN BJ.out nq) hen (by
              obtain ⟨hk1, hk2, hk3⟩ := hx.out
              rw [AI.out.over hk1 (by omega) (by omega) (by omega) hj1 (SJ.out.stop (fun hj => by have := hn.out; omega)), ← hk2, ← hy.out]
              rfl)
            obtain ⟨rfl, -⟩ := hen
            go_wp2
            refine bodyPost_ret (results_none rfl _ _ _) rfl ?_
            exact HE.out
    · obtain rfl : k = n := by omega
      have hz := new_cells (E := ER) w [(s, e)] 108
      have HZ := Lib.hid hz
      have HO : Hid (OwnE ER B w (.slice A k cap) l) := by have := HS.out.own; rw [hn.out] at this; exact this
      have hB := HS.out.base
      clear hz
      go_wp2_with (at_builtin; refine wpList_appE (E := ER) B _ rfl (.tmp 112) (.tmp 116) rfl (.slice A k cap) l rfl (HO.out.alloc _) ⟨w.heap.size, 0, none⟩ 1 1 [(s, e)] rfl rfl (by exact HZ.out) (by have := hn.out; omega) (by simp; omega) ?_; intro v1 w1 ho1 hg1 ha1 hb1 hn1; obtain ⟨g, cap', rfl, k1, k2, k3, k4, k5, k6, k7, k8⟩ := RS.app k hn.out HS.out ho1 hg1 ha1 hb1; have H1 := Lib.hid k7; have H2 := Lib.hid k8; clear ho1 hg1 ha1 hb1 hn1 k7 k8)
      go_end0
      refine ⟨rfl, H2.out, some ⟨g, 0, none⟩, cap', ?_⟩
      have := AI.out
      rw [← hn.out] at this
      rw [this.last]
      exact H1.out

end Go.Proofs.Ytdogepkfgobcfaa

/- Contract of laws.same on lists that are the same. Conditions: the slices read as told. -/
import Derived.Test.YtggcnepdeaijoaaZFc
import Derived.Test.YtggcnepdeaijoaaEqual
import Derived.BigQuiet
namespace Go.Proofs.Ytggcnepdeaijoaa
open Go.RowKit
set_option linter.unusedVariables false

/-- A slice of slices of bytes that reads as ds. -/
def RdD (w : World) (A : Option Addr) (n : Nat) (ds : List (List Int)) : Prop := ∃ ts, RdE EB w A ts ∧ ts.length = n ∧ Rts w ts ds
theorem RdD.drewN {w : World} {A : Option Addr} {n : Nat} {ds : List (List Int)} (h : RdD w A n ds) (k : Nat) : RdD (w.drewN k) A n ds := by
  obtain ⟨ts, a, b, c⟩ := h
  exact ⟨ts, a.drewN k, b, c.drewN k⟩
theorem RdD.below {w w' : World} {A : Option Addr} {n : Nat} {ds : List (List Int)} (h : RdD w A n ds) (hb : Below w.heap.size w w') : RdD w' A n ds := by
  obtain ⟨ts, a, b, c⟩ := h
  exact ⟨ts, a.below hb, b, c.below hb⟩
theorem RdD.at_ {w : World} {A : Option Addr} {n : Nat} {ds : List (List Int)} (h : RdD w A n ds) (i : Nat) (hi : i < n) : ∃ b o At c d, A = some ⟨b, o, none⟩ ∧ ds[i]? = some d ∧ w.cell? ⟨b, o + i, none⟩ = some (.slice At d.length c) ∧ Rd w At d := by
  obtain ⟨ts, hr, hl, hts⟩ := h
  obtain ⟨b, o, e, hc⟩ := hr (by omega)
  have hit : i < ts.length := by omega
  have hid : i < ds.length := by rw [← hts.1]; exact hit
  have ht := hts.2 i ts[i] ds[i] (List.getElem?_eq_getElem hit) (List.getElem?_eq_getElem hid)
  refine ⟨b, o, ts[i].1, ts[i].2.2, ds[i], e, List.getElem?_eq_getElem hid, ?_, ht.1⟩
  rw [ht.2.1]
  exact RdE.atB hc i hit

set_option maxRecDepth 100000 in
set_option maxHeartbeats 2000000 in
theorem same_f (AV AW : Option Addr) (n cV cW : Nat) (vs : List Int) (AD AE : Option Addr) (m cD cE : Nat) (ds : List (List Int)) (w : World) (hv : RdE EI w AV vs) (hw : RdE EI w AW vs) (hn : Hid (vs.length = n)) (hn2 : n ≤ 1000) (hd : RdD w AD m ds) (he : RdD w AE m ds) (hm : m ≤ 1000) :
    Calls Try.prog 8 #[.slice AV n cV, .slice AD m cD, .slice AW n cW, .slice AE m cE] w fun e w' => e = .returned (.bool true) ∧ Hid (Below w.heap.size w w') := by
  have HV := Lib.hid hv
  have HW := Lib.hid hw
  have HD := Lib.hid hd
  have HE := Lib.hid he
  clear hv hw hd he
  go_enter Try.func8, Try.ntmps8
  go_wp2_with fail
  have HB := Lib.hid (Below.refl w.heap.size w)
  go_loopw [25] (fun i wr => ∃ q : Nat, q ≤ n ∧ i = .int .i64 q ∧ Hid (RdE EI wr AV vs) ∧ Hid (RdE EI wr AW vs) ∧ Hid (RdD wr AD m ds) ∧ Hid (RdD wr AE m ds) ∧ Hid (Below w.heap.size w wr)) (fun i _ => n - (intOf i).toNat)
  case atStart => exact ⟨0, by omega, rfl, HV, HW, HD, HE, HB⟩
  case round =>
    clear HV HW HD HE HB
    obtain ⟨q, hq, rfl, HV, HW, HD, HE, HB⟩ := hrel
    by_cases hlt : q < n
    · have hl : q < vs.length := by rw [hn.out]; exact hlt
      obtain ⟨b, o, rfl, hc⟩ := HV.out (by omega)
      obtain ⟨b', o', rfl, hc'⟩ := HW.out (by omega)
      have a0 := RdE.at1 rfl rfl hc q hl
      have a1 := RdE.at1 rfl rfl hc' q hl
      obtain ⟨x, hx⟩ : ∃ x, vs[q] = x := ⟨_, rfl⟩
      rw [hx] at a0 a1
      have hi : (q : Int) < (n : Int) := by omega
      clear hc hc' hx hl
      go_wp2_with fail
      go_quiet (fail)
      go_wp2_with fail
      go_roundw
      case rel => exact ⟨q + 1, by omega, by go_num, HV.out.drewN nq, HW.out.drewN nq, HD.out.drewN nq, HE.out.drewN nq, below_drewN HB.out nq⟩
      case measure => simp [intOf]; omega
    · obtain rfl : q = n := by omega
      go_wp2_with fail
      obtain ⟨wo, hwo⟩ : ∃ wo : World, Hid (wo = wr) := ⟨_, rfl⟩
      go_loopw [40] (fun i wq => ∃ k : Nat, k ≤ m ∧ i = .int .i64 k ∧ Hid (RdD wq AD m ds) ∧ Hid (RdD wq AE m ds) ∧ Hid (Below w.heap.size w wq)) (fun i _ => m - (intOf i).toNat)
      case atStart => exact ⟨0, by omega, rfl, HD, HE, HB⟩
      case round =>
        clear HV HW HD HE HB
        obtain ⟨k, hk, rfl, HD, HE, HB⟩ := hrel
        by_cases hlt2 : k < m
        · obtain ⟨b, o, A1, c1, d, rfl, hd1, a0, r0⟩ := HD.out.at_ k hlt2
          obtain ⟨b', o', A2, c2, d', rfl, hd2, a1, r1⟩ := HE.out.at_ k hlt2
          obtain rfl : d = d' := by rw [hd1] at hd2; simpa using hd2
          obtain ⟨s, hs⟩ : ∃ s, Hid (d.length = s) := ⟨_, Lib.hid rfl⟩
          rw [hs.out] at a0 a1
          have R0 := Lib.hid r0
          have R1 := Lib.hid r1
          have hi : (k : Int) < (m : Int) := by omega
          clear r0 r1 hd1 hd2
          go_wp2_with fail
          go_quiet ((go_at_call 13; refine Calls.quiet_of_same (v := .bool true) ((beq A1 A2 s c1 s c2 d _ (R0.out.drewN _) (R1.out.drewN _) hs hs).mono ?_); exact fun e w' h => ⟨h.1, h.2.symm⟩))
          go_wp2_with fail
          go_roundw
          case rel => exact ⟨k + 1, by omega, by go_num, HD.out.drewN nq, HE.out.drewN nq, below_drewN HB.out nq⟩
          case measure => simp [intOf]; omega
        · obtain rfl : k = m := by omega
          go_wp2_with fail
          go_ret
          exact ⟨rfl, HB⟩

end Go.Proofs.Ytggcnepdeaijoaa

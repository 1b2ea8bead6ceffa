/- The walk of FnFrame. Conditions: none. -/
import Derived.Test.YtggcnepdeaijoaaSft
import Derived.Test.YtggcnepdeaijoaaZzf
import Derived.Test.YtggcnepdeaijoaaSame
namespace Go.Proofs.Ytggcnepdeaijoaa
open Go.RowKit
set_option linter.unusedVariables false

theorem RdE.below' {α : Type} {E : Elt α} {w w' : World} {A : Option Addr} {l : List α} {B : Nat} (h : RdE E w A l) (hb : Below B w w') (hB : w.heap.size ≤ B) : RdE E w' A l := h.below (hb.mono hB)

set_option maxRecDepth 100000 in
set_option maxHeartbeats 1000000 in
theorem ff_big (A : Option Addr) (n c : Nat) (w : World) (hn : 2147483647 < n) (hn2 : n ≤ 9223372036854775807) :
    Calls Try.prog 3 #[.slice A n c] w fun e w' => e = .returned (.bool true) ∧ Below w.heap.size w w' := by
  go_enter Try.func3, Try.ntmps3
  go_wp2
  go_ret
  exact ⟨rfl, Below.refl _ _⟩

set_option maxRecDepth 100000 in
set_option maxHeartbeats 1000000 in
theorem ff_none (A : Option Addr) (c : Nat) (w : World) :
    Calls Try.prog 3 #[.slice A 0 c] w fun e w' => e = .returned (.bool true) ∧ Below w.heap.size w w' := by
  go_enter Try.func3, Try.ntmps3
  go_wp2_with fail
  refine (sf_nil A c [] w).mono ?_
  rintro e w1 ⟨rfl, hb⟩
  have HB := Lib.hid hb
  clear hb
  go_wp2_with fail
  go_ret
  exact ⟨rfl, HB.out⟩

set_option maxRecDepth 100000 in
set_option maxHeartbeats 4000000 in
theorem ff_in (t : Int) (ht : 4 ≤ t ∧ t ≤ 29) (b o n c : Nat) (l : List Int) (w : World) (hr : Rd w (some ⟨b, o, none⟩) l) (hn : Hid (l.length = n)) (hnc : n ≤ c) (hc2 : c ≤ 9223372036854775807) (h1 : 1 ≤ n) (hn2 : n ≤ 2147483647) (h0 : w.cell? ⟨b, o, none⟩ = some (.int .u8 t)) :
    Calls Try.prog 3 #[.slice (some ⟨b, o, none⟩) n c] w fun e w' => e = .returned (.bool true) ∧ Below w.heap.size w w' := by
  have HR := Lib.hid hr
  have HC := Lib.hid h0
  clear hr h0
  go_enter Try.func3, Try.ntmps3
  go_wp2_with fail
  refine (sfa t ht.1 ht.2 b o n c l w HR.out hn hnc hc2 h1 (by omega) HC.out).mono ?_
  rintro e w1 ⟨hb, ⟨hp, rfl⟩ | ⟨hp, rfl⟩ | ⟨vs, ds, k, AV, nV, cV, AD, nD, cD, hp, rfl, h2, h3, h4, h5, h6, h7⟩⟩
  · have HB := Lib.hid hb
    clear hp hb
    go_wp2_with fail
    go_ret
    exact ⟨rfl, HB.out⟩
  · have HB := Lib.hid hb
    have HP := Lib.hid hp
    have HR1 := Lib.hid (HR.out.below hb)
    have HC1 : Hid (w1.cell? ⟨b, o, none⟩ = some (.int .u8 t)) := (hb.cell (p := ⟨b, o, none⟩) (World.block_lt_of_cell? _ _ HC.out)).trans HC.out
    clear hp hb
    by_cases h64 : n ≤ 65536
    · go_wp2_with fail
      refine (ifr t ht b o n c l w1 HR1.out hn hnc hc2 h1 (by omega) HC1.out).mono ?_
      rintro e w2 ⟨hb2, ⟨hp, rfl⟩ | ⟨vs, ds, k, AV, nV, cV, AD, nD, cD, hp, _⟩⟩
      · have HB2 := Lib.hid (HB.out.trans (hb2.mono HB.out.size))
        clear hp hb2
        go_wp2_with fail
        go_ret
        exact ⟨rfl, HB2.out⟩
      · rw [HP.out] at hp
        cases hp
    · go_wp2_with fail
      go_ret
      exact ⟨rfl, HB.out⟩
  · have HB := Lib.hid hb
    have HP := Lib.hid (frG_some hp)
    have HR1 := Lib.hid (HR.out.below hb)
    have HC1 : Hid (w1.cell? ⟨b, o, none⟩ = some (.int .u8 t)) := (hb.cell (p := ⟨b, o, none⟩) (World.block_lt_of_cell? _ _ HC.out)).trans HC.out
    have H2 := Lib.hid h2
    have H5 := Lib.hid h5
    have H4 := h4
    clear hp hb h2 h5
    by_cases h64 : n ≤ 65536
    · go_wp2_with fail
      refine (ifr t ht b o n c l w1 HR1.out hn hnc hc2 h1 (by omega) HC1.out).mono ?_
      rintro e w2 ⟨hb2, ⟨hp, rfl⟩ | ⟨vs2, ds2, k2, AV2, nV2, cV2, AD2, nD2, cD2, hp, rfl, j2, j3, j4, j5, j6, j7⟩⟩
      · rw [HP.out] at hp
        cases hp
      · obtain ⟨rfl, rfl, rfl⟩ : vs = vs2 ∧ ds = ds2 ∧ k = k2 := by
          have := HP.out.symm.trans hp
          simpa using this
        obtain rfl : nV = nV2 := H2.out.symm.trans j2
        obtain rfl : nD = nD2 := H5.out.symm.trans j5
        have HB2 := Lib.hid (HB.out.trans (hb2.mono HB.out.size))
        have HV1 := Lib.hid (H4.out.below hb2)
        have HD1 : Hid (RdD w2 AD nD ds) := RdD.below (show RdD w1 AD nD ds from h7.out) hb2
        have HD2 : Hid (RdD w2 AD2 nD ds) := show RdD w2 AD2 nD ds from j7.out
        clear hp hb2 j2 j5
        go_wp2_with (go_at_call 8; refine (same_f _ _ nV _ _ vs _ _ nD _ _ ds _ j4.out HV1.out H2 (by omega) HD2.out HD1.out (by omega)).mono ?_; rintro e w4 ⟨rfl, HB4⟩)
        go_ret
        exact ⟨rfl, HB2.out.trans (HB4.out.mono HB2.out.size)⟩
    · go_wp2_with fail
      go_ret
      exact ⟨rfl, HB.out⟩

set_option maxRecDepth 100000 in
set_option maxHeartbeats 1000000 in
theorem ff_out (t : Int) (ht0 : 0 ≤ t) (ht1 : t ≤ 255) (ht : ¬ (4 ≤ t ∧ t ≤ 29)) (b o n c : Nat) (l : List Int) (w : World) (hn : Hid (l.length = n)) (hnc : n ≤ c) (hc2 : c ≤ 9223372036854775807) (h1 : 1 ≤ n) (hn2 : n ≤ 2147483647) (h0 : w.cell? ⟨b, o, none⟩ = some (.int .u8 t)) :
    Calls Try.prog 3 #[.slice (some ⟨b, o, none⟩) n c] w fun e w' => e = .returned (.bool true) ∧ Below w.heap.size w w' := by
  go_enter Try.func3, Try.ntmps3
  go_wp2_with fail
  refine (sf_out t ht0 ht1 ht b o n c l w hn hnc hc2 h1 (by omega) h0).mono ?_
  rintro e w1 ⟨rfl, hb⟩
  have HB := Lib.hid hb
  clear hb
  go_wp2_with fail
  go_ret
  exact ⟨rfl, HB.out⟩

theorem fnFrame_walk (A : Option Addr) (l : List Int) (c : Nat) (w : World) (h : ByteArg w A l c) :
    Calls Try.prog 3 #[.slice A l.length c] w fun e w' => e = .returned (.bool true) ∧ Below w.heap.size w w' := by
  have hr := h.rd
  have hle := h.le
  have hmax := h.max
  unfold maxLen at hmax
  by_cases ho : 2147483647 < l.length
  · exact ff_big A _ c w ho (by omega)
  by_cases h0 : l.length = 0
  · rw [h0]
    exact ff_none A c w
  obtain ⟨b, o, rfl, hc⟩ := hr.2 (by omega)
  have c0 : w.cell? ⟨b, o, none⟩ = some (.int .u8 (l.getD 0 0)) := by simpa using hc 0 (by omega)
  have hx := hr.1.getD 0
  by_cases ht : 4 ≤ l.getD 0 0 ∧ l.getD 0 0 ≤ 29
  · exact ff_in _ ht b o _ c l w hr rfl hle hmax (by omega) (by omega) c0
  · exact ff_out _ hx.1 (by omega) ht b o _ c l w rfl hle hmax (by omega) (by omega) c0

end Go.Proofs.Ytggcnepdeaijoaa

/- Contract of quicwire.ConsumeUint8Bytes. Conditions: the slices read as bytes. -/
import Derived.Test.YtdjdcpcomhjnjaaDoorCvb
namespace Go.Proofs.YtdjdcpcomhjnjaaDoor
open Go.RowKit
set_option linter.unusedVariables false

set_option maxHeartbeats 1000000 in
theorem c8b_nil (A : Option Addr) (c : Nat) (w : World) :
    Calls Tryd.prog 44 #[.slice A 0 c] w fun e w' => e = .returned (.tuple #[.slice none 0 0, .int .i64 (-1)]) ∧ w = w' := by
  go_enter Tryd.func44, Tryd.ntmps44
  go_wp2
  go_ret2
  exact ⟨rfl, rfl⟩

set_option maxHeartbeats 1000000 in
theorem c8b_short (b o n c : Nat) (x : Int) (w : World) (hn : 1 ≤ n) (hnc : n ≤ c) (hc2 : c ≤ 9223372036854775807) (hx : 0 ≤ x ∧ x ≤ 255) (hs : ((n - 1 : Nat) : Int) < x) (c0 : w.cell? ⟨b, o, none⟩ = some (.int .u8 x)) :
    Calls Tryd.prog 44 #[.slice (some ⟨b, o, none⟩) n c] w fun e w' => e = .returned (.tuple #[.slice none 0 0, .int .i64 (-1)]) ∧ w = w' := by
  by_cases hck : c = 1
  · subst hck
    go_enter Tryd.func44, Tryd.ntmps44
    go_wp2
    go_ret2
    exact ⟨rfl, rfl⟩
  · go_enter Tryd.func44, Tryd.ntmps44
    go_wp2
    go_ret2
    exact ⟨rfl, rfl⟩

set_option maxHeartbeats 1000000 in
theorem c8b_some (b o n c s : Nat) (l : List Int) (w : World) (hr : Rd w (some ⟨b, o, none⟩) l) (hn : Hid (l.length = n)) (h1 : 1 ≤ n) (hnc : n ≤ c) (hc2 : c ≤ 9223372036854775807) (hx : s ≤ 255) (hs : s ≤ n - 1) (c0 : w.cell? ⟨b, o, none⟩ = some (.int .u8 (s : Nat))) :
    Calls Tryd.prog 44 #[.slice (some ⟨b, o, none⟩) n c] w fun e w' => (∃ A' c', e = .returned (.tuple #[.slice A' s c', .int .i64 ((1 + s : Nat) : Int)]) ∧ Rd w' A' ((l.drop 1).take s) ∧ s ≤ c' ∧ c' ≤ 9223372036854775807 ∧ (A' = none → c' = 0)) ∧ w = w' := by
  have hn' := hn.out
  have hcut := (hr.cut_at (k := 1) (cap := c) (by omega)).take s
  clear hn'
  by_cases hck : c = 1
  · subst hck
    rw [if_pos rfl] at hcut
    go_enter Tryd.func44, Tryd.ntmps44
    go_wp2
    go_ret2
    exact ⟨⟨_, _, ret2_r (by omega), hcut, by omega, by omega, fun h => by cases h⟩, rfl⟩
  · rw [if_neg hck] at hcut
    go_enter Tryd.func44, Tryd.ntmps44
    go_wp2
    go_ret2
    exact ⟨⟨_, _, ret2_r (by omega), hcut, by omega, by omega, fun h => by cases h⟩, rfl⟩

/-- ConsumeUint8Bytes, whatever the bytes. -/
theorem c8b (A : Option Addr) (n c : Nat) (l : List Int) (w : World) (hr : Rd w A l) (hn : Hid (l.length = n)) (hnc : n ≤ c) (hc2 : c ≤ 9223372036854775807) :
    Calls Tryd.prog 44 #[.slice A n c] w fun e w' => BytesEnd w' (r8b l) e ∧ w = w' := by
  have hn' := hn.out
  cases l with
  | nil => simp at hn'; subst hn'; exact (c8b_nil A c w).mono fun e w' ⟨he, hw⟩ => ⟨.inl ⟨rfl, he⟩, hw⟩
  | cons x r =>
    obtain ⟨b, o, rfl, hc⟩ := hr.2 (by simp)
    have hx := hr.1.head
    have c0 : w.cell? ⟨b, o, none⟩ = some (.int .u8 x) := by simpa using hc 0 (by simp)
    have hlen : r.length + 1 = n := by simpa using hn'
    by_cases hs : (r.length : Int) < x
    · exact (c8b_short b o n c x w (by omega) hnc hc2 hx (by omega) c0).mono fun e w' ⟨he, hw⟩ => ⟨.inl ⟨by simp [r8b, hs], he⟩, hw⟩
    · obtain ⟨s, rfl⟩ := Int.eq_ofNat_of_zero_le hx.1
      have hl : (r.take s).length = s := by rw [List.length_take]; omega
      refine (c8b_some b o n c s _ w hr hn (by omega) hnc hc2 (by omega) (by omega) c0).mono fun e w' ⟨⟨A', c', he, h1, h2, h3, h4⟩, hw⟩ => ⟨.inr ⟨r.take s, 1 + s, A', c', ?_, by rw [hl]; exact he, h1, by rw [hl]; exact h2, h3, h4⟩, hw⟩
      simp only [r8b, if_neg hs]
      simp

end Go.Proofs.YtdjdcpcomhjnjaaDoor

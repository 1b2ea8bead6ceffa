/- Contracts of quicwire's bytes behind their length: ConsumeVarintBytes, ConsumeUint8Bytes, AppendVarintBytes, AppendUint8Bytes. Conditions: the slices read as bytes. -/
import Derived.Test.YtdjdcpcomhjnjaaDoorVarint
namespace Go.Proofs.YtdjdcpcomhjnjaaDoor
open Go.RowKit
set_option linter.unusedVariables false

/-- The bytes behind a variable-length integer, and how many bytes both have. -/
def rvb (l : List Int) : Option (List Int × Nat) :=
  match rv l with
  | none => none
  | some (v, k) => if ((l.length - k : Nat) : Int) < v then none else some ((l.drop k).take v.toNat, k + v.toNat)
/-- The bytes behind one byte's length, and how many bytes both have. -/
def r8b : List Int → Option (List Int × Nat)
  | [] => none
  | x :: r => if (r.length : Int) < x then none else some (r.take x.toNat, 1 + x.toNat)

theorem rvb_none {l : List Int} (h : rv l = none) : rvb l = none := by simp [rvb, h]
theorem rvb_short {l : List Int} {v : Int} {k : Nat} (h : rv l = some (v, k)) (hs : ((l.length - k : Nat) : Int) < v) : rvb l = none := by simp [rvb, h, hs]
theorem rvb_some {l : List Int} {v : Int} {k : Nat} (h : rv l = some (v, k)) (hs : ¬ ((l.length - k : Nat) : Int) < v) : rvb l = some ((l.drop k).take v.toNat, k + v.toNat) := by simp only [rvb, h, if_neg hs]

/-- What a reader of bytes returns. -/
def BytesEnd (w : World) (r : Option (List Int × Nat)) (e : Ending) : Prop :=
  (r = none ∧ e = .returned (.tuple #[.slice none 0 0, .int .i64 (-1)])) ∨
  ∃ bs t A c, r = some (bs, t) ∧ e = .returned (.tuple #[.slice A (List.length bs) c, .int .i64 (t : Nat)]) ∧ Rd w A bs ∧ bs.length ≤ c ∧ c ≤ 9223372036854775807 ∧ (A = none → c = 0)

theorem BytesEnd.none_ {w : World} {e : Ending} {r : Option (List Int × Nat)} (h : BytesEnd w r e) (hr : r = none) : e = .returned (.tuple #[.slice none 0 0, .int .i64 (-1)]) := by
  rcases h with ⟨_, h⟩ | ⟨bs, t, A, c, h, _⟩
  · exact h
  · rw [hr] at h; cases h
theorem BytesEnd.some_ {w : World} {e : Ending} {r : Option (List Int × Nat)} {bs : List Int} {t : Nat} (h : BytesEnd w r e) (hr : r = some (bs, t)) :
    ∃ A c, e = .returned (.tuple #[.slice A (List.length bs) c, .int .i64 (t : Nat)]) ∧ Rd w A bs ∧ bs.length ≤ c ∧ c ≤ 9223372036854775807 ∧ (A = none → c = 0) := by
  rcases h with ⟨h, _⟩ | ⟨bs', t', A, c, h, he, h2⟩
  · rw [hr] at h; cases h
  · rw [hr] at h
    obtain ⟨rfl, rfl⟩ : bs = bs' ∧ t = t' := by simpa using h
    exact ⟨A, c, he, h2⟩

theorem ret2_r {k : IntKind} {a b : Int} {y : Value} (h : a = b) : Ending.returned (.tuple #[y, .int k a]) = Ending.returned (.tuple #[y, .int k b]) := by rw [h]

set_option maxHeartbeats 1000000 in
theorem cvb_none (A : Option Addr) (n c : Nat) (l : List Int) (w : World) (hr : Rd w A l) (hn : Hid (l.length = n)) (hn2 : n ≤ 9223372036854775807) (hv : Hid (rv l = none)) :
    Calls Tryd.prog 39 #[.slice A n c] w fun e w' => e = .returned (.tuple #[.slice none 0 0, .int .i64 (-1)]) ∧ ∃ q, w' = w.drewN q := by
  go_enter Tryd.func39, Tryd.ntmps39
  go_wp2_with (go_at_call 38; refine (cv_none _ _ _ l _ (by exact hr) hn (by omega) hv).mono ?_; rintro e w' ⟨rfl, q, rfl⟩)
  go_ret2
  exact ⟨rfl, _, rfl⟩

set_option maxHeartbeats 1000000 in
theorem cvb_short (A : Option Addr) (n c k : Nat) (v : Int) (l : List Int) (w : World) (hr : Rd w A l) (hn : Hid (l.length = n)) (hnc : n ≤ c) (hc2 : c ≤ 9223372036854775807) (hv : Hid (rv l = some (v, k))) (hs : ((n - k : Nat) : Int) < v) :
    Calls Tryd.prog 39 #[.slice A n c] w fun e w' => e = .returned (.tuple #[.slice none 0 0, .int .i64 (-1)]) ∧ ∃ q, w' = w.drewN q := by
  have hb := rv_bd hr.1 hv.out
  have hn' := hn.out
  have hkn : k ≤ n := by omega
  obtain ⟨b, o, rfl, -⟩ := hr.2 (by omega)
  clear hn'
  by_cases hck : c = k
  · subst hck
    go_enter Tryd.func39, Tryd.ntmps39
    go_wp2_with (go_at_call 38; refine (cv_some _ _ _ l _ v c (by exact hr) hn (by omega) hv).mono ?_; rintro e w' ⟨rfl, q, rfl⟩)
    go_ret2
    exact ⟨rfl, _, rfl⟩
  · go_enter Tryd.func39, Tryd.ntmps39
    go_wp2_with (go_at_call 38; refine (cv_some _ _ _ l _ v k (by exact hr) hn (by omega) hv).mono ?_; rintro e w' ⟨rfl, q, rfl⟩)
    go_ret2
    exact ⟨rfl, _, rfl⟩

set_option maxHeartbeats 1000000 in
theorem cvb_some (A : Option Addr) (n c k s : Nat) (l : List Int) (w : World) (hr : Rd w A l) (hn : Hid (l.length = n)) (hnc : n ≤ c) (hc2 : c ≤ 9223372036854775807) (hv : Hid (rv l = some ((s : Int), k))) (hs : s ≤ n - k) :
    Calls Tryd.prog 39 #[.slice A n c] w fun e w' => (∃ A' c', e = .returned (.tuple #[.slice A' s c', .int .i64 ((k + s : Nat) : Int)]) ∧ Rd w' A' ((l.drop k).take s) ∧ s ≤ c' ∧ c' ≤ 9223372036854775807 ∧ (A' = none → c' = 0)) ∧ ∃ q, w' = w.drewN q := by
  have hb := rv_bd hr.1 hv.out
  have hn' := hn.out
  have hkn : k ≤ n := by omega
  obtain ⟨b, o, rfl, -⟩ := hr.2 (by omega)
  have hcut := (hr.cut_at (k := k) (cap := c) (by omega)).take s
  clear hn'
  by_cases hck : c = k
  · subst hck
    rw [if_pos rfl] at hcut
    go_enter Tryd.func39, Tryd.ntmps39
    go_wp2_with (go_at_call 38; refine (cv_some _ _ _ l _ (s : Nat) c (by exact hr) hn (by omega) hv).mono ?_; rintro e w' ⟨rfl, q, rfl⟩)
    go_ret2
    exact ⟨⟨_, _, ret2_r (by omega), hcut, by omega, by omega, fun h => by cases h⟩, _, rfl⟩
  · rw [if_neg hck] at hcut
    go_enter Tryd.func39, Tryd.ntmps39
    go_wp2_with (go_at_call 38; refine (cv_some _ _ _ l _ (s : Nat) k (by exact hr) hn (by omega) hv).mono ?_; rintro e w' ⟨rfl, q, rfl⟩)
    go_ret2
    exact ⟨⟨_, _, ret2_r (by omega), hcut, by omega, by omega, fun h => by cases h⟩, _, rfl⟩

/-- ConsumeVarintBytes, whatever the bytes. -/
theorem cvb (A : Option Addr) (n c : Nat) (l : List Int) (w : World) (hr : Rd w A l) (hn : Hid (l.length = n)) (hnc : n ≤ c) (hc2 : c ≤ 9223372036854775807) :
    Calls Tryd.prog 39 #[.slice A n c] w fun e w' => BytesEnd w' (rvb l) e ∧ ∃ q, w' = w.drewN q := by
  have hn' := hn.out
  cases hv : rv l with
  | none => exact (cvb_none A n c l w hr hn (by omega) hv).mono fun e w' ⟨he, hq⟩ => ⟨.inl ⟨rvb_none hv, he⟩, hq⟩
  | some p =>
    obtain ⟨v, k⟩ := p
    have hb := rv_bd hr.1 hv
    by_cases hs : ((l.length - k : Nat) : Int) < v
    · exact (cvb_short A n c k v l w hr hn hnc hc2 hv (by rw [← hn']; exact hs)).mono fun e w' ⟨he, hq⟩ => ⟨.inl ⟨rvb_short hv hs, he⟩, hq⟩
    · obtain ⟨s, rfl⟩ := Int.eq_ofNat_of_zero_le hb.1
      have hlen : ((l.drop k).take s).length = s := by rw [List.length_take, List.length_drop]; omega
      refine (cvb_some A n c k s l w hr hn hnc hc2 hv (by omega)).mono fun e w' ⟨⟨A', c', he, h1, h2, h3, h4⟩, hq⟩ => ⟨.inr ⟨(l.drop k).take s, k + s, A', c', ?_, by rw [hlen]; exact he, h1, by rw [hlen]; exact h2, h3, h4⟩, hq⟩
      rw [rvb_some hv hs]
      simp

end Go.Proofs.YtdjdcpcomhjnjaaDoor

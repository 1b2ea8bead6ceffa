/- Contracts of quicwire's bytes behind their length: ConsumeVarintBytes, ConsumeUint8Bytes, AppendVarintBytes, AppendUint8Bytes. Conditions: the slices read as bytes. -/
import Derived.Test.YtiehheijkabeeaaVarint
import Derived.Test.YtiehheijkabeeaaAv
namespace Go.Proofs.Ytiehheijkabeeaa
open Go.RowKit
set_option linter.unusedVariables false

/-- The bytes behind a variable-length integer, and how many bytes both have. -/
def rvb (l : List Int) : Option (List Int × Nat) :=
  match rv l with
  | none => none
  | some (v, k) => if ((l.length - k : Nat) : Int) < v then none else some ((l.drop k).take v.toNat, k + v.toNat)
/-- The bytes behind one byte's length, and how many bytes both have. -/
def r8b : List Int → Option (List Int × Nat)
  | [] => none
  | x :: r => if (r.length : Int) < x then none else some (r.take x.toNat, 1 + x.toNat)

theorem rvb_none {l : List Int} (h : rv l = none) : rvb l = none := by simp [rvb, h]
theorem rvb_short {l : List Int} {v : Int} {k : Nat} (h : rv l = some (v, k)) (hs : ((l.length - k : Nat) : Int) < v) : rvb l = none := by simp [rvb, h, hs]
theorem rvb_some {l : List Int} {v : Int} {k : Nat} (h : rv l = some (v, k)) (hs : ¬ ((l.length - k : Nat) : Int) < v) : rvb l = some ((l.drop k).take v.toNat, k + v.toNat) := by simp only [rvb, h, if_neg hs]

/-- What a reader of bytes returns. -/
def BytesEnd (w : World) (r : Option (List Int × Nat)) (e : Ending) : Prop :=
  (r = none ∧ e = .returned (.tuple #[.slice none 0 0, .int .i64 (-1)])) ∨
  ∃ bs t A c, r = some (bs, t) ∧ e = .returned (.tuple #[.slice A (List.length bs) c, .int .i64 (t : Nat)]) ∧ Rd w A bs ∧ bs.length ≤ c ∧ c ≤ 9223372036854775807 ∧ (A = none → c = 0)

theorem BytesEnd.none_ {w : World} {e : Ending} {r : Option (List Int × Nat)} (h : BytesEnd w r e) (hr : r = none) : e = .returned (.tuple #[.slice none 0 0, .int .i64 (-1)]) := by
  rcases h with ⟨_, h⟩ | ⟨bs, t, A, c, h, _⟩
  · exact h
  · rw [hr] at h; cases h
theorem BytesEnd.some_ {w : World} {e : Ending} {r : Option (List Int × Nat)} {bs : List Int} {t : Nat} (h : BytesEnd w r e) (hr : r = some (bs, t)) :
    ∃ A c, e = .returned (.tuple #[.slice A (List.length bs) c, .int .i64 (t : Nat)]) ∧ Rd w A bs ∧ bs.length ≤ c ∧ c ≤ 9223372036854775807 ∧ (A = none → c = 0) := by
  rcases h with ⟨h, _⟩ | ⟨bs', t', A, c, h, he, h2⟩
  · rw [hr] at h; cases h
  · rw [hr] at h
    obtain ⟨rfl, rfl⟩ : bs = bs' ∧ t = t' := by simpa using h
    exact ⟨A, c, he, h2⟩

theorem ret2_r {k : IntKind} {a b : Int} {y : Value} (h : a = b) : Ending.returned (.tuple #[y, .int k a]) = Ending.returned (.tuple #[y, .int k b]) := by rw [h]

set_option maxHeartbeats 1000000 in
theorem cvb_none (A : Option Addr) (n c : Nat) (l : List Int) (w : World) (hr : Rd w A l) (hn : Hid (l.length = n)) (hn2 : n ≤ 9223372036854775807) (hv : Hid (rv l = none)) :
    Calls Try.prog 47 #[.slice A n c] w fun e w' => e = .returned (.tuple #[.slice none 0 0, .int .i64 (-1)]) ∧ ∃ q, w' = w.drewN q := by
  go_enter Try.func47, Try.ntmps47
  go_wp2_with (go_at_call 41; refine (cv_none _ _ _ l _ (by exact hr) hn (by omega) hv).mono ?_; rintro e w' ⟨rfl, q, rfl⟩)
  go_ret2
  exact ⟨rfl, _, rfl⟩

set_option maxHeartbeats 1000000 in
theorem cvb_short (A : Option Addr) (n c k : Nat) (v : Int) (l : List Int) (w : World) (hr : Rd w A l) (hn : Hid (l.length = n)) (hnc : n ≤ c) (hc2 : c ≤ 9223372036854775807) (hv : Hid (rv l = some (v, k))) (hs : ((n - k : Nat) : Int) < v) :
    Calls Try.prog 47 #[.slice A n c] w fun e w' => e = .returned (.tuple #[.slice none 0 0, .int .i64 (-1)]) ∧ ∃ q, w' = w.drewN q := by
  have hb := rv_bd hr.1 hv.out
  have hn' := hn.out
  have hkn : k ≤ n := by omega
  obtain ⟨b, o, rfl, -⟩ := hr.2 (by omega)
  clear hn'
  by_cases hck : c = k
  · subst hck
    go_enter Try.func47, Try.ntmps47
    go_wp2_with (go_at_call 41; refine (cv_some _ _ _ l _ v c (by exact hr) hn (by omega) hv).mono ?_; rintro e w' ⟨rfl, q, rfl⟩)
    go_ret2
    exact ⟨rfl, _, rfl⟩
  · go_enter Try.func47, Try.ntmps47
    go_wp2_with (go_at_call 41; refine (cv_some _ _ _ l _ v k (by exact hr) hn (by omega) hv).mono ?_; rintro e w' ⟨rfl, q, rfl⟩)
    go_ret2
    exact ⟨rfl, _, rfl⟩

set_option maxHeartbeats 1000000 in
theorem cvb_some (A : Option Addr) (n c k s : Nat) (l : List Int) (w : World) (hr : Rd w A l) (hn : Hid (l.length = n)) (hnc : n ≤ c) (hc2 : c ≤ 9223372036854775807) (hv : Hid (rv l = some ((s : Int), k))) (hs : s ≤ n - k) :
    Calls Try.prog 47 #[.slice A n c] w fun e w' => (∃ A' c', e = .returned (.tuple #[.slice A' s c', .int .i64 ((k + s : Nat) : Int)]) ∧ Rd w' A' ((l.drop k).take s) ∧ s ≤ c' ∧ c' ≤ 9223372036854775807 ∧ (A' = none → c' = 0)) ∧ ∃ q, w' = w.drewN q := by
  have hb := rv_bd hr.1 hv.out
  have hn' := hn.out
  have hkn : k ≤ n := by omega
  obtain ⟨b, o, rfl, -⟩ := hr.2 (by omega)
  have hcut := (hr.cut_at (k := k) (cap := c) (by omega)).take s
  clear hn'
  by_cases hck : c = k
  · subst hck
    rw [if_pos rfl] at hcut
    go_enter Try.func47, Try.ntmps47
    go_wp2_with (go_at_call 41; refine (cv_some _ _ _ l _ (s : Nat) c (by exact hr) hn (by omega) hv).mono ?_; rintro e w' ⟨rfl, q, rfl⟩)
    go_ret2
    exact ⟨⟨_, _, ret2_r (by omega), hcut, by omega, by omega, fun h => by cases h⟩, _, rfl⟩
  · rw [if_neg hck] at hcut
    go_enter Try.func47, Try.ntmps47
    go_wp2_with (go_at_call 41; refine (cv_some _ _ _ l _ (s : Nat) k (by exact hr) hn (by omega) hv).mono ?_; rintro e w' ⟨rfl, q, rfl⟩)
    go_ret2
    exact ⟨⟨_, _, ret2_r (by omega), hcut, by omega, by omega, fun h => by cases h⟩, _, rfl⟩

/-- ConsumeVarintBytes, whatever the bytes. -/
theorem cvb (A : Option Addr) (n c : Nat) (l : List Int) (w : World) (hr : Rd w A l) (hn : Hid (l.length = n)) (hnc : n ≤ c) (hc2 : c ≤ 9223372036854775807) :
    Calls Try.prog 47 #[.slice A n c] w fun e w' => BytesEnd w' (rvb l) e ∧ ∃ q, w' = w.drewN q := by
  have hn' := hn.out
  cases hv : rv l with
  | none => exact (cvb_none A n c l w hr hn (by omega) hv).mono fun e w' ⟨he, hq⟩ => ⟨.inl ⟨rvb_none hv, he⟩, hq⟩
  | some p =>
    obtain ⟨v, k⟩ := p
    have hb := rv_bd hr.1 hv
    by_cases hs : ((l.length - k : Nat) : Int) < v
    · exact (cvb_short A n c k v l w hr hn hnc hc2 hv (by rw [← hn']; exact hs)).mono fun e w' ⟨he, hq⟩ => ⟨.inl ⟨rvb_short hv hs, he⟩, hq⟩
    · obtain ⟨s, rfl⟩ := Int.eq_ofNat_of_zero_le hb.1
      have hlen : ((l.drop k).take s).length = s := by rw [List.length_take, List.length_drop]; omega
      refine (cvb_some A n c k s l w hr hn hnc hc2 hv (by omega)).mono fun e w' ⟨⟨A', c', he, h1, h2, h3, h4⟩, hq⟩ => ⟨.inr ⟨(l.drop k).take s, k + s, A', c', ?_, by rw [hlen]; exact he, h1, by rw [hlen]; exact h2, h3, h4⟩, hq⟩
      rw [rvb_some hv hs]
      simp

set_option maxHeartbeats 1000000 in
theorem c8b_nil (A : Option Addr) (c : Nat) (w : World) :
    Calls Try.prog 48 #[.slice A 0 c] w fun e w' => e = .returned (.tuple #[.slice none 0 0, .int .i64 (-1)]) ∧ w = w' := by
  go_enter Try.func48, Try.ntmps48
  go_wp2
  go_ret2
  exact ⟨rfl, rfl⟩

set_option maxHeartbeats 1000000 in
theorem c8b_short (b o n c : Nat) (x : Int) (w : World) (hn : 1 ≤ n) (hnc : n ≤ c) (hc2 : c ≤ 9223372036854775807) (hx : 0 ≤ x ∧ x ≤ 255) (hs : ((n - 1 : Nat) : Int) < x) (c0 : w.cell? ⟨b, o, none⟩ = some (.int .u8 x)) :
    Calls Try.prog 48 #[.slice (some ⟨b, o, none⟩) n c] w fun e w' => e = .returned (.tuple #[.slice none 0 0, .int .i64 (-1)]) ∧ w = w' := by
  by_cases hck : c = 1
  · subst hck
    go_enter Try.func48, Try.ntmps48
    go_wp2
    go_ret2
    exact ⟨rfl, rfl⟩
  · go_enter Try.func48, Try.ntmps48
    go_wp2
    go_ret2
    exact ⟨rfl, rfl⟩

set_option maxHeartbeats 1000000 in
theorem c8b_some (b o n c s : Nat) (l : List Int) (w : World) (hr : Rd w (some ⟨b, o, none⟩) l) (hn : Hid (l.length = n)) (h1 : 1 ≤ n) (hnc : n ≤ c) (hc2 : c ≤ 9223372036854775807) (hx : s ≤ 255) (hs : s ≤ n - 1) (c0 : w.cell? ⟨b, o, none⟩ = some (.int .u8 (s : Nat))) :
    Calls Try.prog 48 #[.slice (some ⟨b, o, none⟩) n c] w fun e w' => (∃ A' c', e = .returned (.tuple #[.slice A' s c', .int .i64 ((1 + s : Nat) : Int)]) ∧ Rd w' A' ((l.drop 1).take s) ∧ s ≤ c' ∧ c' ≤ 9223372036854775807 ∧ (A' = none → c' = 0)) ∧ w = w' := by
  have hn' := hn.out
  have hcut := (hr.cut_at (k := 1) (cap := c) (by omega)).take s
  clear hn'
  by_cases hck : c = 1
  · subst hck
    rw [if_pos rfl] at hcut
    go_enter Try.func48, Try.ntmps48
    go_wp2
    go_ret2
    exact ⟨⟨_, _, ret2_r (by omega), hcut, by omega, by omega, fun h => by cases h⟩, rfl⟩
  · rw [if_neg hck] at hcut
    go_enter Try.func48, Try.ntmps48
    go_wp2
    go_ret2
    exact ⟨⟨_, _, ret2_r (by omega), hcut, by omega, by omega, fun h => by cases h⟩, rfl⟩

/-- ConsumeUint8Bytes, whatever the bytes. -/
theorem c8b (A : Option Addr) (n c : Nat) (l : List Int) (w : World) (hr : Rd w A l) (hn : Hid (l.length = n)) (hnc : n ≤ c) (hc2 : c ≤ 9223372036854775807) :
    Calls Try.prog 48 #[.slice A n c] w fun e w' => BytesEnd w' (r8b l) e ∧ w = w' := by
  have hn' := hn.out
  cases l with
  | nil => simp at hn'; subst hn'; exact (c8b_nil A c w).mono fun e w' ⟨he, hw⟩ => ⟨.inl ⟨rfl, he⟩, hw⟩
  | cons x r =>
    obtain ⟨b, o, rfl, hc⟩ := hr.2 (by simp)
    have hx := hr.1.head
    have c0 : w.cell? ⟨b, o, none⟩ = some (.int .u8 x) := by simpa using hc 0 (by simp)
    have hlen : r.length + 1 = n := by simpa using hn'
    by_cases hs : (r.length : Int) < x
    · exact (c8b_short b o n c x w (by omega) hnc hc2 hx (by omega) c0).mono fun e w' ⟨he, hw⟩ => ⟨.inl ⟨by simp [r8b, hs], he⟩, hw⟩
    · obtain ⟨s, rfl⟩ := Int.eq_ofNat_of_zero_le hx.1
      have hl : (r.take s).length = s := by rw [List.length_take]; omega
      refine (c8b_some b o n c s _ w hr hn (by omega) hnc hc2 (by omega) (by omega) c0).mono fun e w' ⟨⟨A', c', he, h1, h2, h3, h4⟩, hw⟩ => ⟨.inr ⟨r.take s, 1 + s, A', c', ?_, by rw [hl]; exact he, h1, by rw [hl]; exact h2, h3, h4⟩, hw⟩
      simp only [r8b, if_neg hs]
      simp

set_option maxHeartbeats 1000000 in
/-- AppendVarintBytes onto bytes of the call's own. -/
theorem avb (B : Nat) (s : Value) (l : List Int) (A : Option Addr) (n c : Nat) (d : List Int) (w : World) (hown : Own B w s l) (hB : B ≤ w.heap.size) (hlen : l.length ≤ 1000000000000) (hr : Rd w A d) (hn : Hid (d.length = n)) (hz : Hid (A = none → c = 0)) (hsep : Hid (0 < d.length → Sep A s.ownBlock)) (hb : n ≤ 1000000000000) :
    Calls Try.prog 49 #[s, .slice A n c] w fun e w' => AppEnd B w s (l ++ enc n ++ d) e w' := by
  have he := enc_length n
  have h8 := esz_bd n
  go_enter Try.func49, Try.ntmps49
  go_wp2_with fail
  refine (av B s l n _ hown hB (by omega) (by omega) (by omega)).mono ?_
  rintro e w1 ⟨s1, rfl, ho1, hg1, ha1, hb1, hn1⟩
  have hr1 := hr.grown hg1 hsep.out
  have HO := Lib.hid ho1
  have HA := Lib.hid ha1
  have HN := Lib.hid hn1
  clear hr hown ho1 ha1 hn1 hsep
  go_wp2_with (at_builtin; refine wpList_app B _ rfl _ _ rfl s1 _ rfl HO.out A n c d rfl hn.out (by exact hr1) hz.out (by have := hn.out; simp; omega) (Nat.le_trans hB hb1.size) ?_; intro s2 w2 ho2 hg2 ha2 hb2 hn2)
  go_ret
  exact AppEnd.mk' hg1 HA.out hb1 HN.out ho2 hg2 (ha2.imp id fun h => ⟨_, h, Nat.le_refl _⟩) hb2 (fun h => (hn2.1 h).1)

set_option maxHeartbeats 1000000 in
/-- AppendUint8Bytes onto bytes of the call's own. -/
theorem a8b (B : Nat) (s : Value) (l : List Int) (A : Option Addr) (n c : Nat) (d : List Int) (w : World) (hown : Own B w s l) (hB : B ≤ w.heap.size) (hlen : l.length ≤ 1000000000000) (hr : Rd w A d) (hn : Hid (d.length = n)) (hz : Hid (A = none → c = 0)) (hsep : Hid (0 < d.length → Sep A s.ownBlock)) (hb : n ≤ 255) :
    Calls Try.prog 50 #[s, .slice A n c] w fun e w' => AppEnd B w s (l ++ [(n : Int)] ++ d) e w' := by
  have hrd := Rd.new w [(n : Int)] (Bs.cons (by omega) Bs.nil) 5
  have HR := Lib.hid hrd
  have HO0 := Lib.hid hown
  have hra := hr.alloc (.cells #[.int .u8 (n : Int)] 5)
  clear hrd hown hr
  have hg0 : ∀ {w1 : World} {row}, (w.alloc (.cells #[.int .u8 (n : Int)] 5)).grownBy w1 row → w.grownBy w1 row := fun h => grownBy_alloc_left h
  clear hg0
  go_enter Try.func50, Try.ntmps50
  go_wp2_with (first
    | (at_builtin; refine wpList_app B _ rfl (.tmp 9) (.tmp 13) rfl s l rfl (HO0.out.alloc _) (some ⟨w.heap.size, 0, none⟩) 1 1 [(n : Int)] rfl rfl (by exact HR.out) (by simp) (by omega) (by simp; omega) ?_; intro s1 w1 ho1 hg1 ha1 hb1 hn1; have HA := Lib.hid ha1; have HN := Lib.hid hn1; have HO := Lib.hid ho1; clear ha1 hn1 ho1)
    | (at_builtin; refine wpList_app B _ rfl (.tmp 15) (.tmp 16) rfl s1 _ rfl HO.out A n c d rfl hn.out (by exact hra.grown hg1 hsep.out) hz.out (by have := hn.out; simp; omega) (by have := hb1.size; simp at this; omega) ?_; intro s2 w2 ho2 hg2 ha2 hb2 hn2))
  go_ret
  have hbel : Below B w w1 := ((Below.refl _ _).alloc hB _).trans hb1
  exact AppEnd.mk' (grownBy_alloc_left hg1) (HA.out.imp id fun h => ⟨_, h, by simp⟩) hbel (fun h => (HN.out.1 h).1) ho2 hg2 (ha2.imp id fun h => ⟨_, h, Nat.le_refl _⟩) hb2 (fun h => (hn2.1 h).1)

end Go.Proofs.Ytiehheijkabeeaa

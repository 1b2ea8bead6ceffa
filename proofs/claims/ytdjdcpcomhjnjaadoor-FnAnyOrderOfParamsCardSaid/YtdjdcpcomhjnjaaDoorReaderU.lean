/- Contracts of the reference's reader, whether what is to be read is there or not. Conditions: the reader's bytes read as a list; they are not nil. -/
import Derived.Test.YtdjdcpcomhjnjaaDoorReader
import Derived.Test.YtdjdcpcomhjnjaaDoorCvb
namespace Go.Proofs.YtdjdcpcomhjnjaaDoor
open Go.RowKit
set_option linter.unusedVariables false

/-- What reading a number makes of the place k. -/
def NumSt (l : List Int) (k : Nat) (bad : Bool) (v : Int) (k1 : Nat) (bad1 : Bool) : Prop :=
  k ≤ k1 ∧ k1 ≤ l.length ∧ 0 ≤ v ∧ v < 4611686018427387904 ∧ ((bad1 = false ∧ bad = false ∧ rv (l.drop k) = some (v, k1 - k)) ∨ (bad1 = true ∧ v = 0 ∧ (bad = true ∨ rv (l.drop k) = none)))

/-- What reading so many bytes makes of the place k. -/
def BytSt (l : List Int) (k : Nat) (bad : Bool) (s : Int) (k1 : Nat) (bad1 : Bool) : Prop :=
  k ≤ k1 ∧ k1 ≤ l.length ∧ ((bad1 = false ∧ bad = false ∧ s ≤ ((l.length - k : Nat) : Int) ∧ k1 = k + s.toNat) ∨ (bad1 = true ∧ (bad = true ∨ ((l.length - k : Nat) : Int) < s)))

theorem num_u (b o n c k g : Nat) (l : List Int) (bad : Bool) (w : World) (hr : Rd w (some ⟨b, o, none⟩) l) (hn : Hid (l.length = n)) (hnc : n ≤ c) (hc2 : c ≤ 9223372036854775807) (hk : k ≤ n) (hrd : Hid (Rdr w g (some ⟨b, o, none⟩) n c k bad)) :
    Calls Tryd.prog 16 #[.pointer (some ⟨g, 0, none⟩)] w fun e w' => ∃ v k1 bad1, e = .returned (.int .i64 v) ∧ NumSt l k bad v k1 bad1 ∧ Rdr w' g (some ⟨b, o, none⟩) n c k1 bad1 ∧ w.grownBy w' (some g) := by
  have hn' := hn.out
  have done : ∀ h : bad = true ∨ rv (l.drop k) = none, Calls Tryd.prog 16 #[.pointer (some ⟨g, 0, none⟩)] w fun e w' => ∃ v k1 bad1, e = .returned (.int .i64 v) ∧ NumSt l k bad v k1 bad1 ∧ Rdr w' g (some ⟨b, o, none⟩) n c k1 bad1 ∧ w.grownBy w' (some g) := fun h =>
    (num_bad b o n c k g l bad w hr hn hnc hc2 hk hrd h).mono fun e w' ⟨he, h1, h2⟩ => ⟨0, k, true, he, ⟨Nat.le_refl _, by omega, by omega, by omega, .inr ⟨rfl, rfl, h⟩⟩, h1, h2⟩
  cases bad
  · cases hv : rv (l.drop k) with
    | none => exact done (.inr hv)
    | some p =>
      obtain ⟨v, m⟩ := p
      have hb := rv_bd (hr.1.drop k) hv
      have h4 := hb.2.2.2.2
      rw [List.length_drop] at h4
      refine (num_ok b o n c k g l v m w hr hn hnc hc2 hk hrd hv).mono fun e w' ⟨he, h1, h2⟩ => ⟨v, k + m, false, he, ⟨by omega, by omega, hb.1, by omega, .inl ⟨rfl, rfl, ?_⟩⟩, h1, h2⟩
      rw [hv]
      congr 2
      omega
  · exact done (.inl rfl)

theorem byt_u (b o n c k g : Nat) (s : Int) (l : List Int) (bad : Bool) (w : World) (hr : Rd w (some ⟨b, o, none⟩) l) (hn : Hid (l.length = n)) (hnc : n ≤ c) (hc2 : c ≤ 9223372036854775807) (hk : k ≤ n) (hs : 0 ≤ s) (hrd : Hid (Rdr w g (some ⟨b, o, none⟩) n c k bad)) (hbg : Hid (b ≠ g)) :
    Calls Tryd.prog 17 #[.pointer (some ⟨g, 0, none⟩), .int .i64 s] w fun e w' => ∃ A' m' c' k1 bad1, e = .returned (.slice A' m' c') ∧ BytSt l k bad s k1 bad1 ∧ (bad1 = false → m' = s.toNat ∧ Rd w' A' ((l.drop k).take s.toNat) ∧ m' ≤ c' ∧ c' ≤ 9223372036854775807 ∧ (∃ a, A' = some a ∧ a.block = b)) ∧ Rdr w' g (some ⟨b, o, none⟩) n c k1 bad1 ∧ w.grownBy w' (some g) := by
  have hn' := hn.out
  have done : ∀ h : bad = true ∨ ((n - k : Nat) : Int) < s, Calls Tryd.prog 17 #[.pointer (some ⟨g, 0, none⟩), .int .i64 s] w fun e w' => ∃ A' m' c' k1 bad1, e = .returned (.slice A' m' c') ∧ BytSt l k bad s k1 bad1 ∧ (bad1 = false → m' = s.toNat ∧ Rd w' A' ((l.drop k).take s.toNat) ∧ m' ≤ c' ∧ c' ≤ 9223372036854775807 ∧ (∃ a, A' = some a ∧ a.block = b)) ∧ Rdr w' g (some ⟨b, o, none⟩) n c k1 bad1 ∧ w.grownBy w' (some g) := fun h =>
    (byt_bad b o n c k g bad s w hk (by omega) h hrd).mono fun e w' ⟨he, h1, h2⟩ => ⟨none, 0, 0, k, true, he, ⟨Nat.le_refl _, by omega, .inr ⟨rfl, by rw [hn']; exact h⟩⟩, (fun h => by cases h), h1, h2⟩
  cases bad
  · by_cases h : ((n - k : Nat) : Int) < s
    · exact done (.inr h)
    · obtain ⟨m, rfl⟩ := Int.eq_ofNat_of_zero_le hs
      refine (byt_ok b o n c k g m l w hr hn hnc hc2 (by omega) hrd hbg).mono fun e w' ⟨⟨A', c', he, h1, h2, h3, h4⟩, h5, h6⟩ => ⟨A', m, c', k + m, false, he, ⟨by omega, by omega, .inl ⟨rfl, rfl, by omega, by simp⟩⟩, fun _ => ⟨by simp, h1, h2, h3, h4⟩, h5, h6⟩
  · exact done (.inl rfl)

theorem rvb_bd {l : List Int} (hb : Bs l) {bs : List Int} {t : Nat} (h : rvb l = some (bs, t)) : bs.length ≤ t ∧ 1 ≤ t ∧ t ≤ l.length ∧ Bs bs := by
  cases hv : rv l with
  | none => rw [rvb_none hv] at h; cases h
  | some p =>
    obtain ⟨v, k⟩ := p
    have hd := rv_bd hb hv
    by_cases hs : ((l.length - k : Nat) : Int) < v
    · rw [rvb_short hv hs] at h; cases h
    · rw [rvb_some hv hs] at h
      simp only [Option.some.injEq, Prod.mk.injEq] at h
      obtain ⟨rfl, rfl⟩ := h
      refine ⟨?_, by omega, by omega, (hb.drop k).take _⟩
      rw [List.length_take, List.length_drop]
      omega

/-- Both: bytes behind their length. -/
theorem nb_st {l : List Int} {k : Nat} {bad : Bool} {v : Int} {k1 : Nat} {bad1 : Bool} {k2 : Nat} {bad2 : Bool} (h1 : NumSt l k bad v k1 bad1) (h2 : BytSt l k1 bad1 v k2 bad2) :
    k ≤ k2 ∧ k2 ≤ l.length ∧ ((bad2 = false ∧ bad = false ∧ ∃ bs, rvb (l.drop k) = some (bs, k2 - k)) ∨ (bad2 = true ∧ (bad = true ∨ rvb (l.drop k) = none))) := by
  obtain ⟨a1, a2, a3, a4, a5⟩ := h1
  obtain ⟨b1, b2, b5⟩ := h2
  refine ⟨by omega, b2, ?_⟩
  rcases a5 with ⟨rfl, rfl, hv⟩ | ⟨rfl, _, h⟩
  · rcases b5 with ⟨rfl, _, hs, hk⟩ | ⟨rfl, h⟩
    · refine .inl ⟨rfl, rfl, ((l.drop k).drop (k1 - k)).take v.toNat, (rvb_some hv ?_).trans ?_⟩
      · rw [List.length_drop]; omega
      · congr 2; omega
    · rcases h with h | h
      · cases h
      · exact .inr ⟨rfl, .inr (rvb_short hv (by rw [List.length_drop]; omega))⟩
  · rcases b5 with ⟨_, h', _⟩ | ⟨rfl, _⟩
    · cases h'
    · refine .inr ⟨rfl, ?_⟩
      rcases h with h | h
      · exact .inl h
      · exact .inr (rvb_none h)

end Go.Proofs.YtdjdcpcomhjnjaaDoor

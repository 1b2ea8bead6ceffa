/- Contracts of ConsumeVarint, ConsumeVarintInt64, ConsumeVarintBytes at a place of a frame's bytes. Conditions: the slice reads as bytes. -/
import Derived.Test.YtggcnepdeaijoaaFrP
import Derived.Test.YtggcnepdeaijoaaReaderU
namespace Go.Proofs.Ytggcnepdeaijoaa
open Go.RowKit
set_option linter.unusedVariables false

theorem cut_ad {w : World} {b o n c : Nat} {l : List Int} (hr : Rd w (some ⟨b, o, none⟩) l) (hn : Hid (l.length = n)) (hnc : n ≤ c) (k : Nat) :
    ∃ A, (if c = k then (some ⟨b, o, none⟩ : Option Addr) else some ⟨b, o + k, none⟩) = A ∧ Hid (Rd w A (l.drop k)) ∧ (∃ a, A = some a) :=
  ⟨_, rfl, hr.cut_at (by rw [hn.out]; exact hnc), by split <;> exact ⟨_, rfl⟩⟩

/-- What reading a number at place k answers. -/
def CvEnd (kd : IntKind) (l : List Int) (k : Nat) (e : Ending) : Prop :=
  (nm l k = none ∧ e = .returned (.tuple #[.int kd 0, .int .i64 (-1)])) ∨
  ∃ v k' m, nm l k = some (v, k') ∧ e = .returned (.tuple #[.int kd v, .int .i64 ((m : Nat) : Int)]) ∧ (k : Int) + (m : Int) = (k' : Int) ∧ k + 1 ≤ k' ∧ k' ≤ l.length ∧ 0 ≤ v ∧ v ≤ 4611686018427387903
theorem CvEnd.of {kd : IntKind} {l : List Int} {k : Nat} {e : Ending} (hb : Bs l) (h : RvEnd kd (l.drop k) e) : CvEnd kd l k e := by
  rcases h with ⟨h, rfl⟩ | ⟨v, m, h, rfl⟩
  · exact .inl ⟨nm_none h, rfl⟩
  · have hv := nm_some h
    have := nm_bd hb hv
    exact .inr ⟨v, k + m, m, hv, rfl, by omega, by omega, by omega, by omega, by omega⟩
theorem cvn (A : Option Addr) (N C k : Nat) (l : List Int) (w : World) (hr : Rd w A (l.drop k)) (hb : Hid (Bs l)) (hN : Hid ((l.drop k).length = N)) (hn2 : N ≤ 9223372036854775807) :
    Calls Try.prog 57 #[.slice A N C] w fun e w' => CvEnd .u64 l k e ∧ ∃ q, w' = w.drewN q :=
  (cv A N C (l.drop k) w hr hN.out hn2).mono fun _ _ ⟨h, hq⟩ => ⟨CvEnd.of hb.out h, hq⟩

set_option maxHeartbeats 1000000 in
theorem cvi (A : Option Addr) (N C k : Nat) (l : List Int) (w : World) (hr : Rd w A (l.drop k)) (hb : Hid (Bs l)) (hN : Hid ((l.drop k).length = N)) (hn2 : N ≤ 9223372036854775807) :
    Calls Try.prog 59 #[.slice A N C] w fun e w' => CvEnd .i64 l k e ∧ ∃ q, w' = w.drewN q := by
  have HR := Lib.hid hr
  clear hr
  go_enter Try.func59, Try.ntmps59
  go_wp2_with fail
  refine (cvn A N C k l w HR.out hb hN hn2).mono ?_
  rintro e w1 ⟨he, q, rfl⟩
  rcases he with ⟨hv, rfl⟩ | ⟨v, k', m, hv, rfl, h1, h2, h3, h4, h5⟩
  · have HV := Lib.hid hv
    clear hv
    go_wp2_with fail
    go_ret2
    exact ⟨.inl ⟨HV.out, rfl⟩, _, rfl⟩
  · have HV := Lib.hid hv
    have H1 := Lib.hid h1
    clear hv h1
    go_wp2_with fail
    go_ret2
    exact ⟨.inr ⟨v, k', m, HV.out, rfl, H1.out, h2, h3, h4, h5⟩, _, rfl⟩

/-- What reading bytes behind their length at place k answers. -/
def CbEnd (w : World) (l : List Int) (k : Nat) (e : Ending) : Prop :=
  (vbs l k = none ∧ e = .returned (.tuple #[.slice none 0 0, .int .i64 (-1)])) ∨
  ∃ bs k' m s A c, vbs l k = some (bs, k') ∧ e = .returned (.tuple #[.slice A s c, .int .i64 ((m : Nat) : Int)]) ∧ (k : Int) + (m : Int) = (k' : Int) ∧ k + 1 ≤ k' ∧ k' ≤ l.length ∧ Hid (bs.length = s) ∧ Hid (Rd w A bs) ∧ s ≤ c ∧ c ≤ 9223372036854775807 ∧ Hid (A = none → c = 0) ∧ s + k ≤ l.length
theorem cbn (A : Option Addr) (N C k : Nat) (l : List Int) (w : World) (hr : Rd w A (l.drop k)) (hb : Hid (Bs l)) (hN : Hid ((l.drop k).length = N)) (hNC : N ≤ C) (hC : C ≤ 9223372036854775807) :
    Calls Try.prog 58 #[.slice A N C] w fun e w' => CbEnd w' l k e ∧ ∃ q, w' = w.drewN q :=
  (cvb A N C (l.drop k) w hr hN hNC hC).mono fun e w' ⟨h, hq⟩ => by
    refine ⟨?_, hq⟩
    rcases h with ⟨h, rfl⟩ | ⟨bs, t, A', c', h, rfl, h1, h2, h3, h4⟩
    · exact .inl ⟨vbs_none h, rfl⟩
    · have := rvb_bd (hb.out.drop k) h
      rw [List.length_drop] at this
      exact .inr ⟨bs, k + t, t, bs.length, A', c', vbs_some h, rfl, by omega, by omega, by omega, rfl, h1, h2, h3, h4, by omega⟩

end Go.Proofs.Ytggcnepdeaijoaa

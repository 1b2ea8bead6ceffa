/- Contract of rangeset's sub. Conditions: the set's slice was made by the call itself; its ranges are in order. -/
import Derived.Test.YtdogepkfgobcfaaRangeAdd
namespace Go.Proofs.Ytdogepkfgobcfaa
open Go.RowKit
set_option linter.unusedVariables false

/-- Where the ranges to remove begin and end, as sub keeps it. -/
def Marks (rf rt : Int) (P X : Rgs) : Prop := (X = [] ∧ rf = -1 ∧ rt = -1) ∨ (X ≠ [] ∧ rf = (P.length : Nat) ∧ rt = ((P.length + X.length : Nat) : Int))

/-- What holds in sub's loop. -/
def SubRel (B p g cap : Nat) (s e : Int) (l : Rgs) (w wr : World) (i : Nat) (rf rt : Int) : Prop :=
  ∃ L P X Y, SubInv s e l i L P X Y ∧ Marks rf rt P X ∧ RS B wr p (some ⟨g, 0, none⟩) cap L ∧ Below B w wr

theorem SubRel.bd {B p g cap : Nat} {s e : Int} {l : Rgs} {w wr : World} {i : Nat} {rf rt : Int} (h : SubRel B p g cap s e l w wr i rf rt) : (rf = -1 ∧ rt = -1) ∨ ∃ a b : Nat, rf = (a : Int) ∧ rt = (b : Int) ∧ a < b ∧ b ≤ i := by
  obtain ⟨L, P, X, Y, ⟨h1, h2, _⟩, hm, _⟩ := h
  rcases hm with ⟨_, h3, h4⟩ | ⟨hx, h3, h4⟩
  · exact .inl ⟨h3, h4⟩
  · have : 0 < X.length := by cases X with | nil => exact absurd rfl hx | cons _ _ => simp
    exact .inr ⟨_, _, h3, h4, by omega, by omega⟩

theorem SubRel.bd2 {B p g cap : Nat} {s e : Int} {l : Rgs} {w wr : World} {i : Nat} {rf rt : Int} (h : SubRel B p g cap s e l w wr i rf rt) : -1 ≤ rf ∧ rf ≤ i := by
  rcases h.bd with h | ⟨a, b, h1, h2, h3, h4⟩ <;> omega

theorem SubRel.len {B p g cap : Nat} {s e : Int} {l : Rgs} {w wr : World} {i : Nat} {rf rt : Int} (h : SubRel B p g cap s e l w wr i rf rt) (hi : i ≤ l.length) : wr.cell? ⟨p, 0, none⟩ = some (.slice (some ⟨g, 0, none⟩) l.length cap) := by
  obtain ⟨L, P, X, Y, h1, hm, h2, _⟩ := h
  have := h2.cell
  rw [h1.len hi] at this
  exact this
theorem SubRel.cells {B p g cap : Nat} {s e : Int} {l : Rgs} {w wr : World} {i : Nat} {rf rt : Int} (h : SubRel B p g cap s e l w wr i rf rt) (hi : i < l.length) : wr.cell? ⟨g, i * 2, none⟩ = some (.int .i64 l[i].1) ∧ wr.cell? ⟨g, i * 2 + 1, none⟩ = some (.int .i64 l[i].2) ∧ (∀ j, wr.frozen? ⟨g, j, none⟩ = false) ∧ B ≤ g ∧ B ≤ wr.heap.size := by
  obtain ⟨L, P, X, Y, h1, hm, h2, _⟩ := h
  have hg := h1.at hi
  obtain ⟨hl, he⟩ := List.getElem?_eq_some_iff.1 hg
  have a := h2.at0 hl
  have b := h2.at1 hl
  rw [he] at a b
  exact ⟨a, b, h2.gfree, h2.gB, h2.base⟩

section
variable {B p g cap : Nat} {s e : Int} {l : Rgs} {w wr : World} {i : Nat} {rf rt : Int}
theorem SubRel.skip (h : SubRel B p g cap s e l w wr i rf rt) (hi : i < l.length) (hse : s < e) (h1 : ¬ e < l[i].1) (h2 : l[i].2 < s) (nq : Nat) : SubRel B p g cap s e l w (wr.drewN nq) (i + 1) rf rt := by
  obtain ⟨L, P, X, Y, a1, a2, a3, a4⟩ := h
  obtain ⟨b1, rfl, rfl⟩ := a1.skip hi hse h1 h2
  refine ⟨_, _, _, _, b1, ?_, a3.drewN nq, below_drewN a4 nq⟩
  rcases a2 with a2 | a2
  · exact .inl a2
  · exact absurd rfl a2.1
theorem SubRel.whole (h : SubRel B p g cap s e l w wr i rf rt) (hi : i < l.length) (hse : s < e) (h1 : ¬ e < l[i].1) (h2 : ¬ l[i].2 < s) (h3 : s ≤ l[i].1) (h4 : l[i].2 ≤ e) (nq : Nat) : SubRel B p g cap s e l w (wr.drewN nq) (i + 1) (if rf = -1 then (i : Int) else rf) ((i : Int) + 1) := by
  obtain ⟨L, P, X, Y, a1, a2, a3, a4⟩ := h
  obtain ⟨b1, rfl⟩ := a1.whole hi hse h1 h2 h3 h4
  refine ⟨_, _, _, _, b1, ?_, a3.drewN nq, below_drewN a4 nq⟩
  have hl := a1.2.1
  simp only [List.length_nil, Nat.add_zero] at hl
  refine .inr ⟨by simp, ?_, by simp only [List.length_append, List.length_cons, List.length_nil]; omega⟩
  rcases a2 with ⟨rfl, rfl, _⟩ | ⟨_, rfl, _⟩
  · rw [if_pos rfl]
    simp only [List.length_nil, Nat.add_zero] at hl
    omega
  · rw [if_neg (by omega)]
theorem SubRel.head (h : SubRel B p g cap s e l w wr i rf rt) (hi : i < l.length) (hse : s < e) (h1 : ¬ e < l[i].1) (h2 : ¬ l[i].2 < s) (h3 : s ≤ l[i].1) (h4 : ¬ l[i].2 ≤ e) (nq : Nat) : SubRel B p g cap s e l w ((wr.drewN nq).setCell ⟨g, i * 2, none⟩ (.int .i64 e)) (i + 1) rf rt := by
  obtain ⟨L, P, X, Y, a1, a2, a3, a4⟩ := h
  have b1 := a1.head hi hse h1 h2 h3 h4
  obtain ⟨hl, he⟩ := List.getElem?_eq_some_iff.1 (a1.at hi)
  have h5 := (a3.drewN nq).set0 hl e
  rw [he] at h5
  exact ⟨_, _, _, _, b1, a2, h5, Below.set_ (below_drewN a4 nq) (a3.drewN nq).base _ _ _ a3.gB⟩
theorem SubRel.tail (h : SubRel B p g cap s e l w wr i rf rt) (hi : i < l.length) (hse : s < e) (h1 : ¬ e < l[i].1) (h2 : ¬ l[i].2 < s) (h3 : ¬ s ≤ l[i].1) (h4 : l[i].2 ≤ e) (nq : Nat) : SubRel B p g cap s e l w ((wr.drewN nq).setCell ⟨g, i * 2 + 1, none⟩ (.int .i64 s)) (i + 1) rf rt := by
  obtain ⟨L, P, X, Y, a1, a2, a3, a4⟩ := h
  obtain ⟨b1, rfl, rfl⟩ := a1.tail hi hse h1 h2 h3 h4
  obtain ⟨hl, he⟩ := List.getElem?_eq_some_iff.1 (a1.at hi)
  have h5 := (a3.drewN nq).set1 hl s
  rw [he] at h5
  refine ⟨_, _, _, _, b1, ?_, h5, Below.set_ (below_drewN a4 nq) (a3.drewN nq).base _ _ _ a3.gB⟩
  rcases a2 with a2 | a2
  · exact .inl ⟨rfl, a2.2⟩
  · exact absurd rfl a2.1
theorem SubRel.mid (h : SubRel B p g cap s e l w wr i rf rt) (hi : i < l.length) (hse : s < e) (h1 : ¬ e < l[i].1) (h2 : ¬ l[i].2 < s) (h3 : ¬ s ≤ l[i].1) (h4 : ¬ l[i].2 ≤ e) (nq : Nat) :
    ∃ L, L.length = l.length ∧ RS B ((wr.drewN nq).setCell ⟨g, i * 2 + 1, none⟩ (.int .i64 s)) p (some ⟨g, 0, none⟩) cap L ∧ Below B w ((wr.drewN nq).setCell ⟨g, i * 2 + 1, none⟩ (.int .i64 s)) ∧ L.take (i + 1) ++ [(e, l[i].2)] ++ L.drop (i + 1) = subP s e l := by
  obtain ⟨L, P, X, Y, a1, a2, a3, a4⟩ := h
  obtain ⟨hl, he⟩ := List.getElem?_eq_some_iff.1 (a1.at hi)
  have h5 := (a3.drewN nq).set1 hl s
  rw [he] at h5
  exact ⟨_, by rw [List.length_set]; exact a1.len (Nat.le_of_lt hi), h5, Below.set_ (below_drewN a4 nq) (a3.drewN nq).base _ _ _ a3.gB, (a1.mid hi hse h1 h2 h3 h4).symm⟩
/-- The loop is over: what is left to do. -/
theorem SubRel.done (h : SubRel B p g cap s e l w wr i rf rt) (hi : i ≤ l.length) (hs : ∀ hi : i < l.length, e < l[i].1) :
    (rf = -1 ∧ RS B wr p (some ⟨g, 0, none⟩) cap (subP s e l) ∧ Below B w wr) ∨ ∃ (L : Rgs) (a b : Nat), L.length = l.length ∧ rf = (a : Int) ∧ rt = (b : Int) ∧ a ≤ b ∧ b ≤ l.length ∧ RS B wr p (some ⟨g, 0, none⟩) cap L ∧ Below B w wr ∧ cutAB L a b = subP s e l := by
  have hbd := h.bd
  obtain ⟨L, P, X, Y, a1, a2, a3, a4⟩ := h
  have hd := a1.done hs
  rcases a2 with ⟨rfl, a2, _⟩ | ⟨hx, rfl, rfl⟩
  · refine .inl ⟨a2, ?_, a4⟩
    rw [hd]
    unfold cutAB
    simpa using a3
  · refine .inr ⟨L, _, _, a1.len hi, rfl, rfl, by omega, by have := a1.2.1; omega, a3, a4, hd.symm⟩
theorem SubRel.zero (h : RS B w p (some ⟨g, 0, none⟩) cap l) (hc : Canon l) : SubRel B p g cap s e l w w 0 (-1) (-1) := ⟨l, [], [], [], SubInv.zero hc, .inl ⟨rfl, rfl, rfl⟩, h, Below.refl _ _⟩
end

set_option maxRecDepth 100000 in
set_option maxHeartbeats 2000000 in
theorem sub_ (B p cap : Nat) (A : Option Addr) (l : Rgs) (s e : Int) (n : Nat) (w : World) (h : RS B w p A cap l) (hc : Canon l) (hse : s < e) (hn : Hid (l.length = n)) (hbig : n ≤ 100000) :
    Calls Try.prog 99 #[.pointer (some ⟨p, 0, none⟩), .int .i64 s, .int .i64 e] w fun en w' => RsEnd B p w (subP s e l) en w' := by
  have HS := Lib.hid h
  have HC := Lib.hid hc
  have HLT := Lib.hid hse
  have c0 := h.cell
  rw [hn.out] at c0
  rcases Nat.eq_zero_or_pos n with rfl | hpos
  · clear h hc hse
    have hl : l = [] := List.eq_nil_of_length_eq_zero hn.out
    have HE : Hid (RsEnd B p w (subP s e l) (.returned (.tuple #[])) w) := ⟨rfl, Below.refl _ _, A, cap, by rw [hl]; have := HS.out; rw [hl] at this; exact this⟩
    clear hl
    go_enter Try.func99, Try.ntmps99
    go_wp2_with fail
    go_loop [6, 7, 15] (fun a b i => i = .int .i64 0 ∧ a = .int .i64 (-1) ∧ b = .int .i64 (-1)) (fun _ _ i => 0)
    case atStart => exact ⟨rfl, rfl, rfl⟩
    case round =>
      obtain ⟨rfl, rfl, rfl⟩ := hrel
      go_wp2_with fail
      first | go_end0 | refine bodyPost_ret (results_none rfl _ _ _) rfl ?_
      exact HE.out
  obtain ⟨g, rfl, k1, k2, k3, k4, k5⟩ := h.addr (by have := hn.out; omega)
  rw [hn.out] at k4
  unfold maxLen at k5
  clear h hc hse
  go_enter Try.func99, Try.ntmps99
  go_wp2_with fail
  go_loopw [6, 7, 15] (fun rf rt i wr => ∃ (k : Nat) (a b : Int), k ≤ n ∧ i = .int .i64 k ∧ rf = .int .i64 a ∧ rt = .int .i64 b ∧ Hid (SubRel B p g cap s e l w wr k a b)) (fun _ _ i _ => n - (intOf i).toNat)
  case atStart => exact ⟨0, -1, -1, by omega, rfl, rfl, rfl, SubRel.zero HS.out HC.out⟩
  case round =>
    obtain ⟨k, a, b, hk, rfl, rfl, rfl, SR⟩ := hrel
    clear c0
    have c0 := SR.out.len (by have := hn.out; omega)
    rw [hn.out] at c0
    have habd := SR.out.bd2
    by_cases hlt : k < n
    · have hkl : k < l.length := by rw [hn.out]; exact hlt
      obtain ⟨d0, d1, fr, -, -⟩ := SR.out.cells hkl
      have fg0 := fr (k * 2)
      have fg1 := fr (k * 2 + 1)
      obtain ⟨x0, hx0⟩ : ∃ x, x = l[k].1 := ⟨_, rfl⟩
      obtain ⟨x1, hx1⟩ : ∃ x, x = l[k].2 := ⟨_, rfl⟩
      rw [← hx0] at d0
      rw [← hx1] at d1
      have hx := Lib.hid (⟨hkl, hx0, hx1⟩ : ∃ h : k < l.length, x0 = l[k].1 ∧ x1 = l[k].2)
      clear hx0 hx1 hkl fr
      by_cases h1 : e < x0
      · have hdone : Hid (∀ hi : k < l.length, e < l[k].1) := fun hi => by obtain ⟨y1, y2, y3⟩ := hx.out; omega
        rcases SR.out.done (by have := hn.out; omega) hdone.out with ⟨rfl, hR, hB⟩ | ⟨L, a', b', hL, rfl, rfl, q1, q2, hR, hB, hc⟩
        · have HE : Hid (RsEnd B p w (subP s e l) (.returned (.tuple #[])) wr) := ⟨rfl, hB, _, _, hR⟩
          clear hR hB
          go_wp2_with fail
          first | go_end0 | refine bodyPost_ret (results_none rfl _ _ _) rfl ?_
          exact HE.out
        · have HR := Lib.hid hR
          have HB := Lib.hid hB
          have HC := Lib.hid hc
          have HL : Hid (L.length = n) := hL.trans hn.out
          rw [hn.out] at q2
          have hne : ((a' : Int) == -1) = false := by simp <;> omega
          have hne2 : ((a' : Int) != -1) = true := by simp <;> omega
          clear hR hB hc hL
          go_wp2_with fail
          refine (rem B p cap _ L a' b' n _ HR.out HL q1 q2 (by omega)).mono ?_
          rintro en w' hen
          have HE : Hid (RsEnd B p w (subP s e l) en w') := RsEnd.of HB.out hen HC.out
          obtain ⟨rfl, -⟩ := hen
          go_wp2
          first | go_end0 | refine bodyPost_ret (results_none rfl _ _ _) rfl ?_
          exact HE.out
      by_cases h2 : x1 < s
      · go_wp2_with fail
        go_roundw
        case rel => exact ⟨k + 1, a, b, by omega, by go_num, rfl, rfl, by obtain ⟨y1, y2, y3⟩ := hx.out; exact SR.out.skip y1 HLT.out (by omega) (by omega) 0⟩
        case measure => simp [intOf]; omega
      by_cases h3 : s ≤ x0
      · by_cases h4 : x1 ≤ e
        · by_cases ha : a = -1
          · subst ha
            go_wp2_with fail
            go_roundw
            case rel => exact ⟨k + 1, k, (k : Int) + 1, by omega, by go_num, rfl, rfl, by obtain ⟨y1, y2, y3⟩ := hx.out; have := SR.out.whole y1 HLT.out (by omega) (by omega) (by omega) (by omega) 0; rw [if_pos rfl] at this; exact this⟩
            case measure => simp [intOf]; omega
          · have hne : (a == -1) = false := by simpa using ha
            go_wp2_with fail
            go_roundw
            case rel => exact ⟨k + 1, a, (k : Int) + 1, by omega, by go_num, rfl, rfl, by obtain ⟨y1, y2, y3⟩ := hx.out; have := SR.out.whole y1 HLT.out (by omega) (by omega) (by omega) (by omega) 0; rw [if_neg ha] at this; exact this⟩
            case measure => simp [intOf]; omega
        · go_wp2_with fail
          go_roundw
          case rel => exact ⟨k + 1, a, b, by omega, by go_num, rfl, rfl, by obtain ⟨y1, y2, y3⟩ := hx.out; exact SR.out.head y1 HLT.out (by omega) (by omega) (by omega) (by omega) 0⟩
          case measure => simp [intOf]; omega
      by_cases h4 : x1 ≤ e
      · go_wp2_with fail
        go_roundw
        case rel => exact ⟨k + 1, a, b, by omega, by go_num, rfl, rfl, by obtain ⟨y1, y2, y3⟩ := hx.out; exact SR.out.tail y1 HLT.out (by omega) (by omega) (by omega) (by omega) 0⟩
        case measure => simp [intOf]; omega
      · obtain ⟨y1, y2, y3⟩ := hx.out
        obtain ⟨L, hL, hR, hB, hc⟩ := SR.out.mid y1 HLT.out (by omega) (by omega) (by omega) (by omega) 0
        rw [← y3] at hc
        have HR := Lib.hid hR
        have HB := Lib.hid hB
        have HC := Lib.hid hc
        have HL : Hid (L.length = n) := hL.trans hn.out
        clear hR hB hc hL y1 y2 y3
        go_wp2_with fail
        refine (ins B p cap _ L (k + 1) n e x1 _ HR.out HL (by omega) (by omega)).mono ?_
        rintro en w' hen
        have HE : Hid (RsEnd B p w (subP s e l) en w') := RsEnd.of HB.out hen HC.out
        obtain ⟨rfl, -⟩ := hen
        go_wp2
        first | go_end0 | refine bodyPost_ret (results_none rfl _ _ _) rfl ?_
        exact HE.out
    · obtain rfl : k = n := by omega
      rcases SR.out.done (by have := hn.out; omega) (fun hi => absurd hi (by have := hn.out; omega)) with ⟨rfl, hR, hB⟩ | ⟨L, a', b', hL, rfl, rfl, q1, q2, hR, hB, hc⟩
      · have HE : Hid (RsEnd B p w (subP s e l) (.returned (.tuple #[])) wr) := ⟨rfl, hB, _, _, hR⟩
        clear hR hB
        go_wp2_with fail
        first | go_end0 | refine bodyPost_ret (results_none rfl _ _ _) rfl ?_
        exact HE.out
      · have HR := Lib.hid hR
        have HB := Lib.hid hB
        have HC := Lib.hid hc
        have HL : Hid (L.length = k) := hL.trans hn.out
        rw [hn.out] at q2
        have hne : ((a' : Int) == -1) = false := by simp <;> omega
        have hne2 : ((a' : Int) != -1) = true := by simp <;> omega
        clear hR hB hc hL
        go_wp2_with fail
        refine (rem B p cap _ L a' b' k _ HR.out HL q1 q2 (by omega)).mono ?_
        rintro en w' hen
        have HE : Hid (RsEnd B p w (subP s e l) en w') := RsEnd.of HB.out hen HC.out
        obtain ⟨rfl, -⟩ := hen
        go_wp2
        first | go_end0 | refine bodyPost_ret (results_none rfl _ _ _) rfl ?_
        exact HE.out

end Go.Proofs.Ytdogepkfgobcfaa

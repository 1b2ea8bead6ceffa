/- Contract of consumeNewConnectionIDFrame. Conditions: the slice reads as bytes, at least one. -/
import Derived.Test.YtggcnepdeaijoaaConsP
import Derived.Deep.RegionHeld3
import Derived.Deep.MidRow
namespace Go.Proofs.Ytggcnepdeaijoaa
open Go.RowKit
set_option linter.unusedVariables false
set_option linter.unusedSimpArgs false
set_option linter.unnecessarySimpa false

theorem list16 {α : Type} (l : List α) (h : l.length = 16) : ∃ a0 a1 a2 a3 a4 a5 a6 a7 a8 a9 a10 a11 a12 a13 a14 a15, l = [a0, a1, a2, a3, a4, a5, a6, a7, a8, a9, a10, a11, a12, a13, a14, a15] := by
  match l, h with
  | [a0, a1, a2, a3, a4, a5, a6, a7, a8, a9, a10, a11, a12, a13, a14, a15], _ => exact ⟨_, _, _, _, _, _, _, _, _, _, _, _, _, _, _, _, rfl⟩
theorem cells16 {w : World} {g : Nat} {a0 a1 a2 a3 a4 a5 a6 a7 a8 a9 a10 a11 a12 a13 a14 a15 : Value} {t : TypeId} (h : w.heap[g]? = some (.cells #[a0, a1, a2, a3, a4, a5, a6, a7, a8, a9, a10, a11, a12, a13, a14, a15] t (0, 0))) :
    w.cell? ⟨g, 0, none⟩ = some a0 ∧ w.cell? ⟨g, 1, none⟩ = some a1 ∧ w.cell? ⟨g, 2, none⟩ = some a2 ∧ w.cell? ⟨g, 3, none⟩ = some a3 ∧ w.cell? ⟨g, 4, none⟩ = some a4 ∧ w.cell? ⟨g, 5, none⟩ = some a5 ∧ w.cell? ⟨g, 6, none⟩ = some a6 ∧ w.cell? ⟨g, 7, none⟩ = some a7 ∧ w.cell? ⟨g, 8, none⟩ = some a8 ∧ w.cell? ⟨g, 9, none⟩ = some a9 ∧ w.cell? ⟨g, 10, none⟩ = some a10 ∧ w.cell? ⟨g, 11, none⟩ = some a11 ∧ w.cell? ⟨g, 12, none⟩ = some a12 ∧ w.cell? ⟨g, 13, none⟩ = some a13 ∧ w.cell? ⟨g, 14, none⟩ = some a14 ∧ w.cell? ⟨g, 15, none⟩ = some a15 := by
  refine ⟨?_, ?_, ?_, ?_, ?_, ?_, ?_, ?_, ?_, ?_, ?_, ?_, ?_, ?_, ?_, ?_⟩
  · rw [cell_of_row _ _ 0 _ _ (0, 0) h]; rfl
  · rw [cell_of_row _ _ 1 _ _ (0, 0) h]; rfl
  · rw [cell_of_row _ _ 2 _ _ (0, 0) h]; rfl
  · rw [cell_of_row _ _ 3 _ _ (0, 0) h]; rfl
  · rw [cell_of_row _ _ 4 _ _ (0, 0) h]; rfl
  · rw [cell_of_row _ _ 5 _ _ (0, 0) h]; rfl
  · rw [cell_of_row _ _ 6 _ _ (0, 0) h]; rfl
  · rw [cell_of_row _ _ 7 _ _ (0, 0) h]; rfl
  · rw [cell_of_row _ _ 8 _ _ (0, 0) h]; rfl
  · rw [cell_of_row _ _ 9 _ _ (0, 0) h]; rfl
  · rw [cell_of_row _ _ 10 _ _ (0, 0) h]; rfl
  · rw [cell_of_row _ _ 11 _ _ (0, 0) h]; rfl
  · rw [cell_of_row _ _ 12 _ _ (0, 0) h]; rfl
  · rw [cell_of_row _ _ 13 _ _ (0, 0) h]; rfl
  · rw [cell_of_row _ _ 14 _ _ (0, 0) h]; rfl
  · rw [cell_of_row _ _ 15 _ _ (0, 0) h]; rfl
/-- Sixteen cells stored. -/
def sto16 (w : World) (g : Nat) (a0 a1 a2 a3 a4 a5 a6 a7 a8 a9 a10 a11 a12 a13 a14 a15 : Value) : World := ((((((((((((((((w.setCell ⟨g, 0, none⟩ a0).setCell ⟨g, 1, none⟩ a1).setCell ⟨g, 2, none⟩ a2).setCell ⟨g, 3, none⟩ a3).setCell ⟨g, 4, none⟩ a4).setCell ⟨g, 5, none⟩ a5).setCell ⟨g, 6, none⟩ a6).setCell ⟨g, 7, none⟩ a7).setCell ⟨g, 8, none⟩ a8).setCell ⟨g, 9, none⟩ a9).setCell ⟨g, 10, none⟩ a10).setCell ⟨g, 11, none⟩ a11).setCell ⟨g, 12, none⟩ a12).setCell ⟨g, 13, none⟩ a13).setCell ⟨g, 14, none⟩ a14).setCell ⟨g, 15, none⟩ a15)
theorem sto16_heap {w : World} {g : Nat} {b0 b1 b2 b3 b4 b5 b6 b7 b8 b9 b10 b11 b12 b13 b14 b15 : Value} {t : TypeId} (h : w.heap[g]? = some (.cells #[b0, b1, b2, b3, b4, b5, b6, b7, b8, b9, b10, b11, b12, b13, b14, b15] t (0, 0))) (a0 a1 a2 a3 a4 a5 a6 a7 a8 a9 a10 a11 a12 a13 a14 a15 : Value) : (sto16 w g a0 a1 a2 a3 a4 a5 a6 a7 a8 a9 a10 a11 a12 a13 a14 a15).heap[g]? = some (.cells #[a0, a1, a2, a3, a4, a5, a6, a7, a8, a9, a10, a11, a12, a13, a14, a15] t (0, 0)) := by
  have h0 := cell_at (r' := #[a0, b1, b2, b3, b4, b5, b6, b7, b8, b9, b10, b11, b12, b13, b14, b15]) 0 a0 h rfl
  have h1 := cell_at (r' := #[a0, a1, b2, b3, b4, b5, b6, b7, b8, b9, b10, b11, b12, b13, b14, b15]) 1 a1 h0 rfl
  have h2 := cell_at (r' := #[a0, a1, a2, b3, b4, b5, b6, b7, b8, b9, b10, b11, b12, b13, b14, b15]) 2 a2 h1 rfl
  have h3 := cell_at (r' := #[a0, a1, a2, a3, b4, b5, b6, b7, b8, b9, b10, b11, b12, b13, b14, b15]) 3 a3 h2 rfl
  have h4 := cell_at (r' := #[a0, a1, a2, a3, a4, b5, b6, b7, b8, b9, b10, b11, b12, b13, b14, b15]) 4 a4 h3 rfl
  have h5 := cell_at (r' := #[a0, a1, a2, a3, a4, a5, b6, b7, b8, b9, b10, b11, b12, b13, b14, b15]) 5 a5 h4 rfl
  have h6 := cell_at (r' := #[a0, a1, a2, a3, a4, a5, a6, b7, b8, b9, b10, b11, b12, b13, b14, b15]) 6 a6 h5 rfl
  have h7 := cell_at (r' := #[a0, a1, a2, a3, a4, a5, a6, a7, b8, b9, b10, b11, b12, b13, b14, b15]) 7 a7 h6 rfl
  have h8 := cell_at (r' := #[a0, a1, a2, a3, a4, a5, a6, a7, a8, b9, b10, b11, b12, b13, b14, b15]) 8 a8 h7 rfl
  have h9 := cell_at (r' := #[a0, a1, a2, a3, a4, a5, a6, a7, a8, a9, b10, b11, b12, b13, b14, b15]) 9 a9 h8 rfl
  have h10 := cell_at (r' := #[a0, a1, a2, a3, a4, a5, a6, a7, a8, a9, a10, b11, b12, b13, b14, b15]) 10 a10 h9 rfl
  have h11 := cell_at (r' := #[a0, a1, a2, a3, a4, a5, a6, a7, a8, a9, a10, a11, b12, b13, b14, b15]) 11 a11 h10 rfl
  have h12 := cell_at (r' := #[a0, a1, a2, a3, a4, a5, a6, a7, a8, a9, a10, a11, a12, b13, b14, b15]) 12 a12 h11 rfl
  have h13 := cell_at (r' := #[a0, a1, a2, a3, a4, a5, a6, a7, a8, a9, a10, a11, a12, a13, b14, b15]) 13 a13 h12 rfl
  have h14 := cell_at (r' := #[a0, a1, a2, a3, a4, a5, a6, a7, a8, a9, a10, a11, a12, a13, a14, b15]) 14 a14 h13 rfl
  have h15 := cell_at (r' := #[a0, a1, a2, a3, a4, a5, a6, a7, a8, a9, a10, a11, a12, a13, a14, a15]) 15 a15 h14 rfl
  exact h15
theorem sto16_below {B : Nat} {w0 w : World} {g : Nat} (h : Below B w0 w) (hg : B ≤ g) (hB : B ≤ w.heap.size) (a0 a1 a2 a3 a4 a5 a6 a7 a8 a9 a10 a11 a12 a13 a14 a15 : Value) : Below B w0 (sto16 w g a0 a1 a2 a3 a4 a5 a6 a7 a8 a9 a10 a11 a12 a13 a14 a15) := by
  unfold sto16
  have st : ∀ (W : World) (i : Nat) (v : Value), Below B w0 W ∧ B ≤ W.heap.size → Below B w0 (W.setCell ⟨g, i, none⟩ v) ∧ B ≤ (W.setCell ⟨g, i, none⟩ v).heap.size := fun W i v ⟨h1, h2⟩ => ⟨below_cell h1 h2 _ _ _ hg, by rw [size_cell]; exact h2⟩
  exact (st _ _ _ (st _ _ _ (st _ _ _ (st _ _ _ (st _ _ _ (st _ _ _ (st _ _ _ (st _ _ _ (st _ _ _ (st _ _ _ (st _ _ _ (st _ _ _ (st _ _ _ (st _ _ _ (st _ _ _ (st _ _ _ (⟨h, hB⟩))))))))))))))))).1

set_option maxHeartbeats 1000000 in
theorem cvb_blk (A : Option Addr) (blk n c k s : Nat) (l : List Int) (w : World) (hr : Rd w A l) (hA : Hid (∃ a, A = some a ∧ a.block = blk)) (hn : Hid (l.length = n)) (hnc : n ≤ c) (hc2 : c ≤ 9223372036854775807) (hv : Hid (rv l = some ((s : Int), k))) (hs : s ≤ n - k) :
    Calls Try.prog 58 #[.slice A n c] w fun e w' => (∃ A' c', e = .returned (.tuple #[.slice A' s c', .int .i64 ((k + s : Nat) : Int)]) ∧ Rd w A' ((l.drop k).take s) ∧ s ≤ c' ∧ c' ≤ 9223372036854775807 ∧ (∃ a, A' = some a ∧ a.block = blk)) ∧ ∃ q, w' = w.drewN q := by
  have hb := rv_bd hr.1 hv.out
  have hn' := hn.out
  have hkn : k ≤ n := by omega
  obtain ⟨b, o, rfl, -⟩ := hr.2 (by omega)
  obtain rfl : b = blk := by obtain ⟨a, h1, h2⟩ := hA.out; obtain rfl : (⟨b, o, none⟩ : Addr) = a := (by simpa using h1); exact h2
  have hcut := (hr.cut_at (k := k) (cap := c) (by omega)).take s
  clear hn'
  by_cases hck : c = k
  · subst hck
    rw [if_pos rfl] at hcut
    go_enter Try.func58, Try.ntmps58
    go_wp2_with (go_at_call 57; refine (cv_some _ _ _ l _ (s : Nat) c (by exact hr) hn (by omega) hv).mono ?_; rintro e w' ⟨rfl, q, rfl⟩)
    go_ret2
    exact ⟨⟨_, _, ret2_r (by omega), hcut, by omega, by omega, _, rfl, rfl⟩, _, rfl⟩
  · rw [if_neg hck] at hcut
    go_enter Try.func58, Try.ntmps58
    go_wp2_with (go_at_call 57; refine (cv_some _ _ _ l _ (s : Nat) k (by exact hr) hn (by omega) hv).mono ?_; rintro e w' ⟨rfl, q, rfl⟩)
    go_ret2
    exact ⟨⟨_, _, ret2_r (by omega), hcut, by omega, by omega, _, rfl, rfl⟩, _, rfl⟩
/-- What reading bytes behind their length at place k answers, and where they lie. -/
def CbB (blk : Nat) (w : World) (l : List Int) (k : Nat) (e : Ending) : Prop :=
  (vbs l k = none ∧ e = .returned (.tuple #[.slice none 0 0, .int .i64 (-1)])) ∨
  ∃ bs k' m s A c, vbs l k = some (bs, k') ∧ e = .returned (.tuple #[.slice A s c, .int .i64 ((m : Nat) : Int)]) ∧ (k : Int) + (m : Int) = (k' : Int) ∧ k + 1 ≤ k' ∧ k' ≤ l.length ∧ Hid (bs.length = s) ∧ Hid (Rd w A bs) ∧ s ≤ c ∧ c ≤ 9223372036854775807 ∧ Hid (∃ a, A = some a ∧ a.block = blk) ∧ s + k ≤ l.length
theorem cbB (A : Option Addr) (blk N C k : Nat) (l : List Int) (w : World) (hr : Rd w A (l.drop k)) (hA : Hid (∃ a, A = some a ∧ a.block = blk)) (hb : Hid (Bs l)) (hN : Hid ((l.drop k).length = N)) (hNC : N ≤ C) (hC : C ≤ 9223372036854775807) :
    Calls Try.prog 58 #[.slice A N C] w fun e w' => CbB blk w l k e ∧ ∃ q, w' = w.drewN q := by
  have hN' := hN.out
  cases hv : rv (l.drop k) with
  | none => exact (cvb_none A N C (l.drop k) w hr hN (by omega) hv).mono fun e w' ⟨he, hq⟩ => ⟨.inl ⟨vbs_none (rvb_none hv), he⟩, hq⟩
  | some p =>
    obtain ⟨v, m⟩ := p
    have hb2 := rv_bd hr.1 hv
    by_cases hs : (((l.drop k).length - m : Nat) : Int) < v
    · exact (cvb_short A N C m v (l.drop k) w hr hN hNC hC hv (by rw [← hN']; exact hs)).mono fun e w' ⟨he, hq⟩ => ⟨.inl ⟨vbs_none (rvb_short hv hs), he⟩, hq⟩
    · obtain ⟨s, rfl⟩ := Int.eq_ofNat_of_zero_le hb2.1
      have hlen : (((l.drop k).drop m).take s).length = s := by rw [List.length_take, List.length_drop]; omega
      have hvs : vbs l k = some (((l.drop k).drop m).take s, k + (m + s)) := by
        refine vbs_some ?_
        rw [rvb_some hv hs]
        simp
      refine (cvb_blk A blk N C m s (l.drop k) w hr hA hN hNC hC hv (by omega)).mono fun e w' ⟨⟨A', c', he, h1, h2, h3, h4⟩, hq⟩ => ⟨.inr ⟨_, k + (m + s), m + s, s, A', c', hvs, he, by omega, by omega, ?_, hlen, h1, h2, h3, h4, ?_⟩, hq⟩
      · rw [List.length_drop] at hb2 hs; omega
      · rw [List.length_drop] at hb2 hs; omega
theorem size_tok : (Try.prog.info? 64).map (·.size) = some 16 := by kernel_rfl
theorem res_cid (V : Array Value) (w : World) (p : Addr) (x : Value) (hp : V.getD 5 undef = .pointer (some p)) (hx : (loadVar 64 p).run Try.prog w = .ok x w) :
    (results Try.f30 V).run Try.prog w = .ok (.tuple #[V.getD 2 undef, V.getD 3 undef, V.getD 4 undef, x, V.getD 6 undef]) w := by
  unfold results
  rw [Try.results30]
  have hp' : V[5]?.getD undef = .pointer (some p) := by simpa using hp
  simp [hp', hx, asAddr]

def E_cid (l : List Int) (w : World) (e : Ending) (w' : World) : Prop :=
  ((Pid l = none ∧ e = .returned (.tuple #[.int .i64 0, .int .i64 0, .slice none 0 0, .agg #[.int .u8 0, .int .u8 0, .int .u8 0, .int .u8 0, .int .u8 0, .int .u8 0, .int .u8 0, .int .u8 0, .int .u8 0, .int .u8 0, .int .u8 0, .int .u8 0, .int .u8 0, .int .u8 0, .int .u8 0, .int .u8 0], .int .i64 (-1)])) ∨
   ∃ v1 v2 bs k s A c' x0 x1 x2 x3 x4 x5 x6 x7 x8 x9 x10 x11 x12 x13 x14 x15, Pid l = some ([v1, v2], [bs, [x0, x1, x2, x3, x4, x5, x6, x7, x8, x9, x10, x11, x12, x13, x14, x15]], k) ∧ e = .returned (.tuple #[.int .i64 v1, .int .i64 v2, .slice A s c', .agg #[.int .u8 x0, .int .u8 x1, .int .u8 x2, .int .u8 x3, .int .u8 x4, .int .u8 x5, .int .u8 x6, .int .u8 x7, .int .u8 x8, .int .u8 x9, .int .u8 x10, .int .u8 x11, .int .u8 x12, .int .u8 x13, .int .u8 x14, .int .u8 x15], .int .i64 ((k : Nat) : Int)]) ∧ Hid (List.length bs = s) ∧ Hid (Rd w' A bs) ∧ s ≤ c' ∧ c' ≤ 9223372036854775807 ∧ Hid (A = none → c' = 0) ∧ s ≤ 20 ∧ N62 v1 ∧ N62 v2 ∧ Hid (Bs [x0, x1, x2, x3, x4, x5, x6, x7, x8, x9, x10, x11, x12, x13, x14, x15])) ∧ Below w.heap.size w w'

set_option maxRecDepth 100000 in
set_option maxHeartbeats 40000000 in
theorem cid (b o n c : Nat) (l : List Int) (w : World) (hr : Rd w (some ⟨b, o, none⟩) l) (hn : Hid (l.length = n)) (hnc : n ≤ c) (hc2 : c ≤ 9223372036854775807) (h1 : 1 ≤ n) (hn2 : n ≤ 4294967295) :
    Calls Try.prog 30 #[.slice (some ⟨b, o, none⟩) n c] w fun e w' => E_cid l w e w' := by
  have hb := Lib.hid hr.bs
  obtain ⟨W0, hW0⟩ : ∃ W0, Hid (w.alloc (.cells #[.int .u8 0, .int .u8 0, .int .u8 0, .int .u8 0, .int .u8 0, .int .u8 0, .int .u8 0, .int .u8 0, .int .u8 0, .int .u8 0, .int .u8 0, .int .u8 0, .int .u8 0, .int .u8 0, .int .u8 0, .int .u8 0] 64 (0, 0)) = W0) := ⟨_, Lib.hid rfl⟩
  have HQ : Hid (W0.heap[w.heap.size]? = some (.cells #[.int .u8 0, .int .u8 0, .int .u8 0, .int .u8 0, .int .u8 0, .int .u8 0, .int .u8 0, .int .u8 0, .int .u8 0, .int .u8 0, .int .u8 0, .int .u8 0, .int .u8 0, .int .u8 0, .int .u8 0, .int .u8 0] 64 (0, 0))) := by show _ = _; rw [← hW0.out]; exact heap_alloc_new w _
  have HB0 : Hid (Below w.heap.size w W0) := by show Below _ _ _; rw [← hW0.out]; exact (Below.refl _ _).alloc (Nat.le_refl _) _
  have HR0 : Hid (Rd W0 (some ⟨b, o, none⟩) l) := hr.below HB0.out
  have HBL : Hid (b < w.heap.size) := by obtain ⟨b', o', e', hc'⟩ := hr.2 (by rw [hn.out]; omega); obtain rfl : b = b' := (by simpa using congrArg (Option.map Addr.block) e'); exact World.block_lt_of_cell? _ _ (hc' 0 (by rw [hn.out]; omega))
  have ff := fun i => cell_free i HQ.out
  obtain ⟨e0, e1, e2, e3, e4, e5, e6, e7, e8, e9, e10, e11, e12, e13, e14, e15⟩ := cells16 HQ.out
  have hth : W0.there w.heap.size 0 16 := fun j hj => by
    refine ⟨?_, cell_free _ HQ.out⟩
    rw [cell_of_row _ _ _ _ _ (0, 0) HQ.out]
    simp
    omega
  obtain ⟨A1, hA1, HA1, -⟩ := cut_ad HR0.out hn hnc 1
  have hl1 : Hid ((l.drop 1).length = n - 1) := by show _ = _; rw [List.length_drop, hn.out]
  clear hr
  go_enter Try.func30, Try.ntmps30
  go_wp2_with fail
  rw [hW0.out]
  refine (cvi A1 (n - 1) (c - 1) 1 l _ (by exact HA1.out) hb hl1 (by omega)).mono ?_
  rintro e w1 ⟨he, z1, rfl⟩
  rcases he with ⟨hv1, rfl⟩ | ⟨v1, k1, m1, hv1, rfl, hk1, p1, q1, r1, s1⟩
  · have HV1 := Lib.hid hv1
    clear hv1 hA1
    go_wp2_with fail
    have HQZ := sto16_heap (w := (W0.drewN z1)) (by exact HQ.out) (.int .u8 0) (.int .u8 0) (.int .u8 0) (.int .u8 0) (.int .u8 0) (.int .u8 0) (.int .u8 0) (.int .u8 0) (.int .u8 0) (.int .u8 0) (.int .u8 0) (.int .u8 0) (.int .u8 0) (.int .u8 0) (.int .u8 0) (.int .u8 0)
    have HBZ : Hid (Below w.heap.size w (sto16 ((W0.drewN z1)) w.heap.size (.int .u8 0) (.int .u8 0) (.int .u8 0) (.int .u8 0) (.int .u8 0) (.int .u8 0) (.int .u8 0) (.int .u8 0) (.int .u8 0) (.int .u8 0) (.int .u8 0) (.int .u8 0) (.int .u8 0) (.int .u8 0) (.int .u8 0) (.int .u8 0))) := sto16_below (below_drewN HB0.out _) (Nat.le_refl _) (HB0.out.size) _ _ _ _ _ _ _ _ _ _ _ _ _ _ _ _
    have hrz : (sto16 ((W0.drewN z1)) w.heap.size (.int .u8 0) (.int .u8 0) (.int .u8 0) (.int .u8 0) (.int .u8 0) (.int .u8 0) (.int .u8 0) (.int .u8 0) (.int .u8 0) (.int .u8 0) (.int .u8 0) (.int .u8 0) (.int .u8 0) (.int .u8 0) (.int .u8 0) (.int .u8 0)).rangeAt w.heap.size 0 #[.int .u8 0, .int .u8 0, .int .u8 0, .int .u8 0, .int .u8 0, .int .u8 0, .int .u8 0, .int .u8 0, .int .u8 0, .int .u8 0, .int .u8 0, .int .u8 0, .int .u8 0, .int .u8 0, .int .u8 0, .int .u8 0].toList := fun j v hv => by
      rw [Nat.zero_add, cell_of_row _ _ j _ _ (0, 0) HQZ]
      simpa using hv
    have hld := run_loadVar_mid (P := Try.prog) _ _ _ 64 _ _ hrz Try.underlying64 rfl size_tok
    refine bodyPost_ret (v := .tuple #[.int .i64 0, .int .i64 0, .slice none 0 0, .agg #[.int .u8 0, .int .u8 0, .int .u8 0, .int .u8 0, .int .u8 0, .int .u8 0, .int .u8 0, .int .u8 0, .int .u8 0, .int .u8 0, .int .u8 0, .int .u8 0, .int .u8 0, .int .u8 0, .int .u8 0, .int .u8 0], .int .i64 (-1)]) (res_cid _ _ _ _ rfl hld) rfl ?_
    exact ⟨.inl ⟨by simp [Pid, HV1.out], rfl⟩, HBZ.out⟩
  have HV1 := Lib.hid hv1
  rw [hn.out] at q1
  clear hv1 hA1
  have hk1 : (1 : Int) + (m1 : Int) = (k1 : Int) := hk1
  obtain ⟨A2, hA2, HA2, -⟩ := cut_ad HR0.out hn hnc k1
  have hl2 : Hid ((l.drop k1).length = n - k1) := by show _ = _; rw [List.length_drop, hn.out]
  go_wp2_with fail
  refine (cvi A2 (n - k1) (c - k1) k1 l _ (by exact HA2.out) hb hl2 (by omega)).mono ?_
  rintro e w2 ⟨he, z2, rfl⟩
  rcases he with ⟨hv2, rfl⟩ | ⟨v2, k2, m2, hv2, rfl, hk2, p2, q2, r2, s2⟩
  · have HV2 := Lib.hid hv2
    clear hv2 hA2
    go_wp2_with fail
    have HQZ := sto16_heap (w := (W0.drewN (z1 + z2))) (by exact HQ.out) (.int .u8 0) (.int .u8 0) (.int .u8 0) (.int .u8 0) (.int .u8 0) (.int .u8 0) (.int .u8 0) (.int .u8 0) (.int .u8 0) (.int .u8 0) (.int .u8 0) (.int .u8 0) (.int .u8 0) (.int .u8 0) (.int .u8 0) (.int .u8 0)
    have HBZ : Hid (Below w.heap.size w (sto16 ((W0.drewN (z1 + z2))) w.heap.size (.int .u8 0) (.int .u8 0) (.int .u8 0) (.int .u8 0) (.int .u8 0) (.int .u8 0) (.int .u8 0) (.int .u8 0) (.int .u8 0) (.int .u8 0) (.int .u8 0) (.int .u8 0) (.int .u8 0) (.int .u8 0) (.int .u8 0) (.int .u8 0))) := sto16_below (below_drewN HB0.out _) (Nat.le_refl _) (HB0.out.size) _ _ _ _ _ _ _ _ _ _ _ _ _ _ _ _
    have hrz : (sto16 ((W0.drewN (z1 + z2))) w.heap.size (.int .u8 0) (.int .u8 0) (.int .u8 0) (.int .u8 0) (.int .u8 0) (.int .u8 0) (.int .u8 0) (.int .u8 0) (.int .u8 0) (.int .u8 0) (.int .u8 0) (.int .u8 0) (.int .u8 0) (.int .u8 0) (.int .u8 0) (.int .u8 0)).rangeAt w.heap.size 0 #[.int .u8 0, .int .u8 0, .int .u8 0, .int .u8 0, .int .u8 0, .int .u8 0, .int .u8 0, .int .u8 0, .int .u8 0, .int .u8 0, .int .u8 0, .int .u8 0, .int .u8 0, .int .u8 0, .int .u8 0, .int .u8 0].toList := fun j v hv => by
      rw [Nat.zero_add, cell_of_row _ _ j _ _ (0, 0) HQZ]
      simpa using hv
    have hld := run_loadVar_mid (P := Try.prog) _ _ _ 64 _ _ hrz Try.underlying64 rfl size_tok
    refine bodyPost_ret (v := .tuple #[.int .i64 0, .int .i64 0, .slice none 0 0, .agg #[.int .u8 0, .int .u8 0, .int .u8 0, .int .u8 0, .int .u8 0, .int .u8 0, .int .u8 0, .int .u8 0, .int .u8 0, .int .u8 0, .int .u8 0, .int .u8 0, .int .u8 0, .int .u8 0, .int .u8 0, .int .u8 0], .int .i64 (-1)]) (res_cid _ _ _ _ rfl hld) rfl ?_
    exact ⟨.inl ⟨by simp [Pid, HV1.out, HV2.out], rfl⟩, HBZ.out⟩
  have HV2 := Lib.hid hv2
  rw [hn.out] at q2
  clear hv2 hA2
  by_cases hab : v1 < v2
  · skip
    go_wp2_with fail
    have HQZ := sto16_heap (w := (W0.drewN (z1 + z2))) (by exact HQ.out) (.int .u8 0) (.int .u8 0) (.int .u8 0) (.int .u8 0) (.int .u8 0) (.int .u8 0) (.int .u8 0) (.int .u8 0) (.int .u8 0) (.int .u8 0) (.int .u8 0) (.int .u8 0) (.int .u8 0) (.int .u8 0) (.int .u8 0) (.int .u8 0)
    have HBZ : Hid (Below w.heap.size w (sto16 ((W0.drewN (z1 + z2))) w.heap.size (.int .u8 0) (.int .u8 0) (.int .u8 0) (.int .u8 0) (.int .u8 0) (.int .u8 0) (.int .u8 0) (.int .u8 0) (.int .u8 0) (.int .u8 0) (.int .u8 0) (.int .u8 0) (.int .u8 0) (.int .u8 0) (.int .u8 0) (.int .u8 0))) := sto16_below (below_drewN HB0.out _) (Nat.le_refl _) (HB0.out.size) _ _ _ _ _ _ _ _ _ _ _ _ _ _ _ _
    have hrz : (sto16 ((W0.drewN (z1 + z2))) w.heap.size (.int .u8 0) (.int .u8 0) (.int .u8 0) (.int .u8 0) (.int .u8 0) (.int .u8 0) (.int .u8 0) (.int .u8 0) (.int .u8 0) (.int .u8 0) (.int .u8 0) (.int .u8 0) (.int .u8 0) (.int .u8 0) (.int .u8 0) (.int .u8 0)).rangeAt w.heap.size 0 #[.int .u8 0, .int .u8 0, .int .u8 0, .int .u8 0, .int .u8 0, .int .u8 0, .int .u8 0, .int .u8 0, .int .u8 0, .int .u8 0, .int .u8 0, .int .u8 0, .int .u8 0, .int .u8 0, .int .u8 0, .int .u8 0].toList := fun j v hv => by
      rw [Nat.zero_add, cell_of_row _ _ j _ _ (0, 0) HQZ]
      simpa using hv
    have hld := run_loadVar_mid (P := Try.prog) _ _ _ 64 _ _ hrz Try.underlying64 rfl size_tok
    refine bodyPost_ret (v := .tuple #[.int .i64 0, .int .i64 0, .slice none 0 0, .agg #[.int .u8 0, .int .u8 0, .int .u8 0, .int .u8 0, .int .u8 0, .int .u8 0, .int .u8 0, .int .u8 0, .int .u8 0, .int .u8 0, .int .u8 0, .int .u8 0, .int .u8 0, .int .u8 0, .int .u8 0, .int .u8 0], .int .i64 (-1)]) (res_cid _ _ _ _ rfl hld) rfl ?_
    exact ⟨.inl ⟨by simp [Pid, HV1.out, HV2.out, hab], rfl⟩, HBZ.out⟩
  obtain ⟨A3, hA3, HA3, -⟩ := cut_ad HR0.out hn hnc k2
  have hl3 : Hid ((l.drop k2).length = n - k2) := by show _ = _; rw [List.length_drop, hn.out]
  go_wp2_with fail
  have hB3 : Hid (∃ a, A3 = some a ∧ a.block = b) := by show ∃ a, _; rw [← hA3]; split <;> exact ⟨_, rfl, rfl⟩
  refine (cbB A3 b (n - k2) (c - k2) k2 l (W0.drewN (z1 + z2)) (by exact HA3.out) hB3 hb hl3 (by omega) (by omega)).mono ?_
  rintro e w3 ⟨he, z3, rfl⟩
  rcases he with ⟨hv3, rfl⟩ | ⟨bs, k3, m3, s3, AD, cD, hv3, rfl, hk3, p3, q3, HS, HRD, r3, s3', HZ, f3⟩
  · have HV3 := Lib.hid hv3
    clear hv3 hA3
    go_wp2_with fail
    have HQZ := sto16_heap (w := (W0.drewN (z1 + z2 + z3))) (by exact HQ.out) (.int .u8 0) (.int .u8 0) (.int .u8 0) (.int .u8 0) (.int .u8 0) (.int .u8 0) (.int .u8 0) (.int .u8 0) (.int .u8 0) (.int .u8 0) (.int .u8 0) (.int .u8 0) (.int .u8 0) (.int .u8 0) (.int .u8 0) (.int .u8 0)
    have HBZ : Hid (Below w.heap.size w (sto16 ((W0.drewN (z1 + z2 + z3))) w.heap.size (.int .u8 0) (.int .u8 0) (.int .u8 0) (.int .u8 0) (.int .u8 0) (.int .u8 0) (.int .u8 0) (.int .u8 0) (.int .u8 0) (.int .u8 0) (.int .u8 0) (.int .u8 0) (.int .u8 0) (.int .u8 0) (.int .u8 0) (.int .u8 0))) := sto16_below (below_drewN HB0.out _) (Nat.le_refl _) (HB0.out.size) _ _ _ _ _ _ _ _ _ _ _ _ _ _ _ _
    have hrz : (sto16 ((W0.drewN (z1 + z2 + z3))) w.heap.size (.int .u8 0) (.int .u8 0) (.int .u8 0) (.int .u8 0) (.int .u8 0) (.int .u8 0) (.int .u8 0) (.int .u8 0) (.int .u8 0) (.int .u8 0) (.int .u8 0) (.int .u8 0) (.int .u8 0) (.int .u8 0) (.int .u8 0) (.int .u8 0)).rangeAt w.heap.size 0 #[.int .u8 0, .int .u8 0, .int .u8 0, .int .u8 0, .int .u8 0, .int .u8 0, .int .u8 0, .int .u8 0, .int .u8 0, .int .u8 0, .int .u8 0, .int .u8 0, .int .u8 0, .int .u8 0, .int .u8 0, .int .u8 0].toList := fun j v hv => by
      rw [Nat.zero_add, cell_of_row _ _ j _ _ (0, 0) HQZ]
      simpa using hv
    have hld := run_loadVar_mid (P := Try.prog) _ _ _ 64 _ _ hrz Try.underlying64 rfl size_tok
    refine bodyPost_ret (v := .tuple #[.int .i64 0, .int .i64 0, .slice none 0 0, .agg #[.int .u8 0, .int .u8 0, .int .u8 0, .int .u8 0, .int .u8 0, .int .u8 0, .int .u8 0, .int .u8 0, .int .u8 0, .int .u8 0, .int .u8 0, .int .u8 0, .int .u8 0, .int .u8 0, .int .u8 0, .int .u8 0], .int .i64 (-1)]) (res_cid _ _ _ _ rfl hld) rfl ?_
    exact ⟨.inl ⟨by simp [Pid, HV1.out, HV2.out, hab, HV3.out], rfl⟩, HBZ.out⟩
  have HV3 := Lib.hid hv3
  rw [hn.out] at q3 f3
  clear hv3 hA3
  have HP3 : Hid (Pid l = if s3 < 1 ∨ 20 < s3 then none else if n < k3 + 16 then none else some ([v1, v2], [bs, (l.drop k3).take 16], k3 + 16)) := by show _ = _; simp only [Pid, HV1.out, HV2.out, if_neg (show ¬ v1 < v2 by omega), HV3.out, HS.out, hn.out]
  by_cases hs1 : s3 < 1
  · skip
    go_wp2_with fail
    have HQZ := sto16_heap (w := (W0.drewN (z1 + z2 + z3))) (by exact HQ.out) (.int .u8 0) (.int .u8 0) (.int .u8 0) (.int .u8 0) (.int .u8 0) (.int .u8 0) (.int .u8 0) (.int .u8 0) (.int .u8 0) (.int .u8 0) (.int .u8 0) (.int .u8 0) (.int .u8 0) (.int .u8 0) (.int .u8 0) (.int .u8 0)
    have HBZ : Hid (Below w.heap.size w (sto16 ((W0.drewN (z1 + z2 + z3))) w.heap.size (.int .u8 0) (.int .u8 0) (.int .u8 0) (.int .u8 0) (.int .u8 0) (.int .u8 0) (.int .u8 0) (.int .u8 0) (.int .u8 0) (.int .u8 0) (.int .u8 0) (.int .u8 0) (.int .u8 0) (.int .u8 0) (.int .u8 0) (.int .u8 0))) := sto16_below (below_drewN HB0.out _) (Nat.le_refl _) (HB0.out.size) _ _ _ _ _ _ _ _ _ _ _ _ _ _ _ _
    have hrz : (sto16 ((W0.drewN (z1 + z2 + z3))) w.heap.size (.int .u8 0) (.int .u8 0) (.int .u8 0) (.int .u8 0) (.int .u8 0) (.int .u8 0) (.int .u8 0) (.int .u8 0) (.int .u8 0) (.int .u8 0) (.int .u8 0) (.int .u8 0) (.int .u8 0) (.int .u8 0) (.int .u8 0) (.int .u8 0)).rangeAt w.heap.size 0 #[.int .u8 0, .int .u8 0, .int .u8 0, .int .u8 0, .int .u8 0, .int .u8 0, .int .u8 0, .int .u8 0, .int .u8 0, .int .u8 0, .int .u8 0, .int .u8 0, .int .u8 0, .int .u8 0, .int .u8 0, .int .u8 0].toList := fun j v hv => by
      rw [Nat.zero_add, cell_of_row _ _ j _ _ (0, 0) HQZ]
      simpa using hv
    have hld := run_loadVar_mid (P := Try.prog) _ _ _ 64 _ _ hrz Try.underlying64 rfl size_tok
    refine bodyPost_ret (v := .tuple #[.int .i64 0, .int .i64 0, .slice none 0 0, .agg #[.int .u8 0, .int .u8 0, .int .u8 0, .int .u8 0, .int .u8 0, .int .u8 0, .int .u8 0, .int .u8 0, .int .u8 0, .int .u8 0, .int .u8 0, .int .u8 0, .int .u8 0, .int .u8 0, .int .u8 0, .int .u8 0], .int .i64 (-1)]) (res_cid _ _ _ _ rfl hld) rfl ?_
    exact ⟨.inl ⟨HP3.out.trans (if_pos (.inl hs1)), rfl⟩, HBZ.out⟩
  by_cases hs2 : 20 < s3
  · skip
    go_wp2_with fail
    have HQZ := sto16_heap (w := (W0.drewN (z1 + z2 + z3))) (by exact HQ.out) (.int .u8 0) (.int .u8 0) (.int .u8 0) (.int .u8 0) (.int .u8 0) (.int .u8 0) (.int .u8 0) (.int .u8 0) (.int .u8 0) (.int .u8 0) (.int .u8 0) (.int .u8 0) (.int .u8 0) (.int .u8 0) (.int .u8 0) (.int .u8 0)
    have HBZ : Hid (Below w.heap.size w (sto16 ((W0.drewN (z1 + z2 + z3))) w.heap.size (.int .u8 0) (.int .u8 0) (.int .u8 0) (.int .u8 0) (.int .u8 0) (.int .u8 0) (.int .u8 0) (.int .u8 0) (.int .u8 0) (.int .u8 0) (.int .u8 0) (.int .u8 0) (.int .u8 0) (.int .u8 0) (.int .u8 0) (.int .u8 0))) := sto16_below (below_drewN HB0.out _) (Nat.le_refl _) (HB0.out.size) _ _ _ _ _ _ _ _ _ _ _ _ _ _ _ _
    have hrz : (sto16 ((W0.drewN (z1 + z2 + z3))) w.heap.size (.int .u8 0) (.int .u8 0) (.int .u8 0) (.int .u8 0) (.int .u8 0) (.int .u8 0) (.int .u8 0) (.int .u8 0) (.int .u8 0) (.int .u8 0) (.int .u8 0) (.int .u8 0) (.int .u8 0) (.int .u8 0) (.int .u8 0) (.int .u8 0)).rangeAt w.heap.size 0 #[.int .u8 0, .int .u8 0, .int .u8 0, .int .u8 0, .int .u8 0, .int .u8 0, .int .u8 0, .int .u8 0, .int .u8 0, .int .u8 0, .int .u8 0, .int .u8 0, .int .u8 0, .int .u8 0, .int .u8 0, .int .u8 0].toList := fun j v hv => by
      rw [Nat.zero_add, cell_of_row _ _ j _ _ (0, 0) HQZ]
      simpa using hv
    have hld := run_loadVar_mid (P := Try.prog) _ _ _ 64 _ _ hrz Try.underlying64 rfl size_tok
    refine bodyPost_ret (v := .tuple #[.int .i64 0, .int .i64 0, .slice none 0 0, .agg #[.int .u8 0, .int .u8 0, .int .u8 0, .int .u8 0, .int .u8 0, .int .u8 0, .int .u8 0, .int .u8 0, .int .u8 0, .int .u8 0, .int .u8 0, .int .u8 0, .int .u8 0, .int .u8 0, .int .u8 0, .int .u8 0], .int .i64 (-1)]) (res_cid _ _ _ _ rfl hld) rfl ?_
    exact ⟨.inl ⟨HP3.out.trans (if_pos (.inr hs2)), rfl⟩, HBZ.out⟩
  obtain ⟨A4, hA4, HA4, hs4⟩ := cut_ad HR0.out hn hnc k3
  by_cases h16 : n < k3 + 16
  · have h16' : n - k3 < 16 := by omega
    go_wp2_with fail
    have HQZ := sto16_heap (w := (W0.drewN (z1 + z2 + z3))) (by exact HQ.out) (.int .u8 0) (.int .u8 0) (.int .u8 0) (.int .u8 0) (.int .u8 0) (.int .u8 0) (.int .u8 0) (.int .u8 0) (.int .u8 0) (.int .u8 0) (.int .u8 0) (.int .u8 0) (.int .u8 0) (.int .u8 0) (.int .u8 0) (.int .u8 0)
    have HBZ : Hid (Below w.heap.size w (sto16 ((W0.drewN (z1 + z2 + z3))) w.heap.size (.int .u8 0) (.int .u8 0) (.int .u8 0) (.int .u8 0) (.int .u8 0) (.int .u8 0) (.int .u8 0) (.int .u8 0) (.int .u8 0) (.int .u8 0) (.int .u8 0) (.int .u8 0) (.int .u8 0) (.int .u8 0) (.int .u8 0) (.int .u8 0))) := sto16_below (below_drewN HB0.out _) (Nat.le_refl _) (HB0.out.size) _ _ _ _ _ _ _ _ _ _ _ _ _ _ _ _
    have hrz : (sto16 ((W0.drewN (z1 + z2 + z3))) w.heap.size (.int .u8 0) (.int .u8 0) (.int .u8 0) (.int .u8 0) (.int .u8 0) (.int .u8 0) (.int .u8 0) (.int .u8 0) (.int .u8 0) (.int .u8 0) (.int .u8 0) (.int .u8 0) (.int .u8 0) (.int .u8 0) (.int .u8 0) (.int .u8 0)).rangeAt w.heap.size 0 #[.int .u8 0, .int .u8 0, .int .u8 0, .int .u8 0, .int .u8 0, .int .u8 0, .int .u8 0, .int .u8 0, .int .u8 0, .int .u8 0, .int .u8 0, .int .u8 0, .int .u8 0, .int .u8 0, .int .u8 0, .int .u8 0].toList := fun j v hv => by
      rw [Nat.zero_add, cell_of_row _ _ j _ _ (0, 0) HQZ]
      simpa using hv
    have hld := run_loadVar_mid (P := Try.prog) _ _ _ 64 _ _ hrz Try.underlying64 rfl size_tok
    refine bodyPost_ret (v := .tuple #[.int .i64 0, .int .i64 0, .slice none 0 0, .agg #[.int .u8 0, .int .u8 0, .int .u8 0, .int .u8 0, .int .u8 0, .int .u8 0, .int .u8 0, .int .u8 0, .int .u8 0, .int .u8 0, .int .u8 0, .int .u8 0, .int .u8 0, .int .u8 0, .int .u8 0, .int .u8 0], .int .i64 (-1)]) (res_cid _ _ _ _ rfl hld) rfl ?_
    exact ⟨.inl ⟨(HP3.out.trans (if_neg (by omega))).trans (if_pos h16), rfl⟩, HBZ.out⟩
  have h16' : ¬ n - k3 < 16 := by omega
  obtain ⟨ad, had⟩ := hs4
  have hk3' : (k3 : Int) ≤ (n : Int) := by omega
  have hkc : k3 ≤ n := by omega
  obtain ⟨X, hX⟩ : ∃ X, Hid ((l.drop k3).take 16 = X) := ⟨_, Lib.hid rfl⟩
  have hXl : Hid (X.length = 16) := by show _ = _; rw [← hX.out, List.length_take, List.length_drop, hn.out]; omega
  have HT := Lib.hid (HA4.out.take 16)
  have hbX := Lib.hid (HA4.out.bs.take 16)
  rw [hX.out] at HT hbX HP3
  rw [had] at HT
  go_wp2_with fail
  refine wp_region_still_tail 4 (by kernel_rfl) (by kernel_rfl) ?_
  obtain ⟨w5, hw5⟩ : ∃ w5 : World, { W0.drewN (z1 + z2 + z3) with drawn := (W0.drewN (z1 + z2 + z3)).drawn + 1 } = w5 := ⟨_, rfl⟩
  rw [hw5]
  have HQ5 : Hid (w5.heap[w.heap.size]? = some (.cells (vals [0, 0, 0, 0, 0, 0, 0, 0, 0, 0, 0, 0, 0, 0, 0, 0]).toArray 64 (0, 0))) := by subst hw5; exact HQ.out
  have HT5 : Hid (Rd w5 (some ad) X) := by subst hw5; exact HT.out.drewN 1
  have HB5 : Hid (Below w.heap.size w w5) := by subst hw5; exact below_drewN (below_drewN HB0.out _) 1
  clear hw5
  simp only [List.take_succ_cons, List.take_zero, List.drop_succ_cons, List.drop_zero]
  clear ff e0 e1 e2 e3 e4 e5 e6 e7 e8 e9 e10 e11 e12 e13 e14 e15

  repeat still_step
  refine wpStill_nil ?_
  refine wpList_copy_splice rfl (.tmp 66) (.tmp 69) 22 22 rfl 5 Try.underlying22 size_u8 (some ⟨w.heap.size, 0, none⟩) (some ad) 16 16 (n - k3) (c - k3) rfl rfl w.heap.size 0 _ _ HQ5.out (vals X) (by rw [vals_length, hXl.out]; show _ = min _ _; omega) (fun _ => ⟨rfl, ad, rfl, HT5.out.vals_at⟩) (by rw [vals_length, hXl.out, vals_length]; simp) (vals_one X) w.heap.size w HB5.out (Nat.le_refl _) ?_
  intro w6 HQ6 HB6
  rw [vals_length, hXl.out]
  obtain ⟨y0, y1, y2, y3, y4, y5, y6, y7, y8, y9, y10, y11, y12, y13, y14, y15, hY⟩ := list16 _ hXl.out
  rw [splice_vals, splice_full _ _ (by rw [hXl.out]; rfl), hY] at HQ6
  rw [hY] at hbX HP3
  have HB6 := Lib.hid HB6
  have HP4 : Hid (Pid l = some ([v1, v2], [bs, [y0, y1, y2, y3, y4, y5, y6, y7, y8, y9, y10, y11, y12, y13, y14, y15]], k3 + 16)) := (HP3.out.trans (if_neg (by omega))).trans (if_neg h16)
  have HW6 := HQ6.out
  have hrg : w6.rangeAt w.heap.size 0 (vals [y0, y1, y2, y3, y4, y5, y6, y7, y8, y9, y10, y11, y12, y13, y14, y15]) := fun j v hv => by
    rw [Nat.zero_add, cell_of_row _ _ j _ _ (0, 0) HW6]
    simpa using hv
  have hth : w6.there w.heap.size 0 16 := fun j hj => by
    refine ⟨?_, cell_free _ HW6⟩
    have := hrg j _ (List.getElem?_eq_getElem (by rw [vals_length]; exact hj))
    rw [this]; rfl
  have hu := Try.underlying64
  have hi : (Try.prog.info? 64).map (·.size) = some (vals [y0, y1, y2, y3, y4, y5, y6, y7, y8, y9, y10, y11, y12, y13, y14, y15]).length := by rw [size_tok]; rfl
  have hlv : (vals [y0, y1, y2, y3, y4, y5, y6, y7, y8, y9, y10, y11, y12, y13, y14, y15]).length = 16 := rfl
  have hov := vals_one [y0, y1, y2, y3, y4, y5, y6, y7, y8, y9, y10, y11, y12, y13, y14, y15]
  obtain ⟨VV, hVV⟩ : ∃ VV, Hid (vals [y0, y1, y2, y3, y4, y5, y6, y7, y8, y9, y10, y11, y12, y13, y14, y15] = VV) := ⟨_, Lib.hid rfl⟩
  rw [hVV.out] at hrg hi hlv hov
  clear hY hA4 had HP3 HW6
  go_wp2_with fail
  go_region_held3 (fun w' => w'.rangeAt w.heap.size 0 VV ∧ w'.there w.heap.size 0 16) (go_keep_ranges) (fail)
  go_wp2_with fail
  have HTH := Lib.hid hth
  obtain ⟨w7, hw7⟩ : ∃ w7, Hid (w6.drew.setCells w.heap.size 0 VV = w7) := ⟨_, Lib.hid rfl⟩
  have hr7 : w7.rangeAt w.heap.size 0 VV := by rw [← hw7.out]; exact World.rangeAt_setCells_same _ _ _ _ (by rw [hlv]; exact HTH.out)
  have HB7 : Hid (Below w.heap.size w w7) := by
    show Below _ _ _
    rw [← hw7.out, ← hVV.out]
    exact sto16_below (below_drewN HB6.out 1) (Nat.le_refl _) HB6.out.size (.int .u8 y0) (.int .u8 y1) (.int .u8 y2) (.int .u8 y3) (.int .u8 y4) (.int .u8 y5) (.int .u8 y6) (.int .u8 y7) (.int .u8 y8) (.int .u8 y9) (.int .u8 y10) (.int .u8 y11) (.int .u8 y12) (.int .u8 y13) (.int .u8 y14) (.int .u8 y15)
  have g0 : w7.cell? ⟨w.heap.size, 0, none⟩ = some (.int .u8 y0) := by have := hr7 0 (.int .u8 y0) (by rw [← hVV.out]; rfl); rwa [Nat.zero_add] at this
  have g1 : w7.cell? ⟨w.heap.size, 1, none⟩ = some (.int .u8 y1) := by have := hr7 1 (.int .u8 y1) (by rw [← hVV.out]; rfl); rwa [Nat.zero_add] at this
  have g2 : w7.cell? ⟨w.heap.size, 2, none⟩ = some (.int .u8 y2) := by have := hr7 2 (.int .u8 y2) (by rw [← hVV.out]; rfl); rwa [Nat.zero_add] at this
  have g3 : w7.cell? ⟨w.heap.size, 3, none⟩ = some (.int .u8 y3) := by have := hr7 3 (.int .u8 y3) (by rw [← hVV.out]; rfl); rwa [Nat.zero_add] at this
  have g4 : w7.cell? ⟨w.heap.size, 4, none⟩ = some (.int .u8 y4) := by have := hr7 4 (.int .u8 y4) (by rw [← hVV.out]; rfl); rwa [Nat.zero_add] at this
  have g5 : w7.cell? ⟨w.heap.size, 5, none⟩ = some (.int .u8 y5) := by have := hr7 5 (.int .u8 y5) (by rw [← hVV.out]; rfl); rwa [Nat.zero_add] at this
  have g6 : w7.cell? ⟨w.heap.size, 6, none⟩ = some (.int .u8 y6) := by have := hr7 6 (.int .u8 y6) (by rw [← hVV.out]; rfl); rwa [Nat.zero_add] at this
  have g7 : w7.cell? ⟨w.heap.size, 7, none⟩ = some (.int .u8 y7) := by have := hr7 7 (.int .u8 y7) (by rw [← hVV.out]; rfl); rwa [Nat.zero_add] at this
  have g8 : w7.cell? ⟨w.heap.size, 8, none⟩ = some (.int .u8 y8) := by have := hr7 8 (.int .u8 y8) (by rw [← hVV.out]; rfl); rwa [Nat.zero_add] at this
  have g9 : w7.cell? ⟨w.heap.size, 9, none⟩ = some (.int .u8 y9) := by have := hr7 9 (.int .u8 y9) (by rw [← hVV.out]; rfl); rwa [Nat.zero_add] at this
  have g10 : w7.cell? ⟨w.heap.size, 10, none⟩ = some (.int .u8 y10) := by have := hr7 10 (.int .u8 y10) (by rw [← hVV.out]; rfl); rwa [Nat.zero_add] at this
  have g11 : w7.cell? ⟨w.heap.size, 11, none⟩ = some (.int .u8 y11) := by have := hr7 11 (.int .u8 y11) (by rw [← hVV.out]; rfl); rwa [Nat.zero_add] at this
  have g12 : w7.cell? ⟨w.heap.size, 12, none⟩ = some (.int .u8 y12) := by have := hr7 12 (.int .u8 y12) (by rw [← hVV.out]; rfl); rwa [Nat.zero_add] at this
  have g13 : w7.cell? ⟨w.heap.size, 13, none⟩ = some (.int .u8 y13) := by have := hr7 13 (.int .u8 y13) (by rw [← hVV.out]; rfl); rwa [Nat.zero_add] at this
  have g14 : w7.cell? ⟨w.heap.size, 14, none⟩ = some (.int .u8 y14) := by have := hr7 14 (.int .u8 y14) (by rw [← hVV.out]; rfl); rwa [Nat.zero_add] at this
  have g15 : w7.cell? ⟨w.heap.size, 15, none⟩ = some (.int .u8 y15) := by have := hr7 15 (.int .u8 y15) (by rw [← hVV.out]; rfl); rwa [Nat.zero_add] at this
  rw [hw7.out]
  have hRD7 : Rd w7 AD bs := by
    obtain ⟨a, ha, hab'⟩ := HZ.out
    refine ⟨HRD.out.1, fun hl => ?_⟩
    obtain ⟨b', o', e', hc'⟩ := HRD.out.2 hl
    refine ⟨b', o', e', fun i hi => ?_⟩
    have hbb : b' = b := by rw [ha] at e'; obtain rfl : a = ⟨b', o', none⟩ := (by simpa using e'); exact hab'
    have h0 := hc' i hi
    have hlt : b' < w.heap.size := by rw [hbb]; exact HBL.out
    have hd : (W0.drewN (z1 + z2)).cell? ⟨b', o' + i, none⟩ = w.cell? ⟨b', o' + i, none⟩ := HB0.out.cell (p := ⟨b', o' + i, none⟩) hlt
    rw [hd] at h0
    rw [HB7.out.cell (p := ⟨b', o' + i, none⟩) hlt]
    exact h0
  clear hw7 hr7 hth hrg hu hi hlv hov
  refine bodyPost_ret (v := .tuple #[.int .i64 v1, .int .i64 v2, .slice AD s3 cD, .agg #[.int .u8 y0, .int .u8 y1, .int .u8 y2, .int .u8 y3, .int .u8 y4, .int .u8 y5, .int .u8 y6, .int .u8 y7, .int .u8 y8, .int .u8 y9, .int .u8 y10, .int .u8 y11, .int .u8 y12, .int .u8 y13, .int .u8 y14, .int .u8 y15], .int .i64 (((k3 + 16 : Nat) : Int))]) (by simp [results, Try.results30, go_sem, g0, g1, g2, g3, g4, g5, g6, g7, g8, g9, g10, g11, g12, g13, g14, g15]) rfl ?_
  exact ⟨.inr ⟨v1, v2, bs, k3 + 16, s3, AD, cD, y0, y1, y2, y3, y4, y5, y6, y7, y8, y9, y10, y11, y12, y13, y14, y15, HP4.out, rfl, HS, hRD7, r3, s3', (fun h => by obtain ⟨a, ha, _⟩ := HZ.out; rw [ha] at h; cases h), by omega, ⟨r1, s1⟩, ⟨r2, s2⟩, hbX⟩, HB7.out⟩

end Go.Proofs.Ytggcnepdeaijoaa

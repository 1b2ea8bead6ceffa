/- Contracts of the functions that read frames of numbers alone. Conditions: the slice reads as bytes, at least one. -/
import Derived.Test.YtggcnepdeaijoaaCons
namespace Go.Proofs.Ytggcnepdeaijoaa
open Go.RowKit
set_option linter.unusedVariables false

def E_crs (l : List Int) (w : World) (e : Ending) (w' : World) : Prop := ((P3 l = none ∧ e = .returned (.tuple #[.int .u64 0, .int .u64 0, .int .i64 0, .int .i64 (-1)])) ∨ ∃ v1 v2 v3 k, P3 l = some ([v1, v2, v3], [], k) ∧ e = .returned (.tuple #[.int .u64 v1, .int .u64 v2, .int .i64 v3, .int .i64 ((k : Nat) : Int)]) ∧ N62 v1 ∧ N62 v2 ∧ N62 v3) ∧ ∃ q, w' = w.drewN q
set_option maxHeartbeats 1000000 in
theorem crs (b o n c : Nat) (l : List Int) (w : World) (hr : Rd w (some ⟨b, o, none⟩) l) (hn : Hid (l.length = n)) (hnc : n ≤ c) (hc2 : c ≤ 9223372036854775807) (h1 : 1 ≤ n) :
    Calls Try.prog 19 #[.slice (some ⟨b, o, none⟩) n c] w fun e w' => E_crs l w e w' := by
  have hb := Lib.hid hr.bs
  have hn' := Lib.hid hn.out
  obtain ⟨A1, hA1, HA1, -⟩ := cut_ad hr hn hnc 1
  have hl1 : Hid ((l.drop 1).length = n - 1) := by show _ = _; rw [List.length_drop, hn.out]
  go_enter Try.func19, Try.ntmps19
  go_wp2_with fail
  refine (cvn A1 (n - 1) (c - 1) 1 l _ (by exact HA1.out) hb hl1 (by omega)).mono ?_
  rintro e w1 ⟨he, z1, rfl⟩
  rcases he with ⟨hv1, rfl⟩ | ⟨v1, k1, m1, hv1, rfl, hk1, a1, b1, c1, d1⟩
  · have HV1 := Lib.hid hv1
    clear hv1 hA1
    go_wp2_with fail
    refine bodyPost_ret (v := .tuple #[.int .u64 0, .int .u64 0, .int .i64 0, .int .i64 (-1)]) (by simp [results, Try.results19, go_sem]) rfl ?_
    exact ⟨.inl ⟨by simp [P3, HV1.out], rfl⟩, _, rfl⟩
  have HV1 := Lib.hid hv1
  rw [hn.out] at b1
  clear hv1 hA1
  have hk1 : (1 : Int) + (m1 : Int) = (k1 : Int) := hk1
  obtain ⟨A2, hA2, HA2, -⟩ := cut_ad hr hn hnc k1
  have hl2 : Hid ((l.drop k1).length = n - k1) := by show _ = _; rw [List.length_drop, hn.out]
  go_wp2_with fail
  refine (cvn A2 (n - k1) (c - k1) k1 l _ (by exact HA2.out) hb hl2 (by omega)).mono ?_
  rintro e w2 ⟨he, z2, rfl⟩
  rcases he with ⟨hv2, rfl⟩ | ⟨v2, k2, m2, hv2, rfl, hk2, a2, b2, c2, d2⟩
  · have HV2 := Lib.hid hv2
    clear hv2 hA2
    go_wp2_with fail
    refine bodyPost_ret (v := .tuple #[.int .u64 0, .int .u64 0, .int .i64 0, .int .i64 (-1)]) (by simp [results, Try.results19, go_sem]) rfl ?_
    exact ⟨.inl ⟨by simp [P3, HV1.out, HV2.out], rfl⟩, _, rfl⟩
  have HV2 := Lib.hid hv2
  rw [hn.out] at b2
  clear hv2 hA2
  obtain ⟨A3, hA3, HA3, -⟩ := cut_ad hr hn hnc k2
  have hl3 : Hid ((l.drop k2).length = n - k2) := by show _ = _; rw [List.length_drop, hn.out]
  go_wp2_with fail
  refine (cvn A3 (n - k2) (c - k2) k2 l _ (by exact HA3.out) hb hl3 (by omega)).mono ?_
  rintro e w3 ⟨he, z3, rfl⟩
  rcases he with ⟨hv3, rfl⟩ | ⟨v3, k3, m3, hv3, rfl, hk3, a3, b3, c3, d3⟩
  · have HV3 := Lib.hid hv3
    clear hv3 hA3
    go_wp2_with fail
    refine bodyPost_ret (v := .tuple #[.int .u64 0, .int .u64 0, .int .i64 0, .int .i64 (-1)]) (by simp [results, Try.results19, go_sem]) rfl ?_
    exact ⟨.inl ⟨by simp [P3, HV1.out, HV2.out, HV3.out], rfl⟩, _, rfl⟩
  have HV3 := Lib.hid hv3
  rw [hn.out] at b3
  clear hv3 hA3
  go_wp2_with fail
  refine bodyPost_ret (v := .tuple #[.int .u64 v1, .int .u64 v2, .int .i64 v3, .int .i64 (k3 : Int)]) (by simp [results, Try.results19, go_sem]) rfl ?_
  exact ⟨.inr ⟨v1, v2, v3, k3, by simp [P3, HV1.out, HV2.out, HV3.out], rfl, ⟨c1, d1⟩, ⟨c2, d2⟩, ⟨c3, d3⟩⟩, _, rfl⟩

def E_css (l : List Int) (w : World) (e : Ending) (w' : World) : Prop := ((P2 l = none ∧ e = .returned (.tuple #[.int .u64 0, .int .u64 0, .int .i64 (-1)])) ∨ ∃ v1 v2 k, P2 l = some ([v1, v2], [], k) ∧ e = .returned (.tuple #[.int .u64 v1, .int .u64 v2, .int .i64 ((k : Nat) : Int)]) ∧ N62 v1 ∧ N62 v2) ∧ ∃ q, w' = w.drewN q
set_option maxHeartbeats 1000000 in
theorem css (b o n c : Nat) (l : List Int) (w : World) (hr : Rd w (some ⟨b, o, none⟩) l) (hn : Hid (l.length = n)) (hnc : n ≤ c) (hc2 : c ≤ 9223372036854775807) (h1 : 1 ≤ n) :
    Calls Try.prog 20 #[.slice (some ⟨b, o, none⟩) n c] w fun e w' => E_css l w e w' := by
  have hb := Lib.hid hr.bs
  have hn' := Lib.hid hn.out
  obtain ⟨A1, hA1, HA1, -⟩ := cut_ad hr hn hnc 1
  have hl1 : Hid ((l.drop 1).length = n - 1) := by show _ = _; rw [List.length_drop, hn.out]
  go_enter Try.func20, Try.ntmps20
  go_wp2_with fail
  refine (cvn A1 (n - 1) (c - 1) 1 l _ (by exact HA1.out) hb hl1 (by omega)).mono ?_
  rintro e w1 ⟨he, z1, rfl⟩
  rcases he with ⟨hv1, rfl⟩ | ⟨v1, k1, m1, hv1, rfl, hk1, a1, b1, c1, d1⟩
  · have HV1 := Lib.hid hv1
    clear hv1 hA1
    go_wp2_with fail
    refine bodyPost_ret (v := .tuple #[.int .u64 0, .int .u64 0, .int .i64 (-1)]) (by simp [results, Try.results20, go_sem]) rfl ?_
    exact ⟨.inl ⟨by simp [P2, HV1.out], rfl⟩, _, rfl⟩
  have HV1 := Lib.hid hv1
  rw [hn.out] at b1
  clear hv1 hA1
  have hk1 : (1 : Int) + (m1 : Int) = (k1 : Int) := hk1
  obtain ⟨A2, hA2, HA2, -⟩ := cut_ad hr hn hnc k1
  have hl2 : Hid ((l.drop k1).length = n - k1) := by show _ = _; rw [List.length_drop, hn.out]
  go_wp2_with fail
  refine (cvn A2 (n - k1) (c - k1) k1 l _ (by exact HA2.out) hb hl2 (by omega)).mono ?_
  rintro e w2 ⟨he, z2, rfl⟩
  rcases he with ⟨hv2, rfl⟩ | ⟨v2, k2, m2, hv2, rfl, hk2, a2, b2, c2, d2⟩
  · have HV2 := Lib.hid hv2
    clear hv2 hA2
    go_wp2_with fail
    refine bodyPost_ret (v := .tuple #[.int .u64 0, .int .u64 0, .int .i64 (-1)]) (by simp [results, Try.results20, go_sem]) rfl ?_
    exact ⟨.inl ⟨by simp [P2, HV1.out, HV2.out], rfl⟩, _, rfl⟩
  have HV2 := Lib.hid hv2
  rw [hn.out] at b2
  clear hv2 hA2
  go_wp2_with fail
  refine bodyPost_ret (v := .tuple #[.int .u64 v1, .int .u64 v2, .int .i64 (k2 : Int)]) (by simp [results, Try.results20, go_sem]) rfl ?_
  exact ⟨.inr ⟨v1, v2, k2, by simp [P2, HV1.out, HV2.out], rfl, ⟨c1, d1⟩, ⟨c2, d2⟩⟩, _, rfl⟩

def E_cmsd (l : List Int) (w : World) (e : Ending) (w' : World) : Prop := ((P2 l = none ∧ e = .returned (.tuple #[.int .u64 0, .int .i64 0, .int .i64 (-1)])) ∨ ∃ v1 v2 k, P2 l = some ([v1, v2], [], k) ∧ e = .returned (.tuple #[.int .u64 v1, .int .i64 v2, .int .i64 ((k : Nat) : Int)]) ∧ N62 v1 ∧ N62 v2) ∧ ∃ q, w' = w.drewN q
set_option maxHeartbeats 1000000 in
theorem cmsd (b o n c : Nat) (l : List Int) (w : World) (hr : Rd w (some ⟨b, o, none⟩) l) (hn : Hid (l.length = n)) (hnc : n ≤ c) (hc2 : c ≤ 9223372036854775807) (h1 : 1 ≤ n) :
    Calls Try.prog 25 #[.slice (some ⟨b, o, none⟩) n c] w fun e w' => E_cmsd l w e w' := by
  have hb := Lib.hid hr.bs
  have hn' := Lib.hid hn.out
  obtain ⟨A1, hA1, HA1, -⟩ := cut_ad hr hn hnc 1
  have hl1 : Hid ((l.drop 1).length = n - 1) := by show _ = _; rw [List.length_drop, hn.out]
  go_enter Try.func25, Try.ntmps25
  go_wp2_with fail
  refine (cvn A1 (n - 1) (c - 1) 1 l _ (by exact HA1.out) hb hl1 (by omega)).mono ?_
  rintro e w1 ⟨he, z1, rfl⟩
  rcases he with ⟨hv1, rfl⟩ | ⟨v1, k1, m1, hv1, rfl, hk1, a1, b1, c1, d1⟩
  · have HV1 := Lib.hid hv1
    clear hv1 hA1
    go_wp2_with fail
    refine bodyPost_ret (v := .tuple #[.int .u64 0, .int .i64 0, .int .i64 (-1)]) (by simp [results, Try.results25, go_sem]) rfl ?_
    exact ⟨.inl ⟨by simp [P2, HV1.out], rfl⟩, _, rfl⟩
  have HV1 := Lib.hid hv1
  rw [hn.out] at b1
  clear hv1 hA1
  have hk1 : (1 : Int) + (m1 : Int) = (k1 : Int) := hk1
  obtain ⟨A2, hA2, HA2, -⟩ := cut_ad hr hn hnc k1
  have hl2 : Hid ((l.drop k1).length = n - k1) := by show _ = _; rw [List.length_drop, hn.out]
  go_wp2_with fail
  refine (cvn A2 (n - k1) (c - k1) k1 l _ (by exact HA2.out) hb hl2 (by omega)).mono ?_
  rintro e w2 ⟨he, z2, rfl⟩
  rcases he with ⟨hv2, rfl⟩ | ⟨v2, k2, m2, hv2, rfl, hk2, a2, b2, c2, d2⟩
  · have HV2 := Lib.hid hv2
    clear hv2 hA2
    go_wp2_with fail
    refine bodyPost_ret (v := .tuple #[.int .u64 0, .int .i64 0, .int .i64 (-1)]) (by simp [results, Try.results25, go_sem]) rfl ?_
    exact ⟨.inl ⟨by simp [P2, HV1.out, HV2.out], rfl⟩, _, rfl⟩
  have HV2 := Lib.hid hv2
  rw [hn.out] at b2
  clear hv2 hA2
  go_wp2_with fail
  refine bodyPost_ret (v := .tuple #[.int .u64 v1, .int .i64 v2, .int .i64 (k2 : Int)]) (by simp [results, Try.results25, go_sem]) rfl ?_
  exact ⟨.inr ⟨v1, v2, k2, by simp [P2, HV1.out, HV2.out], rfl, ⟨c1, d1⟩, ⟨c2, d2⟩⟩, _, rfl⟩

def E_csdb (l : List Int) (w : World) (e : Ending) (w' : World) : Prop := ((P2 l = none ∧ e = .returned (.tuple #[.int .u64 0, .int .i64 0, .int .i64 (-1)])) ∨ ∃ v1 v2 k, P2 l = some ([v1, v2], [], k) ∧ e = .returned (.tuple #[.int .u64 v1, .int .i64 v2, .int .i64 ((k : Nat) : Int)]) ∧ N62 v1 ∧ N62 v2) ∧ ∃ q, w' = w.drewN q
set_option maxHeartbeats 1000000 in
theorem csdb (b o n c : Nat) (l : List Int) (w : World) (hr : Rd w (some ⟨b, o, none⟩) l) (hn : Hid (l.length = n)) (hnc : n ≤ c) (hc2 : c ≤ 9223372036854775807) (h1 : 1 ≤ n) :
    Calls Try.prog 28 #[.slice (some ⟨b, o, none⟩) n c] w fun e w' => E_csdb l w e w' := by
  have hb := Lib.hid hr.bs
  have hn' := Lib.hid hn.out
  obtain ⟨A1, hA1, HA1, -⟩ := cut_ad hr hn hnc 1
  have hl1 : Hid ((l.drop 1).length = n - 1) := by show _ = _; rw [List.length_drop, hn.out]
  go_enter Try.func28, Try.ntmps28
  go_wp2_with fail
  refine (cvn A1 (n - 1) (c - 1) 1 l _ (by exact HA1.out) hb hl1 (by omega)).mono ?_
  rintro e w1 ⟨he, z1, rfl⟩
  rcases he with ⟨hv1, rfl⟩ | ⟨v1, k1, m1, hv1, rfl, hk1, a1, b1, c1, d1⟩
  · have HV1 := Lib.hid hv1
    clear hv1 hA1
    go_wp2_with fail
    refine bodyPost_ret (v := .tuple #[.int .u64 0, .int .i64 0, .int .i64 (-1)]) (by simp [results, Try.results28, go_sem]) rfl ?_
    exact ⟨.inl ⟨by simp [P2, HV1.out], rfl⟩, _, rfl⟩
  have HV1 := Lib.hid hv1
  rw [hn.out] at b1
  clear hv1 hA1
  have hk1 : (1 : Int) + (m1 : Int) = (k1 : Int) := hk1
  obtain ⟨A2, hA2, HA2, -⟩ := cut_ad hr hn hnc k1
  have hl2 : Hid ((l.drop k1).length = n - k1) := by show _ = _; rw [List.length_drop, hn.out]
  go_wp2_with fail
  refine (cvi A2 (n - k1) (c - k1) k1 l _ (by exact HA2.out) hb hl2 (by omega)).mono ?_
  rintro e w2 ⟨he, z2, rfl⟩
  rcases he with ⟨hv2, rfl⟩ | ⟨v2, k2, m2, hv2, rfl, hk2, a2, b2, c2, d2⟩
  · have HV2 := Lib.hid hv2
    clear hv2 hA2
    go_wp2_with fail
    refine bodyPost_ret (v := .tuple #[.int .u64 0, .int .i64 0, .int .i64 (-1)]) (by simp [results, Try.results28, go_sem]) rfl ?_
    exact ⟨.inl ⟨by simp [P2, HV1.out, HV2.out], rfl⟩, _, rfl⟩
  have HV2 := Lib.hid hv2
  rw [hn.out] at b2
  clear hv2 hA2
  go_wp2_with fail
  refine bodyPost_ret (v := .tuple #[.int .u64 v1, .int .i64 v2, .int .i64 (k2 : Int)]) (by simp [results, Try.results28, go_sem]) rfl ?_
  exact ⟨.inr ⟨v1, v2, k2, by simp [P2, HV1.out, HV2.out], rfl, ⟨c1, d1⟩, ⟨c2, d2⟩⟩, _, rfl⟩

def E_cmd (l : List Int) (w : World) (e : Ending) (w' : World) : Prop := ((P1 l = none ∧ e = .returned (.tuple #[.int .i64 0, .int .i64 (-1)])) ∨ ∃ v1 k, P1 l = some ([v1], [], k) ∧ e = .returned (.tuple #[.int .i64 v1, .int .i64 ((k : Nat) : Int)]) ∧ N62 v1) ∧ ∃ q, w' = w.drewN q
set_option maxHeartbeats 1000000 in
theorem cmd (b o n c : Nat) (l : List Int) (w : World) (hr : Rd w (some ⟨b, o, none⟩) l) (hn : Hid (l.length = n)) (hnc : n ≤ c) (hc2 : c ≤ 9223372036854775807) (h1 : 1 ≤ n) :
    Calls Try.prog 24 #[.slice (some ⟨b, o, none⟩) n c] w fun e w' => E_cmd l w e w' := by
  have hb := Lib.hid hr.bs
  have hn' := Lib.hid hn.out
  obtain ⟨A1, hA1, HA1, -⟩ := cut_ad hr hn hnc 1
  have hl1 : Hid ((l.drop 1).length = n - 1) := by show _ = _; rw [List.length_drop, hn.out]
  go_enter Try.func24, Try.ntmps24
  go_wp2_with fail
  refine (cvn A1 (n - 1) (c - 1) 1 l _ (by exact HA1.out) hb hl1 (by omega)).mono ?_
  rintro e w1 ⟨he, z1, rfl⟩
  rcases he with ⟨hv1, rfl⟩ | ⟨v1, k1, m1, hv1, rfl, hk1, a1, b1, c1, d1⟩
  · have HV1 := Lib.hid hv1
    clear hv1 hA1
    go_wp2_with fail
    refine bodyPost_ret (v := .tuple #[.int .i64 0, .int .i64 (-1)]) (by simp [results, Try.results24, go_sem]) rfl ?_
    exact ⟨.inl ⟨by simp [P1, HV1.out], rfl⟩, _, rfl⟩
  have HV1 := Lib.hid hv1
  rw [hn.out] at b1
  clear hv1 hA1
  have hk1 : (1 : Int) + (m1 : Int) = (k1 : Int) := hk1
  go_wp2_with fail
  refine bodyPost_ret (v := .tuple #[.int .i64 v1, .int .i64 (k1 : Int)]) (by simp [results, Try.results24, go_sem]) rfl ?_
  exact ⟨.inr ⟨v1, k1, by simp [P1, HV1.out], rfl, ⟨c1, d1⟩⟩, _, rfl⟩

def E_cdb (l : List Int) (w : World) (e : Ending) (w' : World) : Prop := ((P1 l = none ∧ e = .returned (.tuple #[.int .i64 0, .int .i64 (-1)])) ∨ ∃ v1 k, P1 l = some ([v1], [], k) ∧ e = .returned (.tuple #[.int .i64 v1, .int .i64 ((k : Nat) : Int)]) ∧ N62 v1) ∧ ∃ q, w' = w.drewN q
set_option maxHeartbeats 1000000 in
theorem cdb (b o n c : Nat) (l : List Int) (w : World) (hr : Rd w (some ⟨b, o, none⟩) l) (hn : Hid (l.length = n)) (hnc : n ≤ c) (hc2 : c ≤ 9223372036854775807) (h1 : 1 ≤ n) :
    Calls Try.prog 27 #[.slice (some ⟨b, o, none⟩) n c] w fun e w' => E_cdb l w e w' := by
  have hb := Lib.hid hr.bs
  have hn' := Lib.hid hn.out
  obtain ⟨A1, hA1, HA1, -⟩ := cut_ad hr hn hnc 1
  have hl1 : Hid ((l.drop 1).length = n - 1) := by show _ = _; rw [List.length_drop, hn.out]
  go_enter Try.func27, Try.ntmps27
  go_wp2_with fail
  refine (cvi A1 (n - 1) (c - 1) 1 l _ (by exact HA1.out) hb hl1 (by omega)).mono ?_
  rintro e w1 ⟨he, z1, rfl⟩
  rcases he with ⟨hv1, rfl⟩ | ⟨v1, k1, m1, hv1, rfl, hk1, a1, b1, c1, d1⟩
  · have HV1 := Lib.hid hv1
    clear hv1 hA1
    go_wp2_with fail
    refine bodyPost_ret (v := .tuple #[.int .i64 0, .int .i64 (-1)]) (by simp [results, Try.results27, go_sem]) rfl ?_
    exact ⟨.inl ⟨by simp [P1, HV1.out], rfl⟩, _, rfl⟩
  have HV1 := Lib.hid hv1
  rw [hn.out] at b1
  clear hv1 hA1
  have hk1 : (1 : Int) + (m1 : Int) = (k1 : Int) := hk1
  go_wp2_with fail
  refine bodyPost_ret (v := .tuple #[.int .i64 v1, .int .i64 (k1 : Int)]) (by simp [results, Try.results27, go_sem]) rfl ?_
  exact ⟨.inr ⟨v1, k1, by simp [P1, HV1.out], rfl, ⟨c1, d1⟩⟩, _, rfl⟩

def E_crc (l : List Int) (w : World) (e : Ending) (w' : World) : Prop := ((P1 l = none ∧ e = .returned (.tuple #[.int .i64 0, .int .i64 (-1)])) ∨ ∃ v1 k, P1 l = some ([v1], [], k) ∧ e = .returned (.tuple #[.int .i64 v1, .int .i64 ((k : Nat) : Int)]) ∧ N62 v1) ∧ ∃ q, w' = w.drewN q
set_option maxHeartbeats 1000000 in
theorem crc (b o n c : Nat) (l : List Int) (w : World) (hr : Rd w (some ⟨b, o, none⟩) l) (hn : Hid (l.length = n)) (hnc : n ≤ c) (hc2 : c ≤ 9223372036854775807) (h1 : 1 ≤ n) :
    Calls Try.prog 31 #[.slice (some ⟨b, o, none⟩) n c] w fun e w' => E_crc l w e w' := by
  have hb := Lib.hid hr.bs
  have hn' := Lib.hid hn.out
  obtain ⟨A1, hA1, HA1, -⟩ := cut_ad hr hn hnc 1
  have hl1 : Hid ((l.drop 1).length = n - 1) := by show _ = _; rw [List.length_drop, hn.out]
  go_enter Try.func31, Try.ntmps31
  go_wp2_with fail
  refine (cvi A1 (n - 1) (c - 1) 1 l _ (by exact HA1.out) hb hl1 (by omega)).mono ?_
  rintro e w1 ⟨he, z1, rfl⟩
  rcases he with ⟨hv1, rfl⟩ | ⟨v1, k1, m1, hv1, rfl, hk1, a1, b1, c1, d1⟩
  · have HV1 := Lib.hid hv1
    clear hv1 hA1
    go_wp2_with fail
    refine bodyPost_ret (v := .tuple #[.int .i64 0, .int .i64 (-1)]) (by simp [results, Try.results31, go_sem]) rfl ?_
    exact ⟨.inl ⟨by simp [P1, HV1.out], rfl⟩, _, rfl⟩
  have HV1 := Lib.hid hv1
  rw [hn.out] at b1
  clear hv1 hA1
  have hk1 : (1 : Int) + (m1 : Int) = (k1 : Int) := hk1
  go_wp2_with fail
  refine bodyPost_ret (v := .tuple #[.int .i64 v1, .int .i64 (k1 : Int)]) (by simp [results, Try.results31, go_sem]) rfl ?_
  exact ⟨.inr ⟨v1, k1, by simp [P1, HV1.out], rfl, ⟨c1, d1⟩⟩, _, rfl⟩

end Go.Proofs.Ytggcnepdeaijoaa

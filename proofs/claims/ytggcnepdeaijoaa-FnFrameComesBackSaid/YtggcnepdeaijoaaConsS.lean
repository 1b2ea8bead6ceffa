/- Contracts of the functions that read frames of streams. Conditions: the slice reads as bytes, at least one. -/
import Derived.Test.YtggcnepdeaijoaaCons
import Derived.Test.YtggcnepdeaijoaaEqual
namespace Go.Proofs.Ytggcnepdeaijoaa
open Go.RowKit
set_option linter.unusedVariables false
set_option linter.unusedSimpArgs false

def E_cst8 (l : List Int) (w : World) (e : Ending) (w' : World) : Prop := ((Pst 8 l = none ∧ e = .returned (.tuple #[.int .u64 0, .int .i64 0, .bool false, .slice none 0 0, .int .i64 (-1)])) ∨ ∃ v1 bs k s A c', Pst 8 l = some ([v1, 0, 0], [bs], k) ∧ e = .returned (.tuple #[.int .u64 v1, .int .i64 0, .bool false, .slice A s c', .int .i64 ((k : Nat) : Int)]) ∧ Hid (List.length bs = s) ∧ Hid (Rd w' A bs) ∧ s ≤ c' ∧ c' ≤ 9223372036854775807 ∧ Hid (A = none → c' = 0) ∧ s ≤ l.length ∧ N62 v1) ∧ ∃ q, w' = w.drewN q
set_option maxRecDepth 100000 in
set_option maxHeartbeats 1000000 in
theorem cst8 (b o n c : Nat) (l : List Int) (w : World) (hr : Rd w (some ⟨b, o, none⟩) l) (hn : Hid (l.length = n)) (hnc : n ≤ c) (hc2 : c ≤ 9223372036854775807) (h1 : 1 ≤ n) (hn2 : n ≤ 4294967295) (h0 : w.cell? ⟨b, o, none⟩ = some (.int .u8 8)) :
    Calls Try.prog 23 #[.slice (some ⟨b, o, none⟩) n c] w fun e w' => E_cst8 l w e w' := by
  have hb := Lib.hid hr.bs
  have hn' := Lib.hid hn.out
  have fb1 : bits .and .u8 8 1 = 0 := by decide
  have fb2 : bits .and .u8 8 2 = 0 := by decide
  have fb4 : bits .and .u8 8 4 = 0 := by decide
  obtain ⟨A1, hA1, HA1, hs1⟩ := cut_ad hr hn hnc 1
  have hl1 : Hid ((l.drop 1).length = n - 1) := by show _ = _; rw [List.length_drop, hn.out]
  go_enter Try.func23, Try.ntmps23
  go_wp2_with fail
  refine (cvn A1 (n - 1) (c - 1) 1 l _ (by exact HA1.out) hb hl1 (by omega)).mono ?_
  rintro e w1 ⟨he, z1, rfl⟩
  rcases he with ⟨hv1, rfl⟩ | ⟨v1, k1, m1, hv1, rfl, hk1, a1, b1, c1, d1⟩
  · have HV1 := Lib.hid hv1
    clear hv1 hA1
    go_wp2_with fail
    refine bodyPost_ret (v := .tuple #[.int .u64 0, .int .i64 0, .bool false, .slice none 0 0, .int .i64 (-1)]) (by simp [results, Try.results23, go_sem]) rfl ?_
    exact ⟨.inl ⟨by simp [Pst, Pof, Pda, HV1.out], rfl⟩, _, rfl⟩
  have HV1 := Lib.hid hv1
  rw [hn.out] at b1
  clear hv1 hA1
  have hk1 : (1 : Int) + (m1 : Int) = (k1 : Int) := hk1
  obtain ⟨A2, hA2, HA2, hs2⟩ := cut_ad hr hn hnc k1
  have hl2 : Hid ((l.drop k1).length = n - k1) := by show _ = _; rw [List.length_drop, hn.out]
  have hkr : (k1 : Int) + ((n - k1 : Nat) : Int) = (n : Int) := by omega
  have bs2 : (n - k1 : Nat) ≤ n := by omega
  obtain ⟨SZ, hSZ⟩ : ∃ S : Int, (((n - k1) : Nat) : Int) = S := ⟨_, rfl⟩
  have hSZ0 : 0 ≤ SZ ∧ SZ ≤ 4294967295 := by omega
  rw [hSZ] at hkr
  go_wp2_with fail
  refine bodyPost_ret (v := .tuple #[.int .u64 v1, .int .i64 0, .bool false, .slice A2 (n - k1) (c - k1), .int .i64 (n : Int)]) (by simp [results, Try.results23, go_sem]) rfl ?_
  exact ⟨.inr ⟨v1, (l.drop k1), n, _, _, _, by simp [Pst, Pof, Pda, HV1.out, hn.out, hl2.out]; omega, rfl, hl2, (by exact HA2.out), by omega, by omega, (fun h => by obtain ⟨a, ha⟩ := hs2; rw [ha] at h; cases h), by rw [hn.out]; omega, ⟨c1, d1⟩⟩, _, rfl⟩

def E_cst9 (l : List Int) (w : World) (e : Ending) (w' : World) : Prop := ((Pst 9 l = none ∧ e = .returned (.tuple #[.int .u64 0, .int .i64 0, .bool false, .slice none 0 0, .int .i64 (-1)])) ∨ ∃ v1 bs k s A c', Pst 9 l = some ([v1, 0, 1], [bs], k) ∧ e = .returned (.tuple #[.int .u64 v1, .int .i64 0, .bool true, .slice A s c', .int .i64 ((k : Nat) : Int)]) ∧ Hid (List.length bs = s) ∧ Hid (Rd w' A bs) ∧ s ≤ c' ∧ c' ≤ 9223372036854775807 ∧ Hid (A = none → c' = 0) ∧ s ≤ l.length ∧ N62 v1) ∧ ∃ q, w' = w.drewN q
set_option maxRecDepth 100000 in
set_option maxHeartbeats 1000000 in
theorem cst9 (b o n c : Nat) (l : List Int) (w : World) (hr : Rd w (some ⟨b, o, none⟩) l) (hn : Hid (l.length = n)) (hnc : n ≤ c) (hc2 : c ≤ 9223372036854775807) (h1 : 1 ≤ n) (hn2 : n ≤ 4294967295) (h0 : w.cell? ⟨b, o, none⟩ = some (.int .u8 9)) :
    Calls Try.prog 23 #[.slice (some ⟨b, o, none⟩) n c] w fun e w' => E_cst9 l w e w' := by
  have hb := Lib.hid hr.bs
  have hn' := Lib.hid hn.out
  have fb1 : bits .and .u8 9 1 = 1 := by decide
  have fb2 : bits .and .u8 9 2 = 0 := by decide
  have fb4 : bits .and .u8 9 4 = 0 := by decide
  obtain ⟨A1, hA1, HA1, hs1⟩ := cut_ad hr hn hnc 1
  have hl1 : Hid ((l.drop 1).length = n - 1) := by show _ = _; rw [List.length_drop, hn.out]
  go_enter Try.func23, Try.ntmps23
  go_wp2_with fail
  refine (cvn A1 (n - 1) (c - 1) 1 l _ (by exact HA1.out) hb hl1 (by omega)).mono ?_
  rintro e w1 ⟨he, z1, rfl⟩
  rcases he with ⟨hv1, rfl⟩ | ⟨v1, k1, m1, hv1, rfl, hk1, a1, b1, c1, d1⟩
  · have HV1 := Lib.hid hv1
    clear hv1 hA1
    go_wp2_with fail
    refine bodyPost_ret (v := .tuple #[.int .u64 0, .int .i64 0, .bool false, .slice none 0 0, .int .i64 (-1)]) (by simp [results, Try.results23, go_sem]) rfl ?_
    exact ⟨.inl ⟨by simp [Pst, Pof, Pda, HV1.out], rfl⟩, _, rfl⟩
  have HV1 := Lib.hid hv1
  rw [hn.out] at b1
  clear hv1 hA1
  have hk1 : (1 : Int) + (m1 : Int) = (k1 : Int) := hk1
  obtain ⟨A2, hA2, HA2, hs2⟩ := cut_ad hr hn hnc k1
  have hl2 : Hid ((l.drop k1).length = n - k1) := by show _ = _; rw [List.length_drop, hn.out]
  have hkr : (k1 : Int) + ((n - k1 : Nat) : Int) = (n : Int) := by omega
  have bs2 : (n - k1 : Nat) ≤ n := by omega
  obtain ⟨SZ, hSZ⟩ : ∃ S : Int, (((n - k1) : Nat) : Int) = S := ⟨_, rfl⟩
  have hSZ0 : 0 ≤ SZ ∧ SZ ≤ 4294967295 := by omega
  rw [hSZ] at hkr
  go_wp2_with fail
  refine bodyPost_ret (v := .tuple #[.int .u64 v1, .int .i64 0, .bool true, .slice A2 (n - k1) (c - k1), .int .i64 (n : Int)]) (by simp [results, Try.results23, go_sem]) rfl ?_
  exact ⟨.inr ⟨v1, (l.drop k1), n, _, _, _, by simp [Pst, Pof, Pda, HV1.out, hn.out, hl2.out]; omega, rfl, hl2, (by exact HA2.out), by omega, by omega, (fun h => by obtain ⟨a, ha⟩ := hs2; rw [ha] at h; cases h), by rw [hn.out]; omega, ⟨c1, d1⟩⟩, _, rfl⟩

def E_cst10 (l : List Int) (w : World) (e : Ending) (w' : World) : Prop := ((Pst 10 l = none ∧ e = .returned (.tuple #[.int .u64 0, .int .i64 0, .bool false, .slice none 0 0, .int .i64 (-1)])) ∨ ∃ v1 bs k s A c', Pst 10 l = some ([v1, 0, 0], [bs], k) ∧ e = .returned (.tuple #[.int .u64 v1, .int .i64 0, .bool false, .slice A s c', .int .i64 ((k : Nat) : Int)]) ∧ Hid (List.length bs = s) ∧ Hid (Rd w' A bs) ∧ s ≤ c' ∧ c' ≤ 9223372036854775807 ∧ Hid (A = none → c' = 0) ∧ s ≤ l.length ∧ N62 v1) ∧ ∃ q, w' = w.drewN q
set_option maxRecDepth 100000 in
set_option maxHeartbeats 1000000 in
theorem cst10 (b o n c : Nat) (l : List Int) (w : World) (hr : Rd w (some ⟨b, o, none⟩) l) (hn : Hid (l.length = n)) (hnc : n ≤ c) (hc2 : c ≤ 9223372036854775807) (h1 : 1 ≤ n) (hn2 : n ≤ 4294967295) (h0 : w.cell? ⟨b, o, none⟩ = some (.int .u8 10)) :
    Calls Try.prog 23 #[.slice (some ⟨b, o, none⟩) n c] w fun e w' => E_cst10 l w e w' := by
  have hb := Lib.hid hr.bs
  have hn' := Lib.hid hn.out
  have fb1 : bits .and .u8 10 1 = 0 := by decide
  have fb2 : bits .and .u8 10 2 = 2 := by decide
  have fb4 : bits .and .u8 10 4 = 0 := by decide
  obtain ⟨A1, hA1, HA1, hs1⟩ := cut_ad hr hn hnc 1
  have hl1 : Hid ((l.drop 1).length = n - 1) := by show _ = _; rw [List.length_drop, hn.out]
  go_enter Try.func23, Try.ntmps23
  go_wp2_with fail
  refine (cvn A1 (n - 1) (c - 1) 1 l _ (by exact HA1.out) hb hl1 (by omega)).mono ?_
  rintro e w1 ⟨he, z1, rfl⟩
  rcases he with ⟨hv1, rfl⟩ | ⟨v1, k1, m1, hv1, rfl, hk1, a1, b1, c1, d1⟩
  · have HV1 := Lib.hid hv1
    clear hv1 hA1
    go_wp2_with fail
    refine bodyPost_ret (v := .tuple #[.int .u64 0, .int .i64 0, .bool false, .slice none 0 0, .int .i64 (-1)]) (by simp [results, Try.results23, go_sem]) rfl ?_
    exact ⟨.inl ⟨by simp [Pst, Pof, Pda, HV1.out], rfl⟩, _, rfl⟩
  have HV1 := Lib.hid hv1
  rw [hn.out] at b1
  clear hv1 hA1
  have hk1 : (1 : Int) + (m1 : Int) = (k1 : Int) := hk1
  obtain ⟨A2, hA2, HA2, hs2⟩ := cut_ad hr hn hnc k1
  have hl2 : Hid ((l.drop k1).length = n - k1) := by show _ = _; rw [List.length_drop, hn.out]
  go_wp2_with fail
  refine (cbn A2 (n - k1) (c - k1) k1 l _ (by exact HA2.out) hb hl2 (by omega) (by omega)).mono ?_
  rintro e w2 ⟨he, z2, rfl⟩
  rcases he with ⟨hv2, rfl⟩ | ⟨bs, k2, m2, s2, AD, cD, hv2, rfl, hk2, a2, b2, HS, HRD, c2, d2, HZ, f2⟩
  · have HV2 := Lib.hid hv2
    clear hv2 hA2
    go_wp2_with fail
    refine bodyPost_ret (v := .tuple #[.int .u64 0, .int .i64 0, .bool false, .slice none 0 0, .int .i64 (-1)]) (by simp [results, Try.results23, go_sem]) rfl ?_
    exact ⟨.inl ⟨by simp [Pst, Pof, Pda, HV1.out, HV2.out], rfl⟩, _, rfl⟩
  have HV2 := Lib.hid hv2
  rw [hn.out] at b2 f2
  clear hv2 hA2
  obtain ⟨SZ, hSZ⟩ : ∃ S : Int, ((s2 : Nat) : Int) = S := ⟨_, rfl⟩
  have hSZ0 : 0 ≤ SZ ∧ SZ ≤ 4294967295 := by omega
  go_wp2_with fail
  refine bodyPost_ret (v := .tuple #[.int .u64 v1, .int .i64 0, .bool false, .slice AD s2 cD, .int .i64 (k2 : Int)]) (by simp [results, Try.results23, go_sem]) rfl ?_
  exact ⟨.inr ⟨v1, bs, k2, s2, AD, cD, by simp [Pst, Pof, Pda, HV1.out, HV2.out, HS.out]; omega, rfl, HS, HRD, c2, d2, HZ, by rw [hn.out]; omega, ⟨c1, d1⟩⟩, _, rfl⟩

def E_cst11 (l : List Int) (w : World) (e : Ending) (w' : World) : Prop := ((Pst 11 l = none ∧ e = .returned (.tuple #[.int .u64 0, .int .i64 0, .bool false, .slice none 0 0, .int .i64 (-1)])) ∨ ∃ v1 bs k s A c', Pst 11 l = some ([v1, 0, 1], [bs], k) ∧ e = .returned (.tuple #[.int .u64 v1, .int .i64 0, .bool true, .slice A s c', .int .i64 ((k : Nat) : Int)]) ∧ Hid (List.length bs = s) ∧ Hid (Rd w' A bs) ∧ s ≤ c' ∧ c' ≤ 9223372036854775807 ∧ Hid (A = none → c' = 0) ∧ s ≤ l.length ∧ N62 v1) ∧ ∃ q, w' = w.drewN q
set_option maxRecDepth 100000 in
set_option maxHeartbeats 1000000 in
theorem cst11 (b o n c : Nat) (l : List Int) (w : World) (hr : Rd w (some ⟨b, o, none⟩) l) (hn : Hid (l.length = n)) (hnc : n ≤ c) (hc2 : c ≤ 9223372036854775807) (h1 : 1 ≤ n) (hn2 : n ≤ 4294967295) (h0 : w.cell? ⟨b, o, none⟩ = some (.int .u8 11)) :
    Calls Try.prog 23 #[.slice (some ⟨b, o, none⟩) n c] w fun e w' => E_cst11 l w e w' := by
  have hb := Lib.hid hr.bs
  have hn' := Lib.hid hn.out
  have fb1 : bits .and .u8 11 1 = 1 := by decide
  have fb2 : bits .and .u8 11 2 = 2 := by decide
  have fb4 : bits .and .u8 11 4 = 0 := by decide
  obtain ⟨A1, hA1, HA1, hs1⟩ := cut_ad hr hn hnc 1
  have hl1 : Hid ((l.drop 1).length = n - 1) := by show _ = _; rw [List.length_drop, hn.out]
  go_enter Try.func23, Try.ntmps23
  go_wp2_with fail
  refine (cvn A1 (n - 1) (c - 1) 1 l _ (by exact HA1.out) hb hl1 (by omega)).mono ?_
  rintro e w1 ⟨he, z1, rfl⟩
  rcases he with ⟨hv1, rfl⟩ | ⟨v1, k1, m1, hv1, rfl, hk1, a1, b1, c1, d1⟩
  · have HV1 := Lib.hid hv1
    clear hv1 hA1
    go_wp2_with fail
    refine bodyPost_ret (v := .tuple #[.int .u64 0, .int .i64 0, .bool false, .slice none 0 0, .int .i64 (-1)]) (by simp [results, Try.results23, go_sem]) rfl ?_
    exact ⟨.inl ⟨by simp [Pst, Pof, Pda, HV1.out], rfl⟩, _, rfl⟩
  have HV1 := Lib.hid hv1
  rw [hn.out] at b1
  clear hv1 hA1
  have hk1 : (1 : Int) + (m1 : Int) = (k1 : Int) := hk1
  obtain ⟨A2, hA2, HA2, hs2⟩ := cut_ad hr hn hnc k1
  have hl2 : Hid ((l.drop k1).length = n - k1) := by show _ = _; rw [List.length_drop, hn.out]
  go_wp2_with fail
  refine (cbn A2 (n - k1) (c - k1) k1 l _ (by exact HA2.out) hb hl2 (by omega) (by omega)).mono ?_
  rintro e w2 ⟨he, z2, rfl⟩
  rcases he with ⟨hv2, rfl⟩ | ⟨bs, k2, m2, s2, AD, cD, hv2, rfl, hk2, a2, b2, HS, HRD, c2, d2, HZ, f2⟩
  · have HV2 := Lib.hid hv2
    clear hv2 hA2
    go_wp2_with fail
    refine bodyPost_ret (v := .tuple #[.int .u64 0, .int .i64 0, .bool false, .slice none 0 0, .int .i64 (-1)]) (by simp [results, Try.results23, go_sem]) rfl ?_
    exact ⟨.inl ⟨by simp [Pst, Pof, Pda, HV1.out, HV2.out], rfl⟩, _, rfl⟩
  have HV2 := Lib.hid hv2
  rw [hn.out] at b2 f2
  clear hv2 hA2
  obtain ⟨SZ, hSZ⟩ : ∃ S : Int, ((s2 : Nat) : Int) = S := ⟨_, rfl⟩
  have hSZ0 : 0 ≤ SZ ∧ SZ ≤ 4294967295 := by omega
  go_wp2_with fail
  refine bodyPost_ret (v := .tuple #[.int .u64 v1, .int .i64 0, .bool true, .slice AD s2 cD, .int .i64 (k2 : Int)]) (by simp [results, Try.results23, go_sem]) rfl ?_
  exact ⟨.inr ⟨v1, bs, k2, s2, AD, cD, by simp [Pst, Pof, Pda, HV1.out, HV2.out, HS.out]; omega, rfl, HS, HRD, c2, d2, HZ, by rw [hn.out]; omega, ⟨c1, d1⟩⟩, _, rfl⟩

def E_cst12 (l : List Int) (w : World) (e : Ending) (w' : World) : Prop := ((Pst 12 l = none ∧ e = .returned (.tuple #[.int .u64 0, .int .i64 0, .bool false, .slice none 0 0, .int .i64 (-1)])) ∨ ∃ v1 v2 bs k s A c', Pst 12 l = some ([v1, v2, 0], [bs], k) ∧ e = .returned (.tuple #[.int .u64 v1, .int .i64 v2, .bool false, .slice A s c', .int .i64 ((k : Nat) : Int)]) ∧ Hid (List.length bs = s) ∧ Hid (Rd w' A bs) ∧ s ≤ c' ∧ c' ≤ 9223372036854775807 ∧ Hid (A = none → c' = 0) ∧ s ≤ l.length ∧ N62 v1 ∧ N62 v2) ∧ ∃ q, w' = w.drewN q
set_option maxRecDepth 100000 in
set_option maxHeartbeats 1000000 in
theorem cst12 (b o n c : Nat) (l : List Int) (w : World) (hr : Rd w (some ⟨b, o, none⟩) l) (hn : Hid (l.length = n)) (hnc : n ≤ c) (hc2 : c ≤ 9223372036854775807) (h1 : 1 ≤ n) (hn2 : n ≤ 4294967295) (h0 : w.cell? ⟨b, o, none⟩ = some (.int .u8 12)) :
    Calls Try.prog 23 #[.slice (some ⟨b, o, none⟩) n c] w fun e w' => E_cst12 l w e w' := by
  have hb := Lib.hid hr.bs
  have hn' := Lib.hid hn.out
  have fb1 : bits .and .u8 12 1 = 0 := by decide
  have fb2 : bits .and .u8 12 2 = 0 := by decide
  have fb4 : bits .and .u8 12 4 = 4 := by decide
  obtain ⟨A1, hA1, HA1, hs1⟩ := cut_ad hr hn hnc 1
  have hl1 : Hid ((l.drop 1).length = n - 1) := by show _ = _; rw [List.length_drop, hn.out]
  go_enter Try.func23, Try.ntmps23
  go_wp2_with fail
  refine (cvn A1 (n - 1) (c - 1) 1 l _ (by exact HA1.out) hb hl1 (by omega)).mono ?_
  rintro e w1 ⟨he, z1, rfl⟩
  rcases he with ⟨hv1, rfl⟩ | ⟨v1, k1, m1, hv1, rfl, hk1, a1, b1, c1, d1⟩
  · have HV1 := Lib.hid hv1
    clear hv1 hA1
    go_wp2_with fail
    refine bodyPost_ret (v := .tuple #[.int .u64 0, .int .i64 0, .bool false, .slice none 0 0, .int .i64 (-1)]) (by simp [results, Try.results23, go_sem]) rfl ?_
    exact ⟨.inl ⟨by simp [Pst, Pof, Pda, HV1.out], rfl⟩, _, rfl⟩
  have HV1 := Lib.hid hv1
  rw [hn.out] at b1
  clear hv1 hA1
  have hk1 : (1 : Int) + (m1 : Int) = (k1 : Int) := hk1
  obtain ⟨A2, hA2, HA2, hs2⟩ := cut_ad hr hn hnc k1
  have hl2 : Hid ((l.drop k1).length = n - k1) := by show _ = _; rw [List.length_drop, hn.out]
  go_wp2_with fail
  refine (cvn A2 (n - k1) (c - k1) k1 l _ (by exact HA2.out) hb hl2 (by omega)).mono ?_
  rintro e w2 ⟨he, z2, rfl⟩
  rcases he with ⟨hv2, rfl⟩ | ⟨v2, k2, m2, hv2, rfl, hk2, a2, b2, c2, d2⟩
  · have HV2 := Lib.hid hv2
    clear hv2 hA2
    go_wp2_with fail
    refine bodyPost_ret (v := .tuple #[.int .u64 0, .int .i64 0, .bool false, .slice none 0 0, .int .i64 (-1)]) (by simp [results, Try.results23, go_sem]) rfl ?_
    exact ⟨.inl ⟨by simp [Pst, Pof, Pda, HV1.out, HV2.out], rfl⟩, _, rfl⟩
  have HV2 := Lib.hid hv2
  rw [hn.out] at b2
  clear hv2 hA2
  obtain ⟨A3, hA3, HA3, hs3⟩ := cut_ad hr hn hnc k2
  have hl3 : Hid ((l.drop k2).length = n - k2) := by show _ = _; rw [List.length_drop, hn.out]
  have hkr : (k2 : Int) + ((n - k2 : Nat) : Int) = (n : Int) := by omega
  have bs3 : (n - k2 : Nat) ≤ n := by omega
  by_cases hbig : 4611686018427387904 ≤ (v2 : Int) + ((n - k2 : Nat) : Int)
  · go_wp2_with fail
    refine bodyPost_ret (v := .tuple #[.int .u64 0, .int .i64 0, .bool false, .slice none 0 0, .int .i64 (-1)]) (by simp [results, Try.results23, go_sem]) rfl ?_
    exact ⟨.inl ⟨by simp [Pst, Pof, Pda, HV1.out, HV2.out, hn.out, hl3.out]; omega, rfl⟩, _, rfl⟩
  go_wp2_with fail
  refine bodyPost_ret (v := .tuple #[.int .u64 v1, .int .i64 v2, .bool false, .slice A3 (n - k2) (c - k2), .int .i64 (n : Int)]) (by simp [results, Try.results23, go_sem]) rfl ?_
  exact ⟨.inr ⟨v1, v2, (l.drop k2), n, _, _, _, by simp [Pst, Pof, Pda, HV1.out, HV2.out, hn.out, hl3.out]; omega, rfl, hl3, (by exact HA3.out), by omega, by omega, (fun h => by obtain ⟨a, ha⟩ := hs3; rw [ha] at h; cases h), by rw [hn.out]; omega, ⟨c1, d1⟩, ⟨c2, d2⟩⟩, _, rfl⟩

def E_cst13 (l : List Int) (w : World) (e : Ending) (w' : World) : Prop := ((Pst 13 l = none ∧ e = .returned (.tuple #[.int .u64 0, .int .i64 0, .bool false, .slice none 0 0, .int .i64 (-1)])) ∨ ∃ v1 v2 bs k s A c', Pst 13 l = some ([v1, v2, 1], [bs], k) ∧ e = .returned (.tuple #[.int .u64 v1, .int .i64 v2, .bool true, .slice A s c', .int .i64 ((k : Nat) : Int)]) ∧ Hid (List.length bs = s) ∧ Hid (Rd w' A bs) ∧ s ≤ c' ∧ c' ≤ 9223372036854775807 ∧ Hid (A = none → c' = 0) ∧ s ≤ l.length ∧ N62 v1 ∧ N62 v2) ∧ ∃ q, w' = w.drewN q
set_option maxRecDepth 100000 in
set_option maxHeartbeats 1000000 in
theorem cst13 (b o n c : Nat) (l : List Int) (w : World) (hr : Rd w (some ⟨b, o, none⟩) l) (hn : Hid (l.length = n)) (hnc : n ≤ c) (hc2 : c ≤ 9223372036854775807) (h1 : 1 ≤ n) (hn2 : n ≤ 4294967295) (h0 : w.cell? ⟨b, o, none⟩ = some (.int .u8 13)) :
    Calls Try.prog 23 #[.slice (some ⟨b, o, none⟩) n c] w fun e w' => E_cst13 l w e w' := by
  have hb := Lib.hid hr.bs
  have hn' := Lib.hid hn.out
  have fb1 : bits .and .u8 13 1 = 1 := by decide
  have fb2 : bits .and .u8 13 2 = 0 := by decide
  have fb4 : bits .and .u8 13 4 = 4 := by decide
  obtain ⟨A1, hA1, HA1, hs1⟩ := cut_ad hr hn hnc 1
  have hl1 : Hid ((l.drop 1).length = n - 1) := by show _ = _; rw [List.length_drop, hn.out]
  go_enter Try.func23, Try.ntmps23
  go_wp2_with fail
  refine (cvn A1 (n - 1) (c - 1) 1 l _ (by exact HA1.out) hb hl1 (by omega)).mono ?_
  rintro e w1 ⟨he, z1, rfl⟩
  rcases he with ⟨hv1, rfl⟩ | ⟨v1, k1, m1, hv1, rfl, hk1, a1, b1, c1, d1⟩
  · have HV1 := Lib.hid hv1
    clear hv1 hA1
    go_wp2_with fail
    refine bodyPost_ret (v := .tuple #[.int .u64 0, .int .i64 0, .bool false, .slice none 0 0, .int .i64 (-1)]) (by simp [results, Try.results23, go_sem]) rfl ?_
    exact ⟨.inl ⟨by simp [Pst, Pof, Pda, HV1.out], rfl⟩, _, rfl⟩
  have HV1 := Lib.hid hv1
  rw [hn.out] at b1
  clear hv1 hA1
  have hk1 : (1 : Int) + (m1 : Int) = (k1 : Int) := hk1
  obtain ⟨A2, hA2, HA2, hs2⟩ := cut_ad hr hn hnc k1
  have hl2 : Hid ((l.drop k1).length = n - k1) := by show _ = _; rw [List.length_drop, hn.out]
  go_wp2_with fail
  refine (cvn A2 (n - k1) (c - k1) k1 l _ (by exact HA2.out) hb hl2 (by omega)).mono ?_
  rintro e w2 ⟨he, z2, rfl⟩
  rcases he with ⟨hv2, rfl⟩ | ⟨v2, k2, m2, hv2, rfl, hk2, a2, b2, c2, d2⟩
  · have HV2 := Lib.hid hv2
    clear hv2 hA2
    go_wp2_with fail
    refine bodyPost_ret (v := .tuple #[.int .u64 0, .int .i64 0, .bool false, .slice none 0 0, .int .i64 (-1)]) (by simp [results, Try.results23, go_sem]) rfl ?_
    exact ⟨.inl ⟨by simp [Pst, Pof, Pda, HV1.out, HV2.out], rfl⟩, _, rfl⟩
  have HV2 := Lib.hid hv2
  rw [hn.out] at b2
  clear hv2 hA2
  obtain ⟨A3, hA3, HA3, hs3⟩ := cut_ad hr hn hnc k2
  have hl3 : Hid ((l.drop k2).length = n - k2) := by show _ = _; rw [List.length_drop, hn.out]
  have hkr : (k2 : Int) + ((n - k2 : Nat) : Int) = (n : Int) := by omega
  have bs3 : (n - k2 : Nat) ≤ n := by omega
  by_cases hbig : 4611686018427387904 ≤ (v2 : Int) + ((n - k2 : Nat) : Int)
  · go_wp2_with fail
    refine bodyPost_ret (v := .tuple #[.int .u64 0, .int .i64 0, .bool false, .slice none 0 0, .int .i64 (-1)]) (by simp [results, Try.results23, go_sem]) rfl ?_
    exact ⟨.inl ⟨by simp [Pst, Pof, Pda, HV1.out, HV2.out, hn.out, hl3.out]; omega, rfl⟩, _, rfl⟩
  go_wp2_with fail
  refine bodyPost_ret (v := .tuple #[.int .u64 v1, .int .i64 v2, .bool true, .slice A3 (n - k2) (c - k2), .int .i64 (n : Int)]) (by simp [results, Try.results23, go_sem]) rfl ?_
  exact ⟨.inr ⟨v1, v2, (l.drop k2), n, _, _, _, by simp [Pst, Pof, Pda, HV1.out, HV2.out, hn.out, hl3.out]; omega, rfl, hl3, (by exact HA3.out), by omega, by omega, (fun h => by obtain ⟨a, ha⟩ := hs3; rw [ha] at h; cases h), by rw [hn.out]; omega, ⟨c1, d1⟩, ⟨c2, d2⟩⟩, _, rfl⟩

def E_cst14 (l : List Int) (w : World) (e : Ending) (w' : World) : Prop := ((Pst 14 l = none ∧ e = .returned (.tuple #[.int .u64 0, .int .i64 0, .bool false, .slice none 0 0, .int .i64 (-1)])) ∨ ∃ v1 v2 bs k s A c', Pst 14 l = some ([v1, v2, 0], [bs], k) ∧ e = .returned (.tuple #[.int .u64 v1, .int .i64 v2, .bool false, .slice A s c', .int .i64 ((k : Nat) : Int)]) ∧ Hid (List.length bs = s) ∧ Hid (Rd w' A bs) ∧ s ≤ c' ∧ c' ≤ 9223372036854775807 ∧ Hid (A = none → c' = 0) ∧ s ≤ l.length ∧ N62 v1 ∧ N62 v2) ∧ ∃ q, w' = w.drewN q
set_option maxRecDepth 100000 in
set_option maxHeartbeats 1000000 in
theorem cst14 (b o n c : Nat) (l : List Int) (w : World) (hr : Rd w (some ⟨b, o, none⟩) l) (hn : Hid (l.length = n)) (hnc : n ≤ c) (hc2 : c ≤ 9223372036854775807) (h1 : 1 ≤ n) (hn2 : n ≤ 4294967295) (h0 : w.cell? ⟨b, o, none⟩ = some (.int .u8 14)) :
    Calls Try.prog 23 #[.slice (some ⟨b, o, none⟩) n c] w fun e w' => E_cst14 l w e w' := by
  have hb := Lib.hid hr.bs
  have hn' := Lib.hid hn.out
  have fb1 : bits .and .u8 14 1 = 0 := by decide
  have fb2 : bits .and .u8 14 2 = 2 := by decide
  have fb4 : bits .and .u8 14 4 = 4 := by decide
  obtain ⟨A1, hA1, HA1, hs1⟩ := cut_ad hr hn hnc 1
  have hl1 : Hid ((l.drop 1).length = n - 1) := by show _ = _; rw [List.length_drop, hn.out]
  go_enter Try.func23, Try.ntmps23
  go_wp2_with fail
  refine (cvn A1 (n - 1) (c - 1) 1 l _ (by exact HA1.out) hb hl1 (by omega)).mono ?_
  rintro e w1 ⟨he, z1, rfl⟩
  rcases he with ⟨hv1, rfl⟩ | ⟨v1, k1, m1, hv1, rfl, hk1, a1, b1, c1, d1⟩
  · have HV1 := Lib.hid hv1
    clear hv1 hA1
    go_wp2_with fail
    refine bodyPost_ret (v := .tuple #[.int .u64 0, .int .i64 0, .bool false, .slice none 0 0, .int .i64 (-1)]) (by simp [results, Try.results23, go_sem]) rfl ?_
    exact ⟨.inl ⟨by simp [Pst, Pof, Pda, HV1.out], rfl⟩, _, rfl⟩
  have HV1 := Lib.hid hv1
  rw [hn.out] at b1
  clear hv1 hA1
  have hk1 : (1 : Int) + (m1 : Int) = (k1 : Int) := hk1
  obtain ⟨A2, hA2, HA2, hs2⟩ := cut_ad hr hn hnc k1
  have hl2 : Hid ((l.drop k1).length = n - k1) := by show _ = _; rw [List.length_drop, hn.out]
  go_wp2_with fail
  refine (cvn A2 (n - k1) (c - k1) k1 l _ (by exact HA2.out) hb hl2 (by omega)).mono ?_
  rintro e w2 ⟨he, z2, rfl⟩
  rcases he with ⟨hv2, rfl⟩ | ⟨v2, k2, m2, hv2, rfl, hk2, a2, b2, c2, d2⟩
  · have HV2 := Lib.hid hv2
    clear hv2 hA2
    go_wp2_with fail
    refine bodyPost_ret (v := .tuple #[.int .u64 0, .int .i64 0, .bool false, .slice none 0 0, .int .i64 (-1)]) (by simp [results, Try.results23, go_sem]) rfl ?_
    exact ⟨.inl ⟨by simp [Pst, Pof, Pda, HV1.out, HV2.out], rfl⟩, _, rfl⟩
  have HV2 := Lib.hid hv2
  rw [hn.out] at b2
  clear hv2 hA2
  obtain ⟨A3, hA3, HA3, hs3⟩ := cut_ad hr hn hnc k2
  have hl3 : Hid ((l.drop k2).length = n - k2) := by show _ = _; rw [List.length_drop, hn.out]
  go_wp2_with fail
  refine (cbn A3 (n - k2) (c - k2) k2 l _ (by exact HA3.out) hb hl3 (by omega) (by omega)).mono ?_
  rintro e w3 ⟨he, z3, rfl⟩
  rcases he with ⟨hv3, rfl⟩ | ⟨bs, k3, m3, s3, AD, cD, hv3, rfl, hk3, a3, b3, HS, HRD, c3, d3, HZ, f3⟩
  · have HV3 := Lib.hid hv3
    clear hv3 hA3
    go_wp2_with fail
    refine bodyPost_ret (v := .tuple #[.int .u64 0, .int .i64 0, .bool false, .slice none 0 0, .int .i64 (-1)]) (by simp [results, Try.results23, go_sem]) rfl ?_
    exact ⟨.inl ⟨by simp [Pst, Pof, Pda, HV1.out, HV2.out, HV3.out], rfl⟩, _, rfl⟩
  have HV3 := Lib.hid hv3
  rw [hn.out] at b3 f3
  clear hv3 hA3
  by_cases hbig : 4611686018427387904 ≤ (v2 : Int) + ((s3 : Nat) : Int)
  · go_wp2_with fail
    refine bodyPost_ret (v := .tuple #[.int .u64 0, .int .i64 0, .bool false, .slice none 0 0, .int .i64 (-1)]) (by simp [results, Try.results23, go_sem]) rfl ?_
    exact ⟨.inl ⟨by simp [Pst, Pof, Pda, HV1.out, HV2.out, HV3.out, HS.out]; omega, rfl⟩, _, rfl⟩
  go_wp2_with fail
  refine bodyPost_ret (v := .tuple #[.int .u64 v1, .int .i64 v2, .bool false, .slice AD s3 cD, .int .i64 (k3 : Int)]) (by simp [results, Try.results23, go_sem]) rfl ?_
  exact ⟨.inr ⟨v1, v2, bs, k3, s3, AD, cD, by simp [Pst, Pof, Pda, HV1.out, HV2.out, HV3.out, HS.out]; omega, rfl, HS, HRD, c3, d3, HZ, by rw [hn.out]; omega, ⟨c1, d1⟩, ⟨c2, d2⟩⟩, _, rfl⟩

def E_cst15 (l : List Int) (w : World) (e : Ending) (w' : World) : Prop := ((Pst 15 l = none ∧ e = .returned (.tuple #[.int .u64 0, .int .i64 0, .bool false, .slice none 0 0, .int .i64 (-1)])) ∨ ∃ v1 v2 bs k s A c', Pst 15 l = some ([v1, v2, 1], [bs], k) ∧ e = .returned (.tuple #[.int .u64 v1, .int .i64 v2, .bool true, .slice A s c', .int .i64 ((k : Nat) : Int)]) ∧ Hid (List.length bs = s) ∧ Hid (Rd w' A bs) ∧ s ≤ c' ∧ c' ≤ 9223372036854775807 ∧ Hid (A = none → c' = 0) ∧ s ≤ l.length ∧ N62 v1 ∧ N62 v2) ∧ ∃ q, w' = w.drewN q
set_option maxRecDepth 100000 in
set_option maxHeartbeats 1000000 in
theorem cst15 (b o n c : Nat) (l : List Int) (w : World) (hr : Rd w (some ⟨b, o, none⟩) l) (hn : Hid (l.length = n)) (hnc : n ≤ c) (hc2 : c ≤ 9223372036854775807) (h1 : 1 ≤ n) (hn2 : n ≤ 4294967295) (h0 : w.cell? ⟨b, o, none⟩ = some (.int .u8 15)) :
    Calls Try.prog 23 #[.slice (some ⟨b, o, none⟩) n c] w fun e w' => E_cst15 l w e w' := by
  have hb := Lib.hid hr.bs
  have hn' := Lib.hid hn.out
  have fb1 : bits .and .u8 15 1 = 1 := by decide
  have fb2 : bits .and .u8 15 2 = 2 := by decide
  have fb4 : bits .and .u8 15 4 = 4 := by decide
  obtain ⟨A1, hA1, HA1, hs1⟩ := cut_ad hr hn hnc 1
  have hl1 : Hid ((l.drop 1).length = n - 1) := by show _ = _; rw [List.length_drop, hn.out]
  go_enter Try.func23, Try.ntmps23
  go_wp2_with fail
  refine (cvn A1 (n - 1) (c - 1) 1 l _ (by exact HA1.out) hb hl1 (by omega)).mono ?_
  rintro e w1 ⟨he, z1, rfl⟩
  rcases he with ⟨hv1, rfl⟩ | ⟨v1, k1, m1, hv1, rfl, hk1, a1, b1, c1, d1⟩
  · have HV1 := Lib.hid hv1
    clear hv1 hA1
    go_wp2_with fail
    refine bodyPost_ret (v := .tuple #[.int .u64 0, .int .i64 0, .bool false, .slice none 0 0, .int .i64 (-1)]) (by simp [results, Try.results23, go_sem]) rfl ?_
    exact ⟨.inl ⟨by simp [Pst, Pof, Pda, HV1.out], rfl⟩, _, rfl⟩
  have HV1 := Lib.hid hv1
  rw [hn.out] at b1
  clear hv1 hA1
  have hk1 : (1 : Int) + (m1 : Int) = (k1 : Int) := hk1
  obtain ⟨A2, hA2, HA2, hs2⟩ := cut_ad hr hn hnc k1
  have hl2 : Hid ((l.drop k1).length = n - k1) := by show _ = _; rw [List.length_drop, hn.out]
  go_wp2_with fail
  refine (cvn A2 (n - k1) (c - k1) k1 l _ (by exact HA2.out) hb hl2 (by omega)).mono ?_
  rintro e w2 ⟨he, z2, rfl⟩
  rcases he with ⟨hv2, rfl⟩ | ⟨v2, k2, m2, hv2, rfl, hk2, a2, b2, c2, d2⟩
  · have HV2 := Lib.hid hv2
    clear hv2 hA2
    go_wp2_with fail
    refine bodyPost_ret (v := .tuple #[.int .u64 0, .int .i64 0, .bool false, .slice none 0 0, .int .i64 (-1)]) (by simp [results, Try.results23, go_sem]) rfl ?_
    exact ⟨.inl ⟨by simp [Pst, Pof, Pda, HV1.out, HV2.out], rfl⟩, _, rfl⟩
  have HV2 := Lib.hid hv2
  rw [hn.out] at b2
  clear hv2 hA2
  obtain ⟨A3, hA3, HA3, hs3⟩ := cut_ad hr hn hnc k2
  have hl3 : Hid ((l.drop k2).length = n - k2) := by show _ = _; rw [List.length_drop, hn.out]
  go_wp2_with fail
  refine (cbn A3 (n - k2) (c - k2) k2 l _ (by exact HA3.out) hb hl3 (by omega) (by omega)).mono ?_
  rintro e w3 ⟨he, z3, rfl⟩
  rcases he with ⟨hv3, rfl⟩ | ⟨bs, k3, m3, s3, AD, cD, hv3, rfl, hk3, a3, b3, HS, HRD, c3, d3, HZ, f3⟩
  · have HV3 := Lib.hid hv3
    clear hv3 hA3
    go_wp2_with fail
    refine bodyPost_ret (v := .tuple #[.int .u64 0, .int .i64 0, .bool false, .slice none 0 0, .int .i64 (-1)]) (by simp [results, Try.results23, go_sem]) rfl ?_
    exact ⟨.inl ⟨by simp [Pst, Pof, Pda, HV1.out, HV2.out, HV3.out], rfl⟩, _, rfl⟩
  have HV3 := Lib.hid hv3
  rw [hn.out] at b3 f3
  clear hv3 hA3
  by_cases hbig : 4611686018427387904 ≤ (v2 : Int) + ((s3 : Nat) : Int)
  · go_wp2_with fail
    refine bodyPost_ret (v := .tuple #[.int .u64 0, .int .i64 0, .bool false, .slice none 0 0, .int .i64 (-1)]) (by simp [results, Try.results23, go_sem]) rfl ?_
    exact ⟨.inl ⟨by simp [Pst, Pof, Pda, HV1.out, HV2.out, HV3.out, HS.out]; omega, rfl⟩, _, rfl⟩
  go_wp2_with fail
  refine bodyPost_ret (v := .tuple #[.int .u64 v1, .int .i64 v2, .bool true, .slice AD s3 cD, .int .i64 (k3 : Int)]) (by simp [results, Try.results23, go_sem]) rfl ?_
  exact ⟨.inr ⟨v1, v2, bs, k3, s3, AD, cD, by simp [Pst, Pof, Pda, HV1.out, HV2.out, HV3.out, HS.out]; omega, rfl, HS, HRD, c3, d3, HZ, by rw [hn.out]; omega, ⟨c1, d1⟩, ⟨c2, d2⟩⟩, _, rfl⟩

end Go.Proofs.Ytggcnepdeaijoaa

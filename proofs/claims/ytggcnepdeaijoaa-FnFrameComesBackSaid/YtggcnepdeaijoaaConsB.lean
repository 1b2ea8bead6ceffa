/- Contracts of the functions that read frames with data. Conditions: the slice reads as bytes, at least one. -/
import Derived.Test.YtggcnepdeaijoaaCons
import Derived.Test.YtggcnepdeaijoaaEqual
namespace Go.Proofs.Ytggcnepdeaijoaa
open Go.RowKit
set_option linter.unusedVariables false
set_option linter.unusedSimpArgs false

def E_ccr (l : List Int) (w : World) (e : Ending) (w' : World) : Prop := ((Pcr l = none ∧ e = .returned (.tuple #[.int .i64 0, .slice none 0 0, .int .i64 (-1)])) ∨ ∃ v1 bs k s A c', Pcr l = some ([v1], [bs], k) ∧ e = .returned (.tuple #[.int .i64 v1, .slice A s c', .int .i64 ((k : Nat) : Int)]) ∧ Hid (List.length bs = s) ∧ Hid (Rd w' A bs) ∧ s ≤ c' ∧ c' ≤ 9223372036854775807 ∧ Hid (A = none → c' = 0) ∧ s ≤ l.length ∧ N62 v1) ∧ ∃ q, w' = w.drewN q
set_option maxRecDepth 100000 in
set_option maxHeartbeats 1000000 in
theorem ccr (b o n c : Nat) (l : List Int) (w : World) (hr : Rd w (some ⟨b, o, none⟩) l) (hn : Hid (l.length = n)) (hnc : n ≤ c) (hc2 : c ≤ 9223372036854775807) (h1 : 1 ≤ n) (hn2 : n ≤ 4294967295) :
    Calls Try.prog 21 #[.slice (some ⟨b, o, none⟩) n c] w fun e w' => E_ccr l w e w' := by
  have hb := Lib.hid hr.bs
  have hn' := Lib.hid hn.out
  obtain ⟨A1, hA1, HA1, hs1⟩ := cut_ad hr hn hnc 1
  have hl1 : Hid ((l.drop 1).length = n - 1) := by show _ = _; rw [List.length_drop, hn.out]
  go_enter Try.func21, Try.ntmps21
  go_wp2_with fail
  refine (cvn A1 (n - 1) (c - 1) 1 l _ (by exact HA1.out) hb hl1 (by omega)).mono ?_
  rintro e w1 ⟨he, z1, rfl⟩
  rcases he with ⟨hv1, rfl⟩ | ⟨v1, k1, m1, hv1, rfl, hk1, a1, b1, c1, d1⟩
  · have HV1 := Lib.hid hv1
    clear hv1 hA1
    go_wp2_with fail
    refine bodyPost_ret (v := .tuple #[.int .i64 0, .slice none 0 0, .int .i64 (-1)]) (by simp [results, Try.results21, go_sem]) rfl ?_
    exact ⟨.inl ⟨by simp [Pcr, HV1.out], rfl⟩, _, rfl⟩
  have HV1 := Lib.hid hv1
  rw [hn.out] at b1
  clear hv1 hA1
  have hk1 : (1 : Int) + (m1 : Int) = (k1 : Int) := hk1
  obtain ⟨A2, hA2, HA2, hs2⟩ := cut_ad hr hn hnc k1
  have hl2 : Hid ((l.drop k1).length = n - k1) := by show _ = _; rw [List.length_drop, hn.out]
  go_wp2_with fail
  refine (cbn A2 (n - k1) (c - k1) k1 l _ (by exact HA2.out) hb hl2 (by omega) (by omega)).mono ?_
  rintro e w2 ⟨he, z2, rfl⟩
  rcases he with ⟨hv2, rfl⟩ | ⟨bs, k2, m2, s2, AD, cD, hv2, rfl, hk2, a2, b2, HS, HRD, c2, d2, HZ, f2⟩
  · have HV2 := Lib.hid hv2
    clear hv2 hA2
    go_wp2_with fail
    refine bodyPost_ret (v := .tuple #[.int .i64 0, .slice none 0 0, .int .i64 (-1)]) (by simp [results, Try.results21, go_sem]) rfl ?_
    exact ⟨.inl ⟨by simp [Pcr, HV1.out, HV2.out], rfl⟩, _, rfl⟩
  have HV2 := Lib.hid hv2
  rw [hn.out] at b2 f2
  clear hv2 hA2
  go_wp2_with fail
  refine bodyPost_ret (v := .tuple #[.int .i64 v1, .slice AD s2 cD, .int .i64 (k2 : Int)]) (by simp [results, Try.results21, go_sem]) rfl ?_
  exact ⟨.inr ⟨v1, bs, k2, s2, AD, cD, by simp [Pcr, HV1.out, HV2.out], rfl, HS, HRD, c2, d2, HZ, by rw [hn.out]; omega, ⟨c1, d1⟩⟩, _, rfl⟩

def E_ctk (l : List Int) (w : World) (e : Ending) (w' : World) : Prop := ((Ptk l = none ∧ e = .returned (.tuple #[.slice none 0 0, .int .i64 (-1)])) ∨ ∃ bs k s A c', Ptk l = some ([], [bs], k) ∧ e = .returned (.tuple #[.slice A s c', .int .i64 ((k : Nat) : Int)]) ∧ Hid (List.length bs = s) ∧ Hid (Rd w' A bs) ∧ s ≤ c' ∧ c' ≤ 9223372036854775807 ∧ Hid (A = none → c' = 0) ∧ s ≤ l.length ∧ 1 ≤ s) ∧ ∃ q, w' = w.drewN q
set_option maxRecDepth 100000 in
set_option maxHeartbeats 1000000 in
theorem ctk (b o n c : Nat) (l : List Int) (w : World) (hr : Rd w (some ⟨b, o, none⟩) l) (hn : Hid (l.length = n)) (hnc : n ≤ c) (hc2 : c ≤ 9223372036854775807) (h1 : 1 ≤ n) (hn2 : n ≤ 4294967295) :
    Calls Try.prog 22 #[.slice (some ⟨b, o, none⟩) n c] w fun e w' => E_ctk l w e w' := by
  have hb := Lib.hid hr.bs
  have hn' := Lib.hid hn.out
  obtain ⟨A1, hA1, HA1, hs1⟩ := cut_ad hr hn hnc 1
  have hl1 : Hid ((l.drop 1).length = n - 1) := by show _ = _; rw [List.length_drop, hn.out]
  go_enter Try.func22, Try.ntmps22
  go_wp2_with fail
  refine (cbn A1 (n - 1) (c - 1) 1 l _ (by exact HA1.out) hb hl1 (by omega) (by omega)).mono ?_
  rintro e w1 ⟨he, z1, rfl⟩
  rcases he with ⟨hv1, rfl⟩ | ⟨bs, k1, m1, s1, AD, cD, hv1, rfl, hk1, a1, b1, HS, HRD, c1, d1, HZ, f1⟩
  · have HV1 := Lib.hid hv1
    clear hv1 hA1
    go_wp2_with fail
    refine bodyPost_ret (v := .tuple #[.slice none 0 0, .int .i64 (-1)]) (by simp [results, Try.results22, go_sem]) rfl ?_
    exact ⟨.inl ⟨by simp [Ptk, HV1.out], rfl⟩, _, rfl⟩
  have HV1 := Lib.hid hv1
  rw [hn.out] at b1 f1
  clear hv1 hA1
  have hk1 : (1 : Int) + (m1 : Int) = (k1 : Int) := hk1
  by_cases hc1 : s1 = 0
  · go_wp2_with fail
    refine bodyPost_ret (v := .tuple #[.slice none 0 0, .int .i64 (-1)]) (by simp [results, Try.results22, go_sem]) rfl ?_
    exact ⟨.inl ⟨by simp [Ptk, HV1.out, HS.out, hc1], rfl⟩, _, rfl⟩
  go_wp2_with fail
  refine bodyPost_ret (v := .tuple #[.slice AD s1 cD, .int .i64 (k1 : Int)]) (by simp [results, Try.results22, go_sem]) rfl ?_
  exact ⟨.inr ⟨bs, k1, s1, AD, cD, by simp only [Ptk, HV1.out, HS.out, if_neg hc1], rfl, HS, HRD, c1, d1, HZ, by rw [hn.out]; omega⟩, _, rfl⟩

def E_cct (l : List Int) (w : World) (e : Ending) (w' : World) : Prop := ((Pct l = none ∧ e = .returned (.tuple #[.int .u64 0, .int .u64 0, .string { data := #[] }, .int .i64 (-1)])) ∨ ∃ v1 v2 bs k s, Pct l = some ([v1, v2], [bs], k) ∧ e = .returned (.tuple #[.int .u64 v1, .int .u64 v2, .string (strOfNums bs), .int .i64 ((k : Nat) : Int)]) ∧ Hid (List.length bs = s) ∧ Hid (Bs bs) ∧ s ≤ l.length ∧ N62 v1 ∧ N62 v2) ∧ ∃ q, w' = w.drewN q
set_option maxRecDepth 100000 in
set_option maxHeartbeats 1000000 in
theorem cct (b o n c : Nat) (l : List Int) (w : World) (hr : Rd w (some ⟨b, o, none⟩) l) (hn : Hid (l.length = n)) (hnc : n ≤ c) (hc2 : c ≤ 9223372036854775807) (h1 : 1 ≤ n) (hn2 : n ≤ 4294967295) :
    Calls Try.prog 34 #[.slice (some ⟨b, o, none⟩) n c] w fun e w' => E_cct l w e w' := by
  have hb := Lib.hid hr.bs
  have hn' := Lib.hid hn.out
  obtain ⟨A1, hA1, HA1, hs1⟩ := cut_ad hr hn hnc 1
  have hl1 : Hid ((l.drop 1).length = n - 1) := by show _ = _; rw [List.length_drop, hn.out]
  go_enter Try.func34, Try.ntmps34
  go_wp2_with fail
  refine (cvn A1 (n - 1) (c - 1) 1 l _ (by exact HA1.out) hb hl1 (by omega)).mono ?_
  rintro e w1 ⟨he, z1, rfl⟩
  rcases he with ⟨hv1, rfl⟩ | ⟨v1, k1, m1, hv1, rfl, hk1, a1, b1, c1, d1⟩
  · have HV1 := Lib.hid hv1
    clear hv1 hA1
    go_wp2_with fail
    refine bodyPost_ret (v := .tuple #[.int .u64 0, .int .u64 0, .string { data := #[] }, .int .i64 (-1)]) (by simp [results, Try.results34, go_sem]) rfl ?_
    exact ⟨.inl ⟨by simp [Pct, HV1.out], rfl⟩, _, rfl⟩
  have HV1 := Lib.hid hv1
  rw [hn.out] at b1
  clear hv1 hA1
  have hk1 : (1 : Int) + (m1 : Int) = (k1 : Int) := hk1
  obtain ⟨A2, hA2, HA2, hs2⟩ := cut_ad hr hn hnc k1
  have hl2 : Hid ((l.drop k1).length = n - k1) := by show _ = _; rw [List.length_drop, hn.out]
  go_wp2_with fail
  refine (cvn A2 (n - k1) (c - k1) k1 l _ (by exact HA2.out) hb hl2 (by omega)).mono ?_
  rintro e w2 ⟨he, z2, rfl⟩
  rcases he with ⟨hv2, rfl⟩ | ⟨v2, k2, m2, hv2, rfl, hk2, a2, b2, c2, d2⟩
  · have HV2 := Lib.hid hv2
    clear hv2 hA2
    go_wp2_with fail
    refine bodyPost_ret (v := .tuple #[.int .u64 0, .int .u64 0, .string { data := #[] }, .int .i64 (-1)]) (by simp [results, Try.results34, go_sem]) rfl ?_
    exact ⟨.inl ⟨by simp [Pct, HV1.out, HV2.out], rfl⟩, _, rfl⟩
  have HV2 := Lib.hid hv2
  rw [hn.out] at b2
  clear hv2 hA2
  obtain ⟨A3, hA3, HA3, hs3⟩ := cut_ad hr hn hnc k2
  have hl3 : Hid ((l.drop k2).length = n - k2) := by show _ = _; rw [List.length_drop, hn.out]
  go_wp2_with fail
  refine (cbn A3 (n - k2) (c - k2) k2 l _ (by exact HA3.out) hb hl3 (by omega) (by omega)).mono ?_
  rintro e w3 ⟨he, z3, rfl⟩
  rcases he with ⟨hv3, rfl⟩ | ⟨bs, k3, m3, s3, AD, cD, hv3, rfl, hk3, a3, b3, HS, HRD, c3, d3, HZ, f3⟩
  · have HV3 := Lib.hid hv3
    clear hv3 hA3
    go_wp2_with fail
    refine bodyPost_ret (v := .tuple #[.int .u64 0, .int .u64 0, .string { data := #[] }, .int .i64 (-1)]) (by simp [results, Try.results34, go_sem]) rfl ?_
    exact ⟨.inl ⟨by simp [Pct, HV1.out, HV2.out, HV3.out], rfl⟩, _, rfl⟩
  have HV3 := Lib.hid hv3
  rw [hn.out] at b3 f3
  clear hv3 hA3
  have hcv := Rd.convert HRD.out s3 cD HS.out
  have hcw : ∀ z, (Go.convert 22 9 (.slice AD s3 cD)).run Try.prog (w.drewN z) = .ok (.string (strOfNums bs)) (w.drewN z) := fun z => Rd.convert (w := w.drewN z) (by exact HRD.out) s3 cD HS.out
  clear hcv
  go_wp2_with fail
  refine bodyPost_ret (v := .tuple #[.int .u64 v1, .int .u64 v2, .string (strOfNums bs), .int .i64 (k3 : Int)]) (by simp [results, Try.results34, go_sem]) rfl ?_
  exact ⟨.inr ⟨v1, v2, bs, k3, s3, by simp [Pct, HV1.out, HV2.out, HV3.out], rfl, HS, HRD.out.bs, by rw [hn.out]; omega, ⟨c1, d1⟩, ⟨c2, d2⟩⟩, _, rfl⟩

def E_cca (l : List Int) (w : World) (e : Ending) (w' : World) : Prop := ((Pcr l = none ∧ e = .returned (.tuple #[.int .u64 0, .string { data := #[] }, .int .i64 (-1)])) ∨ ∃ v1 bs k s, Pcr l = some ([v1], [bs], k) ∧ e = .returned (.tuple #[.int .u64 v1, .string (strOfNums bs), .int .i64 ((k : Nat) : Int)]) ∧ Hid (List.length bs = s) ∧ Hid (Bs bs) ∧ s ≤ l.length ∧ N62 v1) ∧ ∃ q, w' = w.drewN q
set_option maxRecDepth 100000 in
set_option maxHeartbeats 1000000 in
theorem cca (b o n c : Nat) (l : List Int) (w : World) (hr : Rd w (some ⟨b, o, none⟩) l) (hn : Hid (l.length = n)) (hnc : n ≤ c) (hc2 : c ≤ 9223372036854775807) (h1 : 1 ≤ n) (hn2 : n ≤ 4294967295) :
    Calls Try.prog 35 #[.slice (some ⟨b, o, none⟩) n c] w fun e w' => E_cca l w e w' := by
  have hb := Lib.hid hr.bs
  have hn' := Lib.hid hn.out
  obtain ⟨A1, hA1, HA1, hs1⟩ := cut_ad hr hn hnc 1
  have hl1 : Hid ((l.drop 1).length = n - 1) := by show _ = _; rw [List.length_drop, hn.out]
  go_enter Try.func35, Try.ntmps35
  go_wp2_with fail
  refine (cvn A1 (n - 1) (c - 1) 1 l _ (by exact HA1.out) hb hl1 (by omega)).mono ?_
  rintro e w1 ⟨he, z1, rfl⟩
  rcases he with ⟨hv1, rfl⟩ | ⟨v1, k1, m1, hv1, rfl, hk1, a1, b1, c1, d1⟩
  · have HV1 := Lib.hid hv1
    clear hv1 hA1
    go_wp2_with fail
    refine bodyPost_ret (v := .tuple #[.int .u64 0, .string { data := #[] }, .int .i64 (-1)]) (by simp [results, Try.results35, go_sem]) rfl ?_
    exact ⟨.inl ⟨by simp [Pcr, HV1.out], rfl⟩, _, rfl⟩
  have HV1 := Lib.hid hv1
  rw [hn.out] at b1
  clear hv1 hA1
  have hk1 : (1 : Int) + (m1 : Int) = (k1 : Int) := hk1
  obtain ⟨A2, hA2, HA2, hs2⟩ := cut_ad hr hn hnc k1
  have hl2 : Hid ((l.drop k1).length = n - k1) := by show _ = _; rw [List.length_drop, hn.out]
  go_wp2_with fail
  refine (cbn A2 (n - k1) (c - k1) k1 l _ (by exact HA2.out) hb hl2 (by omega) (by omega)).mono ?_
  rintro e w2 ⟨he, z2, rfl⟩
  rcases he with ⟨hv2, rfl⟩ | ⟨bs, k2, m2, s2, AD, cD, hv2, rfl, hk2, a2, b2, HS, HRD, c2, d2, HZ, f2⟩
  · have HV2 := Lib.hid hv2
    clear hv2 hA2
    go_wp2_with fail
    refine bodyPost_ret (v := .tuple #[.int .u64 0, .string { data := #[] }, .int .i64 (-1)]) (by simp [results, Try.results35, go_sem]) rfl ?_
    exact ⟨.inl ⟨by simp [Pcr, HV1.out, HV2.out], rfl⟩, _, rfl⟩
  have HV2 := Lib.hid hv2
  rw [hn.out] at b2 f2
  clear hv2 hA2
  have hcv := Rd.convert HRD.out s2 cD HS.out
  have hcw : ∀ z, (Go.convert 22 9 (.slice AD s2 cD)).run Try.prog (w.drewN z) = .ok (.string (strOfNums bs)) (w.drewN z) := fun z => Rd.convert (w := w.drewN z) (by exact HRD.out) s2 cD HS.out
  clear hcv
  go_wp2_with fail
  refine bodyPost_ret (v := .tuple #[.int .u64 v1, .string (strOfNums bs), .int .i64 (k2 : Int)]) (by simp [results, Try.results35, go_sem]) rfl ?_
  exact ⟨.inr ⟨v1, bs, k2, s2, by simp [Pcr, HV1.out, HV2.out], rfl, HS, HRD.out.bs, by rw [hn.out]; omega, ⟨c1, d1⟩⟩, _, rfl⟩

def E_cms18 (l : List Int) (w : World) (e : Ending) (w' : World) : Prop := ((Pms 0 l = none ∧ e = .returned (.tuple #[.int .u8 0, .int .i64 0, .int .i64 (-1)])) ∨ ∃ v1 k, Pms 0 l = some ([0, v1], [], k) ∧ e = .returned (.tuple #[.int .u8 0, .int .i64 v1, .int .i64 ((k : Nat) : Int)]) ∧ N62 v1) ∧ ∃ q, w' = w.drewN q
set_option maxRecDepth 100000 in
set_option maxHeartbeats 1000000 in
theorem cms18 (b o n c : Nat) (l : List Int) (w : World) (hr : Rd w (some ⟨b, o, none⟩) l) (hn : Hid (l.length = n)) (hnc : n ≤ c) (hc2 : c ≤ 9223372036854775807) (h1 : 1 ≤ n) (hn2 : n ≤ 4294967295) (h0 : w.cell? ⟨b, o, none⟩ = some (.int .u8 18)) :
    Calls Try.prog 26 #[.slice (some ⟨b, o, none⟩) n c] w fun e w' => E_cms18 l w e w' := by
  have hb := Lib.hid hr.bs
  have hn' := Lib.hid hn.out
  obtain ⟨A1, hA1, HA1, hs1⟩ := cut_ad hr hn hnc 1
  have hl1 : Hid ((l.drop 1).length = n - 1) := by show _ = _; rw [List.length_drop, hn.out]
  go_enter Try.func26, Try.ntmps26
  go_wp2_with fail
  refine (cvn A1 (n - 1) (c - 1) 1 l _ (by exact HA1.out) hb hl1 (by omega)).mono ?_
  rintro e w1 ⟨he, z1, rfl⟩
  rcases he with ⟨hv1, rfl⟩ | ⟨v1, k1, m1, hv1, rfl, hk1, a1, b1, c1, d1⟩
  · have HV1 := Lib.hid hv1
    clear hv1 hA1
    go_wp2_with fail
    refine bodyPost_ret (v := .tuple #[.int .u8 0, .int .i64 0, .int .i64 (-1)]) (by simp [results, Try.results26, go_sem]) rfl ?_
    exact ⟨.inl ⟨by simp [Pms, HV1.out], rfl⟩, _, rfl⟩
  have HV1 := Lib.hid hv1
  rw [hn.out] at b1
  clear hv1 hA1
  have hk1 : (1 : Int) + (m1 : Int) = (k1 : Int) := hk1
  by_cases hc1 : 1152921504606846976 < v1
  · go_wp2_with fail
    refine bodyPost_ret (v := .tuple #[.int .u8 0, .int .i64 0, .int .i64 (-1)]) (by simp [results, Try.results26, go_sem]) rfl ?_
    exact ⟨.inl ⟨by simp [Pms, HV1.out, hc1], rfl⟩, _, rfl⟩
  go_wp2_with fail
  refine bodyPost_ret (v := .tuple #[.int .u8 0, .int .i64 v1, .int .i64 (k1 : Int)]) (by simp [results, Try.results26, go_sem]) rfl ?_
  exact ⟨.inr ⟨v1, k1, by simp [Pms, HV1.out, hc1], rfl, ⟨c1, d1⟩⟩, _, rfl⟩

def E_cms19 (l : List Int) (w : World) (e : Ending) (w' : World) : Prop := ((Pms 1 l = none ∧ e = .returned (.tuple #[.int .u8 0, .int .i64 0, .int .i64 (-1)])) ∨ ∃ v1 k, Pms 1 l = some ([1, v1], [], k) ∧ e = .returned (.tuple #[.int .u8 1, .int .i64 v1, .int .i64 ((k : Nat) : Int)]) ∧ N62 v1) ∧ ∃ q, w' = w.drewN q
set_option maxRecDepth 100000 in
set_option maxHeartbeats 1000000 in
theorem cms19 (b o n c : Nat) (l : List Int) (w : World) (hr : Rd w (some ⟨b, o, none⟩) l) (hn : Hid (l.length = n)) (hnc : n ≤ c) (hc2 : c ≤ 9223372036854775807) (h1 : 1 ≤ n) (hn2 : n ≤ 4294967295) (h0 : w.cell? ⟨b, o, none⟩ = some (.int .u8 19)) :
    Calls Try.prog 26 #[.slice (some ⟨b, o, none⟩) n c] w fun e w' => E_cms19 l w e w' := by
  have hb := Lib.hid hr.bs
  have hn' := Lib.hid hn.out
  obtain ⟨A1, hA1, HA1, hs1⟩ := cut_ad hr hn hnc 1
  have hl1 : Hid ((l.drop 1).length = n - 1) := by show _ = _; rw [List.length_drop, hn.out]
  go_enter Try.func26, Try.ntmps26
  go_wp2_with fail
  refine (cvn A1 (n - 1) (c - 1) 1 l _ (by exact HA1.out) hb hl1 (by omega)).mono ?_
  rintro e w1 ⟨he, z1, rfl⟩
  rcases he with ⟨hv1, rfl⟩ | ⟨v1, k1, m1, hv1, rfl, hk1, a1, b1, c1, d1⟩
  · have HV1 := Lib.hid hv1
    clear hv1 hA1
    go_wp2_with fail
    refine bodyPost_ret (v := .tuple #[.int .u8 0, .int .i64 0, .int .i64 (-1)]) (by simp [results, Try.results26, go_sem]) rfl ?_
    exact ⟨.inl ⟨by simp [Pms, HV1.out], rfl⟩, _, rfl⟩
  have HV1 := Lib.hid hv1
  rw [hn.out] at b1
  clear hv1 hA1
  have hk1 : (1 : Int) + (m1 : Int) = (k1 : Int) := hk1
  by_cases hc1 : 1152921504606846976 < v1
  · go_wp2_with fail
    refine bodyPost_ret (v := .tuple #[.int .u8 0, .int .i64 0, .int .i64 (-1)]) (by simp [results, Try.results26, go_sem]) rfl ?_
    exact ⟨.inl ⟨by simp [Pms, HV1.out, hc1], rfl⟩, _, rfl⟩
  go_wp2_with fail
  refine bodyPost_ret (v := .tuple #[.int .u8 1, .int .i64 v1, .int .i64 (k1 : Int)]) (by simp [results, Try.results26, go_sem]) rfl ?_
  exact ⟨.inr ⟨v1, k1, by simp [Pms, HV1.out, hc1], rfl, ⟨c1, d1⟩⟩, _, rfl⟩

def E_csb22 (l : List Int) (w : World) (e : Ending) (w' : World) : Prop := ((Psb 0 l = none ∧ e = .returned (.tuple #[.int .u8 0, .int .i64 0, .int .i64 (-1)])) ∨ ∃ v1 k, Psb 0 l = some ([0, v1], [], k) ∧ e = .returned (.tuple #[.int .u8 0, .int .i64 v1, .int .i64 ((k : Nat) : Int)]) ∧ N62 v1) ∧ ∃ q, w' = w.drewN q
set_option maxRecDepth 100000 in
set_option maxHeartbeats 1000000 in
theorem csb22 (b o n c : Nat) (l : List Int) (w : World) (hr : Rd w (some ⟨b, o, none⟩) l) (hn : Hid (l.length = n)) (hnc : n ≤ c) (hc2 : c ≤ 9223372036854775807) (h1 : 1 ≤ n) (hn2 : n ≤ 4294967295) (h0 : w.cell? ⟨b, o, none⟩ = some (.int .u8 22)) :
    Calls Try.prog 29 #[.slice (some ⟨b, o, none⟩) n c] w fun e w' => E_csb22 l w e w' := by
  have hb := Lib.hid hr.bs
  have hn' := Lib.hid hn.out
  obtain ⟨A1, hA1, HA1, hs1⟩ := cut_ad hr hn hnc 1
  have hl1 : Hid ((l.drop 1).length = n - 1) := by show _ = _; rw [List.length_drop, hn.out]
  go_enter Try.func29, Try.ntmps29
  go_wp2_with fail
  refine (cvi A1 (n - 1) (c - 1) 1 l _ (by exact HA1.out) hb hl1 (by omega)).mono ?_
  rintro e w1 ⟨he, z1, rfl⟩
  rcases he with ⟨hv1, rfl⟩ | ⟨v1, k1, m1, hv1, rfl, hk1, a1, b1, c1, d1⟩
  · have HV1 := Lib.hid hv1
    clear hv1 hA1
    go_wp2_with fail
    refine bodyPost_ret (v := .tuple #[.int .u8 0, .int .i64 0, .int .i64 (-1)]) (by simp [results, Try.results29, go_sem]) rfl ?_
    exact ⟨.inl ⟨by simp [Psb, HV1.out], rfl⟩, _, rfl⟩
  have HV1 := Lib.hid hv1
  rw [hn.out] at b1
  clear hv1 hA1
  have hk1 : (1 : Int) + (m1 : Int) = (k1 : Int) := hk1
  go_wp2_with fail
  refine bodyPost_ret (v := .tuple #[.int .u8 0, .int .i64 v1, .int .i64 (k1 : Int)]) (by simp [results, Try.results29, go_sem]) rfl ?_
  exact ⟨.inr ⟨v1, k1, by simp [Psb, HV1.out], rfl, ⟨c1, d1⟩⟩, _, rfl⟩

def E_csb23 (l : List Int) (w : World) (e : Ending) (w' : World) : Prop := ((Psb 1 l = none ∧ e = .returned (.tuple #[.int .u8 0, .int .i64 0, .int .i64 (-1)])) ∨ ∃ v1 k, Psb 1 l = some ([1, v1], [], k) ∧ e = .returned (.tuple #[.int .u8 1, .int .i64 v1, .int .i64 ((k : Nat) : Int)]) ∧ N62 v1) ∧ ∃ q, w' = w.drewN q
set_option maxRecDepth 100000 in
set_option maxHeartbeats 1000000 in
theorem csb23 (b o n c : Nat) (l : List Int) (w : World) (hr : Rd w (some ⟨b, o, none⟩) l) (hn : Hid (l.length = n)) (hnc : n ≤ c) (hc2 : c ≤ 9223372036854775807) (h1 : 1 ≤ n) (hn2 : n ≤ 4294967295) (h0 : w.cell? ⟨b, o, none⟩ = some (.int .u8 23)) :
    Calls Try.prog 29 #[.slice (some ⟨b, o, none⟩) n c] w fun e w' => E_csb23 l w e w' := by
  have hb := Lib.hid hr.bs
  have hn' := Lib.hid hn.out
  obtain ⟨A1, hA1, HA1, hs1⟩ := cut_ad hr hn hnc 1
  have hl1 : Hid ((l.drop 1).length = n - 1) := by show _ = _; rw [List.length_drop, hn.out]
  go_enter Try.func29, Try.ntmps29
  go_wp2_with fail
  refine (cvi A1 (n - 1) (c - 1) 1 l _ (by exact HA1.out) hb hl1 (by omega)).mono ?_
  rintro e w1 ⟨he, z1, rfl⟩
  rcases he with ⟨hv1, rfl⟩ | ⟨v1, k1, m1, hv1, rfl, hk1, a1, b1, c1, d1⟩
  · have HV1 := Lib.hid hv1
    clear hv1 hA1
    go_wp2_with fail
    refine bodyPost_ret (v := .tuple #[.int .u8 0, .int .i64 0, .int .i64 (-1)]) (by simp [results, Try.results29, go_sem]) rfl ?_
    exact ⟨.inl ⟨by simp [Psb, HV1.out], rfl⟩, _, rfl⟩
  have HV1 := Lib.hid hv1
  rw [hn.out] at b1
  clear hv1 hA1
  have hk1 : (1 : Int) + (m1 : Int) = (k1 : Int) := hk1
  go_wp2_with fail
  refine bodyPost_ret (v := .tuple #[.int .u8 1, .int .i64 v1, .int .i64 (k1 : Int)]) (by simp [results, Try.results29, go_sem]) rfl ?_
  exact ⟨.inr ⟨v1, k1, by simp [Psb, HV1.out], rfl, ⟨c1, d1⟩⟩, _, rfl⟩

end Go.Proofs.Ytggcnepdeaijoaa

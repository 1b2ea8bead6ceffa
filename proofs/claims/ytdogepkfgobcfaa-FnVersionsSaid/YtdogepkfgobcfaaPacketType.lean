/- Contracts of getPacketType, spec.PacketType, spec.version, and the walk of FnPacketType. Conditions: none. -/
import Derived.Test.YtdogepkfgobcfaaBe
namespace Go.Proofs.Ytdogepkfgobcfaa
open Go.RowKit
set_option linter.unusedVariables false

theorem nat_and128 : ∀ x : Fin 256, x.val &&& 128 = (fun x : Nat => x / 128 * 128) x.val := by decide +kernel
theorem and128 (x : Int) (h0 : 0 ≤ x) (h1 : x ≤ 255) : bits .and .u8 x 128 = x / 128 * 128 := by
  obtain ⟨X, rfl⟩ := Int.eq_ofNat_of_zero_le h0
  have e := u8_and_nat X 128 (by omega) (by decide)
  have h := nat_and128 ⟨X, by omega⟩
  simp only [] at h
  rw [h] at e
  simpa using e

theorem nat_and64 : ∀ x : Fin 256, x.val &&& 64 = (fun x : Nat => x / 64 % 2 * 64) x.val := by decide +kernel
theorem and64 (x : Int) (h0 : 0 ≤ x) (h1 : x ≤ 255) : bits .and .u8 x 64 = x / 64 % 2 * 64 := by
  obtain ⟨X, rfl⟩ := Int.eq_ofNat_of_zero_le h0
  have e := u8_and_nat X 64 (by omega) (by decide)
  have h := nat_and64 ⟨X, by omega⟩
  simp only [] at h
  rw [h] at e
  simpa using e

theorem nat_and48 : ∀ x : Fin 256, x.val &&& 48 = (fun x : Nat => x / 16 % 4 * 16) x.val := by decide +kernel
theorem and48 (x : Int) (h0 : 0 ≤ x) (h1 : x ≤ 255) : bits .and .u8 x 48 = x / 16 % 4 * 16 := by
  obtain ⟨X, rfl⟩ := Int.eq_ofNat_of_zero_le h0
  have e := u8_and_nat X 48 (by omega) (by decide)
  have h := nat_and48 ⟨X, by omega⟩
  simp only [] at h
  rw [h] at e
  simpa using e

theorem nat_and3 : ∀ x : Fin 256, x.val &&& 3 = (fun x : Nat => x % 4) x.val := by decide +kernel
theorem and3 (x : Int) (h0 : 0 ≤ x) (h1 : x ≤ 255) : bits .and .u8 x 3 = x % 4 := by
  obtain ⟨X, rfl⟩ := Int.eq_ofNat_of_zero_le h0
  have e := u8_and_nat X 3 (by omega) (by decide)
  have h := nat_and3 ⟨X, by omega⟩
  simp only [] at h
  rw [h] at e
  simpa using e

/-- The type of a packet that bytes are. -/
def ptype : List Int → Int
  | [] => 0
  | x :: r => if x < 128 then (if x < 64 then 0 else 5) else
    match r with
    | a :: b :: c :: d :: _ => if a + b + c + d = 0 then 6 else if x / 64 % 2 = 0 then 0 else 1 + x / 16 % 4
    | _ => 0
/-- The type of a packet as the reference has it; 2: nothing is said. -/
def spt : List Int → Int × Int
  | [] => (0, 0)
  | x :: r => if x < 128 then (if x < 64 then (0, 0) else (5, 0)) else
    match r with
    | a :: b :: c :: d :: _ => if 1 < ((a * 256 + b) * 256 + c) * 256 + d then (0, 2) else if ((a * 256 + b) * 256 + c) * 256 + d = 0 then (6, 0) else if x / 64 % 2 = 0 then (0, 0) else (1 + x / 16 % 4, 0)
    | _ => (0, 2)

set_option maxHeartbeats 1000000 in
theorem gpt_nil (A : Option Addr) (c : Nat) (w : World) :
    Calls Try.prog 76 #[.slice A 0 c] w fun e w' => e = .returned (.int .u8 0) ∧ w = w' := by
  go_enter Try.func76, Try.ntmps76
  go_wp2
  go_ret
  exact ⟨rfl, rfl⟩

set_option maxHeartbeats 1000000 in
theorem spt_nil (A : Option Addr) (c : Nat) (w : World) :
    Calls Try.prog 50 #[.slice A 0 c] w fun e w' => e = .returned (.tuple #[.int .i64 0, .int .i64 0]) ∧ w = w' := by
  go_enter Try.func50, Try.ntmps50
  go_wp2
  go_ret2
  exact ⟨rfl, rfl⟩

set_option maxHeartbeats 2000000 in
theorem gpt_a (b o n k : Nat) (x : Int) (w : World) (hn : 1 ≤ n) (hn2 : n ≤ 9223372036854775807) (h0 : 0 ≤ x) (h1 : x < 64) (c0 : w.cell? ⟨b, o, none⟩ = some (.int .u8 x)) :
    Calls Try.prog 76 #[.slice (some ⟨b, o, none⟩) n k] w fun e w' => e = .returned (.int .u8 0) ∧ ∃ q, w' = w.drewN q := by
  have hz : ((n : Int) == 0) = false := by simp; omega
  have hz1 : (n == 0) = false := by simp; omega
  have hd : decide ((128 : Int) ≤ x) = false := by simp; omega
  have f1 : bits .and .u8 x 128 = 0 := by rw [and128 x (by omega) (by omega)]; omega
  have f2 : bits .and .u8 x 64 = 0 := by rw [and64 x (by omega) (by omega)]; omega
  go_enter Try.func76, Try.ntmps76
  go_wp2
  all_goals
    go_ret
    exact ⟨rfl, 0, rfl⟩

set_option maxHeartbeats 2000000 in
theorem spt_a (b o n k : Nat) (x : Int) (w : World) (hn : 1 ≤ n) (hn2 : n ≤ 9223372036854775807) (h0 : 0 ≤ x) (h1 : x < 64) (c0 : w.cell? ⟨b, o, none⟩ = some (.int .u8 x)) :
    Calls Try.prog 50 #[.slice (some ⟨b, o, none⟩) n k] w fun e w' => e = .returned (.tuple #[.int .i64 0, .int .i64 0]) ∧ ∃ q, w' = w.drewN q := by
  have hz : ((n : Int) == 0) = false := by simp; omega
  have hz1 : (n == 0) = false := by simp; omega
  have hd : decide ((128 : Int) ≤ x) = false := by simp; omega
  have f1 : bits .and .u8 x 128 = 0 := by rw [and128 x (by omega) (by omega)]; omega
  have f2 : bits .and .u8 x 64 = 0 := by rw [and64 x (by omega) (by omega)]; omega
  go_enter Try.func50, Try.ntmps50
  go_wp2
  all_goals
    go_ret2
    exact ⟨rfl, 0, rfl⟩

set_option maxHeartbeats 2000000 in
theorem gpt_b (b o n k : Nat) (x : Int) (w : World) (hn : 1 ≤ n) (hn2 : n ≤ 9223372036854775807) (h0 : 64 ≤ x) (h1 : x < 128) (c0 : w.cell? ⟨b, o, none⟩ = some (.int .u8 x)) :
    Calls Try.prog 76 #[.slice (some ⟨b, o, none⟩) n k] w fun e w' => e = .returned (.int .u8 5) ∧ ∃ q, w' = w.drewN q := by
  have hz : ((n : Int) == 0) = false := by simp; omega
  have hz1 : (n == 0) = false := by simp; omega
  have hd : decide ((128 : Int) ≤ x) = false := by simp; omega
  have f1 : bits .and .u8 x 128 = 0 := by rw [and128 x (by omega) (by omega)]; omega
  have f2 : bits .and .u8 x 64 = 64 := by rw [and64 x (by omega) (by omega)]; omega
  go_enter Try.func76, Try.ntmps76
  go_wp2
  all_goals
    go_ret
    exact ⟨rfl, 0, rfl⟩

set_option maxHeartbeats 2000000 in
theorem spt_b (b o n k : Nat) (x : Int) (w : World) (hn : 1 ≤ n) (hn2 : n ≤ 9223372036854775807) (h0 : 64 ≤ x) (h1 : x < 128) (c0 : w.cell? ⟨b, o, none⟩ = some (.int .u8 x)) :
    Calls Try.prog 50 #[.slice (some ⟨b, o, none⟩) n k] w fun e w' => e = .returned (.tuple #[.int .i64 5, .int .i64 0]) ∧ ∃ q, w' = w.drewN q := by
  have hz : ((n : Int) == 0) = false := by simp; omega
  have hz1 : (n == 0) = false := by simp; omega
  have hd : decide ((128 : Int) ≤ x) = false := by simp; omega
  have f1 : bits .and .u8 x 128 = 0 := by rw [and128 x (by omega) (by omega)]; omega
  have f2 : bits .and .u8 x 64 = 64 := by rw [and64 x (by omega) (by omega)]; omega
  go_enter Try.func50, Try.ntmps50
  go_wp2
  all_goals
    go_ret2
    exact ⟨rfl, 0, rfl⟩

set_option maxHeartbeats 2000000 in
theorem gpt_c (b o n k : Nat) (x : Int) (w : World) (hn : 1 ≤ n) (hn2 : n ≤ 9223372036854775807) (h0 : 128 ≤ x) (h1 : x ≤ 255) (h5 : n < 5) (c0 : w.cell? ⟨b, o, none⟩ = some (.int .u8 x)) :
    Calls Try.prog 76 #[.slice (some ⟨b, o, none⟩) n k] w fun e w' => e = .returned (.int .u8 0) ∧ ∃ q, w' = w.drewN q := by
  have hz : ((n : Int) == 0) = false := by simp; omega
  have hz1 : (n == 0) = false := by simp; omega
  have hd : decide ((128 : Int) ≤ x) = true := by simp; omega
  have f1 : bits .and .u8 x 128 = 128 := by rw [and128 x (by omega) (by omega)]; omega
  go_enter Try.func76, Try.ntmps76
  go_wp2
  all_goals
    go_ret
    exact ⟨rfl, 0, rfl⟩

set_option maxHeartbeats 2000000 in
theorem spt_c (b o n k : Nat) (x : Int) (w : World) (hn : 1 ≤ n) (hn2 : n ≤ 9223372036854775807) (h0 : 128 ≤ x) (h1 : x ≤ 255) (h5 : n < 5) (c0 : w.cell? ⟨b, o, none⟩ = some (.int .u8 x)) :
    Calls Try.prog 50 #[.slice (some ⟨b, o, none⟩) n k] w fun e w' => e = .returned (.tuple #[.int .i64 0, .int .i64 2]) ∧ ∃ q, w' = w.drewN q := by
  have hz : ((n : Int) == 0) = false := by simp; omega
  have hz1 : (n == 0) = false := by simp; omega
  have hd : decide ((128 : Int) ≤ x) = true := by simp; omega
  have f1 : bits .and .u8 x 128 = 128 := by rw [and128 x (by omega) (by omega)]; omega
  go_enter Try.func50, Try.ntmps50
  go_wp2
  all_goals
    go_ret2
    exact ⟨rfl, 0, rfl⟩

set_option maxHeartbeats 1000000 in
/-- spec.version. -/
theorem sver (b o n k : Nat) (x y1 y2 y3 y4 : Int) (w : World) (hn : 5 ≤ n) (hn2 : n ≤ 9223372036854775807) (h0 : 128 ≤ x) (h1 : x ≤ 255) (b1 : 0 ≤ y1 ∧ y1 ≤ 255) (b2 : 0 ≤ y2 ∧ y2 ≤ 255) (b3 : 0 ≤ y3 ∧ y3 ≤ 255) (b4 : 0 ≤ y4 ∧ y4 ≤ 255)
    (c0 : w.cell? ⟨b, o, none⟩ = some (.int .u8 x)) (c1 : w.cell? ⟨b, o + 1, none⟩ = some (.int .u8 y1)) (c2 : w.cell? ⟨b, o + 2, none⟩ = some (.int .u8 y2)) (c3 : w.cell? ⟨b, o + 3, none⟩ = some (.int .u8 y3)) (c4 : w.cell? ⟨b, o + 4, none⟩ = some (.int .u8 y4)) :
    Calls Try.prog 47 #[.slice (some ⟨b, o, none⟩) n k] w fun e w' => e = .returned (.tuple #[.int .u32 (((y1 * 256 + y2) * 256 + y3) * 256 + y4), .bool true]) ∧ ∃ q, w' = w.drewN q := by
  have p1 : (1 : Int) < (n : Int) := by omega
  have p2 : (2 : Int) < (n : Int) := by omega
  have p3 : (3 : Int) < (n : Int) := by omega
  have p4 : (4 : Int) < (n : Int) := by omega
  go_enter Try.func47, Try.ntmps47
  go_wp2_with fail
  go_quiet (fail)
  go_wp2
  go_ret2
  exact ⟨ret2_eq (or4_32 y1 y2 y3 y4 b1 b2 b3 b4), nq, rfl⟩

set_option maxHeartbeats 1000000 in
theorem sver_short (A : Option Addr) (n k : Nat) (w : World) (h5 : n < 5) :
    Calls Try.prog 47 #[.slice A n k] w fun e w' => e = .returned (.tuple #[.int .u32 0, .bool false]) ∧ w = w' := by
  go_enter Try.func47, Try.ntmps47
  go_wp2
  go_ret2
  exact ⟨rfl, rfl⟩

set_option maxHeartbeats 2000000 in
theorem gpt_d (b o n k : Nat) (x y1 y2 y3 y4 : Int) (w : World) (hn : 5 ≤ n) (hn2 : n ≤ 9223372036854775807) (h0 : 128 ≤ x) (h1 : x ≤ 255) (b1 : 0 ≤ y1 ∧ y1 ≤ 255) (b2 : 0 ≤ y2 ∧ y2 ≤ 255) (b3 : 0 ≤ y3 ∧ y3 ≤ 255) (b4 : 0 ≤ y4 ∧ y4 ≤ 255)
    (c0 : w.cell? ⟨b, o, none⟩ = some (.int .u8 x)) (c1 : w.cell? ⟨b, o + 1, none⟩ = some (.int .u8 y1)) (c2 : w.cell? ⟨b, o + 2, none⟩ = some (.int .u8 y2)) (c3 : w.cell? ⟨b, o + 3, none⟩ = some (.int .u8 y3)) (c4 : w.cell? ⟨b, o + 4, none⟩ = some (.int .u8 y4)) (hv : y1 + y2 + y3 + y4 = 0) :
    Calls Try.prog 76 #[.slice (some ⟨b, o, none⟩) n k] w fun e w' => e = .returned (.int .u8 6) ∧ ∃ q, w' = w.drewN q := by
  have hz : ((n : Int) == 0) = false := by simp; omega
  have hz1 : (n == 0) = false := by simp; omega
  have hd : decide ((128 : Int) ≤ x) = true := by simp; omega
  have f1 : bits .and .u8 x 128 = 128 := by rw [and128 x (by omega) (by omega)]; omega
  obtain rfl : y1 = 0 := by omega
  obtain rfl : y2 = 0 := by omega
  obtain rfl : y3 = 0 := by omega
  obtain rfl : y4 = 0 := by omega
  clear hv
  go_enter Try.func76, Try.ntmps76
  go_wp2
  all_goals
    go_ret
    exact ⟨rfl, 0, rfl⟩

set_option maxHeartbeats 2000000 in
theorem gpt_e (b o n k : Nat) (x y1 y2 y3 y4 : Int) (w : World) (hn : 5 ≤ n) (hn2 : n ≤ 9223372036854775807) (h0 : 128 ≤ x) (h1 : x ≤ 255) (b1 : 0 ≤ y1 ∧ y1 ≤ 255) (b2 : 0 ≤ y2 ∧ y2 ≤ 255) (b3 : 0 ≤ y3 ∧ y3 ≤ 255) (b4 : 0 ≤ y4 ∧ y4 ≤ 255)
    (c0 : w.cell? ⟨b, o, none⟩ = some (.int .u8 x)) (c1 : w.cell? ⟨b, o + 1, none⟩ = some (.int .u8 y1)) (c2 : w.cell? ⟨b, o + 2, none⟩ = some (.int .u8 y2)) (c3 : w.cell? ⟨b, o + 3, none⟩ = some (.int .u8 y3)) (c4 : w.cell? ⟨b, o + 4, none⟩ = some (.int .u8 y4)) (hv : 0 < y1 + y2 + y3 + y4) (h6 : x / 64 % 2 = 0) :
    Calls Try.prog 76 #[.slice (some ⟨b, o, none⟩) n k] w fun e w' => e = .returned (.int .u8 0) ∧ ∃ q, w' = w.drewN q := by
  have hz : ((n : Int) == 0) = false := by simp; omega
  have hz1 : (n == 0) = false := by simp; omega
  have hd : decide ((128 : Int) ≤ x) = true := by simp; omega
  have f1 : bits .and .u8 x 128 = 128 := by rw [and128 x (by omega) (by omega)]; omega
  have f2 : bits .and .u8 x 64 = 0 := by rw [and64 x (by omega) (by omega)]; omega
  clear h6
  go_enter Try.func76, Try.ntmps76
  go_wp2
  all_goals
    go_ret
    exact ⟨rfl, 0, rfl⟩

set_option maxHeartbeats 2000000 in
theorem gpt_f0 (b o n k : Nat) (x y1 y2 y3 y4 : Int) (w : World) (hn : 5 ≤ n) (hn2 : n ≤ 9223372036854775807) (h0 : 128 ≤ x) (h1 : x ≤ 255) (b1 : 0 ≤ y1 ∧ y1 ≤ 255) (b2 : 0 ≤ y2 ∧ y2 ≤ 255) (b3 : 0 ≤ y3 ∧ y3 ≤ 255) (b4 : 0 ≤ y4 ∧ y4 ≤ 255)
    (c0 : w.cell? ⟨b, o, none⟩ = some (.int .u8 x)) (c1 : w.cell? ⟨b, o + 1, none⟩ = some (.int .u8 y1)) (c2 : w.cell? ⟨b, o + 2, none⟩ = some (.int .u8 y2)) (c3 : w.cell? ⟨b, o + 3, none⟩ = some (.int .u8 y3)) (c4 : w.cell? ⟨b, o + 4, none⟩ = some (.int .u8 y4)) (hv : 0 < y1 + y2 + y3 + y4) (h6 : x / 64 % 2 = 1) (h7 : x / 16 % 4 = 0) :
    Calls Try.prog 76 #[.slice (some ⟨b, o, none⟩) n k] w fun e w' => e = .returned (.int .u8 1) ∧ ∃ q, w' = w.drewN q := by
  have hz : ((n : Int) == 0) = false := by simp; omega
  have hz1 : (n == 0) = false := by simp; omega
  have hd : decide ((128 : Int) ≤ x) = true := by simp; omega
  have f1 : bits .and .u8 x 128 = 128 := by rw [and128 x (by omega) (by omega)]; omega
  have f2 : bits .and .u8 x 64 = 64 := by rw [and64 x (by omega) (by omega)]; omega
  have f3 : bits .and .u8 x 48 = 0 := by rw [and48 x (by omega) (by omega)]; omega
  clear h6 h7
  go_enter Try.func76, Try.ntmps76
  go_wp2
  all_goals
    go_ret
    exact ⟨rfl, 0, rfl⟩

set_option maxHeartbeats 2000000 in
theorem gpt_f1 (b o n k : Nat) (x y1 y2 y3 y4 : Int) (w : World) (hn : 5 ≤ n) (hn2 : n ≤ 9223372036854775807) (h0 : 128 ≤ x) (h1 : x ≤ 255) (b1 : 0 ≤ y1 ∧ y1 ≤ 255) (b2 : 0 ≤ y2 ∧ y2 ≤ 255) (b3 : 0 ≤ y3 ∧ y3 ≤ 255) (b4 : 0 ≤ y4 ∧ y4 ≤ 255)
    (c0 : w.cell? ⟨b, o, none⟩ = some (.int .u8 x)) (c1 : w.cell? ⟨b, o + 1, none⟩ = some (.int .u8 y1)) (c2 : w.cell? ⟨b, o + 2, none⟩ = some (.int .u8 y2)) (c3 : w.cell? ⟨b, o + 3, none⟩ = some (.int .u8 y3)) (c4 : w.cell? ⟨b, o + 4, none⟩ = some (.int .u8 y4)) (hv : 0 < y1 + y2 + y3 + y4) (h6 : x / 64 % 2 = 1) (h7 : x / 16 % 4 = 1) :
    Calls Try.prog 76 #[.slice (some ⟨b, o, none⟩) n k] w fun e w' => e = .returned (.int .u8 2) ∧ ∃ q, w' = w.drewN q := by
  have hz : ((n : Int) == 0) = false := by simp; omega
  have hz1 : (n == 0) = false := by simp; omega
  have hd : decide ((128 : Int) ≤ x) = true := by simp; omega
  have f1 : bits .and .u8 x 128 = 128 := by rw [and128 x (by omega) (by omega)]; omega
  have f2 : bits .and .u8 x 64 = 64 := by rw [and64 x (by omega) (by omega)]; omega
  have f3 : bits .and .u8 x 48 = 16 := by rw [and48 x (by omega) (by omega)]; omega
  clear h6 h7
  go_enter Try.func76, Try.ntmps76
  go_wp2
  all_goals
    go_ret
    exact ⟨rfl, 0, rfl⟩

set_option maxHeartbeats 2000000 in
theorem gpt_f2 (b o n k : Nat) (x y1 y2 y3 y4 : Int) (w : World) (hn : 5 ≤ n) (hn2 : n ≤ 9223372036854775807) (h0 : 128 ≤ x) (h1 : x ≤ 255) (b1 : 0 ≤ y1 ∧ y1 ≤ 255) (b2 : 0 ≤ y2 ∧ y2 ≤ 255) (b3 : 0 ≤ y3 ∧ y3 ≤ 255) (b4 : 0 ≤ y4 ∧ y4 ≤ 255)
    (c0 : w.cell? ⟨b, o, none⟩ = some (.int .u8 x)) (c1 : w.cell? ⟨b, o + 1, none⟩ = some (.int .u8 y1)) (c2 : w.cell? ⟨b, o + 2, none⟩ = some (.int .u8 y2)) (c3 : w.cell? ⟨b, o + 3, none⟩ = some (.int .u8 y3)) (c4 : w.cell? ⟨b, o + 4, none⟩ = some (.int .u8 y4)) (hv : 0 < y1 + y2 + y3 + y4) (h6 : x / 64 % 2 = 1) (h7 : x / 16 % 4 = 2) :
    Calls Try.prog 76 #[.slice (some ⟨b, o, none⟩) n k] w fun e w' => e = .returned (.int .u8 3) ∧ ∃ q, w' = w.drewN q := by
  have hz : ((n : Int) == 0) = false := by simp; omega
  have hz1 : (n == 0) = false := by simp; omega
  have hd : decide ((128 : Int) ≤ x) = true := by simp; omega
  have f1 : bits .and .u8 x 128 = 128 := by rw [and128 x (by omega) (by omega)]; omega
  have f2 : bits .and .u8 x 64 = 64 := by rw [and64 x (by omega) (by omega)]; omega
  have f3 : bits .and .u8 x 48 = 32 := by rw [and48 x (by omega) (by omega)]; omega
  clear h6 h7
  go_enter Try.func76, Try.ntmps76
  go_wp2
  all_goals
    go_ret
    exact ⟨rfl, 0, rfl⟩

set_option maxHeartbeats 2000000 in
theorem gpt_f3 (b o n k : Nat) (x y1 y2 y3 y4 : Int) (w : World) (hn : 5 ≤ n) (hn2 : n ≤ 9223372036854775807) (h0 : 128 ≤ x) (h1 : x ≤ 255) (b1 : 0 ≤ y1 ∧ y1 ≤ 255) (b2 : 0 ≤ y2 ∧ y2 ≤ 255) (b3 : 0 ≤ y3 ∧ y3 ≤ 255) (b4 : 0 ≤ y4 ∧ y4 ≤ 255)
    (c0 : w.cell? ⟨b, o, none⟩ = some (.int .u8 x)) (c1 : w.cell? ⟨b, o + 1, none⟩ = some (.int .u8 y1)) (c2 : w.cell? ⟨b, o + 2, none⟩ = some (.int .u8 y2)) (c3 : w.cell? ⟨b, o + 3, none⟩ = some (.int .u8 y3)) (c4 : w.cell? ⟨b, o + 4, none⟩ = some (.int .u8 y4)) (hv : 0 < y1 + y2 + y3 + y4) (h6 : x / 64 % 2 = 1) (h7 : x / 16 % 4 = 3) :
    Calls Try.prog 76 #[.slice (some ⟨b, o, none⟩) n k] w fun e w' => e = .returned (.int .u8 4) ∧ ∃ q, w' = w.drewN q := by
  have hz : ((n : Int) == 0) = false := by simp; omega
  have hz1 : (n == 0) = false := by simp; omega
  have hd : decide ((128 : Int) ≤ x) = true := by simp; omega
  have f1 : bits .and .u8 x 128 = 128 := by rw [and128 x (by omega) (by omega)]; omega
  have f2 : bits .and .u8 x 64 = 64 := by rw [and64 x (by omega) (by omega)]; omega
  have f3 : bits .and .u8 x 48 = 48 := by rw [and48 x (by omega) (by omega)]; omega
  clear h6 h7
  go_enter Try.func76, Try.ntmps76
  go_wp2
  all_goals
    go_ret
    exact ⟨rfl, 0, rfl⟩

set_option maxHeartbeats 2000000 in
theorem spt_v (b o n k : Nat) (x y1 y2 y3 y4 : Int) (w : World) (hn : 5 ≤ n) (hn2 : n ≤ 9223372036854775807) (h0 : 128 ≤ x) (h1 : x ≤ 255) (b1 : 0 ≤ y1 ∧ y1 ≤ 255) (b2 : 0 ≤ y2 ∧ y2 ≤ 255) (b3 : 0 ≤ y3 ∧ y3 ≤ 255) (b4 : 0 ≤ y4 ∧ y4 ≤ 255)
    (c0 : w.cell? ⟨b, o, none⟩ = some (.int .u8 x)) (c1 : w.cell? ⟨b, o + 1, none⟩ = some (.int .u8 y1)) (c2 : w.cell? ⟨b, o + 2, none⟩ = some (.int .u8 y2)) (c3 : w.cell? ⟨b, o + 3, none⟩ = some (.int .u8 y3)) (c4 : w.cell? ⟨b, o + 4, none⟩ = some (.int .u8 y4)) (hv : 1 < (((y1 * 256 + y2) * 256 + y3) * 256 + y4)) :
    Calls Try.prog 50 #[.slice (some ⟨b, o, none⟩) n k] w fun e w' => e = .returned (.tuple #[.int .i64 0, .int .i64 2]) ∧ ∃ q, w' = w.drewN q := by
  have hz : ((n : Int) == 0) = false := by simp; omega
  have hz1 : (n == 0) = false := by simp; omega
  have hd : decide ((128 : Int) ≤ x) = true := by simp; omega
  have f1 : bits .and .u8 x 128 = 128 := by rw [and128 x (by omega) (by omega)]; omega
  obtain ⟨ver, hver⟩ : ∃ v, v = ((y1 * 256 + y2) * 256 + y3) * 256 + y4 := ⟨_, rfl⟩
  rw [← hver] at hv
  have HV := Lib.hid hver
  have hvb : 0 ≤ ver := by omega
  clear hver
  go_enter Try.func50, Try.ntmps50
  go_wp2_with (first | (go_at_call 47; refine (sver b o n k x y1 y2 y3 y4 _ hn hn2 h0 h1 b1 b2 b3 b4 c0 c1 c2 c3 c4).mono ?_; rw [← HV.out]; rintro e w' ⟨rfl, q, rfl⟩) | go_in)
  go_ret2
  exact ⟨rfl, q, rfl⟩

set_option maxHeartbeats 2000000 in
theorem spt_z (b o n k : Nat) (x y1 y2 y3 y4 : Int) (w : World) (hn : 5 ≤ n) (hn2 : n ≤ 9223372036854775807) (h0 : 128 ≤ x) (h1 : x ≤ 255) (b1 : 0 ≤ y1 ∧ y1 ≤ 255) (b2 : 0 ≤ y2 ∧ y2 ≤ 255) (b3 : 0 ≤ y3 ∧ y3 ≤ 255) (b4 : 0 ≤ y4 ∧ y4 ≤ 255)
    (c0 : w.cell? ⟨b, o, none⟩ = some (.int .u8 x)) (c1 : w.cell? ⟨b, o + 1, none⟩ = some (.int .u8 y1)) (c2 : w.cell? ⟨b, o + 2, none⟩ = some (.int .u8 y2)) (c3 : w.cell? ⟨b, o + 3, none⟩ = some (.int .u8 y3)) (c4 : w.cell? ⟨b, o + 4, none⟩ = some (.int .u8 y4)) (hv : (((y1 * 256 + y2) * 256 + y3) * 256 + y4) = 0) :
    Calls Try.prog 50 #[.slice (some ⟨b, o, none⟩) n k] w fun e w' => e = .returned (.tuple #[.int .i64 6, .int .i64 0]) ∧ ∃ q, w' = w.drewN q := by
  have hz : ((n : Int) == 0) = false := by simp; omega
  have hz1 : (n == 0) = false := by simp; omega
  have hd : decide ((128 : Int) ≤ x) = true := by simp; omega
  have f1 : bits .and .u8 x 128 = 128 := by rw [and128 x (by omega) (by omega)]; omega
  obtain ⟨ver, hver⟩ : ∃ v, v = ((y1 * 256 + y2) * 256 + y3) * 256 + y4 := ⟨_, rfl⟩
  rw [← hver] at hv
  have HV := Lib.hid hver
  have hvb : 0 ≤ ver := by omega
  clear hver
  subst hv
  clear hvb
  go_enter Try.func50, Try.ntmps50
  go_wp2_with (first | (go_at_call 47; refine (sver b o n k x y1 y2 y3 y4 _ hn hn2 h0 h1 b1 b2 b3 b4 c0 c1 c2 c3 c4).mono ?_; rw [← HV.out]; rintro e w' ⟨rfl, q, rfl⟩) | go_in)
  go_ret2
  exact ⟨rfl, q, rfl⟩

set_option maxHeartbeats 2000000 in
theorem spt_e (b o n k : Nat) (x y1 y2 y3 y4 : Int) (w : World) (hn : 5 ≤ n) (hn2 : n ≤ 9223372036854775807) (h0 : 128 ≤ x) (h1 : x ≤ 255) (b1 : 0 ≤ y1 ∧ y1 ≤ 255) (b2 : 0 ≤ y2 ∧ y2 ≤ 255) (b3 : 0 ≤ y3 ∧ y3 ≤ 255) (b4 : 0 ≤ y4 ∧ y4 ≤ 255)
    (c0 : w.cell? ⟨b, o, none⟩ = some (.int .u8 x)) (c1 : w.cell? ⟨b, o + 1, none⟩ = some (.int .u8 y1)) (c2 : w.cell? ⟨b, o + 2, none⟩ = some (.int .u8 y2)) (c3 : w.cell? ⟨b, o + 3, none⟩ = some (.int .u8 y3)) (c4 : w.cell? ⟨b, o + 4, none⟩ = some (.int .u8 y4)) (hv : (((y1 * 256 + y2) * 256 + y3) * 256 + y4) = 1) (h6 : x / 64 % 2 = 0) :
    Calls Try.prog 50 #[.slice (some ⟨b, o, none⟩) n k] w fun e w' => e = .returned (.tuple #[.int .i64 0, .int .i64 0]) ∧ ∃ q, w' = w.drewN q := by
  have hz : ((n : Int) == 0) = false := by simp; omega
  have hz1 : (n == 0) = false := by simp; omega
  have hd : decide ((128 : Int) ≤ x) = true := by simp; omega
  have f1 : bits .and .u8 x 128 = 128 := by rw [and128 x (by omega) (by omega)]; omega
  obtain ⟨ver, hver⟩ : ∃ v, v = ((y1 * 256 + y2) * 256 + y3) * 256 + y4 := ⟨_, rfl⟩
  rw [← hver] at hv
  have HV := Lib.hid hver
  have hvb : 0 ≤ ver := by omega
  clear hver
  subst hv
  clear hvb
  have f2 : bits .and .u8 x 64 = 0 := by rw [and64 x (by omega) (by omega)]; omega
  clear h6
  go_enter Try.func50, Try.ntmps50
  go_wp2_with (first | (go_at_call 47; refine (sver b o n k x y1 y2 y3 y4 _ hn hn2 h0 h1 b1 b2 b3 b4 c0 c1 c2 c3 c4).mono ?_; rw [← HV.out]; rintro e w' ⟨rfl, q, rfl⟩) | go_in)
  go_ret2
  exact ⟨rfl, q, rfl⟩

set_option maxHeartbeats 2000000 in
theorem spt_f (b o n k : Nat) (x y1 y2 y3 y4 : Int) (w : World) (hn : 5 ≤ n) (hn2 : n ≤ 9223372036854775807) (h0 : 128 ≤ x) (h1 : x ≤ 255) (b1 : 0 ≤ y1 ∧ y1 ≤ 255) (b2 : 0 ≤ y2 ∧ y2 ≤ 255) (b3 : 0 ≤ y3 ∧ y3 ≤ 255) (b4 : 0 ≤ y4 ∧ y4 ≤ 255)
    (c0 : w.cell? ⟨b, o, none⟩ = some (.int .u8 x)) (c1 : w.cell? ⟨b, o + 1, none⟩ = some (.int .u8 y1)) (c2 : w.cell? ⟨b, o + 2, none⟩ = some (.int .u8 y2)) (c3 : w.cell? ⟨b, o + 3, none⟩ = some (.int .u8 y3)) (c4 : w.cell? ⟨b, o + 4, none⟩ = some (.int .u8 y4)) (hv : (((y1 * 256 + y2) * 256 + y3) * 256 + y4) = 1) (h6 : x / 64 % 2 = 1) :
    Calls Try.prog 50 #[.slice (some ⟨b, o, none⟩) n k] w fun e w' => e = .returned (.tuple #[.int .i64 (1 + x / 16 % 4), .int .i64 0]) ∧ ∃ q, w' = w.drewN q := by
  have hz : ((n : Int) == 0) = false := by simp; omega
  have hz1 : (n == 0) = false := by simp; omega
  have hd : decide ((128 : Int) ≤ x) = true := by simp; omega
  have f1 : bits .and .u8 x 128 = 128 := by rw [and128 x (by omega) (by omega)]; omega
  obtain ⟨ver, hver⟩ : ∃ v, v = ((y1 * 256 + y2) * 256 + y3) * 256 + y4 := ⟨_, rfl⟩
  rw [← hver] at hv
  have HV := Lib.hid hver
  have hvb : 0 ≤ ver := by omega
  clear hver
  subst hv
  clear hvb
  have f2 : bits .and .u8 x 64 = 64 := by rw [and64 x (by omega) (by omega)]; omega
  have f3 : bits .and .u8 (x / 16) 3 = x / 16 % 4 := and3 _ (by omega) (by omega)
  clear h6
  go_enter Try.func50, Try.ntmps50
  go_wp2_with (first | (go_at_call 47; refine (sver b o n k x y1 y2 y3 y4 _ hn hn2 h0 h1 b1 b2 b3 b4 c0 c1 c2 c3 c4).mono ?_; rw [← HV.out]; rintro e w' ⟨rfl, q, rfl⟩) | go_in)
  go_ret2
  exact ⟨rfl, q, rfl⟩

theorem five {w : World} {b o n : Nat} {l : List Int} (hr : Rd w (some ⟨b, o, none⟩) l) (hn : l.length = n) (h5 : 5 ≤ n) : ∃ x y1 y2 y3 y4 r, l = x :: y1 :: y2 :: y3 :: y4 :: r := by
  match l, hn with
  | x :: y1 :: y2 :: y3 :: y4 :: r, _ => exact ⟨x, y1, y2, y3, y4, r, rfl⟩
  | [], hn => simp at hn; omega
  | [_], hn => simp at hn; omega
  | [_, _], hn => simp at hn; omega
  | [_, _, _], hn => simp at hn; omega
  | [_, _, _, _], hn => simp at hn; omega
theorem spt_c_eq {x : Int} {r : List Int} (h : 128 ≤ x) (h5 : (x :: r).length < 5) : spt (x :: r) = (0, 2) ∧ ptype (x :: r) = 0 := by
  match r, h5 with
  | [], _ => simp [spt, ptype]; omega
  | [_], _ => simp [spt, ptype]; omega
  | [_, _], _ => simp [spt, ptype]; omega
  | [_, _, _], _ => simp [spt, ptype]; omega
  | _ :: _ :: _ :: _ :: _, h5 => simp at h5; omega

/-- getPacketType, whatever the bytes. -/
theorem gpt (A : Option Addr) (n k : Nat) (l : List Int) (w : World) (hr : Rd w A l) (hn : Hid (l.length = n)) (hn2 : n ≤ 9223372036854775807) :
    Calls Try.prog 76 #[.slice A n k] w fun e w' => e = .returned (.int .u8 (ptype l)) ∧ ∃ q, w' = w.drewN q := by
  have hn' := hn.out
  cases l with
  | nil => simp at hn'; subst hn'; exact (gpt_nil A k w).mono fun e w' ⟨he, hw⟩ => ⟨he, 0, hw.symm⟩
  | cons x r =>
    obtain ⟨b, o, rfl, hc⟩ := hr.2 (by simp)
    have hx := hr.1.head
    have c0 : w.cell? ⟨b, o, none⟩ = some (.int .u8 x) := by simpa using hc 0 (by simp)
    have hn1 : 1 ≤ n := by rw [← hn']; simp
    by_cases h1 : x < 64
    · rw [show ptype (x :: r) = 0 by simp [ptype, h1]; omega]
      exact gpt_a b o n k x w hn1 hn2 hx.1 h1 c0
    by_cases h2 : x < 128
    · rw [show ptype (x :: r) = 5 by simp [ptype, h1, h2]]
      exact gpt_b b o n k x w hn1 hn2 (by omega) h2 c0
    by_cases h5 : n < 5
    · rw [(spt_c_eq (by omega) (by rw [hn']; exact h5)).2]
      exact gpt_c b o n k x w hn1 hn2 (by omega) hx.2 h5 c0
    obtain ⟨x', y1, y2, y3, y4, r', e⟩ := five hr hn' (by omega)
    obtain ⟨rfl, rfl⟩ : x = x' ∧ r = y1 :: y2 :: y3 :: y4 :: r' := by simpa using e
    have b1 := hr.1.tail.head
    have b2 := hr.1.tail.tail.head
    have b3 := hr.1.tail.tail.tail.head
    have b4 := hr.1.tail.tail.tail.tail.head
    have c1 : w.cell? ⟨b, o + 1, none⟩ = some (.int .u8 y1) := by simpa using hc 1 (by simp)
    have c2 : w.cell? ⟨b, o + 2, none⟩ = some (.int .u8 y2) := by simpa using hc 2 (by simp)
    have c3 : w.cell? ⟨b, o + 3, none⟩ = some (.int .u8 y3) := by simpa using hc 3 (by simp)
    have c4 : w.cell? ⟨b, o + 4, none⟩ = some (.int .u8 y4) := by simpa using hc 4 (by simp)
    by_cases hv : y1 + y2 + y3 + y4 = 0
    · rw [show ptype (x :: y1 :: y2 :: y3 :: y4 :: r') = 6 by simp only [ptype, if_neg h2, if_pos hv]]
      exact gpt_d b o n k x y1 y2 y3 y4 w (by omega) hn2 (by omega) hx.2 b1 b2 b3 b4 c0 c1 c2 c3 c4 hv
    by_cases h6 : x / 64 % 2 = 0
    · rw [show ptype (x :: y1 :: y2 :: y3 :: y4 :: r') = 0 by simp only [ptype, if_neg h2, if_neg hv, if_pos h6]]
      exact gpt_e b o n k x y1 y2 y3 y4 w (by omega) hn2 (by omega) hx.2 b1 b2 b3 b4 c0 c1 c2 c3 c4 (by omega) h6
    rw [show ptype (x :: y1 :: y2 :: y3 :: y4 :: r') = 1 + x / 16 % 4 by simp only [ptype, if_neg h2, if_neg hv, if_neg h6]]
    have hj : x / 16 % 4 = 0 ∨ x / 16 % 4 = 1 ∨ x / 16 % 4 = 2 ∨ x / 16 % 4 = 3 := by omega
    rcases hj with hj | hj | hj | hj
    · rw [hj]; exact gpt_f0 b o n k x y1 y2 y3 y4 w (by omega) hn2 (by omega) hx.2 b1 b2 b3 b4 c0 c1 c2 c3 c4 (by omega) (by omega) hj
    · rw [hj]; exact gpt_f1 b o n k x y1 y2 y3 y4 w (by omega) hn2 (by omega) hx.2 b1 b2 b3 b4 c0 c1 c2 c3 c4 (by omega) (by omega) hj
    · rw [hj]; exact gpt_f2 b o n k x y1 y2 y3 y4 w (by omega) hn2 (by omega) hx.2 b1 b2 b3 b4 c0 c1 c2 c3 c4 (by omega) (by omega) hj
    · rw [hj]; exact gpt_f3 b o n k x y1 y2 y3 y4 w (by omega) hn2 (by omega) hx.2 b1 b2 b3 b4 c0 c1 c2 c3 c4 (by omega) (by omega) hj

/-- spec.PacketType, whatever the bytes. -/
theorem sptc (A : Option Addr) (n k : Nat) (l : List Int) (w : World) (hr : Rd w A l) (hn : Hid (l.length = n)) (hn2 : n ≤ 9223372036854775807) :
    Calls Try.prog 50 #[.slice A n k] w fun e w' => e = .returned (.tuple #[.int .i64 (spt l).1, .int .i64 (spt l).2]) ∧ ∃ q, w' = w.drewN q := by
  have hn' := hn.out
  cases l with
  | nil => simp at hn'; subst hn'; exact (spt_nil A k w).mono fun e w' ⟨he, hw⟩ => ⟨he, 0, hw.symm⟩
  | cons x r =>
    obtain ⟨b, o, rfl, hc⟩ := hr.2 (by simp)
    have hx := hr.1.head
    have c0 : w.cell? ⟨b, o, none⟩ = some (.int .u8 x) := by simpa using hc 0 (by simp)
    have hn1 : 1 ≤ n := by rw [← hn']; simp
    by_cases h1 : x < 64
    · rw [show spt (x :: r) = (0, 0) by simp [spt, h1]; omega]
      exact spt_a b o n k x w hn1 hn2 hx.1 h1 c0
    by_cases h2 : x < 128
    · rw [show spt (x :: r) = (5, 0) by simp [spt, h1, h2]]
      exact spt_b b o n k x w hn1 hn2 (by omega) h2 c0
    by_cases h5 : n < 5
    · rw [(spt_c_eq (by omega) (by rw [hn']; exact h5)).1]
      exact spt_c b o n k x w hn1 hn2 (by omega) hx.2 h5 c0
    obtain ⟨x', y1, y2, y3, y4, r', e⟩ := five hr hn' (by omega)
    obtain ⟨rfl, rfl⟩ : x = x' ∧ r = y1 :: y2 :: y3 :: y4 :: r' := by simpa using e
    have b1 := hr.1.tail.head
    have b2 := hr.1.tail.tail.head
    have b3 := hr.1.tail.tail.tail.head
    have b4 := hr.1.tail.tail.tail.tail.head
    have c1 : w.cell? ⟨b, o + 1, none⟩ = some (.int .u8 y1) := by simpa using hc 1 (by simp)
    have c2 : w.cell? ⟨b, o + 2, none⟩ = some (.int .u8 y2) := by simpa using hc 2 (by simp)
    have c3 : w.cell? ⟨b, o + 3, none⟩ = some (.int .u8 y3) := by simpa using hc 3 (by simp)
    have c4 : w.cell? ⟨b, o + 4, none⟩ = some (.int .u8 y4) := by simpa using hc 4 (by simp)
    by_cases hv1 : 1 < ((y1 * 256 + y2) * 256 + y3) * 256 + y4
    · rw [show spt (x :: y1 :: y2 :: y3 :: y4 :: r') = (0, 2) by simp only [spt, if_neg h2, if_pos hv1]]
      exact spt_v b o n k x y1 y2 y3 y4 w (by omega) hn2 (by omega) hx.2 b1 b2 b3 b4 c0 c1 c2 c3 c4 hv1
    by_cases hv : ((y1 * 256 + y2) * 256 + y3) * 256 + y4 = 0
    · rw [show spt (x :: y1 :: y2 :: y3 :: y4 :: r') = (6, 0) by simp only [spt, if_neg h2, if_neg hv1, if_pos hv]]
      exact spt_z b o n k x y1 y2 y3 y4 w (by omega) hn2 (by omega) hx.2 b1 b2 b3 b4 c0 c1 c2 c3 c4 hv
    by_cases h6 : x / 64 % 2 = 0
    · rw [show spt (x :: y1 :: y2 :: y3 :: y4 :: r') = (0, 0) by simp only [spt, if_neg h2, if_neg hv1, if_neg hv, if_pos h6]]
      exact spt_e b o n k x y1 y2 y3 y4 w (by omega) hn2 (by omega) hx.2 b1 b2 b3 b4 c0 c1 c2 c3 c4 (by omega) h6
    rw [show spt (x :: y1 :: y2 :: y3 :: y4 :: r') = (1 + x / 16 % 4, 0) by simp only [spt, if_neg h2, if_neg hv1, if_neg hv, if_neg h6]]
    exact spt_f b o n k x y1 y2 y3 y4 w (by omega) hn2 (by omega) hx.2 b1 b2 b3 b4 c0 c1 c2 c3 c4 (by omega) (by omega)

/-- The plain law. -/
theorem spt_law {l : List Int} (hb : Bs l) : ((spt l).2 = 2 ∨ (spt l).2 = 0 ∧ (spt l).1 = ptype l) ∧ 0 ≤ ptype l ∧ ptype l ≤ 6 := by
  match l, hb with
  | [], _ => simp [spt, ptype]
  | x :: r, hb =>
    by_cases h2 : x < 128
    · by_cases h1 : x < 64 <;> simp [spt, ptype, h1, h2]
    match r, hb with
    | a :: b :: c :: d :: r, hb =>
      have hx := hb.head
      have b1 := hb.tail.head
      have b2 := hb.tail.tail.head
      have b3 := hb.tail.tail.tail.head
      have b4 := hb.tail.tail.tail.tail.head
      simp only [spt, ptype, if_neg h2]
      by_cases hv : a + b + c + d = 0
      · rw [if_pos hv]
        refine ⟨.inr ?_, by omega, by omega⟩
        rw [if_neg (by omega), if_pos (by omega)]
        exact ⟨rfl, rfl⟩
      · rw [if_neg hv]
        by_cases hv1 : 1 < ((a * 256 + b) * 256 + c) * 256 + d
        · rw [if_pos hv1]
          refine ⟨.inl rfl, ?_⟩
          by_cases h6 : x / 64 % 2 = 0
          · rw [if_pos h6]; omega
          · rw [if_neg h6]; omega
        · rw [if_neg hv1, if_neg (by omega)]
          by_cases h6 : x / 64 % 2 = 0
          · rw [if_pos h6, if_pos h6]; exact ⟨.inr ⟨rfl, rfl⟩, by omega, by omega⟩
          · rw [if_neg h6, if_neg h6]; exact ⟨.inr ⟨rfl, rfl⟩, by omega, by omega⟩
    | [], _ => simp [spt, ptype, h2]
    | [_], _ => simp [spt, ptype, h2]
    | [_, _], _ => simp [spt, ptype, h2]
    | [_, _, _], _ => simp [spt, ptype, h2]

end Go.Proofs.Ytdogepkfgobcfaa


/- Contracts of ZZFrame and impl.Frame, whatever the type. Conditions: the type is one of 4 to 29. -/
import Derived.Test.YtggcnepdeaijoaaZFn
import Derived.Test.YtggcnepdeaijoaaZFb
import Derived.Test.YtggcnepdeaijoaaZFt
import Derived.Test.YtggcnepdeaijoaaZFc2
import Derived.Test.YtggcnepdeaijoaaZFp
import Derived.Test.YtggcnepdeaijoaaZFi
namespace Go.Proofs.Ytggcnepdeaijoaa
open Go.RowKit
set_option linter.unusedVariables false

theorem zzf (t : Int) (ht : 4 ≤ t ∧ t ≤ 29) (b o n c : Nat) (l : List Int) (w : World) (hr : Rd w (some ⟨b, o, none⟩) l) (hn : Hid (l.length = n)) (hnc : n ≤ c) (hc2 : c ≤ 9223372036854775807) (h1 : 1 ≤ n) (hn2 : n ≤ 4294967295) (h0 : w.cell? ⟨b, o, none⟩ = some (.int .u8 t)) :
    Calls Try.prog 12 #[.slice (some ⟨b, o, none⟩) n c] w fun e w' => ZfEnd w (frT t l) e w' := by
  have h : t = 4 ∨ t = 5 ∨ t = 6 ∨ t = 7 ∨ t = 8 ∨ t = 9 ∨ t = 10 ∨ t = 11 ∨ t = 12 ∨ t = 13 ∨ t = 14 ∨ t = 15 ∨ t = 16 ∨ t = 17 ∨ t = 18 ∨ t = 19 ∨ t = 20 ∨ t = 21 ∨ t = 22 ∨ t = 23 ∨ t = 24 ∨ t = 25 ∨ t = 26 ∨ t = 27 ∨ t = 28 ∨ t = 29 := by omega
  rcases h with rfl | rfl | rfl | rfl | rfl | rfl | rfl | rfl | rfl | rfl | rfl | rfl | rfl | rfl | rfl | rfl | rfl | rfl | rfl | rfl | rfl | rfl | rfl | rfl | rfl | rfl
  · rw [show frT 4 l = P3 l by simp [frT]]
    exact zf4 b o n c l w hr hn hnc hc2 h1 hn2 h0
  · rw [show frT 5 l = P2 l by simp [frT]]
    exact zf5 b o n c l w hr hn hnc hc2 h1 hn2 h0
  · rw [show frT 6 l = Pcr l by simp [frT]]
    exact zf6 b o n c l w hr hn hnc hc2 h1 hn2 h0
  · rw [show frT 7 l = Ptk l by simp [frT]]
    exact zf7 b o n c l w hr hn hnc hc2 h1 hn2 h0
  · rw [show frT 8 l = Pst 8 l by simp [frT]]
    exact zf8 b o n c l w hr hn hnc hc2 h1 hn2 h0
  · rw [show frT 9 l = Pst 9 l by simp [frT]]
    exact zf9 b o n c l w hr hn hnc hc2 h1 hn2 h0
  · rw [show frT 10 l = Pst 10 l by simp [frT]]
    exact zf10 b o n c l w hr hn hnc hc2 h1 hn2 h0
  · rw [show frT 11 l = Pst 11 l by simp [frT]]
    exact zf11 b o n c l w hr hn hnc hc2 h1 hn2 h0
  · rw [show frT 12 l = Pst 12 l by simp [frT]]
    exact zf12 b o n c l w hr hn hnc hc2 h1 hn2 h0
  · rw [show frT 13 l = Pst 13 l by simp [frT]]
    exact zf13 b o n c l w hr hn hnc hc2 h1 hn2 h0
  · rw [show frT 14 l = Pst 14 l by simp [frT]]
    exact zf14 b o n c l w hr hn hnc hc2 h1 hn2 h0
  · rw [show frT 15 l = Pst 15 l by simp [frT]]
    exact zf15 b o n c l w hr hn hnc hc2 h1 hn2 h0
  · rw [show frT 16 l = P1 l by simp [frT]]
    exact zf16 b o n c l w hr hn hnc hc2 h1 hn2 h0
  · rw [show frT 17 l = P2 l by simp [frT]]
    exact zf17 b o n c l w hr hn hnc hc2 h1 hn2 h0
  · rw [show frT 18 l = Pms 0 l by simp [frT]]
    exact zf18 b o n c l w hr hn hnc hc2 h1 hn2 h0
  · rw [show frT 19 l = Pms 1 l by simp [frT]]
    exact zf19 b o n c l w hr hn hnc hc2 h1 hn2 h0
  · rw [show frT 20 l = P1 l by simp [frT]]
    exact zf20 b o n c l w hr hn hnc hc2 h1 hn2 h0
  · rw [show frT 21 l = P2 l by simp [frT]]
    exact zf21 b o n c l w hr hn hnc hc2 h1 hn2 h0
  · rw [show frT 22 l = Psb 0 l by simp [frT]]
    exact zf22 b o n c l w hr hn hnc hc2 h1 hn2 h0
  · rw [show frT 23 l = Psb 1 l by simp [frT]]
    exact zf23 b o n c l w hr hn hnc hc2 h1 hn2 h0
  · rw [show frT 24 l = Pid l by simp [frT]]
    exact zf24 b o n c l w hr hn hnc hc2 h1 hn2 h0
  · rw [show frT 25 l = P1 l by simp [frT]]
    exact zf25 b o n c l w hr hn hnc hc2 h1 hn2 h0
  · rw [show frT 26 l = Ppc l by simp [frT]]
    exact zf26 b o n c l w hr hn hnc hc2 h1 hn2 h0
  · rw [show frT 27 l = Ppc l by simp [frT]]
    exact zf27 b o n c l w hr hn hnc hc2 h1 hn2 h0
  · rw [show frT 28 l = Pct l by simp [frT]]
    exact zf28 b o n c l w hr hn hnc hc2 h1 hn2 h0
  · rw [show frT 29 l = Pcr l by simp [frT]]
    exact zf29 b o n c l w hr hn hnc hc2 h1 hn2 h0

set_option maxHeartbeats 1000000 in
theorem ifr (t : Int) (ht : 4 ≤ t ∧ t ≤ 29) (b o n c : Nat) (l : List Int) (w : World) (hr : Rd w (some ⟨b, o, none⟩) l) (hn : Hid (l.length = n)) (hnc : n ≤ c) (hc2 : c ≤ 9223372036854775807) (h1 : 1 ≤ n) (hn2 : n ≤ 4294967295) (h0 : w.cell? ⟨b, o, none⟩ = some (.int .u8 t)) :
    Calls Try.prog 7 #[.slice (some ⟨b, o, none⟩) n c] w fun e w' => ZfEnd w (frT t l) e w' := by
  have HR := Lib.hid hr
  have H0 := Lib.hid h0
  clear hr h0
  go_enter Try.func7, Try.ntmps7
  go_wp2_with fail
  refine (zzf t ht b o n c l w HR.out hn hnc hc2 h1 hn2 H0.out).mono ?_
  rintro e w1 ⟨hb, h⟩
  have HB := Lib.hid hb
  clear hb
  rcases h with ⟨hP, rfl⟩ | ⟨vs, ds, k, AV, nV, cV, AD, nD, cD, hP, rfl, a1, a2, a3, a4, a5, a6⟩
  · have HP := Lib.hid hP
    clear hP
    go_wp2_with fail
    refine bodyPost_ret (v := .tuple #[.slice none 0 0, .slice none 0 0, .int .i64 (-1)]) (by simp [results, Try.results7, go_sem]) rfl ?_
    exact ⟨HB.out, .inl ⟨HP.out, rfl⟩⟩
  · have HP := Lib.hid hP
    have A1 := Lib.hid a1
    have A4 := Lib.hid a4
    clear hP a1 a4
    go_wp2_with fail
    refine bodyPost_ret (v := .tuple #[.slice AV nV cV, .slice AD nD cD, .int .i64 ((k : Nat) : Int)]) (by simp [results, Try.results7, go_sem]) rfl ?_
    exact ⟨HB.out, .inr ⟨vs, ds, k, AV, nV, cV, AD, nD, cD, HP.out, rfl, A1.out, a2, a3, A4.out, a5, a6⟩⟩

end Go.Proofs.Ytggcnepdeaijoaa

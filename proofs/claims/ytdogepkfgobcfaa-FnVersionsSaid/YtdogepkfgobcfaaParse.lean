/- Contract of parseGenericLongHeaderPacket: a long header's version, both IDs, and what follows. Conditions: the slice reads as bytes, and has one. -/
import Derived.Test.YtdogepkfgobcfaaLong
namespace Go.Proofs.Ytdogepkfgobcfaa
open Go.RowKit
set_option linter.unusedVariables false

def NoPkt (e : Ending) : Prop := e = .returned (.tuple #[.agg #[.int .u32 0, .slice none 0 0, .slice none 0 0, .slice none 0 0], .bool false])

set_option maxHeartbeats 1000000 in
theorem pg_short (b o n c : Nat) (w : World) (h5 : n < 5) :
    Calls Try.prog 72 #[.slice (some ⟨b, o, none⟩) n c] w fun e w' => NoPkt e ∧ Below w.heap.size w w' := by
  go_enter Try.func72, Try.ntmps72
  go_wp2_with fail
  refine bodyPost_ret (v := .tuple #[.agg #[.int .u32 0, .slice none 0 0, .slice none 0 0, .slice none 0 0], .bool false]) (by simp [results, Try.results72, go_sem]) rfl ?_
  exact ⟨rfl, (Below.refl _ _).alloc (Nat.le_refl _) _⟩

theorem no_bytes3 {v : Int} {A B C : Option Addr} {a b c a' b' c' : Nat} : ∀ (i : Nat) (z : Int), (#[Value.int .u32 v, .slice A a a', .slice B b b', .slice C c c'] : Array Value)[i]? ≠ some (Value.int .u8 z) := by
  intro i z
  match i with
  | 0 => simp
  | 1 => simp
  | 2 => simp
  | 3 => simp
  | i + 4 => simp

theorem ver_eq {l : List Int} (h : 5 ≤ l.length) : be 0 ((l.drop 1).take 4) = ver l := by
  match l, h with
  | x :: y1 :: y2 :: y3 :: y4 :: r, _ => simp [be, ver]
  | [], h => simp at h
  | [_], h => simp at h
  | [_, _], h => simp at h
  | [_, _, _], h => simp at h
  | [_, _, _, _], h => simp at h

set_option maxHeartbeats 4000000 in
theorem pg_1a (b o n c : Nat) (l : List Int) (w : World) (hr : Rd w (some ⟨b, o, none⟩) l) (hn : Hid (l.length = n)) (h5 : 5 ≤ n) (hnc : n ≤ c) (hc2 : c ≤ 9223372036854775807) (x0 : Int) (x0h : 128 ≤ x0 ∧ x0 ≤ 255) (c0 : w.cell? ⟨b, o, none⟩ = some (.int .u8 x0)) (h6 : n ≤ 5) (h7 : c ≤ 5) :
    Calls Try.prog 72 #[.slice (some ⟨b, o, none⟩) n c] w fun e w' => NoPkt e ∧ Below w.heap.size w w' := by
  obtain rfl : c = 5 := by omega
  have hx0 := x0h.1
  have hx1 := x0h.2
  have f1 : bits .and .u8 x0 128 = 128 := by rw [and128 x0 (by omega) (by omega)]; omega
  have k0 : (w.alloc (Obj.cells #[.int .u32 0, .slice none 0 0, .slice none 0 0, .slice none 0 0] 95)).cell? ⟨b, o, none⟩ = some (.int .u8 x0) := (World.cell?_alloc_lt w _ _ (World.block_lt_of_cell? _ _ c0)).trans c0
  have hc1 : ¬ (5 : Nat) = 1 := by first | decide | omega
  have hz5 : decide ((n : Int) < 5) = false := by simp; omega
  have hr1 := hr.cut_at (k := 1) (cap := 5) (by have := hn.out; omega)
  rw [if_neg hc1] at hr1
  have hn1 : Hid ((l.drop 1).length = n - 1) := by show _ = _; rw [List.length_drop, hn.out]
  have hver : Hid (be 0 ((l.drop 1).take 4) = ver l) := ver_eq (by have := hn.out; omega)
  have ad : ∀ (W : World) j o, (W.drewN j).alloc o = (W.alloc o).drewN j := fun _ _ _ => rfl
  have sd : ∀ (W : World) j x v, (W.drewN j).setCell x v = (W.setCell x v).drewN j := fun _ _ _ _ => rfl
  go_enter Try.func72, Try.ntmps72
  go_wp2_with (first | (go_at_call 93; go_in) | (go_at_call 94; go_in))
  refine (be32 (some ⟨b, o + 1, none⟩) (n - 1) _ (l.drop 1) _ (by exact hr1.alloc _) hn1.out (by omega) (by omega)).mono ?_
  rw [hver.out]
  rintro e w1 ⟨rfl, q, rfl⟩
  go_wp2_with fail
  refine (c8b _ _ _ [] _ (Rd.nil _ _) (show _ = _ by simp <;> omega) (by omega) (by omega)).mono ?_
  rintro e w2 ⟨he, rfl⟩
  obtain rfl := he.none_ rfl
  clear he
  go_wp2_with fail
  refine bodyPost_ret (v := .tuple #[.agg #[.int .u32 0, .slice none 0 0, .slice none 0 0, .slice none 0 0], .bool false]) (by simp [results, Try.results72, go_sem]) rfl ?_
  exact ⟨rfl, below_drewN ((Below.refl _ _).alloc (Nat.le_refl _) _) _⟩

set_option maxHeartbeats 4000000 in
theorem pg_1b (b o n c : Nat) (l : List Int) (w : World) (hr : Rd w (some ⟨b, o, none⟩) l) (hn : Hid (l.length = n)) (h5 : 5 ≤ n) (hnc : n ≤ c) (hc2 : c ≤ 9223372036854775807) (x0 : Int) (x0h : 128 ≤ x0 ∧ x0 ≤ 255) (c0 : w.cell? ⟨b, o, none⟩ = some (.int .u8 x0)) (h7 : 5 < c) (hno : Hid (r8b (l.drop (1 + 4)) = none)) :
    Calls Try.prog 72 #[.slice (some ⟨b, o, none⟩) n c] w fun e w' => NoPkt e ∧ Below w.heap.size w w' := by
  have hx0 := x0h.1
  have hx1 := x0h.2
  have f1 : bits .and .u8 x0 128 = 128 := by rw [and128 x0 (by omega) (by omega)]; omega
  have k0 : (w.alloc (Obj.cells #[.int .u32 0, .slice none 0 0, .slice none 0 0, .slice none 0 0] 95)).cell? ⟨b, o, none⟩ = some (.int .u8 x0) := (World.cell?_alloc_lt w _ _ (World.block_lt_of_cell? _ _ c0)).trans c0
  have hc1 : ¬ (c : Nat) = 1 := by first | decide | omega
  have hz5 : decide ((n : Int) < 5) = false := by simp; omega
  have hr1 := hr.cut_at (k := 1) (cap := c) (by have := hn.out; omega)
  rw [if_neg hc1] at hr1
  have hn1 : Hid ((l.drop 1).length = n - 1) := by show _ = _; rw [List.length_drop, hn.out]
  have hver : Hid (be 0 ((l.drop 1).take 4) = ver l) := ver_eq (by have := hn.out; omega)
  have ad : ∀ (W : World) j o, (W.drewN j).alloc o = (W.alloc o).drewN j := fun _ _ _ => rfl
  have sd : ∀ (W : World) j x v, (W.drewN j).setCell x v = (W.setCell x v).drewN j := fun _ _ _ _ => rfl
  have hc5 : ¬ c - 1 = 4 := by omega
  have hc5' : ¬ c = 5 := by omega
  have hr5 := hr1.cut_at (k := 4) (cap := c - 1) (by rw [hn1.out]; omega)
  rw [if_neg hc5, List.drop_drop] at hr5
  have hn5 : Hid ((l.drop (1 + 4)).length = n - 1 - 4) := by show _ = _; have := hn.out; rw [List.length_drop]; omega
  go_enter Try.func72, Try.ntmps72
  go_wp2_with (first | (go_at_call 93; go_in) | (go_at_call 94; go_in))
  refine (be32 (some ⟨b, o + 1, none⟩) (n - 1) _ (l.drop 1) _ (by exact hr1.alloc _) hn1.out (by omega) (by omega)).mono ?_
  rw [hver.out]
  rintro e w1 ⟨rfl, q, rfl⟩
  go_wp2_with fail
  refine (c8b (some ⟨b, o + 1 + 4, none⟩) (n - 1 - 4) _ (l.drop (1 + 4)) _ (by exact hr5.alloc _) hn5 (by omega) (by omega)).mono ?_
  rintro e w2 ⟨he, rfl⟩
  obtain rfl := he.none_ hno.out
  clear he
  go_wp2_with fail
  refine bodyPost_ret (v := .tuple #[.agg #[.int .u32 0, .slice none 0 0, .slice none 0 0, .slice none 0 0], .bool false]) (by simp [results, Try.results72, go_sem]) rfl ?_
  exact ⟨rfl, below_drewN ((Below.refl _ _).alloc (Nat.le_refl _) _) _⟩

set_option maxHeartbeats 4000000 in
theorem pg_2a (b o n c : Nat) (l : List Int) (w : World) (hr : Rd w (some ⟨b, o, none⟩) l) (hn : Hid (l.length = n)) (h5 : 5 ≤ n) (hnc : n ≤ c) (hc2 : c ≤ 9223372036854775807) (x0 : Int) (x0h : 128 ≤ x0 ∧ x0 ≤ 255) (c0 : w.cell? ⟨b, o, none⟩ = some (.int .u8 x0)) (h7 : 5 < c) (d : List Int) (x : Nat) (hxn : 6 + x ≤ n) (hd : Hid (r8b (l.drop (1 + 4)) = some (d, 1 + x))) (hdl : Hid (d.length = x)) (h8 : c ≤ 6 + x) :
    Calls Try.prog 72 #[.slice (some ⟨b, o, none⟩) n c] w fun e w' => NoPkt e ∧ Below w.heap.size w w' := by
  have hx0 := x0h.1
  have hx1 := x0h.2
  have f1 : bits .and .u8 x0 128 = 128 := by rw [and128 x0 (by omega) (by omega)]; omega
  have k0 : (w.alloc (Obj.cells #[.int .u32 0, .slice none 0 0, .slice none 0 0, .slice none 0 0] 95)).cell? ⟨b, o, none⟩ = some (.int .u8 x0) := (World.cell?_alloc_lt w _ _ (World.block_lt_of_cell? _ _ c0)).trans c0
  have hc1 : ¬ (c : Nat) = 1 := by first | decide | omega
  have hz5 : decide ((n : Int) < 5) = false := by simp; omega
  have hr1 := hr.cut_at (k := 1) (cap := c) (by have := hn.out; omega)
  rw [if_neg hc1] at hr1
  have hn1 : Hid ((l.drop 1).length = n - 1) := by show _ = _; rw [List.length_drop, hn.out]
  have hver : Hid (be 0 ((l.drop 1).take 4) = ver l) := ver_eq (by have := hn.out; omega)
  have ad : ∀ (W : World) j o, (W.drewN j).alloc o = (W.alloc o).drewN j := fun _ _ _ => rfl
  have sd : ∀ (W : World) j x v, (W.drewN j).setCell x v = (W.setCell x v).drewN j := fun _ _ _ _ => rfl
  have hc5 : ¬ c - 1 = 4 := by omega
  have hc5' : ¬ c = 5 := by omega
  have hr5 := hr1.cut_at (k := 4) (cap := c - 1) (by rw [hn1.out]; omega)
  rw [if_neg hc5, List.drop_drop] at hr5
  have hn5 : Hid ((l.drop (1 + 4)).length = n - 1 - 4) := by show _ = _; have := hn.out; rw [List.length_drop]; omega
  have hce : c - 1 - 4 = 1 + x := by omega
  go_enter Try.func72, Try.ntmps72
  go_wp2_with (first | (go_at_call 93; go_in) | (go_at_call 94; go_in))
  refine (be32 (some ⟨b, o + 1, none⟩) (n - 1) _ (l.drop 1) _ (by exact hr1.alloc _) hn1.out (by omega) (by omega)).mono ?_
  rw [hver.out]
  rintro e w1 ⟨rfl, q, rfl⟩
  go_wp2_with fail
  refine (c8b (some ⟨b, o + 1 + 4, none⟩) (n - 1 - 4) _ (l.drop (1 + 4)) _ (by exact hr5.alloc _) hn5 (by omega) (by omega)).mono ?_
  rintro e w2 ⟨he, rfl⟩
  obtain ⟨A2, c2, rfl, hr2, hcc2, hcm2, -⟩ := he.some_ hd.out
  rw [hdl.out] at hcc2 ⊢
  have HR2 := Lib.hid hr2
  clear he hr2
  go_wp2_with fail
  refine (c8b _ _ _ [] _ (Rd.nil _ _) (show _ = _ by simp <;> omega) (by omega) (by omega)).mono ?_
  rintro e w3 ⟨he, rfl⟩
  obtain rfl := he.none_ rfl
  clear he
  go_wp2_with fail
  refine bodyPost_ret (v := .tuple #[.agg #[.int .u32 0, .slice none 0 0, .slice none 0 0, .slice none 0 0], .bool false]) (by simp [results, Try.results72, go_sem]) rfl ?_
  exact ⟨rfl, below_drewN ((Below.refl _ _).alloc (Nat.le_refl _) _) _⟩

set_option maxHeartbeats 4000000 in
theorem pg_2b (b o n c : Nat) (l : List Int) (w : World) (hr : Rd w (some ⟨b, o, none⟩) l) (hn : Hid (l.length = n)) (h5 : 5 ≤ n) (hnc : n ≤ c) (hc2 : c ≤ 9223372036854775807) (x0 : Int) (x0h : 128 ≤ x0 ∧ x0 ≤ 255) (c0 : w.cell? ⟨b, o, none⟩ = some (.int .u8 x0)) (h7 : 5 < c) (d : List Int) (x : Nat) (hxn : 6 + x ≤ n) (hd : Hid (r8b (l.drop (1 + 4)) = some (d, 1 + x))) (hdl : Hid (d.length = x)) (h8 : 6 + x < c) (hno : Hid (r8b (l.drop (1 + 4 + (1 + x))) = none)) :
    Calls Try.prog 72 #[.slice (some ⟨b, o, none⟩) n c] w fun e w' => NoPkt e ∧ Below w.heap.size w w' := by
  have hx0 := x0h.1
  have hx1 := x0h.2
  have f1 : bits .and .u8 x0 128 = 128 := by rw [and128 x0 (by omega) (by omega)]; omega
  have k0 : (w.alloc (Obj.cells #[.int .u32 0, .slice none 0 0, .slice none 0 0, .slice none 0 0] 95)).cell? ⟨b, o, none⟩ = some (.int .u8 x0) := (World.cell?_alloc_lt w _ _ (World.block_lt_of_cell? _ _ c0)).trans c0
  have hc1 : ¬ (c : Nat) = 1 := by first | decide | omega
  have hz5 : decide ((n : Int) < 5) = false := by simp; omega
  have hr1 := hr.cut_at (k := 1) (cap := c) (by have := hn.out; omega)
  rw [if_neg hc1] at hr1
  have hn1 : Hid ((l.drop 1).length = n - 1) := by show _ = _; rw [List.length_drop, hn.out]
  have hver : Hid (be 0 ((l.drop 1).take 4) = ver l) := ver_eq (by have := hn.out; omega)
  have ad : ∀ (W : World) j o, (W.drewN j).alloc o = (W.alloc o).drewN j := fun _ _ _ => rfl
  have sd : ∀ (W : World) j x v, (W.drewN j).setCell x v = (W.setCell x v).drewN j := fun _ _ _ _ => rfl
  have hc5 : ¬ c - 1 = 4 := by omega
  have hc5' : ¬ c = 5 := by omega
  have hr5 := hr1.cut_at (k := 4) (cap := c - 1) (by rw [hn1.out]; omega)
  rw [if_neg hc5, List.drop_drop] at hr5
  have hn5 : Hid ((l.drop (1 + 4)).length = n - 1 - 4) := by show _ = _; have := hn.out; rw [List.length_drop]; omega
  have hcn : ¬ c - 1 - 4 = 1 + x := by omega
  have hr6 := hr5.cut_at (k := 1 + x) (cap := c - 1 - 4) (by rw [hn5.out]; omega)
  rw [if_neg hcn, List.drop_drop] at hr6
  have hn6 : Hid ((l.drop (1 + 4 + (1 + x))).length = n - 1 - 4 - (1 + x)) := by show _ = _; have := hn.out; rw [List.length_drop]; omega
  go_enter Try.func72, Try.ntmps72
  go_wp2_with (first | (go_at_call 93; go_in) | (go_at_call 94; go_in))
  refine (be32 (some ⟨b, o + 1, none⟩) (n - 1) _ (l.drop 1) _ (by exact hr1.alloc _) hn1.out (by omega) (by omega)).mono ?_
  rw [hver.out]
  rintro e w1 ⟨rfl, q, rfl⟩
  go_wp2_with fail
  refine (c8b (some ⟨b, o + 1 + 4, none⟩) (n - 1 - 4) _ (l.drop (1 + 4)) _ (by exact hr5.alloc _) hn5 (by omega) (by omega)).mono ?_
  rintro e w2 ⟨he, rfl⟩
  obtain ⟨A2, c2, rfl, hr2, hcc2, hcm2, -⟩ := he.some_ hd.out
  rw [hdl.out] at hcc2 ⊢
  have HR2 := Lib.hid hr2
  clear he hr2
  go_wp2_with fail
  refine (c8b (some ⟨b, o + 1 + 4 + (1 + x), none⟩) (n - 1 - 4 - (1 + x)) _ (l.drop (1 + 4 + (1 + x))) _ (by exact hr6.alloc _) hn6 (by omega) (by omega)).mono ?_
  rintro e w3 ⟨he, rfl⟩
  obtain rfl := he.none_ hno.out
  clear he
  go_wp2_with fail
  refine bodyPost_ret (v := .tuple #[.agg #[.int .u32 0, .slice none 0 0, .slice none 0 0, .slice none 0 0], .bool false]) (by simp [results, Try.results72, go_sem]) rfl ?_
  exact ⟨rfl, below_drewN ((Below.refl _ _).alloc (Nat.le_refl _) _) _⟩

set_option maxHeartbeats 4000000 in
theorem pg_3a (b o n c : Nat) (l : List Int) (w : World) (hr : Rd w (some ⟨b, o, none⟩) l) (hn : Hid (l.length = n)) (h5 : 5 ≤ n) (hnc : n ≤ c) (hc2 : c ≤ 9223372036854775807) (x0 : Int) (x0h : 128 ≤ x0 ∧ x0 ≤ 255) (c0 : w.cell? ⟨b, o, none⟩ = some (.int .u8 x0)) (h7 : 5 < c) (d : List Int) (x : Nat) (hxn : 6 + x ≤ n) (hd : Hid (r8b (l.drop (1 + 4)) = some (d, 1 + x))) (hdl : Hid (d.length = x)) (h8 : 6 + x < c) (s : List Int) (y : Nat) (hyn : 7 + x + y ≤ n) (hs : Hid (r8b (l.drop (1 + 4 + (1 + x))) = some (s, 1 + y))) (hsl : Hid (s.length = y)) (h9 : c ≤ 7 + x + y) :
    Calls Try.prog 72 #[.slice (some ⟨b, o, none⟩) n c] w fun e w' => (∃ A1 c1 A2 c2 A3 c3, e = .returned (.tuple #[.agg #[.int .u32 (ver l), .slice A1 x c1, .slice A2 y c2, .slice A3 (n - 1 - 4 - (1 + x) - (1 + y)) c3], .bool true]) ∧ Rd w' A1 d ∧ Rd w' A2 s ∧ Rd w' A3 (l.drop (1 + 4 + (1 + x) + (1 + y))) ∧ n - 1 - 4 - (1 + x) - (1 + y) ≤ c3 ∧ c3 ≤ 9223372036854775807) ∧ Below w.heap.size w w' := by
  have hx0 := x0h.1
  have hx1 := x0h.2
  have f1 : bits .and .u8 x0 128 = 128 := by rw [and128 x0 (by omega) (by omega)]; omega
  have k0 : (w.alloc (Obj.cells #[.int .u32 0, .slice none 0 0, .slice none 0 0, .slice none 0 0] 95)).cell? ⟨b, o, none⟩ = some (.int .u8 x0) := (World.cell?_alloc_lt w _ _ (World.block_lt_of_cell? _ _ c0)).trans c0
  have hc1 : ¬ (c : Nat) = 1 := by first | decide | omega
  have hz5 : decide ((n : Int) < 5) = false := by simp; omega
  have hr1 := hr.cut_at (k := 1) (cap := c) (by have := hn.out; omega)
  rw [if_neg hc1] at hr1
  have hn1 : Hid ((l.drop 1).length = n - 1) := by show _ = _; rw [List.length_drop, hn.out]
  have hver : Hid (be 0 ((l.drop 1).take 4) = ver l) := ver_eq (by have := hn.out; omega)
  have ad : ∀ (W : World) j o, (W.drewN j).alloc o = (W.alloc o).drewN j := fun _ _ _ => rfl
  have sd : ∀ (W : World) j x v, (W.drewN j).setCell x v = (W.setCell x v).drewN j := fun _ _ _ _ => rfl
  have hc5 : ¬ c - 1 = 4 := by omega
  have hc5' : ¬ c = 5 := by omega
  have hr5 := hr1.cut_at (k := 4) (cap := c - 1) (by rw [hn1.out]; omega)
  rw [if_neg hc5, List.drop_drop] at hr5
  have hn5 : Hid ((l.drop (1 + 4)).length = n - 1 - 4) := by show _ = _; have := hn.out; rw [List.length_drop]; omega
  have hcn : ¬ c - 1 - 4 = 1 + x := by omega
  have hr6 := hr5.cut_at (k := 1 + x) (cap := c - 1 - 4) (by rw [hn5.out]; omega)
  rw [if_neg hcn, List.drop_drop] at hr6
  have hn6 : Hid ((l.drop (1 + 4 + (1 + x))).length = n - 1 - 4 - (1 + x)) := by show _ = _; have := hn.out; rw [List.length_drop]; omega
  have hce7 : c - 1 - 4 - (1 + x) = 1 + y := by omega
  have hr7 : Rd w (some ⟨b, o + 1 + 4 + (1 + x), none⟩) (l.drop (1 + 4 + (1 + x) + (1 + y))) := by
    rw [List.drop_eq_nil_of_le (by have := hn.out; omega)]; exact Rd.nil _ _
  go_enter Try.func72, Try.ntmps72
  go_wp2_with (first | (go_at_call 93; go_in) | (go_at_call 94; go_in))
  refine (be32 (some ⟨b, o + 1, none⟩) (n - 1) _ (l.drop 1) _ (by exact hr1.alloc _) hn1.out (by omega) (by omega)).mono ?_
  rw [hver.out]
  rintro e w1 ⟨rfl, q, rfl⟩
  go_wp2_with fail
  refine (c8b (some ⟨b, o + 1 + 4, none⟩) (n - 1 - 4) _ (l.drop (1 + 4)) _ (by exact hr5.alloc _) hn5 (by omega) (by omega)).mono ?_
  rintro e w2 ⟨he, rfl⟩
  obtain ⟨A2, c2, rfl, hr2, hcc2, hcm2, -⟩ := he.some_ hd.out
  rw [hdl.out] at hcc2 ⊢
  have HR2 := Lib.hid hr2
  clear he hr2
  go_wp2_with fail
  refine (c8b (some ⟨b, o + 1 + 4 + (1 + x), none⟩) (n - 1 - 4 - (1 + x)) _ (l.drop (1 + 4 + (1 + x))) _ (by exact hr6.alloc _) hn6 (by omega) (by omega)).mono ?_
  rintro e w3 ⟨he, rfl⟩
  obtain ⟨A3, c3, rfl, hr3, hcc3, hcm3, -⟩ := he.some_ hs.out
  rw [hsl.out] at hcc3 ⊢
  have HR3 := Lib.hid hr3
  clear he hr3
  go_wp2_with fail
  refine bodyPost_ret (v := .tuple #[.agg #[.int .u32 (ver l), .slice A2 x c2, .slice A3 y c3, .slice (some ⟨b, o + 1 + 4 + (1 + x), none⟩) (n - 1 - 4 - (1 + x) - (1 + y)) (0)], .bool true]) (by simp [results, Try.results72, go_sem]) rfl ?_
  refine ⟨⟨A2, c2, A3, c3, _, _, rfl, ?_, ?_, ?_, by omega, by omega⟩, below_drewN ((Below.refl _ _).alloc (Nat.le_refl _) _) _⟩
  · exact (Rd.unalloc (show Rd (w.alloc _) _ _ from HR2.out) no_bytes3).alloc _
  · exact (Rd.unalloc (show Rd (w.alloc _) _ _ from HR3.out) no_bytes3).alloc _
  · exact hr7.alloc _

set_option maxHeartbeats 4000000 in
theorem pg_3b (b o n c : Nat) (l : List Int) (w : World) (hr : Rd w (some ⟨b, o, none⟩) l) (hn : Hid (l.length = n)) (h5 : 5 ≤ n) (hnc : n ≤ c) (hc2 : c ≤ 9223372036854775807) (x0 : Int) (x0h : 128 ≤ x0 ∧ x0 ≤ 255) (c0 : w.cell? ⟨b, o, none⟩ = some (.int .u8 x0)) (h7 : 5 < c) (d : List Int) (x : Nat) (hxn : 6 + x ≤ n) (hd : Hid (r8b (l.drop (1 + 4)) = some (d, 1 + x))) (hdl : Hid (d.length = x)) (h8 : 6 + x < c) (s : List Int) (y : Nat) (hyn : 7 + x + y ≤ n) (hs : Hid (r8b (l.drop (1 + 4 + (1 + x))) = some (s, 1 + y))) (hsl : Hid (s.length = y)) (h9 : 7 + x + y < c) :
    Calls Try.prog 72 #[.slice (some ⟨b, o, none⟩) n c] w fun e w' => (∃ A1 c1 A2 c2 A3 c3, e = .returned (.tuple #[.agg #[.int .u32 (ver l), .slice A1 x c1, .slice A2 y c2, .slice A3 (n - 1 - 4 - (1 + x) - (1 + y)) c3], .bool true]) ∧ Rd w' A1 d ∧ Rd w' A2 s ∧ Rd w' A3 (l.drop (1 + 4 + (1 + x) + (1 + y))) ∧ n - 1 - 4 - (1 + x) - (1 + y) ≤ c3 ∧ c3 ≤ 9223372036854775807) ∧ Below w.heap.size w w' := by
  have hx0 := x0h.1
  have hx1 := x0h.2
  have f1 : bits .and .u8 x0 128 = 128 := by rw [and128 x0 (by omega) (by omega)]; omega
  have k0 : (w.alloc (Obj.cells #[.int .u32 0, .slice none 0 0, .slice none 0 0, .slice none 0 0] 95)).cell? ⟨b, o, none⟩ = some (.int .u8 x0) := (World.cell?_alloc_lt w _ _ (World.block_lt_of_cell? _ _ c0)).trans c0
  have hc1 : ¬ (c : Nat) = 1 := by first | decide | omega
  have hz5 : decide ((n : Int) < 5) = false := by simp; omega
  have hr1 := hr.cut_at (k := 1) (cap := c) (by have := hn.out; omega)
  rw [if_neg hc1] at hr1
  have hn1 : Hid ((l.drop 1).length = n - 1) := by show _ = _; rw [List.length_drop, hn.out]
  have hver : Hid (be 0 ((l.drop 1).take 4) = ver l) := ver_eq (by have := hn.out; omega)
  have ad : ∀ (W : World) j o, (W.drewN j).alloc o = (W.alloc o).drewN j := fun _ _ _ => rfl
  have sd : ∀ (W : World) j x v, (W.drewN j).setCell x v = (W.setCell x v).drewN j := fun _ _ _ _ => rfl
  have hc5 : ¬ c - 1 = 4 := by omega
  have hc5' : ¬ c = 5 := by omega
  have hr5 := hr1.cut_at (k := 4) (cap := c - 1) (by rw [hn1.out]; omega)
  rw [if_neg hc5, List.drop_drop] at hr5
  have hn5 : Hid ((l.drop (1 + 4)).length = n - 1 - 4) := by show _ = _; have := hn.out; rw [List.length_drop]; omega
  have hcn : ¬ c - 1 - 4 = 1 + x := by omega
  have hr6 := hr5.cut_at (k := 1 + x) (cap := c - 1 - 4) (by rw [hn5.out]; omega)
  rw [if_neg hcn, List.drop_drop] at hr6
  have hn6 : Hid ((l.drop (1 + 4 + (1 + x))).length = n - 1 - 4 - (1 + x)) := by show _ = _; have := hn.out; rw [List.length_drop]; omega
  have hcn7 : ¬ c - 1 - 4 - (1 + x) = 1 + y := by omega
  have hr7 := hr6.cut_at (k := 1 + y) (cap := c - 1 - 4 - (1 + x)) (by rw [hn6.out]; omega)
  rw [if_neg hcn7, List.drop_drop] at hr7
  go_enter Try.func72, Try.ntmps72
  go_wp2_with (first | (go_at_call 93; go_in) | (go_at_call 94; go_in))
  refine (be32 (some ⟨b, o + 1, none⟩) (n - 1) _ (l.drop 1) _ (by exact hr1.alloc _) hn1.out (by omega) (by omega)).mono ?_
  rw [hver.out]
  rintro e w1 ⟨rfl, q, rfl⟩
  go_wp2_with fail
  refine (c8b (some ⟨b, o + 1 + 4, none⟩) (n - 1 - 4) _ (l.drop (1 + 4)) _ (by exact hr5.alloc _) hn5 (by omega) (by omega)).mono ?_
  rintro e w2 ⟨he, rfl⟩
  obtain ⟨A2, c2, rfl, hr2, hcc2, hcm2, -⟩ := he.some_ hd.out
  rw [hdl.out] at hcc2 ⊢
  have HR2 := Lib.hid hr2
  clear he hr2
  go_wp2_with fail
  refine (c8b (some ⟨b, o + 1 + 4 + (1 + x), none⟩) (n - 1 - 4 - (1 + x)) _ (l.drop (1 + 4 + (1 + x))) _ (by exact hr6.alloc _) hn6 (by omega) (by omega)).mono ?_
  rintro e w3 ⟨he, rfl⟩
  obtain ⟨A3, c3, rfl, hr3, hcc3, hcm3, -⟩ := he.some_ hs.out
  rw [hsl.out] at hcc3 ⊢
  have HR3 := Lib.hid hr3
  clear he hr3
  go_wp2_with fail
  refine bodyPost_ret (v := .tuple #[.agg #[.int .u32 (ver l), .slice A2 x c2, .slice A3 y c3, .slice (some ⟨b, o + 1 + 4 + (1 + x) + (1 + y), none⟩) (n - 1 - 4 - (1 + x) - (1 + y)) (c - 1 - 4 - (1 + x) - (1 + y))], .bool true]) (by simp [results, Try.results72, go_sem]) rfl ?_
  refine ⟨⟨A2, c2, A3, c3, _, _, rfl, ?_, ?_, ?_, by omega, by omega⟩, below_drewN ((Below.refl _ _).alloc (Nat.le_refl _) _) _⟩
  · exact (Rd.unalloc (show Rd (w.alloc _) _ _ from HR2.out) no_bytes3).alloc _
  · exact (Rd.unalloc (show Rd (w.alloc _) _ _ from HR3.out) no_bytes3).alloc _
  · exact hr7.alloc _

theorem r8b_end {l : List Int} {k : Nat} (h : l.length ≤ k) : r8b (l.drop k) = none := by rw [List.drop_eq_nil_of_le h]; rfl
theorem drop_head {l : List Int} {k : Nat} (h : k < l.length) : l.drop k = l.getD k 0 :: l.drop (k + 1) := by
  rw [List.drop_eq_getElem_cons h]
  simp [List.getD, List.getElem?_eq_getElem h]
theorem r8b_cut {l : List Int} {k x : Nat} (h : k < l.length) (hx : l.getD k 0 = (x : Nat)) (hs : l.length - k - 1 < x) : r8b (l.drop k) = none := by
  rw [drop_head h, hx]
  simp only [r8b]
  rw [if_pos]
  rw [List.length_drop]; omega
theorem r8b_yes {l : List Int} {k x : Nat} (hx : l.getD k 0 = (x : Nat)) (hs : k + 1 + x ≤ l.length) : r8b (l.drop k) = some ((l.drop (k + 1)).take x, 1 + x) := by
  rw [drop_head (by omega), hx]
  simp only [r8b]
  rw [if_neg (by rw [List.length_drop]; omega)]
  simp

/-- parseGenericLongHeaderPacket of bytes that are no whole header. -/
theorem pg_no (b o n c : Nat) (l : List Int) (w : World) (hr : Rd w (some ⟨b, o, none⟩) l) (hn : Hid (l.length = n)) (hnc : n ≤ c) (hc2 : c ≤ 9223372036854775807) (h128 : 128 ≤ l.getD 0 0) (h1 : 1 ≤ n) (hno : n < lend l) :
    Calls Try.prog 72 #[.slice (some ⟨b, o, none⟩) n c] w fun e w' => NoPkt e ∧ Below w.heap.size w w' := by
  have hn' := hn.out
  have hx := lx_eq hr.1
  have hy := ly_eq hr.1
  unfold lend at hno
  obtain ⟨b', o', e, hc⟩ := hr.2 (by omega)
  obtain ⟨rfl, rfl⟩ : b = b' ∧ o = o' := by simpa using e
  have c0 : w.cell? ⟨b, o, none⟩ = some (.int .u8 (l.getD 0 0)) := by simpa using hc 0 (by omega)
  have h0 : 128 ≤ l.getD 0 0 ∧ l.getD 0 0 ≤ 255 := ⟨h128, (hr.1.getD 0).2⟩
  by_cases h5 : n < 5
  · exact pg_short b o n c w h5
  by_cases hc5 : c ≤ 5
  · exact pg_1a b o n c l w hr hn (by omega) hnc hc2 _ h0 c0 (by omega) hc5
  by_cases h5' : n ≤ 5
  · exact pg_1b b o n c l w hr hn (by omega) hnc hc2 _ h0 c0 (by omega) (r8b_end (by omega))
  by_cases h6 : n - 6 < lx l
  · exact pg_1b b o n c l w hr hn (by omega) hnc hc2 _ h0 c0 (by omega) (r8b_cut (by omega) hx.1 (by omega))
  have hd : r8b (l.drop (1 + 4)) = some ((l.drop 6).take (lx l), 1 + lx l) := r8b_yes hx.1 (by omega)
  have hdl : ((l.drop 6).take (lx l)).length = lx l := by rw [List.length_take, List.length_drop]; omega
  by_cases h7 : c ≤ 6 + lx l
  · exact pg_2a b o n c l w hr hn (by omega) hnc hc2 _ h0 c0 (by omega) _ _ (by omega) hd hdl h7
  have e6 : 1 + 4 + (1 + lx l) = 6 + lx l := by omega
  by_cases h8 : n ≤ 6 + lx l
  · exact pg_2b b o n c l w hr hn (by omega) hnc hc2 _ h0 c0 (by omega) _ _ (by omega) hd hdl (by omega) (by rw [e6]; exact r8b_end (by omega))
  · exact pg_2b b o n c l w hr hn (by omega) hnc hc2 _ h0 c0 (by omega) _ _ (by omega) hd hdl (by omega) (by rw [e6]; exact r8b_cut (by omega) hy.1 (by omega))

/-- parseGenericLongHeaderPacket of a whole header. -/
theorem pg_yes (b o n c : Nat) (l : List Int) (w : World) (hr : Rd w (some ⟨b, o, none⟩) l) (hn : Hid (l.length = n)) (hnc : n ≤ c) (hc2 : c ≤ 9223372036854775807) (h128 : 128 ≤ l.getD 0 0) (hyes : lend l ≤ n) :
    Calls Try.prog 72 #[.slice (some ⟨b, o, none⟩) n c] w fun e w' => (∃ A1 c1 A2 c2 A3 c3, e = .returned (.tuple #[.agg #[.int .u32 (ver l), .slice A1 (lx l) c1, .slice A2 (ly l) c2, .slice A3 (n - lend l) c3], .bool true]) ∧ Rd w' A1 ((l.drop 6).take (lx l)) ∧ Rd w' A2 ((l.drop (7 + lx l)).take (ly l)) ∧ Rd w' A3 (l.drop (lend l)) ∧ n - lend l ≤ c3 ∧ c3 ≤ 9223372036854775807) ∧ Below w.heap.size w w' := by
  have hn' := hn.out
  have hx := lx_eq hr.1
  have hy := ly_eq hr.1
  have hle := hyes
  unfold lend at hle
  obtain ⟨b', o', e, hc⟩ := hr.2 (by omega)
  obtain ⟨rfl, rfl⟩ : b = b' ∧ o = o' := by simpa using e
  have c0 : w.cell? ⟨b, o, none⟩ = some (.int .u8 (l.getD 0 0)) := by simpa using hc 0 (by omega)
  have h0 : 128 ≤ l.getD 0 0 ∧ l.getD 0 0 ≤ 255 := ⟨h128, (hr.1.getD 0).2⟩
  have hd : r8b (l.drop (1 + 4)) = some ((l.drop 6).take (lx l), 1 + lx l) := r8b_yes hx.1 (by omega)
  have hdl : ((l.drop 6).take (lx l)).length = lx l := by rw [List.length_take, List.length_drop]; omega
  have e6 : 1 + 4 + (1 + lx l) = 6 + lx l := by omega
  have hs : r8b (l.drop (1 + 4 + (1 + lx l))) = some ((l.drop (7 + lx l)).take (ly l), 1 + ly l) := by
    rw [e6, r8b_yes hy.1 (by omega), show 6 + lx l + 1 = 7 + lx l by omega]
  have hsl : ((l.drop (7 + lx l)).take (ly l)).length = ly l := by rw [List.length_take, List.length_drop]; omega
  have e1 : n - 1 - 4 - (1 + lx l) - (1 + ly l) = n - lend l := by unfold lend; omega
  have e2 : 1 + 4 + (1 + lx l) + (1 + ly l) = lend l := by unfold lend; omega
  by_cases h9 : c ≤ 7 + lx l + ly l
  · have := pg_3a b o n c l w hr hn (by omega) hnc hc2 _ h0 c0 (by omega) _ _ (by omega) hd hdl (by omega) _ _ (by omega) hs hsl h9
    rwa [e1, e2] at this
  · have := pg_3b b o n c l w hr hn (by omega) hnc hc2 _ h0 c0 (by omega) _ _ (by omega) hd hdl (by omega) _ _ (by omega) hs hsl (by omega)
    rwa [e1, e2] at this

end Go.Proofs.Ytdogepkfgobcfaa


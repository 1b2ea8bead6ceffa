/- Two arrays of 64-bit numbers held against each other. Conditions: none. -/
import Derived.Test.YtdogepkfgobcfaaBase
import Derived.Laws.StructEq
namespace Go.Proofs.Ytdogepkfgobcfaa
open Go.RowKit
set_option linter.unusedVariables false

def i64s (l : List Int) : Array Value := (l.map (Value.int .i64)).toArray
theorem all_range_eqI : ∀ (xs ys : List Int), xs.length = ys.length → ((List.range xs.length).all fun i => xs.getD i 0 == ys.getD i 0) = (xs == ys)
  | [], [], _ => rfl
  | x :: xs, y :: ys, h => by
    have ih := all_range_eqI xs ys (by simpa using h)
    rw [List.length_cons, List.range_succ_eq_map, List.all_cons, List.all_map]
    simp only [List.getD_cons_zero, Function.comp_def, List.getD_cons_succ, ih]
    simp [List.cons_beq_cons]
  | [], _ :: _, h => by simp at h
  | _ :: _, [], h => by simp at h

theorem run_equalIn_i64s (w : World) (d : Nat) (t : TypeId) (n : Nat) (ht : Try.prog.underlying t = some (.array n 2)) (xs ys : List Int) (hx : xs.length = n) (hy : ys.length = n) :
    (Op.equalIn (d + 2) t (.agg (i64s xs)) (.agg (i64s ys))).run Try.prog w = .ok (xs == ys) w := by
  have he := Try.underlying2
  have hsz : ∀ w, (sizeOf 2).run Try.prog w = .ok 1 w := fun w => by
    cases hq : Try.prog.info? 2 with
    | none =>
      have h : (Try.prog.info? 2).isSome = true := by kernel_rfl
      rw [hq] at h
      cases h
    | some i =>
      have h : (Try.prog.info? 2).map (·.size) = some 1 := by kernel_rfl
      rw [hq] at h
      have hi : i.size = 1 := by simpa using h
      simp [sizeOf, typeInfo, hq, hi]
  rw [← all_range_eqI xs ys (hx.trans hy.symm), hx, List.range_eq_range', Op.equalIn]
  simp only [Sem.run_bind, run_underlying ht, Result.andThen_ok, hsz, Std.Legacy.Range.forIn_eq_forIn_range', Std.Legacy.Range.size, Nat.sub_zero, Nat.add_sub_cancel, Nat.div_one]
  have hl : ∀ i ∈ List.range' 0 n 1, i < n := fun i hi => by simpa using (List.mem_range'_1.1 hi).2
  generalize List.range' 0 n 1 = l at hl ⊢
  induction l with
  | nil => simp
  | cons i l ih =>
    have hi : i < n := hl i (by simp)
    have part_at : ∀ zs : List Int, zs.length = n → (part 2 (i64s zs) (i * 1)).run Try.prog w = .ok (.int .i64 (zs.getD i 0)) w := fun zs hz => by
      simp [part, isAgg, i64s, run_underlying he, List.getD, List.getElem?_eq_getElem (show i < zs.length by omega)]
    have pe : (Op.equalIn (d + 1) 2 (.int .i64 (xs.getD i 0)) (.int .i64 (ys.getD i 0))).run Try.prog w = .ok (xs.getD i 0 == ys.getD i 0) w := run_equalIn_int w d 2 .i64 .i64 _ _ he
    simp only [List.forIn_cons, Sem.run_bind, part_at xs hx, part_at ys hy, pe, Result.andThen_ok, List.all_cons]
    cases hb : (xs.getD i 0 == ys.getD i 0)
    · simp
    · simp only [Bool.not_true, Bool.false_eq_true, if_false, Sem.run_pure, Result.andThen_ok, Bool.true_and]
      exact ih fun j hj => hl j (by simp [hj])

theorem run_neq_pair (x0 x1 y0 y1 : Int) (w : World) : (binOp .neq 47 (.agg #[.int .i64 x0, .int .i64 x1]) (.agg #[.int .i64 y0, .int .i64 y1])).run Try.prog w = .ok (.bool (!([x0, x1] == [y0, y1]))) w := by
  rw [run_neq_struct]
  have := run_equalIn_i64s w 9998 47 2 Try.underlying47 [x0, x1] [y0, y1] rfl rfl
  simp only [i64s, List.map_cons, List.map_nil] at this
  rw [this]
  rfl
theorem run_eql_pair (x0 x1 y0 y1 : Int) (w : World) : (binOp .eql 47 (.agg #[.int .i64 x0, .int .i64 x1]) (.agg #[.int .i64 y0, .int .i64 y1])).run Try.prog w = .ok (.bool ([x0, x1] == [y0, y1])) w := by
  rw [run_eql_struct]
  have := run_equalIn_i64s w 9998 47 2 Try.underlying47 [x0, x1] [y0, y1] rfl rfl
  simp only [i64s, List.map_cons, List.map_nil] at this
  rw [this]
  rfl
theorem run_neq_same (x0 x1 : Int) (w : World) : (binOp .neq 47 (.agg #[.int .i64 x0, .int .i64 x1]) (.agg #[.int .i64 x0, .int .i64 x1])).run Try.prog w = .ok (.bool false) w := by
  rw [run_neq_pair]
  simp
theorem run_eql_same (x0 x1 : Int) (w : World) : (binOp .eql 47 (.agg #[.int .i64 x0, .int .i64 x1]) (.agg #[.int .i64 x0, .int .i64 x1])).run Try.prog w = .ok (.bool true) w := by
  rw [run_eql_pair]
  simp

end Go.Proofs.Ytdogepkfgobcfaa

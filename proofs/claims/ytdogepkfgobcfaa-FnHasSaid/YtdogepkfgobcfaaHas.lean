/- Contracts of contains, rangeContaining and what calls them. Conditions: the slices read as ranges, as ops. -/
import Derived.Test.YtdogepkfgobcfaaRangeOps
import Derived.Test.YtdogepkfgobcfaaHasSet
namespace Go.Proofs.Ytdogepkfgobcfaa
open Go.RowKit
set_option linter.unusedVariables false

set_option maxRecDepth 100000 in
set_option maxHeartbeats 1000000 in
theorem rcont (A : Option Addr) (n c : Nat) (l : Rgs) (v : Int) (w : World) (hr : RdE ER w A l) (hn : Hid (l.length = n)) (hn2 : n ≤ 1000) :
    Calls Try.prog 79 #[.slice A n c, .int .i64 v] w fun e w' => e = .returned (.bool (contP v l)) ∧ Below w.heap.size w w' := by
  have HR := Lib.hid hr
  clear hr
  go_enter Try.func79, Try.ntmps79
  go_wp2_with fail
  go_loopw [9] (fun i wr => ∃ (k : Nat), k ≤ n ∧ i = .int .i64 k ∧ Hid (contP v l = contP v (l.drop k)) ∧ Hid (Below w.heap.size w wr)) (fun i _ => n - (intOf i).toNat)
  case atStart => exact ⟨0, by omega, rfl, by show _ = _; rw [List.drop_zero], Below.refl _ _⟩
  case round =>
    obtain ⟨k, hk, rfl, HC, HB⟩ := hrel
    by_cases hlt : k < n
    · have hlt' : k < l.length := by rw [hn.out]; exact hlt
      obtain ⟨b, o, rfl, hc⟩ := (HR.out.below HB.out) (by omega)
      obtain ⟨c0, c1⟩ := rg_cells rfl rfl hc k hlt'
      have hm := Lib.hid (contP_drop v hlt')
      obtain ⟨x0, hx0⟩ : ∃ x, x = l[k].1 := ⟨_, rfl⟩
      obtain ⟨x1, hx1⟩ : ∃ x, x = l[k].2 := ⟨_, rfl⟩
      rw [← hx0] at c0 hm
      rw [← hx1] at c1 hm
      have HB1 := Lib.hid (HB.out.alloc HB.out.size (.cells #[.int .i64 x0, .int .i64 x1] 108))
      clear hc hx0 hx1 hlt'
      by_cases h1 : x1 ≤ v
      · go_wp2_with fail
        go_roundw
        case rel => exact ⟨k + 1, by omega, by go_num, by show _ = _; rw [HC.out, hm.out, if_pos h1], HB1⟩
        case measure => simp [intOf]; omega
      · by_cases h2 : x0 ≤ v
        · have he : Hid (contP v l = true) := by show _ = _; rw [HC.out, hm.out, if_neg h1]; exact decide_eq_true h2
          go_wp2_with fail
          go_ret
          exact ⟨by rw [he.out]; rfl, HB1.out⟩
        · have he : Hid (contP v l = false) := by show _ = _; rw [HC.out, hm.out, if_neg h1]; exact decide_eq_false h2
          go_wp2_with fail
          go_ret
          exact ⟨by rw [he.out]; rfl, HB1.out⟩
    · obtain rfl : k = n := by omega
      have he : Hid (contP v l = false) := by show _ = _; rw [HC.out, List.drop_eq_nil_of_le (by rw [hn.out]; exact Nat.le_refl _)]; rfl
      go_wp2
      go_ret
      exact ⟨by rw [he.out]; rfl, HB.out⟩

/-- What a maker of a pair returns. -/
def PairEnd (w : World) (r : Int × Int) (e : Ending) (w' : World) : Prop := e = .returned (.agg #[.int .i64 r.1, .int .i64 r.2]) ∧ Below w.heap.size w w'

set_option maxRecDepth 100000 in
set_option maxHeartbeats 1000000 in
theorem rrc (A : Option Addr) (n c : Nat) (l : Rgs) (v : Int) (w : World) (hr : RdE ER w A l) (hn : Hid (l.length = n)) (hn2 : n ≤ 1000) :
    Calls Try.prog 80 #[.slice A n c, .int .i64 v] w fun e w' => PairEnd w (rcP v l) e w' := by
  have HR := Lib.hid hr
  clear hr
  go_enter Try.func80, Try.ntmps80
  go_wp2_with fail
  obtain ⟨w0, hw0⟩ : ∃ w0, w.alloc (.cells #[.int .i64 0, .int .i64 0] 108) = w0 := ⟨_, rfl⟩
  rw [hw0]
  have hsz : Hid (w0.heap.size = w.heap.size + 1) := by show _ = _; rw [← hw0]; simp
  have hbl0 : Hid (w0.heap[w.heap.size]? = some (.cells #[.int .i64 0, .int .i64 0] 108 (0, 0))) := by
    show _ = _
    rw [← hw0]
    exact heap_alloc_new w _
  have B0 : Hid (Below w.heap.size w w0) := by show Below _ _ _; rw [← hw0]; exact ((Below.refl _ _).alloc (Nat.le_refl _) _)
  clear hw0
  go_loopw [9] (fun i wr => ∃ (k : Nat), k ≤ n ∧ i = .int .i64 k ∧ Hid (rcP v l = rcP v (l.drop k)) ∧ Hid (Below (w.heap.size + 1) w0 wr)) (fun i _ => n - (intOf i).toNat)
  case atStart => exact ⟨0, by omega, rfl, by show _ = _; rw [List.drop_zero], Below.refl _ _⟩
  case round =>
    obtain ⟨k, hk, rfl, HC, HB⟩ := hrel
    have hsz2 : Hid (w.heap.size + 1 ≤ wr.heap.size) := by show _ ≤ _; have := HB.out.size; have := hsz.out; omega
    have BW := Lib.hid (B0.out.trans (HB.out.mono (Nat.le_succ _)))
    have hbl : Hid (wr.heap[w.heap.size]? = some (.cells #[.int .i64 0, .int .i64 0] 108 (0, 0))) := (HB.out.block _ (Nat.lt_succ_self _)).trans hbl0.out
    have z0 : wr.cell? ⟨w.heap.size, 0, none⟩ = some (.int .i64 0) := by rw [cell_of_row wr _ 0 _ _ (0, 0) hbl.out]; rfl
    have z1 : wr.cell? ⟨w.heap.size, 1, none⟩ = some (.int .i64 0) := by rw [cell_of_row wr _ 1 _ _ (0, 0) hbl.out]; rfl
    have f0 : wr.frozen? ⟨w.heap.size, 0, none⟩ = false := by simp [World.frozen?, hbl.out]
    have f1 : wr.frozen? ⟨w.heap.size, 1, none⟩ = false := by simp [World.frozen?, hbl.out]
    have hlt0 : w.heap.size < wr.heap.size := by have := hsz2.out; omega
    by_cases hlt : k < n
    · have hlt' : k < l.length := by rw [hn.out]; exact hlt
      obtain ⟨b, o, rfl, hc⟩ := (HR.out.below BW.out) (by omega)
      obtain ⟨c0, c1⟩ := rg_cells rfl rfl hc k hlt'
      have hm := Lib.hid (rcP_drop v hlt')
      obtain ⟨q, hq⟩ : ∃ q, q = l[k] := ⟨_, rfl⟩
      rw [← hq] at c0 c1 hm
      obtain ⟨x0, x1⟩ := q
      simp only at c0 c1
      have HB1 := Lib.hid (HB.out.alloc hsz2.out (.cells #[.int .i64 x0, .int .i64 x1] 108))
      have HBW1 := Lib.hid (BW.out.alloc BW.out.size (.cells #[.int .i64 x0, .int .i64 x1] 108))
      clear hc hq hlt'
      by_cases h1 : x1 ≤ v
      · go_wp2_with fail
        go_roundw
        case rel => exact ⟨k + 1, by omega, by go_num, by show _ = _; rw [HC.out, hm.out, if_pos h1], HB1⟩
        case measure => simp [intOf]; omega
      · by_cases h2 : x0 ≤ v
        · have he : Hid (rcP v l = (x0, x1)) := by show _ = _; rw [HC.out, hm.out, if_neg h1]; exact if_pos h2
          go_wp2_with fail
          refine bodyPost_ret (v := .agg #[.int .i64 x0, .int .i64 x1]) (by simp [results, Try.results80, go_sem, z0, z1, hlt0]) rfl ?_
          rw [he.out]
          exact ⟨rfl, (Below.set_ (Below.set_ BW.out BW.out.size _ _ _ (Nat.le_refl _)) (by have := BW.out.size; simpa [World.setCell] using this) _ _ _ (Nat.le_refl _)).alloc (by have := BW.out.size; simpa [World.setCell] using this) _⟩
        · have he : Hid (rcP v l = (0, 0)) := by show _ = _; rw [HC.out, hm.out, if_neg h1]; exact if_neg h2
          go_wp2_with fail
          refine bodyPost_ret (v := .agg #[.int .i64 0, .int .i64 0]) (by simp [results, Try.results80, go_sem, z0, z1, hlt0]) rfl ?_
          rw [he.out]
          exact ⟨rfl, (Below.set_ (Below.set_ BW.out BW.out.size _ _ _ (Nat.le_refl _)) (by have := BW.out.size; simpa [World.setCell] using this) _ _ _ (Nat.le_refl _)).alloc (by have := BW.out.size; simpa [World.setCell] using this) _⟩
    · obtain rfl : k = n := by omega
      have he : Hid (rcP v l = (0, 0)) := by show _ = _; rw [HC.out, List.drop_eq_nil_of_le (by rw [hn.out]; exact Nat.le_refl _)]; rfl
      go_wp2
      refine bodyPost_ret (v := .agg #[.int .i64 0, .int .i64 0]) (by simp [results, Try.results80, go_sem, z0, z1]) rfl ?_
      rw [he.out]
      exact ⟨rfl, Below.set_ (Below.set_ BW.out BW.out.size _ _ _ (Nat.le_refl _)) (by have := BW.out.size; simpa [World.setCell] using this) _ _ _ (Nat.le_refl _)⟩

set_option maxRecDepth 100000 in
set_option maxHeartbeats 1000000 in
/-- impl.Has. -/
theorem ihas (A : Option Addr) (n c : Nat) (l : List Opr) (v : Int) (w : World) (hr : RdE EOp w A l) (hn : Hid (l.length = n)) (hn2 : n ≤ 200) (hok : Hid (OpsOk l)) :
    Calls Try.prog 29 #[.slice A n c, .int .i64 v] w fun e w' => e = .returned (.bool (has l v)) ∧ Below w.heap.size w w' := by
  have HR := Lib.hid hr
  clear hr
  go_enter Try.func29, Try.ntmps29
  go_wp2_with fail
  refine (iset A n c l w HR.out hn hn2 hok).mono ?_
  rintro e w1 ⟨A1, c1, rfl, ho1, hb1⟩
  obtain ⟨m, hLm⟩ : ∃ m, Hid ((setP l).length = m) := ⟨_, Lib.hid rfl⟩
  have hm : m ≤ 200 := by
    have := setP_len l l.length (Nat.le_refl _)
    rw [List.take_of_length_le (Nat.le_refl _), hLm.out, hn.out] at this
    omega
  rw [hLm.out] at ho1 ⊢
  have HR1 := Lib.hid (ho1.rdE.below' (Nat.le_refl _) ((Below.refl _ _).alloc (Nat.le_refl _) (.cells #[.slice A1 m c1] 82)))
  have HB1 := Lib.hid (hb1.alloc hb1.size (.cells #[.slice A1 m c1] 82))
  clear ho1 hb1
  go_wp2_with (go_at_call 58; go_in)
  refine (rcont A1 m c1 (setP l) v _ HR1.out hLm (by omega)).mono ?_
  rintro e w2 ⟨rfl, hb2⟩
  have HB2 := Lib.hid (HB1.out.trans (hb2.mono HB1.out.size))
  clear hb2
  rw [cont_has l hok.out]
  go_wp2
  go_ret
  exact ⟨rfl, HB2.out⟩

set_option maxRecDepth 100000 in
set_option maxHeartbeats 1000000 in
theorem zrange (A : Option Addr) (n c : Nat) (l : Rgs) (v : Int) (w : World) (hr : RdE ER w A l) (hn : Hid (l.length = n)) (hn2 : n ≤ 1000) :
    Calls Try.prog 59 #[.agg #[.slice A n c], .int .i64 v] w fun e w' => PairEnd w (rcP v l) e w' := by
  obtain ⟨w0, hw0⟩ : ∃ w0, Hid ((w.alloc (.cells #[.slice A n c] 82)).alloc (.cells #[.int .i64 0, .int .i64 0] 47) = w0) := ⟨_, Lib.hid rfl⟩
  have hsz : Hid (w0.heap.size = w.heap.size + 2) := by show _ = _; rw [← hw0.out]; simp
  have B0 : Hid (Below w.heap.size w w0) := by show Below _ _ _; rw [← hw0.out]; exact ((Below.refl _ _).alloc (Nat.le_refl _) _).alloc (by simp) _
  have hb1 : Hid (w0.heap[w.heap.size + 1]? = some (.cells #[.int .i64 0, .int .i64 0] 47 (0, 0))) := by
    show _ = _
    rw [← hw0.out]
    have := heap_alloc_new (w.alloc (.cells #[.slice A n c] 82)) (.cells #[.int .i64 0, .int .i64 0] 47)
    rwa [show (w.alloc (Obj.cells #[.slice A n c] 82)).heap.size = w.heap.size + 1 by simp] at this
  have HR := Lib.hid (hr.below B0.out)
  obtain ⟨p, hp⟩ : ∃ p : Int × Int, p = rcP v l := ⟨_, rfl⟩
  rw [← hp]
  obtain ⟨x0, x1⟩ := p
  have HP := Lib.hid hp
  clear hr hp
  go_enter Try.func59, Try.ntmps59
  go_wp2_with fail
  rw [hw0.out]
  clear hw0
  refine (rrc A n c l v w0 HR.out hn hn2).mono ?_
  rw [← HP.out]
  rintro e w2 ⟨rfl, hb2⟩
  have hbl : w2.heap[w.heap.size + 1]? = some (.cells #[.int .i64 0, .int .i64 0] 47 (0, 0)) := (hb2.block _ (by rw [hsz.out]; omega)).trans hb1.out
  have z0 : w2.cell? ⟨w.heap.size + 1, 0, none⟩ = some (.int .i64 0) := by rw [cell_of_row w2 _ 0 _ _ (0, 0) hbl]; rfl
  have z1 : w2.cell? ⟨w.heap.size + 1, 1, none⟩ = some (.int .i64 0) := by rw [cell_of_row w2 _ 1 _ _ (0, 0) hbl]; rfl
  have f0 : w2.frozen? ⟨w.heap.size + 1, 0, none⟩ = false := by simp [World.frozen?, hbl]
  have f1 : w2.frozen? ⟨w.heap.size + 1, 1, none⟩ = false := by simp [World.frozen?, hbl]
  have hlt0 : w.heap.size + 1 < w2.heap.size := by have := hb2.size; have := hsz.out; omega
  have BW := Lib.hid (B0.out.trans (hb2.mono B0.out.size))
  clear hbl hb2
  go_wp2
  refine bodyPost_ret (v := .agg #[.int .i64 x0, .int .i64 x1]) (by simp [results, Try.results59, go_sem, z0, z1, hlt0]) rfl ?_
  exact ⟨rfl, (Below.set_ (Below.set_ BW.out BW.out.size _ _ _ (Nat.le_succ _)) (by have := BW.out.size; simpa [World.setCell] using this) _ _ _ (Nat.le_succ _)).alloc (by have := BW.out.size; simpa [World.setCell] using this) _⟩

set_option maxRecDepth 100000 in
set_option maxHeartbeats 1000000 in
/-- impl.RangeOf. -/
theorem irof (A : Option Addr) (n c : Nat) (l : List Opr) (v : Int) (w : World) (hr : RdE EOp w A l) (hn : Hid (l.length = n)) (hn2 : n ≤ 200) (hok : Hid (OpsOk l)) :
    Calls Try.prog 31 #[.slice A n c, .int .i64 v] w fun e w' => PairEnd w (rcP v (setP l)) e w' := by
  obtain ⟨w0, hw0⟩ : ∃ w0, Hid (w.alloc (.cells #[.int .i64 0, .int .i64 0] 47) = w0) := ⟨_, Lib.hid rfl⟩
  have hsz : Hid (w0.heap.size = w.heap.size + 1) := by show _ = _; rw [← hw0.out]; simp
  have B0 : Hid (Below w.heap.size w w0) := by show Below _ _ _; rw [← hw0.out]; exact (Below.refl _ _).alloc (Nat.le_refl _) _
  have hb1 : Hid (w0.heap[w.heap.size]? = some (.cells #[.int .i64 0, .int .i64 0] 47 (0, 0))) := by show _ = _; rw [← hw0.out]; exact heap_alloc_new w _
  have HR := Lib.hid (hr.below B0.out)
  obtain ⟨p, hp⟩ : ∃ p : Int × Int, p = rcP v (setP l) := ⟨_, rfl⟩
  rw [← hp]
  obtain ⟨x0, x1⟩ := p
  have HP := Lib.hid hp
  clear hr hp
  go_enter Try.func31, Try.ntmps31
  go_wp2_with fail
  rw [hw0.out]
  clear hw0
  refine (iset A n c l w0 HR.out hn hn2 hok).mono ?_
  rintro e w1 ⟨A1, c1, rfl, ho1, hb2⟩
  obtain ⟨m, hLm⟩ : ∃ m, Hid ((setP l).length = m) := ⟨_, Lib.hid rfl⟩
  have hm : m ≤ 200 := by
    have := setP_len l l.length (Nat.le_refl _)
    rw [List.take_of_length_le (Nat.le_refl _), hLm.out, hn.out] at this
    omega
  rw [hLm.out] at ho1 ⊢
  have HR1 := Lib.hid ho1.rdE
  have HB1 := Lib.hid hb2
  clear ho1 hb2
  go_wp2_with fail
  refine (zrange A1 m c1 (setP l) v w1 HR1.out hLm (by omega)).mono ?_
  rw [← HP.out]
  rintro e w2 ⟨rfl, hb2⟩
  have hb3 := HB1.out.trans (hb2.mono HB1.out.size)
  have hbl : w2.heap[w.heap.size]? = some (.cells #[.int .i64 0, .int .i64 0] 47 (0, 0)) := (hb3.block _ (by rw [hsz.out]; omega)).trans hb1.out
  have z0 : w2.cell? ⟨w.heap.size, 0, none⟩ = some (.int .i64 0) := by rw [cell_of_row w2 _ 0 _ _ (0, 0) hbl]; rfl
  have z1 : w2.cell? ⟨w.heap.size, 1, none⟩ = some (.int .i64 0) := by rw [cell_of_row w2 _ 1 _ _ (0, 0) hbl]; rfl
  have f0 : w2.frozen? ⟨w.heap.size, 0, none⟩ = false := by simp [World.frozen?, hbl]
  have f1 : w2.frozen? ⟨w.heap.size, 1, none⟩ = false := by simp [World.frozen?, hbl]
  have BW := Lib.hid (B0.out.trans (hb3.mono B0.out.size))
  clear hbl hb2 hb3
  go_wp2
  refine bodyPost_ret (v := .agg #[.int .i64 x0, .int .i64 x1]) (by simp [results, Try.results31, go_sem, z0, z1]) rfl ?_
  exact ⟨rfl, Below.set_ (Below.set_ BW.out BW.out.size _ _ _ (Nat.le_refl _)) (by have := BW.out.size; simpa [World.setCell] using this) _ _ _ (Nat.le_refl _)⟩

end Go.Proofs.Ytdogepkfgobcfaa

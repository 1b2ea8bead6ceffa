/- Contracts of the reference's reader: number, bytes. Conditions: the reader's bytes read as a list; they are not nil. -/
import Derived.Test.YtdjdcpcomhjnjaaDoorSrv
import Derived.Test.YtdjdcpcomhjnjaaDoorOwn
namespace Go.Proofs.YtdjdcpcomhjnjaaDoor
open Go.RowKit
set_option linter.unusedVariables false

/-- The reader in block g: its bytes' slice, its place, and whether something was not there. -/
def Rdr (w : World) (g : Nat) (A : Option Addr) (n c k : Nat) (bad : Bool) : Prop := w.heap[g]? = some (.cells #[.slice A n c, .int .i64 (k : Nat), .bool bad] 42 (0, 0))

section
variable {w w' : World} {g : Nat} {A : Option Addr} {n c k : Nat} {bad : Bool}
theorem Rdr.lt (h : Rdr w g A n c k bad) : g < w.heap.size := (Array.getElem?_eq_some_iff.1 h).1
theorem Rdr.cell0 (h : Rdr w g A n c k bad) : w.cell? ⟨g, 0, none⟩ = some (.slice A n c) := by rw [cell_of_row w g 0 _ _ (0, 0) h]; rfl
theorem Rdr.cell1 (h : Rdr w g A n c k bad) : w.cell? ⟨g, 1, none⟩ = some (.int .i64 (k : Nat)) := by rw [cell_of_row w g 1 _ _ (0, 0) h]; rfl
theorem Rdr.cell2 (h : Rdr w g A n c k bad) : w.cell? ⟨g, 2, none⟩ = some (.bool bad) := by rw [cell_of_row w g 2 _ _ (0, 0) h]; rfl
theorem Rdr.free (h : Rdr w g A n c k bad) (i : Nat) : w.frozen? ⟨g, i, none⟩ = false := by unfold Rdr at h; simp [World.frozen?, h]
theorem Rdr.kept {row : Option Nat} (h : Rdr w g A n c k bad) (hg : w.grownBy w' row) (hne : some g ≠ row) : Rdr w' g A n c k bad := (hg.block g h.lt hne).trans h
theorem Rdr.drewN (h : Rdr w g A n c k bad) (q : Nat) : Rdr (w.drewN q) g A n c k bad := h
theorem Rdr.below {B : Nat} (h : Rdr w g A n c k bad) (hb : Below B w w') (hg : g < B) : Rdr w' g A n c k bad := (hb.block g hg).trans h
theorem Rdr.set1 (h : Rdr w g A n c k bad) (k' : Nat) : Rdr (w.setCell ⟨g, 1, none⟩ (.int .i64 (k' : Nat))) g A n c k' bad := by
  unfold Rdr at h ⊢
  simp [World.setCell, Array.getElem?_modify, h]
theorem Rdr.set2 (h : Rdr w g A n c k bad) : Rdr (w.setCell ⟨g, 2, none⟩ (.bool true)) g A n c k true := by
  unfold Rdr at h ⊢
  simp [World.setCell, Array.getElem?_modify, h]
end
theorem retsl_eq {A : Option Addr} {a b c : Nat} (h : a = b) : Ending.returned (.slice A a c) = Ending.returned (.slice A b c) := by rw [h]
theorem grownBy_set (w : World) (g i : Nat) (v : Value) : w.grownBy (w.setCell ⟨g, i, none⟩ v) (some g) :=
  ⟨rfl, rfl, rfl, by simp [World.setCell], fun j hj hne => Below.heap_setCell _ _ _ _ (fun e => hne (by rw [e]))⟩

theorem grownBy_dset (w : World) (q g i : Nat) (v : Value) : w.grownBy ((w.drewN q).setCell ⟨g, i, none⟩ v) (some g) :=
  have h := grownBy_set (w.drewN q) g i v
  ⟨h.os, h.tape, h.output, h.size, h.block⟩

theorem sep_ne {b o g : Nat} (h : b ≠ g) : Sep (some ⟨b, o, none⟩) (some g) := fun a ha e => by
  obtain rfl : (⟨b, o, none⟩ : Addr) = a := by simpa using ha
  exact h (by simpa using e.symm)
theorem sep_blk {A : Option Addr} {b g : Nat} (hA : ∃ a, A = some a ∧ a.block = b) (h : b ≠ g) : Sep A (some g) := fun a ha e => by
  obtain ⟨a', rfl, hb⟩ := hA
  obtain rfl : a' = a := by simpa using ha
  exact h (by rw [← hb]; simpa using e.symm)
theorem below_g {w a w' : World} (h : Below w.heap.size w a) (hg : a.grownBy w' (some w.heap.size)) : Below w.heap.size w w' :=
  h.grown hg h.size fun j hj => by simp at hj; omega
theorem Rdr.new (w : World) (A : Option Addr) (n c k : Nat) : Rdr (w.alloc (.cells #[.slice A n c, .int .i64 (k : Nat), .bool false] 42)) w.heap.size A n c k false := heap_alloc_new w _

set_option maxHeartbeats 1000000 in
theorem num_ok (b o n c k g : Nat) (l : List Int) (v : Int) (m : Nat) (w : World) (hr : Rd w (some ⟨b, o, none⟩) l) (hn : Hid (l.length = n)) (hnc : n ≤ c) (hc2 : c ≤ 9223372036854775807) (hk : k ≤ n) (hrd : Hid (Rdr w g (some ⟨b, o, none⟩) n c k false)) (hv : Hid (rv (l.drop k) = some (v, m))) :
    Calls Tryd.prog 16 #[.pointer (some ⟨g, 0, none⟩)] w fun e w' => e = .returned (.int .i64 v) ∧ Rdr w' g (some ⟨b, o, none⟩) n c (k + m) false ∧ w.grownBy w' (some g) := by
  have hb := rv_bd (hr.1.drop k) hv.out
  have hn' := hn.out
  have hkm : k + m ≤ n := by have := hb.2.2.2.2; rw [List.length_drop] at this; omega
  have hlen : Hid ((l.drop k).length = n - k) := by show _ = _; rw [List.length_drop]; omega
  have hcut := hr.cut_at (k := k) (cap := c) (by omega)
  obtain ⟨Ak, hAk⟩ : ∃ Ak, (if c = k then some (⟨b, o, none⟩ : Addr) else some ⟨b, o + k, none⟩) = Ak := ⟨_, rfl⟩
  rw [hAk] at hcut
  have c0 := hrd.out.cell0
  have c1 := hrd.out.cell1
  have c2 := hrd.out.cell2
  have f1 := hrd.out.free 1
  have K : ∀ q, Calls Tryd.prog 28 #[.slice Ak (n - k) (c - k)] (w.drewN q) fun e w' => e = .returned (.tuple #[.int .u64 v, .int .i64 (m : Nat)]) ∧ w' = w.drewN q := fun q =>
    (srv_some _ _ _ _ _ v m (hcut.drewN q) hlen (by omega) (by omega) hv).mono fun _ _ ⟨h, hq⟩ => ⟨h, hq.symm⟩
  have HK := Lib.hid K
  have p0 : (0 : Int) ≤ (k : Int) := by omega
  have p1 : (k : Int) ≤ (n : Int) := by omega
  have b1 := hb.1
  have b2 := hb.2.1
  clear K hn' hlen hcut hb hr hn
  go_enter Tryd.func16, Tryd.ntmps16
  go_wp2_with fail
  go_quiet ((go_at_call 28; exact Calls.quiet_of_same (HK.out _)))
  go_wp2
  go_ret
  have e : ((k + m : Nat) : Int) = (k : Int) + m := by omega
  rw [← e]
  exact ⟨rfl, (hrd.out.drewN nq).set1 _, grownBy_dset _ _ _ _ _⟩

set_option maxHeartbeats 1000000 in
theorem num_bn_false (b o n c k g : Nat) (l : List Int)  (w : World) (hr : Rd w (some ⟨b, o, none⟩) l) (hn : Hid (l.length = n)) (hnc : n ≤ c) (hc2 : c ≤ 9223372036854775807) (hk : k ≤ n) (hrd : Hid (Rdr w g (some ⟨b, o, none⟩) n c k false)) (hv : Hid (rv (l.drop k) = none)) :
    Calls Tryd.prog 16 #[.pointer (some ⟨g, 0, none⟩)] w fun e w' => e = .returned (.int .i64 0) ∧ Rdr w' g (some ⟨b, o, none⟩) n c k true ∧ w.grownBy w' (some g) := by
  have hn' := hn.out
  have hlen : Hid ((l.drop k).length = n - k) := by show _ = _; rw [List.length_drop]; omega
  have hcut := hr.cut_at (k := k) (cap := c) (by omega)
  obtain ⟨Ak, hAk⟩ : ∃ Ak, (if c = k then some (⟨b, o, none⟩ : Addr) else some ⟨b, o + k, none⟩) = Ak := ⟨_, rfl⟩
  rw [hAk] at hcut
  have c0 := hrd.out.cell0
  have c1 := hrd.out.cell1
  have c2 := hrd.out.cell2
  have f2 := hrd.out.free 2
  have K : ∀ q, Calls Tryd.prog 28 #[.slice Ak (n - k) (c - k)] (w.drewN q) fun e w' => e = .returned (.tuple #[.int .u64 0, .int .i64 (-1)]) ∧ w' = w.drewN q := fun q =>
    (srv_none _ _ _ _ _ (hcut.drewN q) hlen (by omega) (by omega) hv).mono fun _ _ ⟨h, hq⟩ => ⟨h, hq.symm⟩
  have HK := Lib.hid K
  have p0 : (0 : Int) ≤ (k : Int) := by omega
  have p1 : (k : Int) ≤ (n : Int) := by omega
  clear K hn' hlen hcut hr hn
  go_enter Tryd.func16, Tryd.ntmps16
  go_wp2_with fail
  go_quiet ((go_at_call 28; exact Calls.quiet_of_same (HK.out _)))
  go_wp2
  go_ret
  exact ⟨rfl, (hrd.out.drewN nq).set2, grownBy_dset _ _ _ _ _⟩

set_option maxHeartbeats 1000000 in
theorem num_bn_true (b o n c k g : Nat) (l : List Int)  (w : World) (hr : Rd w (some ⟨b, o, none⟩) l) (hn : Hid (l.length = n)) (hnc : n ≤ c) (hc2 : c ≤ 9223372036854775807) (hk : k ≤ n) (hrd : Hid (Rdr w g (some ⟨b, o, none⟩) n c k true)) (hv : Hid (rv (l.drop k) = none)) :
    Calls Tryd.prog 16 #[.pointer (some ⟨g, 0, none⟩)] w fun e w' => e = .returned (.int .i64 0) ∧ Rdr w' g (some ⟨b, o, none⟩) n c k true ∧ w.grownBy w' (some g) := by
  have hn' := hn.out
  have hlen : Hid ((l.drop k).length = n - k) := by show _ = _; rw [List.length_drop]; omega
  have hcut := hr.cut_at (k := k) (cap := c) (by omega)
  obtain ⟨Ak, hAk⟩ : ∃ Ak, (if c = k then some (⟨b, o, none⟩ : Addr) else some ⟨b, o + k, none⟩) = Ak := ⟨_, rfl⟩
  rw [hAk] at hcut
  have c0 := hrd.out.cell0
  have c1 := hrd.out.cell1
  have c2 := hrd.out.cell2
  have f2 := hrd.out.free 2
  have K : ∀ q, Calls Tryd.prog 28 #[.slice Ak (n - k) (c - k)] (w.drewN q) fun e w' => e = .returned (.tuple #[.int .u64 0, .int .i64 (-1)]) ∧ w' = w.drewN q := fun q =>
    (srv_none _ _ _ _ _ (hcut.drewN q) hlen (by omega) (by omega) hv).mono fun _ _ ⟨h, hq⟩ => ⟨h, hq.symm⟩
  have HK := Lib.hid K
  have p0 : (0 : Int) ≤ (k : Int) := by omega
  have p1 : (k : Int) ≤ (n : Int) := by omega
  clear K hn' hlen hcut hr hn
  go_enter Tryd.func16, Tryd.ntmps16
  go_wp2_with fail
  go_quiet ((go_at_call 28; exact Calls.quiet_of_same (HK.out _)))
  go_wp2
  go_ret
  exact ⟨rfl, (hrd.out.drewN nq).set2, grownBy_dset _ _ _ _ _⟩

set_option maxHeartbeats 1000000 in
theorem num_bs (b o n c k g : Nat) (l : List Int) (v : Int) (m : Nat) (w : World) (hr : Rd w (some ⟨b, o, none⟩) l) (hn : Hid (l.length = n)) (hnc : n ≤ c) (hc2 : c ≤ 9223372036854775807) (hk : k ≤ n) (hrd : Hid (Rdr w g (some ⟨b, o, none⟩) n c k true)) (hv : Hid (rv (l.drop k) = some (v, m))) :
    Calls Tryd.prog 16 #[.pointer (some ⟨g, 0, none⟩)] w fun e w' => e = .returned (.int .i64 0) ∧ Rdr w' g (some ⟨b, o, none⟩) n c k true ∧ w.grownBy w' (some g) := by
  have hn' := hn.out
  have hlen : Hid ((l.drop k).length = n - k) := by show _ = _; rw [List.length_drop]; omega
  have hcut := hr.cut_at (k := k) (cap := c) (by omega)
  obtain ⟨Ak, hAk⟩ : ∃ Ak, (if c = k then some (⟨b, o, none⟩ : Addr) else some ⟨b, o + k, none⟩) = Ak := ⟨_, rfl⟩
  rw [hAk] at hcut
  have c0 := hrd.out.cell0
  have c1 := hrd.out.cell1
  have c2 := hrd.out.cell2
  have f2 := hrd.out.free 2
  have K : ∀ q, Calls Tryd.prog 28 #[.slice Ak (n - k) (c - k)] (w.drewN q) fun e w' => e = .returned (.tuple #[.int .u64 v, .int .i64 (m : Nat)]) ∧ w' = w.drewN q := fun q =>
    (srv_some _ _ _ _ _ v m (hcut.drewN q) hlen (by omega) (by omega) hv).mono fun _ _ ⟨h, hq⟩ => ⟨h, hq.symm⟩
  have HK := Lib.hid K
  have p0 : (0 : Int) ≤ (k : Int) := by omega
  have p1 : (k : Int) ≤ (n : Int) := by omega
  clear K hn' hlen hcut hr hn
  go_enter Tryd.func16, Tryd.ntmps16
  go_wp2_with fail
  go_quiet ((go_at_call 28; exact Calls.quiet_of_same (HK.out _)))
  go_wp2
  go_ret
  exact ⟨rfl, (hrd.out.drewN nq).set2, grownBy_dset _ _ _ _ _⟩

/-- number, where something was not there before, or is not there. -/
theorem num_bad (b o n c k g : Nat) (l : List Int) (bad : Bool) (w : World) (hr : Rd w (some ⟨b, o, none⟩) l) (hn : Hid (l.length = n)) (hnc : n ≤ c) (hc2 : c ≤ 9223372036854775807) (hk : k ≤ n) (hrd : Hid (Rdr w g (some ⟨b, o, none⟩) n c k bad)) (hv : Hid (bad = true ∨ rv (l.drop k) = none)) :
    Calls Tryd.prog 16 #[.pointer (some ⟨g, 0, none⟩)] w fun e w' => e = .returned (.int .i64 0) ∧ Rdr w' g (some ⟨b, o, none⟩) n c k true ∧ w.grownBy w' (some g) := by
  cases h : rv (l.drop k) with
  | none =>
    cases bad
    · exact num_bn_false b o n c k g l w hr hn hnc hc2 hk hrd h
    · exact num_bn_true b o n c k g l w hr hn hnc hc2 hk hrd h
  | some p =>
    obtain ⟨v, m⟩ := p
    rcases hv.out with rfl | h2
    · exact num_bs b o n c k g l v m w hr hn hnc hc2 hk hrd h
    · rw [h] at h2; cases h2

set_option maxHeartbeats 1000000 in
theorem byt_ok (b o n c k g s : Nat) (l : List Int) (w : World) (hr : Rd w (some ⟨b, o, none⟩) l) (hn : Hid (l.length = n)) (hnc : n ≤ c) (hc2 : c ≤ 9223372036854775807) (hks : k + s ≤ n) (hrd : Hid (Rdr w g (some ⟨b, o, none⟩) n c k false)) (hbg : Hid (b ≠ g)) :
    Calls Tryd.prog 17 #[.pointer (some ⟨g, 0, none⟩), .int .i64 (s : Nat)] w fun e w' => (∃ A' c', e = .returned (.slice A' s c') ∧ Rd w' A' ((l.drop k).take s) ∧ s ≤ c' ∧ c' ≤ 9223372036854775807 ∧ (∃ a, A' = some a ∧ a.block = b)) ∧ Rdr w' g (some ⟨b, o, none⟩) n c (k + s) false ∧ w.grownBy w' (some g) := by
  have hn' := hn.out
  have hcut := (hr.cut_at (k := k) (cap := c) (by omega)).take s
  obtain ⟨Ak, hAk⟩ : ∃ Ak, (if c = k then some (⟨b, o, none⟩ : Addr) else some ⟨b, o + k, none⟩) = Ak := ⟨_, rfl⟩
  have hAn : ∃ a, Ak = some a ∧ a.block = b := by rw [← hAk]; split <;> exact ⟨_, rfl, rfl⟩
  rw [hAk] at hcut
  have c0 := hrd.out.cell0
  have c1 := hrd.out.cell1
  have c2 := hrd.out.cell2
  have f1 := hrd.out.free 1
  have p0 : (0 : Int) ≤ (k : Int) := by omega
  have p1 : (k : Int) ≤ (n : Int) := by omega
  have p2 : (k : Int) + (s : Int) ≤ (n : Int) := by omega
  have p3 : decide ((n : Int) - (k : Int) < (s : Int)) = false := by simp; omega
  have HC := Lib.hid hcut
  have HN := Lib.hid hAn
  clear hn' hcut hr hn hAn
  go_enter Tryd.func17, Tryd.ntmps17
  go_wp2_with fail
  go_quiet (fail)
  go_wp2_with fail
  go_quiet (fail)
  go_wp2
  go_ret
  have e : ((k + s : Nat) : Int) = (k : Int) + s := by omega
  rw [← e]
  obtain ⟨a, ha, hab⟩ := HN.out
  refine ⟨⟨Ak, c - k, retsl_eq (by omega), HC.out.grown (grownBy_dset _ _ g _ _) fun _ a' ha' e' => ?_, by omega, by omega, ⟨a, ha, hab⟩⟩, (hrd.out.drewN _).set1 _, grownBy_dset _ _ _ _ _⟩
  rw [ha] at ha'
  obtain rfl : a = a' := by simpa using ha'
  exact hbg.out (by rw [← hab]; simpa using e'.symm)

set_option maxHeartbeats 1000000 in
theorem byt_bad_true (b o n c k g : Nat) (m : Int) (w : World) (hrd : Hid (Rdr w g (some ⟨b, o, none⟩) n c k true)) :
    Calls Tryd.prog 17 #[.pointer (some ⟨g, 0, none⟩), .int .i64 m] w fun e w' => e = .returned (.slice none 0 0) ∧ Rdr w' g (some ⟨b, o, none⟩) n c k true ∧ w.grownBy w' (some g) := by
  have c0 := hrd.out.cell0
  have c1 := hrd.out.cell1
  have c2 := hrd.out.cell2
  have f2 := hrd.out.free 2
  go_enter Tryd.func17, Tryd.ntmps17
  go_wp2_with fail
  go_quiet (fail)
  go_wp2
  go_ret
  exact ⟨rfl, (hrd.out.drewN nq).set2, grownBy_dset _ _ _ _ _⟩

set_option maxHeartbeats 1000000 in
theorem byt_bad_false (b o n c k g : Nat) (m : Int) (w : World) (hk : k ≤ n) (hn2 : n ≤ 9223372036854775807) (hm : ((n - k : Nat) : Int) < m) (hrd : Hid (Rdr w g (some ⟨b, o, none⟩) n c k false)) :
    Calls Tryd.prog 17 #[.pointer (some ⟨g, 0, none⟩), .int .i64 m] w fun e w' => e = .returned (.slice none 0 0) ∧ Rdr w' g (some ⟨b, o, none⟩) n c k true ∧ w.grownBy w' (some g) := by
  have c0 := hrd.out.cell0
  have c1 := hrd.out.cell1
  have c2 := hrd.out.cell2
  have f2 := hrd.out.free 2
  have p3 : decide ((n : Int) - (k : Int) < m) = true := by simp; omega
  go_enter Tryd.func17, Tryd.ntmps17
  go_wp2_with fail
  go_quiet (fail)
  go_wp2
  go_ret
  exact ⟨rfl, (hrd.out.drewN nq).set2, grownBy_dset _ _ _ _ _⟩

/-- bytes, where something was not there before, or there are too few. -/
theorem byt_bad (b o n c k g : Nat) (bad : Bool) (m : Int) (w : World) (hk : k ≤ n) (hn2 : n ≤ 9223372036854775807) (hm : Hid (bad = true ∨ ((n - k : Nat) : Int) < m)) (hrd : Hid (Rdr w g (some ⟨b, o, none⟩) n c k bad)) :
    Calls Tryd.prog 17 #[.pointer (some ⟨g, 0, none⟩), .int .i64 m] w fun e w' => e = .returned (.slice none 0 0) ∧ Rdr w' g (some ⟨b, o, none⟩) n c k true ∧ w.grownBy w' (some g) := by
  cases bad
  · exact byt_bad_false b o n c k g m w hk hn2 (by rcases hm.out with h | h; (· cases h); exact h) hrd
  · exact byt_bad_true b o n c k g m w hrd

end Go.Proofs.YtdjdcpcomhjnjaaDoor

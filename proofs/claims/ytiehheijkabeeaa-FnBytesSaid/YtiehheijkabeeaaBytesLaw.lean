/- The walk of FnBytes: bytes behind their length come back. Conditions: none. -/
import Derived.Test.YtiehheijkabeeaaRb
import Derived.Test.YtiehheijkabeeaaVarintLaws
namespace Go.Proofs.Ytiehheijkabeeaa
open Go.RowKit
set_option linter.unusedVariables false

theorem rvb_back {v : List Int} (m : List Int) (h : v.length ≤ 1000000) : rvb (enc v.length ++ v ++ m) = some (v, esz v.length + v.length) := by
  have hb := esz_bd v.length
  have hl := enc_length v.length
  rw [List.append_assoc, rvb_some (rv_enc (v := (v.length : Int)) (by omega) (by omega) (v ++ m))]
  · rw [List.drop_left' hl]
    simp
  · simp only [List.length_append, hl]; omega
theorem r8b_back (v m : List Int) : r8b ([(v.length : Int)] ++ v ++ m) = some (v, 1 + v.length) := by
  simp [r8b]
  omega

set_option maxHeartbeats 1000000 in
theorem bytes_big (A : Option Addr) (n c : Nat) (A' : Option Addr) (n' c' : Nat) (w : World) (hn : n ≤ 9223372036854775807) (hn' : n' ≤ 9223372036854775807) (h : 65536 < n ∨ 2147483647 < n') :
    Calls Try.prog 12 #[.slice A n c, .slice A' n' c'] w fun e w' => e = .returned (.bool true) ∧ Below w.heap.size w w' := by
  by_cases h1 : 2147483647 < n
  · clear h
    go_enter Try.func12, Try.ntmps12
    go_wp2
    go_ret
    exact ⟨rfl, Below.refl _ _⟩
  by_cases h2 : 2147483647 < n'
  · clear h
    go_enter Try.func12, Try.ntmps12
    go_wp2
    go_ret
    exact ⟨rfl, Below.refl _ _⟩
  · have h3 : 65536 < n := by omega
    clear h
    go_enter Try.func12, Try.ntmps12
    go_wp2
    go_ret
    exact ⟨rfl, Below.refl _ _⟩

set_option maxHeartbeats 4000000 in
theorem bytes_in (A : Option Addr) (n c : Nat) (l : List Int) (A' : Option Addr) (n' c' : Nat) (l' : List Int) (w : World) (hr : Rd w A l) (hn : Hid (l.length = n)) (hz : Hid (A = none → c = 0)) (hr' : Rd w A' l') (hn' : Hid (l'.length = n')) (hz' : Hid (A' = none → c' = 0)) (hb : n ≤ 65536) (hb' : n' ≤ 2147483647) :
    Calls Try.prog 12 #[.slice A n c, .slice A' n' c'] w fun e w' => e = .returned (.bool true) ∧ Below w.heap.size w w' := by
  have hsz := esz_bd n
  have he : Hid ((enc n ++ l).length = esz n + n) := by show _ = _; rw [List.length_append, enc_length, hn.out]
  have he2 : Hid ((enc n ++ l ++ l').length = esz n + n + n') := by show _ = _; rw [List.length_append, he.out, hn'.out]
  have hback : Hid (rvb (enc n ++ l ++ l') = some (l, esz n + n)) := by show _ = _; have := rvb_back (v := l) l' (by rw [hn.out]; omega); rw [hn.out] at this; exact this
  go_enter Try.func12, Try.ntmps12
  go_wp2_with (go_at_call 32; go_in)
  refine (avb w.heap.size (.slice none 0 0) [] A n c l _ (Own.nil_ _ _) (Nat.le_refl _) (by simp) hr hn hz (fun _ a h e => by simp [Value.ownBlock] at e) (by omega)).mono ?_
  rintro e w1 ⟨s1, rfl, ho1, hg1, -, hb1, -⟩
  obtain ⟨A1, c1, rfl, hr1, hc1, hm1, hz1⟩ := ho1.rd
  simp only [List.nil_append] at hr1 hc1 hm1 hz1 ⊢
  rw [he.out] at hc1 ⊢
  have HZ1 := Lib.hid (fun h => (hz1 h).2 : A1 = none → c1 = 0)
  clear ho1 hg1 hz1
  have hrl1 := hr.below hb1
  have hrm1 := hr'.below hb1
  unfold maxLen at hm1
  go_wp2_with fail
  refine (cop A1 _ c1 (enc n ++ l) A' n' c' l' _ hr1 he HZ1.out hrm1 hn' hz'.out (by omega) (by omega)).mono ?_
  rintro e w2 ⟨s2, rfl, ho2, hb2⟩
  obtain ⟨A2, c2, rfl, hr2, hc2, hm2, -⟩ := ho2.rd
  rw [he2.out] at hc2 ⊢
  clear ho2
  unfold maxLen at hm2
  have hbel2 := hb1.trans (hb2.mono hb1.size)
  go_wp2_with fail
  refine (rbV_some A2 _ c2 _ _ l _ n hr2 he2 hc2 (by omega) hback hn (by omega)).mono ?_
  rintro e w3 ⟨A3, c3, rfl, hr3, hc3, hm3, hz3, hb3⟩
  have hbel3 := hbel2.trans (hb3.mono hbel2.size)
  clear hz3
  go_wp2_with fail
  refine (sva n _ (by omega) (by omega)).mono ?_
  rintro e w4 ⟨s4, rfl, ho4, hb4⟩
  have hbel4 := hbel3.trans (hb4.mono hbel3.size)
  have hr1' := ((hr1.below hb2).below hb3).below hb4
  have hrl4 := hr.below hbel4
  have hr3' := hr3.below hb4
  have HO4 := Lib.hid ho4
  clear ho4
  go_wp2_with (at_builtin; refine wpList_app w3.heap.size _ rfl (.tmp 35) (.tmp 36) rfl s4 (enc n) rfl HO4.out A n c l rfl hn.out (by exact hrl4) hz.out (by rw [enc_length]; omega) hb4.size ?_; intro s5 w5 ho5 hg5 ha5 hb5 hn5; obtain ⟨A5, c5, hs5, hr5, hc5, hm5, -⟩ := ho5.rd; rw [he.out] at hs5; subst hs5; clear ho5 hg5 ha5 hn5)
  have h35 := hb4.trans hb5
  have hr1' := ((hr1.below hb2).below hb3).below' h35 (Nat.le_refl _)
  have hr3' := hr3.below' h35 (Nat.le_refl _)
  have hrl5 := (hr.below hbel3).below' h35 (Nat.le_refl _)
  have hbel5 := hbel3.trans (h35.mono hbel3.size)
  refine (beq A1 A5 _ _ _ _ (enc n ++ l) _ hr1' hr5 he he).mono ?_
  rintro e w6 ⟨rfl, rfl⟩
  go_wp2_with fail
  refine (beq A3 A _ _ _ _ l _ hr3' hrl5 hn hn).mono ?_
  rintro e w6 ⟨rfl, rfl⟩
  by_cases h255 : 255 < n
  · go_wp2
    go_ret
    exact ⟨rfl, hbel5⟩
  have he8 : Hid (([(n : Int)] ++ l).length = 1 + n) := by show _ = _; rw [List.length_append, hn.out]; rfl
  have he28 : Hid (([(n : Int)] ++ l ++ l').length = 1 + n + n') := by show _ = _; rw [List.length_append, he8.out, hn'.out]
  have hback8 : Hid (r8b ([(n : Int)] ++ l ++ l') = some (l, 1 + n)) := by show _ = _; have := r8b_back l l'; rw [hn.out] at this; exact this
  have hrm5 := hr'.below hbel5
  have hrl5 := hr.below hbel5
  clear hr1' hr3' hr1 hr2 hr3 hr5 hc5 hm5 hc1 hc2 hc3 hrl4 HO4 h35
  go_wp2_with (go_at_call 33; go_in)
  refine (a8b w5.heap.size (.slice none 0 0) [] A n c l _ (Own.nil_ _ _) (Nat.le_refl _) (by simp) hrl5 hn hz (fun _ a h e => by simp [Value.ownBlock] at e) (by omega)).mono ?_
  rintro e w6 ⟨s6, rfl, ho6, -, -, hb6, -⟩
  obtain ⟨A6, c6, rfl, hr6, hc6, hm6, hz6⟩ := ho6.rd
  rw [List.nil_append] at hr6 hc6 hz6 ⊢
  rw [he8.out] at hc6 ⊢
  have HZ6 := Lib.hid (fun h => (hz6 h).2 : A6 = none → c6 = 0)
  clear ho6 hz6
  have hrm6 := hrm5.below hb6
  have hrl6 := hrl5.below hb6
  have hbel6 := hbel5.trans (hb6.mono hbel5.size)
  unfold maxLen at hm6
  go_wp2_with fail
  refine (cop A6 _ c6 ([(n : Int)] ++ l) A' n' c' l' _ hr6 he8 HZ6.out hrm6 hn' hz'.out (by omega) (by omega)).mono ?_
  rintro e w7 ⟨s7, rfl, ho7, hb7⟩
  obtain ⟨A7, c7, rfl, hr7, hc7, hm7, -⟩ := ho7.rd
  rw [he28.out] at hc7 ⊢
  clear ho7
  unfold maxLen at hm7
  have hbel7 := hbel6.trans (hb7.mono hbel6.size)
  go_wp2_with fail
  refine (rb8_some A7 _ c7 _ _ l _ n hr7 he28 hc7 (by omega) hback8 hn (by omega)).mono ?_
  rintro e w8 ⟨A8, c8, rfl, hr8, hc8, hm8, -, hb8⟩
  have hbel8 := hbel7.trans (hb8.mono hbel7.size)
  have hrl8 := ((hrl6.below hb7).below hb8)
  have hr68 := (hr6.below hb7).below hb8
  have hon := Own.new w8 [(n : Int)] (Bs.cons (by omega) Bs.nil) (by simp [maxLen])
  have HON := Lib.hid hon
  clear hon
  go_wp2_with (at_builtin; refine wpList_app w8.heap.size _ rfl (.tmp 68) (.tmp 69) rfl _ [(n : Int)] rfl (by exact HON.out) A n c l rfl hn.out (by exact hrl8.alloc _) hz.out (by simp; omega) (by simp) ?_; intro s9 w9 ho9 hg9 ha9 hb9 hn9; obtain ⟨A9, c9, hs9, hr9, hc9, hm9, -⟩ := ho9.rd; rw [he8.out] at hs9; subst hs9; clear ho9 hg9 ha9 hn9)
  have h89 : Below w8.heap.size w8 w9 := ((Below.refl _ _).alloc (Nat.le_refl _) _).trans hb9
  have hr69 := hr68.below h89
  have hr89 := hr8.below h89
  have hrl9 := hrl8.below h89
  refine (beq A6 A9 _ _ _ _ ([(n : Int)] ++ l) _ hr69 hr9 he8 he8).mono ?_
  rintro e w10 ⟨rfl, rfl⟩
  go_wp2_with fail
  refine (beq A8 A _ _ _ _ l _ hr89 hrl9 hn hn).mono ?_
  rintro e w10 ⟨rfl, rfl⟩
  go_wp2
  go_ret
  exact ⟨rfl, hbel8.trans (h89.mono hbel8.size)⟩

theorem fnBytes_walk (A : Option Addr) (l : List Int) (c : Nat) (A' : Option Addr) (l' : List Int) (c' : Nat) (w : World) (h : ByteArg w A l c) (h' : ByteArg w A' l' c') :
    Calls Try.prog 12 #[.slice A l.length c, .slice A' l'.length c'] w fun e w' => e = .returned (.bool true) ∧ Below w.heap.size w w' := by
  have hle := h.le
  have hmax := h.max
  have hle' := h'.le
  have hmax' := h'.max
  unfold maxLen at hmax hmax'
  by_cases hb : 65536 < l.length ∨ 2147483647 < l'.length
  · exact bytes_big A _ c A' _ c' w (by omega) (by omega) hb
  · exact bytes_in A _ c l A' _ c' l' w h.rd rfl (fun e => (h.nil e).2) h'.rd rfl (fun e => (h'.nil e).2) (by omega) (by omega)

end Go.Proofs.Ytiehheijkabeeaa

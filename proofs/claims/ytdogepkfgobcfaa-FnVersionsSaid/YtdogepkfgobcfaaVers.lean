/- Contracts of beAppendUint32, appendVersionNegotiation, spec.PutVersions: a packet of version negotiation is written. Conditions: the slices read as bytes, and as numbers of 32 bits. -/
import Derived.Test.YtdogepkfgobcfaaAv
import Derived.Test.YtdogepkfgobcfaaA8b
import Derived.LoopTactic
namespace Go.Proofs.Ytdogepkfgobcfaa
open Go.RowKit
set_option linter.unusedVariables false

/-- The slice value at A reads as the numbers l of 32 bits. -/
def Rd32 (w : World) (A : Option Addr) (l : List Int) : Prop :=
  (∀ x ∈ l, 0 ≤ x ∧ x ≤ 4294967295) ∧ (0 < l.length → ∃ b o, A = some ⟨b, o, none⟩ ∧ ∀ i, i < l.length → w.cell? ⟨b, o + i, none⟩ = some (.int .u32 (l.getD i 0)))
theorem Rd32.keep {w w' : World} {A : Option Addr} {l : List Int} (h : Rd32 w A l) (hk : ∀ p : Addr, p.block < w.heap.size → w'.cell? p = w.cell? p) : Rd32 w' A l := by
  refine ⟨h.1, fun hl => ?_⟩
  obtain ⟨b, o, e, hc⟩ := h.2 hl
  exact ⟨b, o, e, fun i hi => by rw [hk _ (World.block_lt_of_cell? _ _ (hc i hi))]; exact hc i hi⟩
theorem Rd32.below {w w' : World} {A : Option Addr} {l : List Int} (h : Rd32 w A l) (hb : Below w.heap.size w w') : Rd32 w' A l := h.keep fun _ hp => hb.cell hp
theorem Rd32.below' {w w' w'' : World} {A : Option Addr} {l : List Int} {B : Nat} (h : Rd32 w A l) (hB : w.heap.size ≤ B) (hb : Below B w w'') : Rd32 w'' A l := h.keep fun _ hp => hb.cell (Nat.lt_of_lt_of_le hp hB)
theorem Rd32.getD {w : World} {A : Option Addr} {l : List Int} (h : Rd32 w A l) (i : Nat) : 0 ≤ l.getD i 0 ∧ l.getD i 0 ≤ 4294967295 := by
  by_cases hi : i < l.length
  · have : l.getD i 0 = l[i] := by simp [List.getD, List.getElem?_eq_getElem hi]
    rw [this]
    exact h.1 _ (List.getElem_mem hi)
  · have : l.getD i 0 = 0 := by simp [List.getD, List.getElem?_eq_none (Nat.le_of_not_lt hi)]
    rw [this]
    decide

/-- A number of 32 bits as four bytes. -/
def be4 (v : Int) : List Int := [v / 16777216 % 256, v / 65536 % 256, v / 256 % 256, v % 256]
def vb (l : List Int) : List Int := (l.map be4).flatten
theorem be4_Bs (v : Int) : Bs (be4 v) := by
  intro x hx
  simp [be4] at hx
  omega
theorem vb_take (l : List Int) (k : Nat) (h : k < l.length) : vb (l.take (k + 1)) = vb (l.take k) ++ be4 (l.getD k 0) := by
  unfold vb
  rw [List.take_succ_eq_append_getElem h, List.map_append, List.flatten_append]
  simp [List.getD, List.getElem?_eq_getElem h]
theorem vb_length (l : List Int) : (vb l).length = 4 * l.length := by
  induction l with
  | nil => rfl
  | cons x r ih =>
    have : vb (x :: r) = be4 x ++ vb r := by simp [vb]
    rw [this, List.length_append, ih]
    simp [be4]
    omega

set_option maxHeartbeats 1000000 in
theorem ba32 (B : Nat) (s : Value) (l : List Int) (v : Int) (w : World) (hown : Own B w s l) (hB : B ≤ w.heap.size) (hlen : l.length ≤ 1000000000000) (h0 : 0 ≤ v) (h1 : v ≤ 4294967295) :
    Calls Try.prog 98 #[s, .int .u32 v] w fun e w' => AppEnd B w s (l ++ be4 v) e w' := by
  have HR := Lib.hid (Rd.new w (be4 v) (be4_Bs v) 5)
  have HO := Lib.hid hown
  clear hown
  have hw24 : IntKind.u8.wrap (v / 16777216) = v / 16777216 % 256 := wrap_u8 _
  have hw16 : IntKind.u8.wrap (v / 65536) = v / 65536 % 256 := wrap_u8 _
  have hw8 : IntKind.u8.wrap (v / 256) = v / 256 % 256 := wrap_u8 _
  have hw0 : IntKind.u8.wrap v = v % 256 := wrap_u8 _
  go_enter Try.func98, Try.ntmps98
  go_wp2_with (at_builtin; refine wpList_app B _ rfl _ _ rfl _ l rfl (HO.out.alloc _) (some ⟨w.heap.size, 0, none⟩) 4 4 (be4 v) rfl rfl (by exact HR.out) (by simp) (by omega) (by simp; omega) ?_; intro s' w1 hown1 hgrow1 hat1 hbel1 hnil1)
  go_ret
  exact ⟨s', rfl, hown1, grownBy_alloc_left hgrow1, hat1.imp id fun h => ⟨_, h, by simp⟩, ((Below.refl _ _).alloc hB _).trans hbel1, fun h => (hnil1.1 h).1⟩

/-- What a packet of version negotiation is, behind its first byte. -/
def vpk (d s v : List Int) : List Int := [0, 0, 0, 0] ++ [(d.length : Int)] ++ d ++ [(s.length : Int)] ++ s ++ vb v

set_option maxHeartbeats 2000000 in
theorem avn (A : Option Addr) (n c : Nat) (d : List Int) (A' : Option Addr) (n' c' : Nat) (d' : List Int) (V : Option Addr) (m cv : Nat) (v : List Int) (w : World) (hr : Rd w A d) (hn : Hid (d.length = n)) (hz : Hid (A = none → c = 0)) (hr' : Rd w A' d') (hn' : Hid (d'.length = n')) (hz' : Hid (A' = none → c' = 0)) (hv : Rd32 w V v) (hm : Hid (v.length = m)) (h20 : n ≤ 20) (h20' : n' ≤ 20) (h100 : m ≤ 100) :
    Calls Try.prog 75 #[.slice none 0 0, .slice A n c, .slice A' n' c', .slice V m cv] w fun e w' => MadeEnd w ([192] ++ vpk d d' v) e w' := by
  have HR := Lib.hid hr
  have HR' := Lib.hid hr'
  have HV := Lib.hid hv
  have one : ∀ W : World, Hid (Rd (W.alloc (.cells #[.int .u8 192] 5)) (some ⟨W.heap.size, 0, none⟩) [192]) := fun W => Rd.new W [192] (by intro x hx; simp at hx; omega) _
  have four : ∀ W : World, Hid (Rd (W.alloc (.cells #[.int .u8 0, .int .u8 0, .int .u8 0, .int .u8 0] 5)) (some ⟨W.heap.size, 0, none⟩) [0, 0, 0, 0]) := fun W => Rd.new W [0, 0, 0, 0] (by intro x hx; simp at hx; omega) _
  clear hr hr' hv
  go_enter Try.func75, Try.ntmps75
  go_wp2_with (first
    | (at_builtin; refine wpList_app w.heap.size _ rfl (.tmp 11) (.tmp 12) rfl (.slice none 0 0) [] rfl (Own.nil_ _ _) (some ⟨w.heap.size, 0, none⟩) 1 1 [192] rfl rfl (by exact (one w).out) (by simp) (by simp) (by simp) ?_; intro s1 w1 ho1 hg1 ha1 hb1 hn1; have HO1 := Lib.hid ho1; have HB1 := Lib.hid (((Below.refl _ _).alloc (Nat.le_refl _) _).trans hb1); clear ho1 hg1 ha1 hb1 hn1)
    | (at_builtin; refine wpList_app w.heap.size _ rfl (.tmp 14) (.tmp 15) rfl s1 _ rfl (HO1.out.alloc _) (some ⟨w1.heap.size, 0, none⟩) 4 4 [0, 0, 0, 0] rfl rfl (by exact (four w1).out) (by simp) (by simp) (by have := HB1.out.size; simp; omega) ?_; intro s2 w2 ho2 hg2 ha2 hb2 hn2; have HO2 := Lib.hid ho2; have HB2 := Lib.hid ((HB1.out.alloc HB1.out.size _).trans hb2); clear ho2 hg2 ha2 hb2 hn2))
  refine (a8b w.heap.size s2 _ A n c d w2 HO2.out HB2.out.size (by simp) (HR.out.below HB2.out) hn hz (HR.out.sep HO2.out (Nat.le_refl _)) (by omega)).mono ?_
  rintro e w3 ⟨s3, rfl, ho3, -, -, hb3, -⟩
  have HO3 := Lib.hid ho3
  have HB3 := Lib.hid (HB2.out.trans hb3)
  clear ho3 hb3 HO2 HB2
  go_wp2_with fail
  refine (a8b w.heap.size s3 _ A' n' c' d' w3 HO3.out HB3.out.size (by have := hn.out; simp; omega) (HR'.out.below HB3.out) hn' hz' (HR'.out.sep HO3.out (Nat.le_refl _)) (by omega)).mono ?_
  rintro e w4 ⟨s4, rfl, ho4, -, -, hb4, -⟩
  have HO4 := Lib.hid ho4
  have HB4 := Lib.hid (HB3.out.trans hb4)
  clear ho4 hb4 HO3 HB3
  go_wp2_with fail
  go_loopw [0, 25] (fun s i wr => ∃ k : Nat, k ≤ m ∧ i = .int .i64 k ∧ Own w.heap.size wr s ([] ++ [192] ++ [0, 0, 0, 0] ++ [(n : Int)] ++ d ++ [(n' : Int)] ++ d' ++ vb (v.take k)) ∧ Below w.heap.size w wr) (fun _ i _ => m - (intOf i).toNat)
  case atStart => exact ⟨0, by omega, rfl, by simpa [vb] using HO4.out, HB4.out⟩
  case round =>
    obtain ⟨k, hk, rfl, ho, hb⟩ := hrel
    have HO := Lib.hid ho
    have HB := Lib.hid hb
    clear ho hb
    by_cases hlt : k < m
    · have hlt' : k < v.length := by rw [hm.out]; exact hlt
      have hvb := HV.out.below HB.out
      obtain ⟨b, o, rfl, hc⟩ := hvb.2 (by omega)
      have ck := hc k hlt'
      have hy := hvb.getD k
      have hvt : Hid (∀ y, y = v.getD k 0 → vb (v.take (k + 1)) = vb (v.take k) ++ be4 y) := fun y e => by rw [e]; exact vb_take v k hlt'
      obtain ⟨y, hye⟩ : ∃ y, y = v.getD k 0 := ⟨_, rfl⟩
      rw [← hye] at ck hy
      have hvt := Lib.hid (hvt.out y hye)
      have hlen : Hid (([] ++ [192] ++ [0, 0, 0, 0] ++ [(n : Int)] ++ d ++ [(n' : Int)] ++ d' ++ vb (v.take k)).length ≤ 1000000000000) := by
        have := hn.out
        have := hn'.out
        have e := vb_length (v.take k)
        rw [List.length_take] at e
        show _ ≤ _
        simp
        omega
      clear hc hvb hye hlt' 
      go_wp2_with fail
      refine (ba32 w.heap.size u0 _ y wr HO.out HB.out.size hlen.out hy.1 hy.2).mono ?_
      rintro e w5 ⟨s5, rfl, ho5, -, -, hb5, -⟩
      have HO5 := Lib.hid ho5
      have HB5 := Lib.hid (HB.out.trans hb5)
      clear ho5 hb5 HO HB
      go_wp2_with fail
      go_roundw
      case rel => exact ⟨k + 1, by omega, by go_num, by rw [hvt.out, ← List.append_assoc]; exact HO5.out, HB5.out⟩
      case measure => simp [intOf]; omega
    · obtain rfl : k = m := by omega
      have he : Hid ([] ++ [192] ++ [0, 0, 0, 0] ++ [(n : Int)] ++ d ++ [(n' : Int)] ++ d' ++ vb (v.take k) = [192] ++ vpk d d' v) := by
        show _ = _
        rw [List.take_of_length_le (by rw [hm.out]; exact Nat.le_refl _)]
        simp [vpk, hn.out, hn'.out]
      rw [he.out] at HO
      go_wp2
      go_ret
      exact ⟨u0, rfl, HO.out, HB.out⟩

set_option maxHeartbeats 2000000 in
theorem spv (A : Option Addr) (n c : Nat) (d : List Int) (A' : Option Addr) (n' c' : Nat) (d' : List Int) (V : Option Addr) (m cv : Nat) (v : List Int) (w : World) (hr : Rd w A d) (hn : Hid (d.length = n)) (hz : Hid (A = none → c = 0)) (hr' : Rd w A' d') (hn' : Hid (d'.length = n')) (hz' : Hid (A' = none → c' = 0)) (hv : Rd32 w V v) (hm : Hid (v.length = m)) (h20 : n ≤ 20) (h20' : n' ≤ 20) (h100 : m ≤ 100) :
    Calls Try.prog 22 #[.slice A n c, .slice A' n' c', .slice V m cv] w fun e w' => MadeEnd w (vpk d d' v) e w' := by
  have HR := Lib.hid hr
  have HR' := Lib.hid hr'
  have HV := Lib.hid hv
  have HO0 := Lib.hid (Own.new w [0, 0, 0, 0, (n : Int)] (by intro x hx; simp at hx; omega) (by simp [maxLen]))
  have HRA := Lib.hid (hr.alloc (.cells #[.int .u8 0, .int .u8 0, .int .u8 0, .int .u8 0, .int .u8 (n : Int)] 5))
  have HL : Hid ([0, 0, 0, 0, (n : Int)].length + n ≤ 140737488355328) := by show _ ≤ _; simp; omega
  have one : ∀ W : World, Hid (Rd (W.alloc (.cells #[.int .u8 (n' : Int)] 5)) (some ⟨W.heap.size, 0, none⟩) [(n' : Int)]) := fun W => Rd.new W [(n' : Int)] (by intro x hx; simp at hx; omega) _
  clear hr hr' hv
  go_enter Try.func22, Try.ntmps22
  go_wp2_with (first
    | (at_builtin; refine wpList_app w.heap.size _ rfl (.tmp 13) (.tmp 14) rfl (.slice (some ⟨w.heap.size, 0, none⟩) 5 5) [0, 0, 0, 0, (n : Int)] rfl (by exact HO0.out) A n c d rfl hn.out (by exact HRA.out) hz.out HL.out (by simp) ?_; intro s1 w1 ho1 hg1 ha1 hb1 hn1; have HO1 := Lib.hid ho1; have HB1 := Lib.hid (((Below.refl _ _).alloc (Nat.le_refl _) _).trans hb1); clear ho1 hg1 ha1 hb1 hn1)
    | (at_builtin; refine wpList_app w.heap.size _ rfl (.tmp 16) (.tmp 20) rfl s1 _ rfl (HO1.out.alloc _) (some ⟨w1.heap.size, 0, none⟩) 1 1 [(n' : Int)] rfl rfl (by exact (one w1).out) (by simp) (by have := hn.out; simp; omega) (by have := HB1.out.size; simp; omega) ?_; intro s2 w2 ho2 hg2 ha2 hb2 hn2; have HO2 := Lib.hid ho2; have HB2 := Lib.hid ((HB1.out.alloc HB1.out.size _).trans hb2); clear ho2 hg2 ha2 hb2 hn2)
    | (at_builtin; refine wpList_app w.heap.size _ rfl (.tmp 21) (.tmp 22) rfl s2 _ rfl HO2.out A' n' c' d' rfl hn'.out (by exact HR'.out.below HB2.out) hz'.out (by have := hn.out; simp; omega) HB2.out.size ?_; intro s4 w4 ho4 hg4 ha4 hb4 hn4; have HO4 := Lib.hid ho4; have HB4 := Lib.hid (HB2.out.trans hb4); clear ho4 hg4 ha4 hb4 hn4))
  go_loopw [7, 26] (fun s i wr => ∃ k : Nat, k ≤ m ∧ i = .int .i64 k ∧ Own w.heap.size wr s ([0, 0, 0, 0, (n : Int)] ++ d ++ [(n' : Int)] ++ d' ++ vb (v.take k)) ∧ Below w.heap.size w wr) (fun _ i _ => m - (intOf i).toNat)
  case atStart => exact ⟨0, by omega, rfl, by simpa [vb] using HO4.out, HB4.out⟩
  case round =>
    obtain ⟨k, hk, rfl, ho, hb⟩ := hrel
    have HO := Lib.hid ho
    have HB := Lib.hid hb
    clear ho hb
    by_cases hlt : k < m
    · have hlt' : k < v.length := by rw [hm.out]; exact hlt
      have hvb := HV.out.below HB.out
      obtain ⟨b, o, rfl, hc⟩ := hvb.2 (by omega)
      have ck := hc k hlt'
      have hy := hvb.getD k
      have hvt : Hid (∀ y, y = v.getD k 0 → vb (v.take (k + 1)) = vb (v.take k) ++ be4 y) := fun y e => by rw [e]; exact vb_take v k hlt'
      obtain ⟨y, hye⟩ : ∃ y, y = v.getD k 0 := ⟨_, rfl⟩
      rw [← hye] at ck hy
      have hvt := Lib.hid (hvt.out y hye)
      have hlen : Hid (([0, 0, 0, 0, (n : Int)] ++ d ++ [(n' : Int)] ++ d' ++ vb (v.take k)).length ≤ 1000000000000) := by
        have := hn.out
        have := hn'.out
        have e := vb_length (v.take k)
        rw [List.length_take] at e
        show _ ≤ _
        simp
        omega
      have hw24 : IntKind.u8.wrap (y / 16777216) = y / 16777216 % 256 := wrap_u8 _
      have hw16 : IntKind.u8.wrap (y / 65536) = y / 65536 % 256 := wrap_u8 _
      have hw8 : IntKind.u8.wrap (y / 256) = y / 256 % 256 := wrap_u8 _
      have hw0 : IntKind.u8.wrap y = y % 256 := wrap_u8 _
      have HN4 := Lib.hid (Rd.new wr (be4 y) (be4_Bs y) 5)
      clear hc hvb hye hlt'
      go_wp2_with (at_builtin; refine wpList_app w.heap.size _ rfl (.tmp 30) (.tmp 42) rfl u7 _ rfl (HO.out.alloc _) (some ⟨wr.heap.size, 0, none⟩) 4 4 (be4 y) rfl rfl (by exact HN4.out) (by simp) (by have := hlen.out; omega) (by have := HB.out.size; simp; omega) ?_; intro s5 w5 ho5 hg5 ha5 hb5 hn5; have HO5 := Lib.hid ho5; have HB5 := Lib.hid ((HB.out.alloc HB.out.size _).trans hb5); clear ho5 hg5 ha5 hb5 hn5)
      go_roundw
      case rel => exact ⟨k + 1, by omega, by go_num, by rw [hvt.out, ← List.append_assoc]; exact HO5.out, HB5.out⟩
      case measure => simp [intOf]; omega
    · obtain rfl : k = m := by omega
      have he : Hid ([0, 0, 0, 0, (n : Int)] ++ d ++ [(n' : Int)] ++ d' ++ vb (v.take k) = vpk d d' v) := by
        show _ = _
        rw [List.take_of_length_le (by rw [hm.out]; exact Nat.le_refl _)]
        simp [vpk, hn.out, hn'.out]
      rw [he.out] at HO
      go_wp2
      go_ret
      exact ⟨u7, rfl, HO.out, HB.out⟩

end Go.Proofs.Ytdogepkfgobcfaa

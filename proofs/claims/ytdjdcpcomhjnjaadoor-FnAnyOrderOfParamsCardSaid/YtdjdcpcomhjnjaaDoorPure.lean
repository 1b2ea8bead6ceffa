/- Plain facts on lists of bytes and on QUIC's variable-length integers: no program in sight. Conditions: none. -/
import Derived.KernelRfl
namespace Go.Proofs.YtdjdcpcomhjnjaaDoor

/-- Each number of a list is a byte's. -/
def Bs (l : List Int) : Prop := ∀ x ∈ l, 0 ≤ x ∧ x ≤ 255

theorem Bs.nil : Bs [] := fun _ h => by simp at h
theorem Bs.append {a b : List Int} (ha : Bs a) (hb : Bs b) : Bs (a ++ b) := fun x hx => (List.mem_append.1 hx).elim (ha x) (hb x)
theorem Bs.drop {l : List Int} (h : Bs l) (n : Nat) : Bs (l.drop n) := fun x hx => h x (List.mem_of_mem_drop hx)
theorem Bs.take {l : List Int} (h : Bs l) (n : Nat) : Bs (l.take n) := fun x hx => h x (List.mem_of_mem_take hx)
theorem Bs.tail {x : Int} {l : List Int} (h : Bs (x :: l)) : Bs l := fun y hy => h y (List.mem_cons_of_mem _ hy)
theorem Bs.head {x : Int} {l : List Int} (h : Bs (x :: l)) : 0 ≤ x ∧ x ≤ 255 := h x (List.mem_cons_self ..)
theorem Bs.cons {x : Int} {l : List Int} (hx : 0 ≤ x ∧ x ≤ 255) (h : Bs l) : Bs (x :: l) := fun y hy => by
  rcases List.mem_cons.1 hy with rfl | hy
  · exact hx
  · exact h y hy
theorem Bs.getD {l : List Int} (h : Bs l) (i : Nat) : 0 ≤ l.getD i 0 ∧ l.getD i 0 ≤ 255 := by
  rcases Nat.lt_or_ge i l.length with hi | hi
  · have := h l[i] (List.getElem_mem hi)
    simpa [List.getD, List.getElem?_eq_getElem hi] using this
  · simp [List.getD, List.getElem?_eq_none hi]
theorem Bs.get? {l : List Int} (h : Bs l) (i : Nat) : 0 ≤ l[i]?.getD 0 ∧ l[i]?.getD 0 ≤ 255 := h.getD i

/-- The number that bytes are, the high one first. -/
def be (a : Int) (l : List Int) : Int := l.foldl (fun a x => a * 256 + x) a

theorem be_nil (a : Int) : be a [] = a := rfl
theorem be_cons (a x : Int) (l : List Int) : be a (x :: l) = be (a * 256 + x) l := rfl
theorem be_append (a : Int) (l m : List Int) : be a (l ++ m) = be (be a l) m := by simp [be, List.foldl_append]

theorem be_bd : ∀ (l : List Int) (a B : Int), Bs l → 0 ≤ a → a < B → 0 ≤ be a l ∧ be a l < B * 256 ^ l.length
  | [], a, B, _, h0, h1 => by simpa [be] using ⟨h0, h1⟩
  | x :: l, a, B, hl, h0, h1 => by
    have hx := hl.head
    have := be_bd l (a * 256 + x) (B * 256) hl.tail (by omega) (by omega)
    rw [be_cons]
    refine ⟨this.1, ?_⟩
    rw [List.length_cons, Int.pow_succ]
    have e : B * (256 ^ l.length * 256) = B * 256 * 256 ^ l.length := by rw [Int.mul_assoc, Int.mul_comm (256 ^ l.length) 256]
    rw [e]
    exact this.2

/-- How many bytes a variable-length integer has whose first byte is x. -/
def szOf (x : Int) : Nat := if x < 64 then 1 else if x < 128 then 2 else if x < 192 then 4 else 8

/-- The variable-length integer at the beginning of bytes, and how many bytes it has. -/
def rv : List Int → Option (Int × Nat)
  | [] => none
  | x :: l => if l.length + 1 < szOf x then none else some (be (x % 64) (l.take (szOf x - 1)), szOf x)

theorem szOf_cases (x : Int) : szOf x = 1 ∨ szOf x = 2 ∨ szOf x = 4 ∨ szOf x = 8 := by
  unfold szOf; split
  · exact .inl rfl
  · split
    · exact .inr (.inl rfl)
    · split
      · exact .inr (.inr (.inl rfl))
      · exact .inr (.inr (.inr rfl))

theorem rv_cons (x : Int) (l : List Int) : rv (x :: l) = if l.length + 1 < szOf x then none else some (be (x % 64) (l.take (szOf x - 1)), szOf x) := rfl

theorem rv_bd {l : List Int} {v : Int} {k : Nat} (hl : Bs l) (h : rv l = some (v, k)) : 0 ≤ v ∧ v ≤ 4611686018427387903 ∧ 1 ≤ k ∧ k ≤ 8 ∧ k ≤ l.length := by
  cases l with
  | nil => simp [rv] at h
  | cons x r =>
    rw [rv_cons] at h
    by_cases hk : r.length + 1 < szOf x
    · rw [if_pos hk] at h; cases h
    · rw [if_neg hk] at h
      obtain ⟨rfl, rfl⟩ : be (x % 64) (r.take (szOf x - 1)) = v ∧ szOf x = k := by simpa using h
      have hb := be_bd (r.take (szOf x - 1)) (x % 64) 64 (hl.tail.take _) (by omega) (by omega)
      have hlen : (r.take (szOf x - 1)).length = szOf x - 1 := by rw [List.length_take]; omega
      rw [hlen] at hb
      refine ⟨hb.1, ?_, ?_, ?_, by rw [List.length_cons]; omega⟩
      · have h2 := hb.2
        clear h hb hlen
        rcases szOf_cases x with e | e | e | e <;> rw [e] at h2 ⊢ <;> simp at h2 ⊢ <;> omega
      · rcases szOf_cases x with e | e | e | e <;> omega
      · rcases szOf_cases x with e | e | e | e <;> omega

/-- A number as a variable-length integer, as short as it can be. -/
def enc (v : Int) : List Int :=
  if v ≤ 63 then [v]
  else if v ≤ 16383 then [64 + v / 256, v % 256]
  else if v ≤ 1073741823 then [128 + v / 16777216, v / 65536 % 256, v / 256 % 256, v % 256]
  else [192 + v / 72057594037927936, v / 281474976710656 % 256, v / 1099511627776 % 256, v / 4294967296 % 256, v / 16777216 % 256, v / 65536 % 256, v / 256 % 256, v % 256]

/-- Of how many bytes. -/
def esz (v : Int) : Nat := if v ≤ 63 then 1 else if v ≤ 16383 then 2 else if v ≤ 1073741823 then 4 else 8

theorem enc_length (v : Int) : (enc v).length = esz v := by
  unfold enc esz
  split
  · rfl
  · split
    · rfl
    · split <;> rfl

theorem esz_cases (v : Int) : esz v = 1 ∨ esz v = 2 ∨ esz v = 4 ∨ esz v = 8 := by
  unfold esz; split
  · exact .inl rfl
  · split
    · exact .inr (.inl rfl)
    · split
      · exact .inr (.inr (.inl rfl))
      · exact .inr (.inr (.inr rfl))
theorem esz_bd (v : Int) : 1 ≤ esz v ∧ esz v ≤ 8 := by rcases esz_cases v with e | e | e | e <;> omega

theorem enc_Bs {v : Int} (h0 : 0 ≤ v) (h1 : v ≤ 4611686018427387903) : Bs (enc v) := by
  unfold enc
  intro x hx
  split at hx
  · simp at hx; omega
  · split at hx
    · simp at hx; rcases hx with rfl | rfl <;> omega
    · split at hx
      · simp at hx; rcases hx with rfl | rfl | rfl | rfl <;> omega
      · simp at hx; rcases hx with rfl | rfl | rfl | rfl | rfl | rfl | rfl | rfl <;> omega

/-- What is written is read as it; what lies behind is left. -/
theorem rv_enc {v : Int} (h0 : 0 ≤ v) (h1 : v ≤ 4611686018427387903) (r : List Int) : rv (enc v ++ r) = some (v, esz v) := by
  unfold enc esz
  split
  · have e : szOf v = 1 := by unfold szOf; rw [if_pos (by omega)]
    simp [rv, e, be]; omega
  · split
    · have e : szOf (64 + v / 256) = 2 := by unfold szOf; rw [if_neg (by omega), if_pos (by omega)]
      simp [rv, e, be]; omega
    · split
      · have e : szOf (128 + v / 16777216) = 4 := by unfold szOf; rw [if_neg (by omega), if_neg (by omega), if_pos (by omega)]
        simp [rv, e, be]; omega
      · have e : szOf (192 + v / 72057594037927936) = 8 := by unfold szOf; rw [if_neg (by omega), if_neg (by omega), if_neg (by omega)]
        simp [rv, e, be]; omega

/-- A number that is cut is none. -/
theorem rv_cut {v : Int} (h0 : 0 ≤ v) (h1 : v ≤ 4611686018427387903) (k : Nat) (hk : k < esz v) : rv ((enc v).take k) = none := by
  have hne : ∀ x l, enc v = x :: l → szOf x = esz v := by
    intro x l h
    have := rv_enc h0 h1 []
    rw [List.append_nil, h, rv_cons] at this
    split at this
    · cases this
    · simp at this
      exact this.2
  have hlen := enc_length v
  cases he : enc v with
  | nil => simp [rv]
  | cons x l =>
    have hs := hne x l he
    cases k with
    | zero => simp [rv]
    | succ k =>
      rw [he] at hlen
      simp at hlen
      rw [List.take_succ_cons, rv_cons, hs, if_pos]
      rw [List.length_take]
      omega

end Go.Proofs.YtdjdcpcomhjnjaaDoor

/- Frames that are written are read as they are: the plain law. Contracts of ZZPutFrame and impl.PutFrame, whatever the frame. The walks of FnFrameIsWritten and FnFrameComesBack. Conditions: as each part says. -/
import Derived.Test.YtggcnepdeaijoaaSfC
import Derived.Test.YtggcnepdeaijoaaPzA
import Derived.Test.YtggcnepdeaijoaaFrameLaw
namespace Go.Proofs.Ytggcnepdeaijoaa
section
set_option linter.unusedVariables false
set_option linter.unusedSimpArgs false

theorem nm_enc {l r : List Int} {k : Nat} {v : Int} (h : l.drop k = enc v ++ r) (h0 : 0 ≤ v) (h1 : v ≤ 4611686018427387903) : nm l k = some (v, k + esz v) ∧ l.drop (k + esz v) = r := by
  refine ⟨nm_some (by rw [h]; exact rv_enc h0 h1 r), ?_⟩
  rw [← List.drop_drop, h, List.drop_left' (enc_length v)]
theorem vbs_enc {l d r : List Int} {k m : Nat} (h : l.drop k = enc (m : Nat) ++ (d ++ r)) (hm : d.length = m) (h1 : m ≤ 100000) : vbs l k = some (d, k + esz (m : Nat) + m) ∧ l.drop (k + esz (m : Nat) + m) = r := by
  have hl := enc_length (m : Int)
  have hv : rv (l.drop k) = some ((m : Int), esz (m : Nat)) := by rw [h]; exact rv_enc (by omega) (by omega) _
  refine ⟨?_, ?_⟩
  · rw [vbs_some (rvb_some hv (by rw [h]; simp only [List.length_append, hl]; omega)), h, List.drop_left' hl]
    simp [← hm, Nat.add_assoc]
  · rw [Nat.add_assoc, ← List.drop_drop, h, ← List.drop_drop, List.drop_left' hl, List.drop_left' hm]
theorem enc_small {m : Nat} (h : m ≤ 63) : enc (m : Nat) = [(m : Int)] := by rw [enc, if_pos (by omega)]
theorem esz_small {m : Nat} (h : m ≤ 63) : esz (m : Nat) = 1 := by rw [esz, if_pos (by omega)]

/-- Bytes that are read as such a frame, all of them. -/
def GoodOut (out : List Int) (vs : List Int) (ds : List (List Int)) : Prop :=
  out.length ≤ 5000 ∧ 1 ≤ out.length ∧ 4 ≤ out.getD 0 0 ∧ out.getD 0 0 ≤ 29 ∧ frG (out.getD 0 0) out = some (vs, ds, out.length)
theorem GoodOut.mk' {out : List Int} {vs : List Int} {ds : List (List Int)} (t : Int) (h0 : out.getD 0 0 = t) (h1 : out.length ≤ 5000) (h1' : 1 ≤ out.length) (h2 : 4 ≤ t) (h3 : t ≤ 29) (h4 : frT t out = some (vs, ds, out.length)) (h5 : ¬ opB t out (vs, ds, out.length)) : GoodOut out vs ds := by
  subst h0
  exact ⟨h1, h1', h2, h3, frG_of h4 h5⟩

theorem Pst_of' {t : Int} {l : List Int} {a b : Int} {bs : List Int} {k k' k'' : Nat} (h1 : nm l 1 = some (a, k)) (h2 : Pof t l k = some (b, k')) (h3 : Pda t l k' = some (bs, k'')) : Pst t l = if 4611686018427387904 ≤ b + bs.length then none else some ([a, b, t % 2], [bs], k'') := by
  simp only [Pst, h1, h2, h3]
theorem go_4 (a b d : Int) (ha0 : 0 ≤ a) (ha1 : a ≤ 4611686018427387903) (hb0 : 0 ≤ b) (hb1 : b ≤ 4611686018427387903) (hd0 : 0 ≤ d) (hd1 : d ≤ 4611686018427387903) : GoodOut ([] ++ [4] ++ enc a ++ enc b ++ enc d) [a, b, d] [] := by
  obtain ⟨out, ho⟩ : ∃ l, l = [] ++ [4] ++ enc a ++ enc b ++ enc d := ⟨_, rfl⟩
  rw [← ho]
  have d0 : out.drop 1 = enc a ++ (enc b ++ (enc d ++ ([]))) := by rw [ho]; simp
  obtain ⟨n1, d1⟩ := nm_enc d0 ha0 ha1
  obtain ⟨n2, d2⟩ := nm_enc d1 hb0 hb1
  obtain ⟨n3, d3⟩ := nm_enc d2 hd0 hd1
  have hl : out.length = 1 + esz a + esz b + esz d := by rw [ho]; simp [enc_length] <;> omega
  have hza := esz_bd a
  have hzb := esz_bd b
  have hzd := esz_bd d
  refine GoodOut.mk' 4 (by rw [ho]; simp) (by omega) (by omega) (by omega) (by omega) ?_ ?_
  · rw [show frT 4 out = P3 out by simp [frT], hl]
    simp [P3, n1, n2, n3]
  · simp [opB]

theorem go_5 (a b : Int) (ha0 : 0 ≤ a) (ha1 : a ≤ 4611686018427387903) (hb0 : 0 ≤ b) (hb1 : b ≤ 4611686018427387903) : GoodOut ([] ++ [5] ++ enc a ++ enc b) [a, b] [] := by
  obtain ⟨out, ho⟩ : ∃ l, l = [] ++ [5] ++ enc a ++ enc b := ⟨_, rfl⟩
  rw [← ho]
  have d0 : out.drop 1 = enc a ++ (enc b ++ ([])) := by rw [ho]; simp
  obtain ⟨n1, d1⟩ := nm_enc d0 ha0 ha1
  obtain ⟨n2, d2⟩ := nm_enc d1 hb0 hb1
  have hl : out.length = 1 + esz a + esz b := by rw [ho]; simp [enc_length] <;> omega
  have hza := esz_bd a
  have hzb := esz_bd b
  refine GoodOut.mk' 5 (by rw [ho]; simp) (by omega) (by omega) (by omega) (by omega) ?_ ?_
  · rw [show frT 5 out = P2 out by simp [frT], hl]
    simp [P2, n1, n2]
  · simp [opB]

theorem go_17 (a b : Int) (ha0 : 0 ≤ a) (ha1 : a ≤ 4611686018427387903) (hb0 : 0 ≤ b) (hb1 : b ≤ 4611686018427387903) : GoodOut ([] ++ [17] ++ enc a ++ enc b) [a, b] [] := by
  obtain ⟨out, ho⟩ : ∃ l, l = [] ++ [17] ++ enc a ++ enc b := ⟨_, rfl⟩
  rw [← ho]
  have d0 : out.drop 1 = enc a ++ (enc b ++ ([])) := by rw [ho]; simp
  obtain ⟨n1, d1⟩ := nm_enc d0 ha0 ha1
  obtain ⟨n2, d2⟩ := nm_enc d1 hb0 hb1
  have hl : out.length = 1 + esz a + esz b := by rw [ho]; simp [enc_length] <;> omega
  have hza := esz_bd a
  have hzb := esz_bd b
  refine GoodOut.mk' 17 (by rw [ho]; simp) (by omega) (by omega) (by omega) (by omega) ?_ ?_
  · rw [show frT 17 out = P2 out by simp [frT], hl]
    simp [P2, n1, n2]
  · simp [opB]

theorem go_21 (a b : Int) (ha0 : 0 ≤ a) (ha1 : a ≤ 4611686018427387903) (hb0 : 0 ≤ b) (hb1 : b ≤ 4611686018427387903) : GoodOut ([] ++ [21] ++ enc a ++ enc b) [a, b] [] := by
  obtain ⟨out, ho⟩ : ∃ l, l = [] ++ [21] ++ enc a ++ enc b := ⟨_, rfl⟩
  rw [← ho]
  have d0 : out.drop 1 = enc a ++ (enc b ++ ([])) := by rw [ho]; simp
  obtain ⟨n1, d1⟩ := nm_enc d0 ha0 ha1
  obtain ⟨n2, d2⟩ := nm_enc d1 hb0 hb1
  have hl : out.length = 1 + esz a + esz b := by rw [ho]; simp [enc_length] <;> omega
  have hza := esz_bd a
  have hzb := esz_bd b
  refine GoodOut.mk' 21 (by rw [ho]; simp) (by omega) (by omega) (by omega) (by omega) ?_ ?_
  · rw [show frT 21 out = P2 out by simp [frT], hl]
    simp [P2, n1, n2]
  · simp [opB]

theorem go_16 (a : Int) (ha0 : 0 ≤ a) (ha1 : a ≤ 4611686018427387903) : GoodOut ([] ++ [16] ++ enc a) [a] [] := by
  obtain ⟨out, ho⟩ : ∃ l, l = [] ++ [16] ++ enc a := ⟨_, rfl⟩
  rw [← ho]
  have d0 : out.drop 1 = enc a ++ ([]) := by rw [ho]; simp
  obtain ⟨n1, d1⟩ := nm_enc d0 ha0 ha1
  have hl : out.length = 1 + esz a := by rw [ho]; simp [enc_length] <;> omega
  have hza := esz_bd a
  refine GoodOut.mk' 16 (by rw [ho]; simp) (by omega) (by omega) (by omega) (by omega) ?_ ?_
  · rw [show frT 16 out = P1 out by simp [frT], hl]
    simp [P1, n1]
  · simp [opB]

theorem go_20 (a : Int) (ha0 : 0 ≤ a) (ha1 : a ≤ 4611686018427387903) : GoodOut ([] ++ [20] ++ enc a) [a] [] := by
  obtain ⟨out, ho⟩ : ∃ l, l = [] ++ [20] ++ enc a := ⟨_, rfl⟩
  rw [← ho]
  have d0 : out.drop 1 = enc a ++ ([]) := by rw [ho]; simp
  obtain ⟨n1, d1⟩ := nm_enc d0 ha0 ha1
  have hl : out.length = 1 + esz a := by rw [ho]; simp [enc_length] <;> omega
  have hza := esz_bd a
  refine GoodOut.mk' 20 (by rw [ho]; simp) (by omega) (by omega) (by omega) (by omega) ?_ ?_
  · rw [show frT 20 out = P1 out by simp [frT], hl]
    simp [P1, n1]
  · simp [opB]

theorem go_25 (a : Int) (ha0 : 0 ≤ a) (ha1 : a ≤ 4611686018427387903) : GoodOut ([] ++ [25] ++ enc a) [a] [] := by
  obtain ⟨out, ho⟩ : ∃ l, l = [] ++ [25] ++ enc a := ⟨_, rfl⟩
  rw [← ho]
  have d0 : out.drop 1 = enc a ++ ([]) := by rw [ho]; simp
  obtain ⟨n1, d1⟩ := nm_enc d0 ha0 ha1
  have hl : out.length = 1 + esz a := by rw [ho]; simp [enc_length] <;> omega
  have hza := esz_bd a
  refine GoodOut.mk' 25 (by rw [ho]; simp) (by omega) (by omega) (by omega) (by omega) ?_ ?_
  · rw [show frT 25 out = P1 out by simp [frT], hl]
    simp [P1, n1]
  · simp [opB]

theorem go_18 (a : Int) (ha0 : 0 ≤ a) (ha1 : a ≤ 4611686018427387903) (hA : a ≤ 1152921504606846976) : GoodOut ([] ++ [18] ++ enc a) [0, a] [] := by
  obtain ⟨out, ho⟩ : ∃ l, l = [] ++ [18] ++ enc a := ⟨_, rfl⟩
  rw [← ho]
  have d0 : out.drop 1 = enc a ++ ([]) := by rw [ho]; simp
  obtain ⟨n1, d1⟩ := nm_enc d0 ha0 ha1
  have hl : out.length = 1 + esz a := by rw [ho]; simp [enc_length] <;> omega
  have hza := esz_bd a
  refine GoodOut.mk' 18 (by rw [ho]; simp) (by omega) (by omega) (by omega) (by omega) ?_ ?_
  · rw [show frT 18 out = Pms 0 out by simp [frT], hl]
    simp only [Pms, n1]
    rw [if_neg (by omega)]
  · simp [opB]

theorem go_19 (a : Int) (ha0 : 0 ≤ a) (ha1 : a ≤ 4611686018427387903) (hA : a ≤ 1152921504606846976) : GoodOut ([] ++ [19] ++ enc a) [1, a] [] := by
  obtain ⟨out, ho⟩ : ∃ l, l = [] ++ [19] ++ enc a := ⟨_, rfl⟩
  rw [← ho]
  have d0 : out.drop 1 = enc a ++ ([]) := by rw [ho]; simp
  obtain ⟨n1, d1⟩ := nm_enc d0 ha0 ha1
  have hl : out.length = 1 + esz a := by rw [ho]; simp [enc_length] <;> omega
  have hza := esz_bd a
  refine GoodOut.mk' 19 (by rw [ho]; simp) (by omega) (by omega) (by omega) (by omega) ?_ ?_
  · rw [show frT 19 out = Pms 1 out by simp [frT], hl]
    simp only [Pms, n1]
    rw [if_neg (by omega)]
  · simp [opB]

theorem go_22 (a : Int) (ha0 : 0 ≤ a) (ha1 : a ≤ 4611686018427387903) (hA : a ≤ 1152921504606846976) : GoodOut ([] ++ [22] ++ enc a) [0, a] [] := by
  obtain ⟨out, ho⟩ : ∃ l, l = [] ++ [22] ++ enc a := ⟨_, rfl⟩
  rw [← ho]
  have d0 : out.drop 1 = enc a ++ ([]) := by rw [ho]; simp
  obtain ⟨n1, d1⟩ := nm_enc d0 ha0 ha1
  have hl : out.length = 1 + esz a := by rw [ho]; simp [enc_length] <;> omega
  have hza := esz_bd a
  refine GoodOut.mk' 22 (by rw [ho]; simp) (by omega) (by omega) (by omega) (by omega) ?_ ?_
  · rw [show frT 22 out = Psb 0 out by simp [frT], hl]
    simp [Psb, n1]
  · intro h
    rcases h with ⟨h, -⟩ | ⟨-, h⟩ | ⟨h, -⟩
    · simp at h
    · simp at h; omega
    · simp at h

theorem go_23 (a : Int) (ha0 : 0 ≤ a) (ha1 : a ≤ 4611686018427387903) (hA : a ≤ 1152921504606846976) : GoodOut ([] ++ [23] ++ enc a) [1, a] [] := by
  obtain ⟨out, ho⟩ : ∃ l, l = [] ++ [23] ++ enc a := ⟨_, rfl⟩
  rw [← ho]
  have d0 : out.drop 1 = enc a ++ ([]) := by rw [ho]; simp
  obtain ⟨n1, d1⟩ := nm_enc d0 ha0 ha1
  have hl : out.length = 1 + esz a := by rw [ho]; simp [enc_length] <;> omega
  have hza := esz_bd a
  refine GoodOut.mk' 23 (by rw [ho]; simp) (by omega) (by omega) (by omega) (by omega) ?_ ?_
  · rw [show frT 23 out = Psb 1 out by simp [frT], hl]
    simp [Psb, n1]
  · intro h
    rcases h with ⟨h, -⟩ | ⟨-, h⟩ | ⟨h, -⟩
    · simp at h
    · simp at h; omega
    · simp at h

theorem go_6 (b : Int) (hb0 : 0 ≤ b) (hb1 : b ≤ 4611686018427387903) (m : Nat) (x : List Int) (hm : x.length = m) (hm2 : m ≤ 1000) (hA : b + (x.length : Int) ≤ 4611686018427387903) : GoodOut ([] ++ [6] ++ enc b ++ enc (m : Nat) ++ x) [b] [x] := by
  obtain ⟨out, ho⟩ : ∃ l, l = [] ++ [6] ++ enc b ++ enc (m : Nat) ++ x := ⟨_, rfl⟩
  rw [← ho]
  have d0 : out.drop 1 = enc b ++ (enc (m : Nat) ++ (x ++ ([]))) := by rw [ho]; simp
  obtain ⟨n1, d1⟩ := nm_enc d0 hb0 hb1
  obtain ⟨n2, d2⟩ := vbs_enc d1 hm (by omega)
  have hl : out.length = 1 + esz b + esz (m : Nat) + m := by rw [ho]; simp [enc_length, hm] <;> omega
  have hzb := esz_bd b
  have hzm := esz_bd (m : Nat)
  refine GoodOut.mk' 6 (by rw [ho]; simp) (by omega) (by omega) (by omega) (by omega) ?_ ?_
  · rw [show frT 6 out = Pcr out by simp [frT], hl]
    simp [Pcr, n1, n2]
  · exact not_op6 hA

theorem go_7 (m : Nat) (x : List Int) (hm : x.length = m) (hm2 : m ≤ 1000) (hA : x.length ≠ 0) : GoodOut ([] ++ [7] ++ enc (m : Nat) ++ x) [] [x] := by
  obtain ⟨out, ho⟩ : ∃ l, l = [] ++ [7] ++ enc (m : Nat) ++ x := ⟨_, rfl⟩
  rw [← ho]
  have d0 : out.drop 1 = enc (m : Nat) ++ (x ++ ([])) := by rw [ho]; simp
  obtain ⟨n1, d1⟩ := vbs_enc d0 hm (by omega)
  have hl : out.length = 1 + esz (m : Nat) + m := by rw [ho]; simp [enc_length, hm] <;> omega
  have hzm := esz_bd (m : Nat)
  refine GoodOut.mk' 7 (by rw [ho]; simp) (by omega) (by omega) (by omega) (by omega) ?_ ?_
  · rw [show frT 7 out = Ptk out by simp [frT], hl]
    simp only [Ptk, n1]
    rw [if_neg hA]
  · simp [opB]

theorem go_28 (a b : Int) (ha0 : 0 ≤ a) (ha1 : a ≤ 4611686018427387903) (hb0 : 0 ≤ b) (hb1 : b ≤ 4611686018427387903) (m : Nat) (x : List Int) (hm : x.length = m) (hm2 : m ≤ 1000) : GoodOut ([] ++ [28] ++ enc a ++ enc b ++ enc (m : Nat) ++ x) [a, b] [x] := by
  obtain ⟨out, ho⟩ : ∃ l, l = [] ++ [28] ++ enc a ++ enc b ++ enc (m : Nat) ++ x := ⟨_, rfl⟩
  rw [← ho]
  have d0 : out.drop 1 = enc a ++ (enc b ++ (enc (m : Nat) ++ (x ++ ([])))) := by rw [ho]; simp
  obtain ⟨n1, d1⟩ := nm_enc d0 ha0 ha1
  obtain ⟨n2, d2⟩ := nm_enc d1 hb0 hb1
  obtain ⟨n3, d3⟩ := vbs_enc d2 hm (by omega)
  have hl : out.length = 1 + esz a + esz b + esz (m : Nat) + m := by rw [ho]; simp [enc_length, hm] <;> omega
  have hza := esz_bd a
  have hzb := esz_bd b
  have hzm := esz_bd (m : Nat)
  refine GoodOut.mk' 28 (by rw [ho]; simp) (by omega) (by omega) (by omega) (by omega) ?_ ?_
  · rw [show frT 28 out = Pct out by simp [frT], hl]
    simp [Pct, n1, n2, n3]
  · simp [opB]

theorem go_29 (a : Int) (ha0 : 0 ≤ a) (ha1 : a ≤ 4611686018427387903) (m : Nat) (x : List Int) (hm : x.length = m) (hm2 : m ≤ 1000) : GoodOut ([] ++ [29] ++ enc a ++ enc (m : Nat) ++ x) [a] [x] := by
  obtain ⟨out, ho⟩ : ∃ l, l = [] ++ [29] ++ enc a ++ enc (m : Nat) ++ x := ⟨_, rfl⟩
  rw [← ho]
  have d0 : out.drop 1 = enc a ++ (enc (m : Nat) ++ (x ++ ([]))) := by rw [ho]; simp
  obtain ⟨n1, d1⟩ := nm_enc d0 ha0 ha1
  obtain ⟨n2, d2⟩ := vbs_enc d1 hm (by omega)
  have hl : out.length = 1 + esz a + esz (m : Nat) + m := by rw [ho]; simp [enc_length, hm] <;> omega
  have hza := esz_bd a
  have hzm := esz_bd (m : Nat)
  refine GoodOut.mk' 29 (by rw [ho]; simp) (by omega) (by omega) (by omega) (by omega) ?_ ?_
  · rw [show frT 29 out = Pcr out by simp [frT], hl]
    simp [Pcr, n1, n2]
  · simp [opB]

theorem go_s10 (a : Int) (ha0 : 0 ≤ a) (ha1 : a ≤ 4611686018427387903) (m : Nat) (x : List Int) (hm : x.length = m) (hm2 : m ≤ 1000) (hA : 0 + (x.length : Int) ≤ 4611686018427387903) : GoodOut ([] ++ [10] ++ enc a ++ enc (m : Nat) ++ x) [a, 0, 0] [x] := by
  obtain ⟨out, ho⟩ : ∃ l, l = [] ++ [10] ++ enc a ++ enc (m : Nat) ++ x := ⟨_, rfl⟩
  rw [← ho]
  have d0 : out.drop 1 = enc a ++ (enc (m : Nat) ++ (x ++ ([]))) := by rw [ho]; simp
  obtain ⟨n1, d1⟩ := nm_enc d0 ha0 ha1
  obtain ⟨n2, d2⟩ := vbs_enc d1 hm (by omega)
  have hl : out.length = 1 + esz a + esz (m : Nat) + m := by rw [ho]; simp [enc_length, hm] <;> omega
  have hza := esz_bd a
  have hzm := esz_bd (m : Nat)
  refine GoodOut.mk' 10 (by rw [ho]; simp) (by omega) (by omega) (by omega) (by omega) ?_ ?_
  · rw [show frT 10 out = Pst 10 out by simp [frT]]
    have e2 : Pof 10 out (1 + esz a) = some (0, (1 + esz a)) := by simp [Pof]
    have e3 : Pda 10 out (1 + esz a) = some (x, (1 + esz a) + esz (m : Nat) + m) := by simp [Pda, n2]
    rw [Pst_of' n1 e2 e3, if_neg (by omega), hl]
    rfl
  · simp [opB]

theorem go_s11 (a : Int) (ha0 : 0 ≤ a) (ha1 : a ≤ 4611686018427387903) (m : Nat) (x : List Int) (hm : x.length = m) (hm2 : m ≤ 1000) (hA : 0 + (x.length : Int) ≤ 4611686018427387903) : GoodOut ([] ++ [11] ++ enc a ++ enc (m : Nat) ++ x) [a, 0, 1] [x] := by
  obtain ⟨out, ho⟩ : ∃ l, l = [] ++ [11] ++ enc a ++ enc (m : Nat) ++ x := ⟨_, rfl⟩
  rw [← ho]
  have d0 : out.drop 1 = enc a ++ (enc (m : Nat) ++ (x ++ ([]))) := by rw [ho]; simp
  obtain ⟨n1, d1⟩ := nm_enc d0 ha0 ha1
  obtain ⟨n2, d2⟩ := vbs_enc d1 hm (by omega)
  have hl : out.length = 1 + esz a + esz (m : Nat) + m := by rw [ho]; simp [enc_length, hm] <;> omega
  have hza := esz_bd a
  have hzm := esz_bd (m : Nat)
  refine GoodOut.mk' 11 (by rw [ho]; simp) (by omega) (by omega) (by omega) (by omega) ?_ ?_
  · rw [show frT 11 out = Pst 11 out by simp [frT]]
    have e2 : Pof 11 out (1 + esz a) = some (0, (1 + esz a)) := by simp [Pof]
    have e3 : Pda 11 out (1 + esz a) = some (x, (1 + esz a) + esz (m : Nat) + m) := by simp [Pda, n2]
    rw [Pst_of' n1 e2 e3, if_neg (by omega), hl]
    rfl
  · simp [opB]

theorem go_s14 (a b : Int) (ha0 : 0 ≤ a) (ha1 : a ≤ 4611686018427387903) (hb0 : 0 ≤ b) (hb1 : b ≤ 4611686018427387903) (m : Nat) (x : List Int) (hm : x.length = m) (hm2 : m ≤ 1000) (hA : b + (x.length : Int) ≤ 4611686018427387903) : GoodOut ([] ++ [14] ++ enc a ++ enc b ++ enc (m : Nat) ++ x) [a, b, 0] [x] := by
  obtain ⟨out, ho⟩ : ∃ l, l = [] ++ [14] ++ enc a ++ enc b ++ enc (m : Nat) ++ x := ⟨_, rfl⟩
  rw [← ho]
  have d0 : out.drop 1 = enc a ++ (enc b ++ (enc (m : Nat) ++ (x ++ ([])))) := by rw [ho]; simp
  obtain ⟨n1, d1⟩ := nm_enc d0 ha0 ha1
  obtain ⟨n2, d2⟩ := nm_enc d1 hb0 hb1
  obtain ⟨n3, d3⟩ := vbs_enc d2 hm (by omega)
  have hl : out.length = 1 + esz a + esz b + esz (m : Nat) + m := by rw [ho]; simp [enc_length, hm] <;> omega
  have hza := esz_bd a
  have hzb := esz_bd b
  have hzm := esz_bd (m : Nat)
  refine GoodOut.mk' 14 (by rw [ho]; simp) (by omega) (by omega) (by omega) (by omega) ?_ ?_
  · rw [show frT 14 out = Pst 14 out by simp [frT]]
    have e2 : Pof 14 out (1 + esz a) = some (b, (1 + esz a + esz b)) := by simp [Pof, n2]
    have e3 : Pda 14 out (1 + esz a + esz b) = some (x, (1 + esz a + esz b) + esz (m : Nat) + m) := by simp [Pda, n3]
    rw [Pst_of' n1 e2 e3, if_neg (by omega), hl]
    rfl
  · simp [opB]

theorem go_s15 (a b : Int) (ha0 : 0 ≤ a) (ha1 : a ≤ 4611686018427387903) (hb0 : 0 ≤ b) (hb1 : b ≤ 4611686018427387903) (m : Nat) (x : List Int) (hm : x.length = m) (hm2 : m ≤ 1000) (hA : b + (x.length : Int) ≤ 4611686018427387903) : GoodOut ([] ++ [15] ++ enc a ++ enc b ++ enc (m : Nat) ++ x) [a, b, 1] [x] := by
  obtain ⟨out, ho⟩ : ∃ l, l = [] ++ [15] ++ enc a ++ enc b ++ enc (m : Nat) ++ x := ⟨_, rfl⟩
  rw [← ho]
  have d0 : out.drop 1 = enc a ++ (enc b ++ (enc (m : Nat) ++ (x ++ ([])))) := by rw [ho]; simp
  obtain ⟨n1, d1⟩ := nm_enc d0 ha0 ha1
  obtain ⟨n2, d2⟩ := nm_enc d1 hb0 hb1
  obtain ⟨n3, d3⟩ := vbs_enc d2 hm (by omega)
  have hl : out.length = 1 + esz a + esz b + esz (m : Nat) + m := by rw [ho]; simp [enc_length, hm] <;> omega
  have hza := esz_bd a
  have hzb := esz_bd b
  have hzm := esz_bd (m : Nat)
  refine GoodOut.mk' 15 (by rw [ho]; simp) (by omega) (by omega) (by omega) (by omega) ?_ ?_
  · rw [show frT 15 out = Pst 15 out by simp [frT]]
    have e2 : Pof 15 out (1 + esz a) = some (b, (1 + esz a + esz b)) := by simp [Pof, n2]
    have e3 : Pda 15 out (1 + esz a + esz b) = some (x, (1 + esz a + esz b) + esz (m : Nat) + m) := by simp [Pda, n3]
    rw [Pst_of' n1 e2 e3, if_neg (by omega), hl]
    rfl
  · simp [opB]

theorem go_26 (x0 x1 x2 x3 x4 x5 x6 x7 : Int) : GoodOut ([] ++ [26] ++ [x0, x1, x2, x3, x4, x5, x6, x7]) [] [[x0, x1, x2, x3, x4, x5, x6, x7]] := by
  obtain ⟨out, ho⟩ : ∃ l, l = [] ++ [26] ++ [x0, x1, x2, x3, x4, x5, x6, x7] := ⟨_, rfl⟩
  rw [← ho]
  have d0 : out.drop 1 = [x0, x1, x2, x3, x4, x5, x6, x7] ++ ([]) := by rw [ho]; simp
  have hl : out.length = 1 + 8 := by rw [ho]; simp [enc_length] <;> omega
  refine GoodOut.mk' 26 (by rw [ho]; simp) (by omega) (by omega) (by omega) (by omega) ?_ ?_
  · rw [show frT 26 out = Ppc out by simp [frT], Ppc, if_neg (by omega), hl, d0]
    rfl
  · simp [opB]

theorem go_27 (x0 x1 x2 x3 x4 x5 x6 x7 : Int) : GoodOut ([] ++ [27] ++ [x0, x1, x2, x3, x4, x5, x6, x7]) [] [[x0, x1, x2, x3, x4, x5, x6, x7]] := by
  obtain ⟨out, ho⟩ : ∃ l, l = [] ++ [27] ++ [x0, x1, x2, x3, x4, x5, x6, x7] := ⟨_, rfl⟩
  rw [← ho]
  have d0 : out.drop 1 = [x0, x1, x2, x3, x4, x5, x6, x7] ++ ([]) := by rw [ho]; simp
  have hl : out.length = 1 + 8 := by rw [ho]; simp [enc_length] <;> omega
  refine GoodOut.mk' 27 (by rw [ho]; simp) (by omega) (by omega) (by omega) (by omega) ?_ ?_
  · rw [show frT 27 out = Ppc out by simp [frT], Ppc, if_neg (by omega), hl, d0]
    rfl
  · simp [opB]

theorem go_24 (a b : Int) (ha0 : 0 ≤ a) (ha1 : a ≤ 4611686018427387903) (hb0 : 0 ≤ b) (hb1 : b ≤ 4611686018427387903) (hab : b ≤ a) (m : Nat) (x : List Int) (hm : x.length = m) (hm0 : 1 ≤ m) (hm2 : m ≤ 20) (x0 x1 x2 x3 x4 x5 x6 x7 x8 x9 x10 x11 x12 x13 x14 x15 : Int) : GoodOut ([] ++ [24] ++ enc a ++ enc b ++ [(m : Int)] ++ x ++ [x0, x1, x2, x3, x4, x5, x6, x7, x8, x9, x10, x11, x12, x13, x14, x15]) [a, b] [x, [x0, x1, x2, x3, x4, x5, x6, x7, x8, x9, x10, x11, x12, x13, x14, x15]] := by
  obtain ⟨out, ho⟩ : ∃ l, l = [] ++ [24] ++ enc a ++ enc b ++ [(m : Int)] ++ x ++ [x0, x1, x2, x3, x4, x5, x6, x7, x8, x9, x10, x11, x12, x13, x14, x15] := ⟨_, rfl⟩
  rw [← ho]
  have d0 : out.drop 1 = enc a ++ (enc b ++ (enc (m : Nat) ++ (x ++ ([x0, x1, x2, x3, x4, x5, x6, x7, x8, x9, x10, x11, x12, x13, x14, x15] ++ ([]))))) := by rw [ho]; simp [enc_small (show m ≤ 63 by omega)]
  obtain ⟨n1, d1⟩ := nm_enc d0 ha0 ha1
  obtain ⟨n2, d2⟩ := nm_enc d1 hb0 hb1
  obtain ⟨n3, d3⟩ := vbs_enc d2 hm (by omega)
  have hl : out.length = 1 + esz a + esz b + esz (m : Nat) + m + 16 := by rw [ho]; simp [enc_length, hm, esz_small (show m ≤ 63 by omega)] <;> omega
  have hza := esz_bd a
  have hzb := esz_bd b
  have hzm := esz_bd (m : Nat)
  refine GoodOut.mk' 24 (by rw [ho]; simp) (by omega) (by omega) (by omega) (by omega) ?_ ?_
  · rw [show frT 24 out = Pid out by simp [frT], hl]
    simp only [Pid, n1, n2, n3, hm]
    rw [if_neg (by omega), if_neg (by omega), if_neg (by omega), d3]
    rfl
  · intro h
    rcases h with ⟨h, -⟩ | ⟨h, -⟩ | ⟨-, a', ka, b', kb, i1, i2, i3⟩
    · simp at h
    · simp at h
    · rw [n1] at i1
      obtain ⟨rfl, rfl⟩ : a = a' ∧ 1 + esz a = ka := by simpa using i1
      rw [n2] at i2
      obtain ⟨rfl, rfl⟩ : b = b' ∧ 1 + esz a + esz b = kb := by simpa using i2
      have e : out.getD (1 + esz a + esz b) 0 = (m : Int) := by
        have := congrArg (fun l => l.getD 0 0) d2
        simpa [List.getD, enc_small (show m ≤ 63 by omega)] using this
      omega

theorem Bs.mem_drop {l : List Int} (h : Bs l) (k : Nat) : Bs (l.drop k) := h.drop k
theorem vbs_bd {l : List Int} (hl : Bs l) {k : Nat} {d : List Int} {k' : Nat} (h : vbs l k = some (d, k')) : Bs d ∧ d.length ≤ l.length := by
  unfold vbs at h
  cases hv : rvb (l.drop k) with
  | none => rw [hv] at h; cases h
  | some p =>
    obtain ⟨bs, m⟩ := p
    rw [hv] at h
    simp only [Option.some.injEq, Prod.mk.injEq] at h
    obtain ⟨rfl, -⟩ := h
    have h := rvb_bd (hl.drop k) hv
    have := List.length_drop (i := k) (l := l)
    exact ⟨h.2.2.2, by omega⟩

theorem P1_inv {l : List Int} (hl : Bs l) {vs : List Int} {ds : List (List Int)} {k : Nat} (h : P1 l = some (vs, ds, k)) : ∃ a, vs = [a] ∧ ds = [] ∧ (0 ≤ a ∧ a ≤ 4611686018427387903) := by
  unfold P1 at h
  cases ea : nm l 1 with
  | none => rw [ea] at h; cases h
  | some qa =>
    obtain ⟨a, ka⟩ := qa
    rw [ea] at h
    simp only at h
    have ba := nm_bd hl ea
    simp only [Option.some.injEq, Prod.mk.injEq] at h
    obtain ⟨rfl, rfl, -⟩ := h
    exact ⟨a, rfl, rfl, ⟨ba.1, ba.2.1⟩⟩

theorem P2_inv {l : List Int} (hl : Bs l) {vs : List Int} {ds : List (List Int)} {k : Nat} (h : P2 l = some (vs, ds, k)) : ∃ a b, vs = [a, b] ∧ ds = [] ∧ (0 ≤ a ∧ a ≤ 4611686018427387903) ∧ (0 ≤ b ∧ b ≤ 4611686018427387903) := by
  unfold P2 at h
  cases ea : nm l 1 with
  | none => rw [ea] at h; cases h
  | some qa =>
    obtain ⟨a, ka⟩ := qa
    rw [ea] at h
    simp only at h
    have ba := nm_bd hl ea
    cases eb : nm l ka with
    | none => rw [eb] at h; cases h
    | some qb =>
      obtain ⟨b, kb⟩ := qb
      rw [eb] at h
      simp only at h
      have bb := nm_bd hl eb
      simp only [Option.some.injEq, Prod.mk.injEq] at h
      obtain ⟨rfl, rfl, -⟩ := h
      exact ⟨a, b, rfl, rfl, ⟨ba.1, ba.2.1⟩, ⟨bb.1, bb.2.1⟩⟩

theorem P3_inv {l : List Int} (hl : Bs l) {vs : List Int} {ds : List (List Int)} {k : Nat} (h : P3 l = some (vs, ds, k)) : ∃ a b d, vs = [a, b, d] ∧ ds = [] ∧ (0 ≤ a ∧ a ≤ 4611686018427387903) ∧ (0 ≤ b ∧ b ≤ 4611686018427387903) ∧ (0 ≤ d ∧ d ≤ 4611686018427387903) := by
  unfold P3 at h
  cases ea : nm l 1 with
  | none => rw [ea] at h; cases h
  | some qa =>
    obtain ⟨a, ka⟩ := qa
    rw [ea] at h
    simp only at h
    have ba := nm_bd hl ea
    cases eb : nm l ka with
    | none => rw [eb] at h; cases h
    | some qb =>
      obtain ⟨b, kb⟩ := qb
      rw [eb] at h
      simp only at h
      have bb := nm_bd hl eb
      cases ed : nm l kb with
      | none => rw [ed] at h; cases h
      | some qd =>
        obtain ⟨d, kd⟩ := qd
        rw [ed] at h
        simp only at h
        have bd := nm_bd hl ed
        simp only [Option.some.injEq, Prod.mk.injEq] at h
        obtain ⟨rfl, rfl, -⟩ := h
        exact ⟨a, b, d, rfl, rfl, ⟨ba.1, ba.2.1⟩, ⟨bb.1, bb.2.1⟩, ⟨bd.1, bd.2.1⟩⟩

theorem Pms_inv {y : Int} {l : List Int} (hl : Bs l) {vs : List Int} {ds : List (List Int)} {k : Nat} (h : Pms y l = some (vs, ds, k)) : ∃ a, vs = [y, a] ∧ ds = [] ∧ a ≤ 1152921504606846976 ∧ (0 ≤ a ∧ a ≤ 4611686018427387903) := by
  unfold Pms at h
  cases ea : nm l 1 with
  | none => rw [ea] at h; cases h
  | some qa =>
    obtain ⟨a, ka⟩ := qa
    rw [ea] at h
    simp only at h
    have ba := nm_bd hl ea
    by_cases c1 : 1152921504606846976 < a
    · rw [if_pos c1] at h; cases h
    rw [if_neg c1] at h
    simp only [Option.some.injEq, Prod.mk.injEq] at h
    obtain ⟨rfl, rfl, -⟩ := h
    exact ⟨a, rfl, rfl, by omega, ⟨ba.1, ba.2.1⟩⟩

theorem Psb_inv {y : Int} {l : List Int} (hl : Bs l) {vs : List Int} {ds : List (List Int)} {k : Nat} (h : Psb y l = some (vs, ds, k)) : ∃ a, vs = [y, a] ∧ ds = [] ∧ (0 ≤ a ∧ a ≤ 4611686018427387903) := by
  unfold Psb at h
  cases ea : nm l 1 with
  | none => rw [ea] at h; cases h
  | some qa =>
    obtain ⟨a, ka⟩ := qa
    rw [ea] at h
    simp only at h
    have ba := nm_bd hl ea
    simp only [Option.some.injEq, Prod.mk.injEq] at h
    obtain ⟨rfl, rfl, -⟩ := h
    exact ⟨a, rfl, rfl, ⟨ba.1, ba.2.1⟩⟩

theorem Pcr_inv {l : List Int} (hl : Bs l) {vs : List Int} {ds : List (List Int)} {k : Nat} (h : Pcr l = some (vs, ds, k)) : ∃ a x, vs = [a] ∧ ds = [x] ∧ Bs x ∧ x.length ≤ l.length ∧ (0 ≤ a ∧ a ≤ 4611686018427387903) := by
  unfold Pcr at h
  cases ea : nm l 1 with
  | none => rw [ea] at h; cases h
  | some qa =>
    obtain ⟨a, ka⟩ := qa
    rw [ea] at h
    simp only at h
    have ba := nm_bd hl ea
    cases ex : vbs l ka with
    | none => rw [ex] at h; cases h
    | some qx =>
      obtain ⟨x, kx⟩ := qx
      rw [ex] at h
      simp only at h
      have bx := vbs_bd hl ex
      simp only [Option.some.injEq, Prod.mk.injEq] at h
      obtain ⟨rfl, rfl, -⟩ := h
      exact ⟨a, x, rfl, rfl, bx.1, bx.2, ⟨ba.1, ba.2.1⟩⟩

theorem Ptk_inv {l : List Int} (hl : Bs l) {vs : List Int} {ds : List (List Int)} {k : Nat} (h : Ptk l = some (vs, ds, k)) : ∃ x, vs = [] ∧ ds = [x] ∧ Bs x ∧ x.length ≤ l.length ∧ x.length ≠ 0 := by
  unfold Ptk at h
  cases ex : vbs l 1 with
  | none => rw [ex] at h; cases h
  | some qx =>
    obtain ⟨x, kx⟩ := qx
    rw [ex] at h
    simp only at h
    have bx := vbs_bd hl ex
    by_cases c1 : x.length = 0
    · rw [if_pos c1] at h; cases h
    rw [if_neg c1] at h
    simp only [Option.some.injEq, Prod.mk.injEq] at h
    obtain ⟨rfl, rfl, -⟩ := h
    exact ⟨x, rfl, rfl, bx.1, bx.2, c1⟩

theorem Pct_inv {l : List Int} (hl : Bs l) {vs : List Int} {ds : List (List Int)} {k : Nat} (h : Pct l = some (vs, ds, k)) : ∃ a b x, vs = [a, b] ∧ ds = [x] ∧ Bs x ∧ x.length ≤ l.length ∧ (0 ≤ a ∧ a ≤ 4611686018427387903) ∧ (0 ≤ b ∧ b ≤ 4611686018427387903) := by
  unfold Pct at h
  cases ea : nm l 1 with
  | none => rw [ea] at h; cases h
  | some qa =>
    obtain ⟨a, ka⟩ := qa
    rw [ea] at h
    simp only at h
    have ba := nm_bd hl ea
    cases eb : nm l ka with
    | none => rw [eb] at h; cases h
    | some qb =>
      obtain ⟨b, kb⟩ := qb
      rw [eb] at h
      simp only at h
      have bb := nm_bd hl eb
      cases ex : vbs l kb with
      | none => rw [ex] at h; cases h
      | some qx =>
        obtain ⟨x, kx⟩ := qx
        rw [ex] at h
        simp only at h
        have bx := vbs_bd hl ex
        simp only [Option.some.injEq, Prod.mk.injEq] at h
        obtain ⟨rfl, rfl, -⟩ := h
        exact ⟨a, b, x, rfl, rfl, bx.1, bx.2, ⟨ba.1, ba.2.1⟩, ⟨bb.1, bb.2.1⟩⟩

theorem Ppc_inv {l : List Int} (hl : Bs l) {vs : List Int} {ds : List (List Int)} {k : Nat} (h : Ppc l = some (vs, ds, k)) : ∃ x, vs = [] ∧ ds = [x] ∧ Bs x ∧ x.length = 8 := by
  unfold Ppc at h
  by_cases c1 : l.length < 9
  · rw [if_pos c1] at h; cases h
  rw [if_neg c1] at h
  simp only [Option.some.injEq, Prod.mk.injEq] at h
  obtain ⟨rfl, rfl, -⟩ := h
  exact ⟨_, rfl, rfl, (hl.drop 1).take 8, by rw [List.length_take, List.length_drop]; omega⟩

theorem Pid_inv {l : List Int} (hl : Bs l) {vs : List Int} {ds : List (List Int)} {k : Nat} (h : Pid l = some (vs, ds, k)) : ∃ a b x t, vs = [a, b] ∧ ds = [x, t] ∧ Bs x ∧ Bs t ∧ b ≤ a ∧ 1 ≤ x.length ∧ x.length ≤ 20 ∧ t.length = 16 ∧ (0 ≤ a ∧ a ≤ 4611686018427387903) ∧ (0 ≤ b ∧ b ≤ 4611686018427387903) := by
  unfold Pid at h
  cases ea : nm l 1 with
  | none => rw [ea] at h; cases h
  | some qa =>
    obtain ⟨a, ka⟩ := qa
    rw [ea] at h
    simp only at h
    have ba := nm_bd hl ea
    cases eb : nm l ka with
    | none => rw [eb] at h; cases h
    | some qb =>
      obtain ⟨b, kb⟩ := qb
      rw [eb] at h
      simp only at h
      have bb := nm_bd hl eb
      by_cases c1 : a < b
      · rw [if_pos c1] at h; cases h
      rw [if_neg c1] at h
      cases ex : vbs l kb with
      | none => rw [ex] at h; cases h
      | some qx =>
        obtain ⟨x, kx⟩ := qx
        rw [ex] at h
        simp only at h
        have bx := vbs_bd hl ex
        by_cases c2 : x.length < 1 ∨ 20 < x.length
        · rw [if_pos c2] at h; cases h
        rw [if_neg c2] at h
        by_cases c3 : l.length < kx + 16
        · rw [if_pos c3] at h; cases h
        rw [if_neg c3] at h
        simp only [Option.some.injEq, Prod.mk.injEq] at h
        obtain ⟨rfl, rfl, -⟩ := h
        exact ⟨a, b, x, _, rfl, rfl, bx.1, (hl.drop _).take _, by omega, by omega, by omega, by rw [List.length_take, List.length_drop]; omega, ⟨ba.1, ba.2.1⟩, ⟨bb.1, bb.2.1⟩⟩

theorem Pst_inv {t : Int} {l : List Int} (hl : Bs l) {vs : List Int} {ds : List (List Int)} {k : Nat} (h : Pst t l = some (vs, ds, k)) : ∃ a b x, vs = [a, b, t % 2] ∧ ds = [x] ∧ Bs x ∧ x.length ≤ l.length ∧ b + (x.length : Int) ≤ 4611686018427387903 ∧ (0 ≤ a ∧ a ≤ 4611686018427387903) ∧ (0 ≤ b ∧ b ≤ 4611686018427387903) := by
  unfold Pst at h
  cases ea : nm l 1 with
  | none => rw [ea] at h; cases h
  | some qa =>
    obtain ⟨a, ka⟩ := qa
    rw [ea] at h
    simp only at h
    have ba := nm_bd hl ea
    cases eb : Pof t l ka with
    | none => rw [eb] at h; cases h
    | some qb =>
      obtain ⟨b, kb⟩ := qb
      rw [eb] at h
      simp only at h
      have bb : 0 ≤ b ∧ b ≤ 4611686018427387903 := by
        unfold Pof at eb
        split at eb
        · have := nm_bd hl eb
          omega
        · simp only [Option.some.injEq, Prod.mk.injEq] at eb
          omega
      cases ex : Pda t l kb with
      | none => rw [ex] at h; cases h
      | some qx =>
        obtain ⟨x, kx⟩ := qx
        rw [ex] at h
        simp only at h
        have bx : Bs x ∧ x.length ≤ l.length := by
          unfold Pda at ex
          split at ex
          · exact vbs_bd hl ex
          · simp only [Option.some.injEq, Prod.mk.injEq] at ex
            rw [← ex.1]
            exact ⟨hl.drop _, by rw [List.length_drop]; omega⟩
        by_cases c1 : 4611686018427387904 ≤ b + (x.length : Int)
        · rw [if_pos c1] at h; cases h
        rw [if_neg c1] at h
        simp only [Option.some.injEq, Prod.mk.injEq] at h
        obtain ⟨rfl, rfl, -⟩ := h
        exact ⟨a, b, x, rfl, rfl, bx.1, bx.2, by omega, ⟨ba.1, ba.2.1⟩, bb⟩
end

section
open Go.RowKit
set_option linter.unusedVariables false
set_option linter.unusedSimpArgs false

/-- What writing a frame answers. -/
def PzEnd (w : World) (vs : List Int) (ds : List (List Int)) (e : Ending) (w' : World) : Prop := ∃ out, PfEnd w out e w' ∧ GoodOut out vs ds

theorem pzz (t : Int) (ht : 4 ≤ t ∧ t ≤ 29) {l : List Int} (hl : Bs l) (hlen : l.length ≤ 1000) {vs : List Int} {ds : List (List Int)} {k : Nat} (hG : frG t l = some (vs, ds, k)) (AV : Option Addr) (nV cV : Nat) (AD : Option Addr) (nD cD : Nat) (w : World) (hv : RdE EI w AV vs) (hnV : Hid (vs.length = nV)) (hd : RdD w AD nD ds) (hnD : Hid (ds.length = nD)) :
    Calls Try.prog 14 #[.int .u8 t, .slice AV nV cV, .slice AD nD cD, .int .i64 10000] w fun e w' => PzEnd w vs ds e w' := by
  have hT := frG_some hG
  have h : t = 4 ∨ t = 5 ∨ t = 6 ∨ t = 7 ∨ t = 8 ∨ t = 9 ∨ t = 10 ∨ t = 11 ∨ t = 12 ∨ t = 13 ∨ t = 14 ∨ t = 15 ∨ t = 16 ∨ t = 17 ∨ t = 18 ∨ t = 19 ∨ t = 20 ∨ t = 21 ∨ t = 22 ∨ t = 23 ∨ t = 24 ∨ t = 25 ∨ t = 26 ∨ t = 27 ∨ t = 28 ∨ t = 29 := by omega
  rcases h with rfl | rfl | rfl | rfl | rfl | rfl | rfl | rfl | rfl | rfl | rfl | rfl | rfl | rfl | rfl | rfl | rfl | rfl | rfl | rfl | rfl | rfl | rfl | rfl | rfl | rfl
  · rw [show frT 4 l = P3 l by simp [frT]] at hT
    obtain ⟨a, b, d, rfl, rfl, ⟨ha0, ha1⟩, ⟨hb0, hb1⟩, ⟨hd0, hd1⟩⟩ := P3_inv hl hT
    exact (pf_4 a b d ha0 ha1 hb0 hb1 hd0 hd1 AV nV cV AD nD cD w hv hnV hd).mono fun e w' h => ⟨_, h, go_4 a b d ha0 ha1 hb0 hb1 hd0 hd1⟩
  · rw [show frT 5 l = P2 l by simp [frT]] at hT
    obtain ⟨a, b, rfl, rfl, ⟨ha0, ha1⟩, ⟨hb0, hb1⟩⟩ := P2_inv hl hT
    exact (pf_5 a b ha0 ha1 hb0 hb1 AV nV cV AD nD cD w hv hnV hd).mono fun e w' h => ⟨_, h, go_5 a b ha0 ha1 hb0 hb1⟩
  · have hO : ¬ opB 6 l (vs, ds, k) := fun ho => by rw [frG_open hT ho] at hG; cases hG
    rw [show frT 6 l = Pcr l by simp [frT]] at hT
    obtain ⟨b, x, rfl, rfl, hx, hxl, ⟨hb0, hb1⟩⟩ := Pcr_inv hl hT
    have hA : b + (x.length : Int) ≤ 4611686018427387903 := by
      refine Int.not_lt.1 fun h => hO (.inl ⟨rfl, ?_⟩)
      simpa using h
    exact (pf_6 b hb0 hb1 x.length x rfl (by omega) AV nV cV AD nD cD w hv hnV hd (show Hid (nD = 1) from hnD.out.symm)).mono fun e w' h => ⟨_, h, go_6 b hb0 hb1 x.length x rfl (by omega) hA⟩
  · rw [show frT 7 l = Ptk l by simp [frT]] at hT
    obtain ⟨x, rfl, rfl, hx, hxl, hA⟩ := Ptk_inv hl hT
    exact (pf_7 x.length x rfl (by omega) AV nV cV AD nD cD w hv hnV hd (show Hid (nD = 1) from hnD.out.symm)).mono fun e w' h => ⟨_, h, go_7 x.length x rfl (by omega) hA⟩
  · rw [show frT 8 l = Pst 8 l by simp [frT]] at hT
    obtain ⟨a, b, x, hvs, rfl, hx, hxl, hA, ⟨ha0, ha1⟩, ⟨hb0, hb1⟩⟩ := Pst_inv hl hT
    obtain rfl : vs = [a, b, 0] := hvs
    by_cases hb : b = 0
    · subst hb
      exact (pf_s10 8 (by omega) (by omega) a ha0 ha1 x.length x rfl (by omega) AV nV cV AD nD cD w hv hnV hd (show Hid (nD = 1) from hnD.out.symm)).mono fun e w' h => ⟨_, h, go_s10 a ha0 ha1 x.length x rfl (by omega) hA⟩
    · exact (pf_s14 8 (by omega) (by omega) a b ha0 ha1 hb0 hb1 x.length x rfl (by omega) hb AV nV cV AD nD cD w hv hnV hd (show Hid (nD = 1) from hnD.out.symm)).mono fun e w' h => ⟨_, h, go_s14 a b ha0 ha1 hb0 hb1 x.length x rfl (by omega) hA⟩
  · rw [show frT 9 l = Pst 9 l by simp [frT]] at hT
    obtain ⟨a, b, x, hvs, rfl, hx, hxl, hA, ⟨ha0, ha1⟩, ⟨hb0, hb1⟩⟩ := Pst_inv hl hT
    obtain rfl : vs = [a, b, 1] := hvs
    by_cases hb : b = 0
    · subst hb
      exact (pf_s11 9 (by omega) (by omega) a ha0 ha1 x.length x rfl (by omega) AV nV cV AD nD cD w hv hnV hd (show Hid (nD = 1) from hnD.out.symm)).mono fun e w' h => ⟨_, h, go_s11 a ha0 ha1 x.length x rfl (by omega) hA⟩
    · exact (pf_s15 9 (by omega) (by omega) a b ha0 ha1 hb0 hb1 x.length x rfl (by omega) hb AV nV cV AD nD cD w hv hnV hd (show Hid (nD = 1) from hnD.out.symm)).mono fun e w' h => ⟨_, h, go_s15 a b ha0 ha1 hb0 hb1 x.length x rfl (by omega) hA⟩
  · rw [show frT 10 l = Pst 10 l by simp [frT]] at hT
    obtain ⟨a, b, x, hvs, rfl, hx, hxl, hA, ⟨ha0, ha1⟩, ⟨hb0, hb1⟩⟩ := Pst_inv hl hT
    obtain rfl : vs = [a, b, 0] := hvs
    by_cases hb : b = 0
    · subst hb
      exact (pf_s10 10 (by omega) (by omega) a ha0 ha1 x.length x rfl (by omega) AV nV cV AD nD cD w hv hnV hd (show Hid (nD = 1) from hnD.out.symm)).mono fun e w' h => ⟨_, h, go_s10 a ha0 ha1 x.length x rfl (by omega) hA⟩
    · exact (pf_s14 10 (by omega) (by omega) a b ha0 ha1 hb0 hb1 x.length x rfl (by omega) hb AV nV cV AD nD cD w hv hnV hd (show Hid (nD = 1) from hnD.out.symm)).mono fun e w' h => ⟨_, h, go_s14 a b ha0 ha1 hb0 hb1 x.length x rfl (by omega) hA⟩
  · rw [show frT 11 l = Pst 11 l by simp [frT]] at hT
    obtain ⟨a, b, x, hvs, rfl, hx, hxl, hA, ⟨ha0, ha1⟩, ⟨hb0, hb1⟩⟩ := Pst_inv hl hT
    obtain rfl : vs = [a, b, 1] := hvs
    by_cases hb : b = 0
    · subst hb
      exact (pf_s11 11 (by omega) (by omega) a ha0 ha1 x.length x rfl (by omega) AV nV cV AD nD cD w hv hnV hd (show Hid (nD = 1) from hnD.out.symm)).mono fun e w' h => ⟨_, h, go_s11 a ha0 ha1 x.length x rfl (by omega) hA⟩
    · exact (pf_s15 11 (by omega) (by omega) a b ha0 ha1 hb0 hb1 x.length x rfl (by omega) hb AV nV cV AD nD cD w hv hnV hd (show Hid (nD = 1) from hnD.out.symm)).mono fun e w' h => ⟨_, h, go_s15 a b ha0 ha1 hb0 hb1 x.length x rfl (by omega) hA⟩
  · rw [show frT 12 l = Pst 12 l by simp [frT]] at hT
    obtain ⟨a, b, x, hvs, rfl, hx, hxl, hA, ⟨ha0, ha1⟩, ⟨hb0, hb1⟩⟩ := Pst_inv hl hT
    obtain rfl : vs = [a, b, 0] := hvs
    by_cases hb : b = 0
    · subst hb
      exact (pf_s10 12 (by omega) (by omega) a ha0 ha1 x.length x rfl (by omega) AV nV cV AD nD cD w hv hnV hd (show Hid (nD = 1) from hnD.out.symm)).mono fun e w' h => ⟨_, h, go_s10 a ha0 ha1 x.length x rfl (by omega) hA⟩
    · exact (pf_s14 12 (by omega) (by omega) a b ha0 ha1 hb0 hb1 x.length x rfl (by omega) hb AV nV cV AD nD cD w hv hnV hd (show Hid (nD = 1) from hnD.out.symm)).mono fun e w' h => ⟨_, h, go_s14 a b ha0 ha1 hb0 hb1 x.length x rfl (by omega) hA⟩
  · rw [show frT 13 l = Pst 13 l by simp [frT]] at hT
    obtain ⟨a, b, x, hvs, rfl, hx, hxl, hA, ⟨ha0, ha1⟩, ⟨hb0, hb1⟩⟩ := Pst_inv hl hT
    obtain rfl : vs = [a, b, 1] := hvs
    by_cases hb : b = 0
    · subst hb
      exact (pf_s11 13 (by omega) (by omega) a ha0 ha1 x.length x rfl (by omega) AV nV cV AD nD cD w hv hnV hd (show Hid (nD = 1) from hnD.out.symm)).mono fun e w' h => ⟨_, h, go_s11 a ha0 ha1 x.length x rfl (by omega) hA⟩
    · exact (pf_s15 13 (by omega) (by omega) a b ha0 ha1 hb0 hb1 x.length x rfl (by omega) hb AV nV cV AD nD cD w hv hnV hd (show Hid (nD = 1) from hnD.out.symm)).mono fun e w' h => ⟨_, h, go_s15 a b ha0 ha1 hb0 hb1 x.length x rfl (by omega) hA⟩
  · rw [show frT 14 l = Pst 14 l by simp [frT]] at hT
    obtain ⟨a, b, x, hvs, rfl, hx, hxl, hA, ⟨ha0, ha1⟩, ⟨hb0, hb1⟩⟩ := Pst_inv hl hT
    obtain rfl : vs = [a, b, 0] := hvs
    by_cases hb : b = 0
    · subst hb
      exact (pf_s10 14 (by omega) (by omega) a ha0 ha1 x.length x rfl (by omega) AV nV cV AD nD cD w hv hnV hd (show Hid (nD = 1) from hnD.out.symm)).mono fun e w' h => ⟨_, h, go_s10 a ha0 ha1 x.length x rfl (by omega) hA⟩
    · exact (pf_s14 14 (by omega) (by omega) a b ha0 ha1 hb0 hb1 x.length x rfl (by omega) hb AV nV cV AD nD cD w hv hnV hd (show Hid (nD = 1) from hnD.out.symm)).mono fun e w' h => ⟨_, h, go_s14 a b ha0 ha1 hb0 hb1 x.length x rfl (by omega) hA⟩
  · rw [show frT 15 l = Pst 15 l by simp [frT]] at hT
    obtain ⟨a, b, x, hvs, rfl, hx, hxl, hA, ⟨ha0, ha1⟩, ⟨hb0, hb1⟩⟩ := Pst_inv hl hT
    obtain rfl : vs = [a, b, 1] := hvs
    by_cases hb : b = 0
    · subst hb
      exact (pf_s11 15 (by omega) (by omega) a ha0 ha1 x.length x rfl (by omega) AV nV cV AD nD cD w hv hnV hd (show Hid (nD = 1) from hnD.out.symm)).mono fun e w' h => ⟨_, h, go_s11 a ha0 ha1 x.length x rfl (by omega) hA⟩
    · exact (pf_s15 15 (by omega) (by omega) a b ha0 ha1 hb0 hb1 x.length x rfl (by omega) hb AV nV cV AD nD cD w hv hnV hd (show Hid (nD = 1) from hnD.out.symm)).mono fun e w' h => ⟨_, h, go_s15 a b ha0 ha1 hb0 hb1 x.length x rfl (by omega) hA⟩
  · rw [show frT 16 l = P1 l by simp [frT]] at hT
    obtain ⟨a, rfl, rfl, ⟨ha0, ha1⟩⟩ := P1_inv hl hT
    exact (pf_16 a ha0 ha1 AV nV cV AD nD cD w hv hnV hd).mono fun e w' h => ⟨_, h, go_16 a ha0 ha1⟩
  · rw [show frT 17 l = P2 l by simp [frT]] at hT
    obtain ⟨a, b, rfl, rfl, ⟨ha0, ha1⟩, ⟨hb0, hb1⟩⟩ := P2_inv hl hT
    exact (pf_17 a b ha0 ha1 hb0 hb1 AV nV cV AD nD cD w hv hnV hd).mono fun e w' h => ⟨_, h, go_17 a b ha0 ha1 hb0 hb1⟩
  · rw [show frT 18 l = Pms 0 l by simp [frT]] at hT
    obtain ⟨a, rfl, rfl, hA, ⟨ha0, ha1⟩⟩ := Pms_inv hl hT
    exact (pf_18 a ha0 ha1 AV nV cV AD nD cD w hv hnV hd).mono fun e w' h => ⟨_, h, go_18 a ha0 ha1 hA⟩
  · rw [show frT 19 l = Pms 1 l by simp [frT]] at hT
    obtain ⟨a, rfl, rfl, hA, ⟨ha0, ha1⟩⟩ := Pms_inv hl hT
    exact (pf_19 a ha0 ha1 AV nV cV AD nD cD w hv hnV hd).mono fun e w' h => ⟨_, h, go_19 a ha0 ha1 hA⟩
  · rw [show frT 20 l = P1 l by simp [frT]] at hT
    obtain ⟨a, rfl, rfl, ⟨ha0, ha1⟩⟩ := P1_inv hl hT
    exact (pf_20 a ha0 ha1 AV nV cV AD nD cD w hv hnV hd).mono fun e w' h => ⟨_, h, go_20 a ha0 ha1⟩
  · rw [show frT 21 l = P2 l by simp [frT]] at hT
    obtain ⟨a, b, rfl, rfl, ⟨ha0, ha1⟩, ⟨hb0, hb1⟩⟩ := P2_inv hl hT
    exact (pf_21 a b ha0 ha1 hb0 hb1 AV nV cV AD nD cD w hv hnV hd).mono fun e w' h => ⟨_, h, go_21 a b ha0 ha1 hb0 hb1⟩
  · have hO : ¬ opB 22 l (vs, ds, k) := fun ho => by rw [frG_open hT ho] at hG; cases hG
    rw [show frT 22 l = Psb 0 l by simp [frT]] at hT
    obtain ⟨a, rfl, rfl, ⟨ha0, ha1⟩⟩ := Psb_inv hl hT
    have hA : a ≤ 1152921504606846976 := by
      refine Int.not_lt.1 fun h => hO (.inr (.inl ⟨by simp, ?_⟩))
      simpa using h
    exact (pf_22 a ha0 ha1 AV nV cV AD nD cD w hv hnV hd).mono fun e w' h => ⟨_, h, go_22 a ha0 ha1 hA⟩
  · have hO : ¬ opB 23 l (vs, ds, k) := fun ho => by rw [frG_open hT ho] at hG; cases hG
    rw [show frT 23 l = Psb 1 l by simp [frT]] at hT
    obtain ⟨a, rfl, rfl, ⟨ha0, ha1⟩⟩ := Psb_inv hl hT
    have hA : a ≤ 1152921504606846976 := by
      refine Int.not_lt.1 fun h => hO (.inr (.inl ⟨by simp, ?_⟩))
      simpa using h
    exact (pf_23 a ha0 ha1 AV nV cV AD nD cD w hv hnV hd).mono fun e w' h => ⟨_, h, go_23 a ha0 ha1 hA⟩
  · rw [show frT 24 l = Pid l by simp [frT]] at hT
    obtain ⟨a, b, x, tk, rfl, rfl, hx, htk, hab, hx1, hx2, ht16, ⟨ha0, ha1⟩, ⟨hb0, hb1⟩⟩ := Pid_inv hl hT
    obtain ⟨x0, x1, x2, x3, x4, x5, x6, x7, x8, x9, x10, x11, x12, x13, x14, x15, rfl⟩ := list16 tk ht16
    exact (pf_24 a b ha0 ha1 hb0 hb1 x.length x rfl (by omega) x0 x1 x2 x3 x4 x5 x6 x7 x8 x9 x10 x11 x12 x13 x14 x15 htk AV nV cV AD nD cD w hv hnV hd (show Hid (nD = 2) from hnD.out.symm)).mono fun e w' h => ⟨_, h, go_24 a b ha0 ha1 hb0 hb1 hab x.length x rfl hx1 hx2 x0 x1 x2 x3 x4 x5 x6 x7 x8 x9 x10 x11 x12 x13 x14 x15⟩
  · rw [show frT 25 l = P1 l by simp [frT]] at hT
    obtain ⟨a, rfl, rfl, ⟨ha0, ha1⟩⟩ := P1_inv hl hT
    exact (pf_25 a ha0 ha1 AV nV cV AD nD cD w hv hnV hd).mono fun e w' h => ⟨_, h, go_25 a ha0 ha1⟩
  · rw [show frT 26 l = Ppc l by simp [frT]] at hT
    obtain ⟨x, rfl, rfl, hx, hx8⟩ := Ppc_inv hl hT
    obtain ⟨x0, x1, x2, x3, x4, x5, x6, x7, rfl⟩ := list8 x hx8
    exact (pf_26 x0 x1 x2 x3 x4 x5 x6 x7 hx AV nV cV AD nD cD w hv hnV hd (show Hid (nD = 1) from hnD.out.symm)).mono fun e w' h => ⟨_, h, go_26 x0 x1 x2 x3 x4 x5 x6 x7⟩
  · rw [show frT 27 l = Ppc l by simp [frT]] at hT
    obtain ⟨x, rfl, rfl, hx, hx8⟩ := Ppc_inv hl hT
    obtain ⟨x0, x1, x2, x3, x4, x5, x6, x7, rfl⟩ := list8 x hx8
    exact (pf_27 x0 x1 x2 x3 x4 x5 x6 x7 hx AV nV cV AD nD cD w hv hnV hd (show Hid (nD = 1) from hnD.out.symm)).mono fun e w' h => ⟨_, h, go_27 x0 x1 x2 x3 x4 x5 x6 x7⟩
  · rw [show frT 28 l = Pct l by simp [frT]] at hT
    obtain ⟨a, b, x, rfl, rfl, hx, hxl, ⟨ha0, ha1⟩, ⟨hb0, hb1⟩⟩ := Pct_inv hl hT
    exact (pf_28 a b ha0 ha1 hb0 hb1 x.length x rfl (by omega) AV nV cV AD nD cD w hv hnV hd (show Hid (nD = 1) from hnD.out.symm)).mono fun e w' h => ⟨_, h, go_28 a b ha0 ha1 hb0 hb1 x.length x rfl (by omega)⟩
  · rw [show frT 29 l = Pcr l by simp [frT]] at hT
    obtain ⟨a, x, rfl, rfl, hx, hxl, ⟨ha0, ha1⟩⟩ := Pcr_inv hl hT
    exact (pf_29 a ha0 ha1 x.length x rfl (by omega) AV nV cV AD nD cD w hv hnV hd (show Hid (nD = 1) from hnD.out.symm)).mono fun e w' h => ⟨_, h, go_29 a ha0 ha1 x.length x rfl (by omega)⟩

set_option maxRecDepth 100000 in
set_option maxHeartbeats 1000000 in
theorem ipf (t : Int) (ht : 4 ≤ t ∧ t ≤ 29) {l : List Int} (hl : Bs l) (hlen : l.length ≤ 1000) {vs : List Int} {ds : List (List Int)} {k : Nat} (hG : frG t l = some (vs, ds, k)) (AV : Option Addr) (nV cV : Nat) (AD : Option Addr) (nD cD : Nat) (w : World) (hv : RdE EI w AV vs) (hnV : Hid (vs.length = nV)) (hd : RdD w AD nD ds) (hnD : Hid (ds.length = nD)) :
    Calls Try.prog 9 #[.int .u8 t, .slice AV nV cV, .slice AD nD cD, .int .i64 10000] w fun e w' => PzEnd w vs ds e w' := by
  have HV := Lib.hid hv
  have HD := Lib.hid hd
  have HG := Lib.hid hG
  have HL := Lib.hid hl
  clear hv hd hG hl
  go_enter Try.func9, Try.ntmps9
  go_wp2_with fail
  refine (pzz t ht HL.out hlen HG.out AV nV cV AD nD cD w HV.out hnV HD.out hnD).mono ?_
  rintro e w1 ⟨out, ⟨A, n, c, rfl, hn, h1⟩, h2⟩
  have H2 := Lib.hid h2
  clear h2
  go_wp2_with fail
  go_ret2
  exact ⟨out, ⟨A, n, c, rfl, hn, h1⟩, H2.out⟩
end

section
open Go.RowKit
set_option linter.unusedVariables false
set_option linter.unusedSimpArgs false

theorem own_read {B : Nat} {w : World} {A : Option Addr} {n c : Nat} {l : List Int} (h : Own B w (.slice A n c) l) (hl : 1 ≤ l.length) : ∃ g, A = some ⟨g, 0, none⟩ ∧ n ≤ c ∧ c ≤ 9223372036854775807 ∧ w.cell? ⟨g, 0, none⟩ = some (.int .u8 (l.getD 0 0)) := by
  rcases h.form with ⟨_, rfl⟩ | ⟨g, cap, e, _, _, h1, h2⟩
  · simp at hl
  · obtain ⟨rfl, rfl, rfl⟩ : A = some ⟨g, 0, none⟩ ∧ n = l.length ∧ c = cap := by simpa using e
    unfold maxLen at h2
    exact ⟨g, rfl, h1, h2, h.cell 0 (by omega)⟩

set_option maxRecDepth 100000 in
set_option maxHeartbeats 1000000 in
theorem iw_big (A : Option Addr) (n c : Nat) (w : World) (hn : 2147483647 < n) (hn2 : n ≤ 9223372036854775807) :
    Calls Try.prog 4 #[.slice A n c] w fun e w' => e = .returned (.bool true) ∧ Below w.heap.size w w' := by
  go_enter Try.func4, Try.ntmps4
  go_wp2
  go_ret
  exact ⟨rfl, Below.refl _ _⟩

set_option maxRecDepth 100000 in
set_option maxHeartbeats 1000000 in
theorem iw_none (A : Option Addr) (c : Nat) (w : World) :
    Calls Try.prog 4 #[.slice A 0 c] w fun e w' => e = .returned (.bool true) ∧ Below w.heap.size w w' := by
  go_enter Try.func4, Try.ntmps4
  go_wp2_with fail
  refine (sf_nil A c [] w).mono ?_
  rintro e w1 ⟨rfl, hb⟩
  have HB := Lib.hid hb
  clear hb
  go_wp2_with fail
  go_ret
  exact ⟨rfl, HB.out⟩

set_option maxRecDepth 100000 in
set_option maxHeartbeats 1000000 in
theorem iw_out (t : Int) (ht0 : 0 ≤ t) (ht1 : t ≤ 255) (ht : ¬ (4 ≤ t ∧ t ≤ 29)) (b o n c : Nat) (l : List Int) (w : World) (hn : Hid (l.length = n)) (hnc : n ≤ c) (hc2 : c ≤ 9223372036854775807) (h1 : 1 ≤ n) (hn2 : n ≤ 2147483647) (h0 : w.cell? ⟨b, o, none⟩ = some (.int .u8 t)) :
    Calls Try.prog 4 #[.slice (some ⟨b, o, none⟩) n c] w fun e w' => e = .returned (.bool true) ∧ Below w.heap.size w w' := by
  go_enter Try.func4, Try.ntmps4
  go_wp2_with fail
  refine (sf_out t ht0 ht1 ht b o n c l w hn hnc hc2 h1 (by omega) h0).mono ?_
  rintro e w1 ⟨rfl, hb⟩
  have HB := Lib.hid hb
  clear hb
  go_wp2_with fail
  go_ret
  exact ⟨rfl, HB.out⟩

set_option maxRecDepth 100000 in
set_option maxHeartbeats 4000000 in
theorem iw_in (t : Int) (ht : 4 ≤ t ∧ t ≤ 29) (b o n c : Nat) (l : List Int) (w : World) (hr : Rd w (some ⟨b, o, none⟩) l) (hn : Hid (l.length = n)) (hnc : n ≤ c) (hc2 : c ≤ 9223372036854775807) (h1 : 1 ≤ n) (hn2 : n ≤ 2147483647) (h0 : w.cell? ⟨b, o, none⟩ = some (.int .u8 t)) :
    Calls Try.prog 4 #[.slice (some ⟨b, o, none⟩) n c] w fun e w' => e = .returned (.bool true) ∧ Below w.heap.size w w' := by
  have HBs := Lib.hid hr.1
  have HR := Lib.hid hr
  have HC := Lib.hid h0
  clear hr h0
  go_enter Try.func4, Try.ntmps4
  go_wp2_with fail
  refine (sfa t ht.1 ht.2 b o n c l w HR.out hn hnc hc2 h1 (by omega) HC.out).mono ?_
  rintro e w1 ⟨hb, ⟨hp, rfl⟩ | ⟨hp, rfl⟩ | ⟨vs, ds, k, AV, nV, cV, AD, nD, cD, hp, rfl, h2, h3, h4, h5, h6, h7⟩⟩
  · have HB := Lib.hid hb
    clear hp hb
    go_wp2_with fail
    go_ret
    exact ⟨rfl, HB.out⟩
  · have HB := Lib.hid hb
    clear hp hb
    go_wp2_with fail
    go_ret
    exact ⟨rfl, HB.out⟩
  · have HB := Lib.hid hb
    have HP := Lib.hid hp
    have c1 : w1.cell? ⟨b, o, none⟩ = some (.int .u8 t) := (hb.cell (p := ⟨b, o, none⟩) (World.block_lt_of_cell? _ _ HC.out)).trans HC.out
    have H2 := Lib.hid h2
    have H5 := Lib.hid h5
    have H7 : Hid (RdD w1 AD nD ds) := h7
    clear hp hb h2 h5 h7
    have hn1 : (0 : Int) < (n : Int) := by omega
    by_cases h64 : n ≤ 1000
    · go_wp2_with fail
      refine (ipf t ht HBs.out (by rw [hn.out]; exact h64) HP.out AV nV cV AD nD cD w1 h4.out H2 H7.out H5).mono ?_
      rintro e w2 ⟨out, ⟨A, n2, c2, rfl, hn2, hO⟩, ⟨g1, g2, g3, g4, g5⟩⟩
      obtain ⟨g, rfl, q1, q2, q3⟩ := own_read hO.out.1 g2
      have HR2 := Lib.hid (Rd.of_own hO.out.1)
      have HC2 := Lib.hid q3
      have HB2 := Lib.hid (HB.out.trans (hO.out.2.mono HB.out.size))
      have HV2 := Lib.hid (h4.out.below hO.out.2)
      have HD2 := Lib.hid (H7.out.below hO.out.2)
      have G5 := Lib.hid g5
      have h12 : 1 ≤ n2 := by rw [← hn2.out]; exact g2
      have h52 : n2 ≤ 5000 := by rw [← hn2.out]; exact g1
      clear q3 g5 g1 g2 c1
      go_wp2_with fail
      refine (sfa _ g3 g4 g 0 n2 c2 out w2 HR2.out hn2 q1 q2 h12 (by omega) HC2.out).mono ?_
      rintro e w3 ⟨hb3, ⟨hp, rfl⟩ | ⟨hp, rfl⟩ | ⟨vs2, ds2, k2, AV2, nV2, cV2, AD2, nD2, cD2, hp, rfl, j2, j3, j4, j5, j6, j7⟩⟩
      · rw [G5.out] at hp; cases hp
      · rw [frG_some G5.out] at hp; cases hp
      · obtain ⟨rfl, rfl, hk⟩ : vs = vs2 ∧ ds = ds2 ∧ out.length = k2 := by
          have := G5.out.symm.trans hp
          simpa using this
        obtain rfl : n2 = k2 := hn2.out.symm.trans hk
        obtain rfl : nV = nV2 := H2.out.symm.trans j2
        obtain rfl : nD = nD2 := H5.out.symm.trans j5
        have HB3 := Lib.hid (HB2.out.trans (hb3.mono HB2.out.size))
        have HV3 := Lib.hid (HV2.out.below hb3)
        have HD3 := Lib.hid (HD2.out.below hb3)
        have J7 : Hid (RdD w3 AD2 nD ds) := j7
        clear hp hb3 j2 j5 hk j7
        go_wp2_with (go_at_call 8; refine (same_f _ _ nV _ _ vs _ _ nD _ _ ds _ j4.out HV3.out H2 (by omega) J7.out HD3.out (by omega)).mono ?_; rintro e w4 ⟨rfl, HB4⟩)
        go_ret
        exact ⟨rfl, HB3.out.trans (HB4.out.mono HB3.out.size)⟩
    · go_wp2_with fail
      go_ret
      exact ⟨rfl, HB.out⟩

theorem fnFrameIsWritten_walk (A : Option Addr) (l : List Int) (c : Nat) (w : World) (h : ByteArg w A l c) :
    Calls Try.prog 4 #[.slice A l.length c] w fun e w' => e = .returned (.bool true) ∧ Below w.heap.size w w' := by
  have hr := h.rd
  have hle := h.le
  have hmax := h.max
  unfold maxLen at hmax
  by_cases ho : 2147483647 < l.length
  · exact iw_big A _ c w ho (by omega)
  by_cases h0 : l.length = 0
  · rw [h0]
    exact iw_none A c w
  obtain ⟨b, o, rfl, hc⟩ := hr.2 (by omega)
  have c0 : w.cell? ⟨b, o, none⟩ = some (.int .u8 (l.getD 0 0)) := by simpa using hc 0 (by omega)
  have hx := hr.1.getD 0
  by_cases ht : 4 ≤ l.getD 0 0 ∧ l.getD 0 0 ≤ 29
  · exact iw_in _ ht b o _ c l w hr rfl hle hmax (by omega) (by omega) c0
  · exact iw_out _ hx.1 (by omega) ht b o _ c l w rfl hle hmax (by omega) (by omega) c0

set_option maxRecDepth 100000 in
set_option maxHeartbeats 1000000 in
theorem cb_big (A : Option Addr) (n c : Nat) (w : World) (hn : 2147483647 < n) (hn2 : n ≤ 9223372036854775807) :
    Calls Try.prog 5 #[.slice A n c] w fun e w' => e = .returned (.bool true) ∧ Below w.heap.size w w' := by
  go_enter Try.func5, Try.ntmps5
  go_wp2
  go_ret
  exact ⟨rfl, Below.refl _ _⟩

set_option maxRecDepth 100000 in
set_option maxHeartbeats 1000000 in
theorem cb_none (A : Option Addr) (c : Nat) (w : World) :
    Calls Try.prog 5 #[.slice A 0 c] w fun e w' => e = .returned (.bool true) ∧ Below w.heap.size w w' := by
  go_enter Try.func5, Try.ntmps5
  go_wp2_with fail
  refine (sf_nil A c [] w).mono ?_
  rintro e w1 ⟨rfl, hb⟩
  have HB := Lib.hid hb
  clear hb
  go_wp2_with fail
  go_ret
  exact ⟨rfl, HB.out⟩

set_option maxRecDepth 100000 in
set_option maxHeartbeats 1000000 in
theorem cb_out (t : Int) (ht0 : 0 ≤ t) (ht1 : t ≤ 255) (ht : ¬ (4 ≤ t ∧ t ≤ 29)) (b o n c : Nat) (l : List Int) (w : World) (hn : Hid (l.length = n)) (hnc : n ≤ c) (hc2 : c ≤ 9223372036854775807) (h1 : 1 ≤ n) (hn2 : n ≤ 2147483647) (h0 : w.cell? ⟨b, o, none⟩ = some (.int .u8 t)) :
    Calls Try.prog 5 #[.slice (some ⟨b, o, none⟩) n c] w fun e w' => e = .returned (.bool true) ∧ Below w.heap.size w w' := by
  go_enter Try.func5, Try.ntmps5
  go_wp2_with fail
  refine (sf_out t ht0 ht1 ht b o n c l w hn hnc hc2 h1 (by omega) h0).mono ?_
  rintro e w1 ⟨rfl, hb⟩
  have HB := Lib.hid hb
  clear hb
  go_wp2_with fail
  go_ret
  exact ⟨rfl, HB.out⟩

set_option maxRecDepth 100000 in
set_option maxHeartbeats 4000000 in
theorem cb_in (t : Int) (ht : 4 ≤ t ∧ t ≤ 29) (b o n c : Nat) (l : List Int) (w : World) (hr : Rd w (some ⟨b, o, none⟩) l) (hn : Hid (l.length = n)) (hnc : n ≤ c) (hc2 : c ≤ 9223372036854775807) (h1 : 1 ≤ n) (hn2 : n ≤ 2147483647) (h0 : w.cell? ⟨b, o, none⟩ = some (.int .u8 t)) :
    Calls Try.prog 5 #[.slice (some ⟨b, o, none⟩) n c] w fun e w' => e = .returned (.bool true) ∧ Below w.heap.size w w' := by
  have HBs := Lib.hid hr.1
  have HR := Lib.hid hr
  have HC := Lib.hid h0
  clear hr h0
  go_enter Try.func5, Try.ntmps5
  go_wp2_with fail
  refine (sfa t ht.1 ht.2 b o n c l w HR.out hn hnc hc2 h1 (by omega) HC.out).mono ?_
  rintro e w1 ⟨hb, ⟨hp, rfl⟩ | ⟨hp, rfl⟩ | ⟨vs, ds, k, AV, nV, cV, AD, nD, cD, hp, rfl, h2, h3, h4, h5, h6, h7⟩⟩
  · have HB := Lib.hid hb
    clear hp hb
    go_wp2_with fail
    go_ret
    exact ⟨rfl, HB.out⟩
  · have HB := Lib.hid hb
    clear hp hb
    go_wp2_with fail
    go_ret
    exact ⟨rfl, HB.out⟩
  · have HB := Lib.hid hb
    have HP := Lib.hid hp
    have c1 : w1.cell? ⟨b, o, none⟩ = some (.int .u8 t) := (hb.cell (p := ⟨b, o, none⟩) (World.block_lt_of_cell? _ _ HC.out)).trans HC.out
    have H2 := Lib.hid h2
    have H5 := Lib.hid h5
    have H7 : Hid (RdD w1 AD nD ds) := h7
    clear hp hb h2 h5 h7
    have hn1 : (0 : Int) < (n : Int) := by omega
    by_cases h64 : n ≤ 1000
    · go_wp2_with fail
      refine (ipf t ht HBs.out (by rw [hn.out]; exact h64) HP.out AV nV cV AD nD cD w1 h4.out H2 H7.out H5).mono ?_
      rintro e w2 ⟨out, ⟨A, n2, c2, rfl, hn2, hO⟩, ⟨g1, g2, g3, g4, g5⟩⟩
      obtain ⟨g, rfl, q1, q2, q3⟩ := own_read hO.out.1 g2
      have HR2 := Lib.hid (Rd.of_own hO.out.1)
      have HC2 := Lib.hid q3
      have HB2 := Lib.hid (HB.out.trans (hO.out.2.mono HB.out.size))
      have HV2 := Lib.hid (h4.out.below hO.out.2)
      have HD2 := Lib.hid (H7.out.below hO.out.2)
      have G5 := Lib.hid g5
      have h12 : 1 ≤ n2 := by rw [← hn2.out]; exact g2
      have h52 : n2 ≤ 5000 := by rw [← hn2.out]; exact g1
      clear q3 g5 g1 g2 c1
      go_wp2_with fail
      refine (ifr _ ⟨g3, g4⟩ g 0 n2 c2 out w2 HR2.out hn2 q1 q2 h12 (by omega) HC2.out).mono ?_
      rintro e w3 ⟨hb3, ⟨hp, rfl⟩ | ⟨vs2, ds2, k2, AV2, nV2, cV2, AD2, nD2, cD2, hp, rfl, j2, j3, j4, j5, j6, j7⟩⟩
      · rw [frG_some G5.out] at hp; cases hp
      · obtain ⟨rfl, rfl, hk⟩ : vs = vs2 ∧ ds = ds2 ∧ out.length = k2 := by
          have := (frG_some G5.out).symm.trans hp
          simpa using this
        obtain rfl : n2 = k2 := hn2.out.symm.trans hk
        obtain rfl : nV = nV2 := H2.out.symm.trans j2
        obtain rfl : nD = nD2 := H5.out.symm.trans j5
        have HB3 := Lib.hid (HB2.out.trans (hb3.mono HB2.out.size))
        have HV3 := Lib.hid (HV2.out.below hb3)
        have HD3 := Lib.hid (HD2.out.below hb3)
        have J7 : Hid (RdD w3 AD2 nD ds) := j7
        clear hp hb3 j2 j5 hk j7
        go_wp2_with (go_at_call 8; refine (same_f _ _ nV _ _ vs _ _ nD _ _ ds _ j4.out HV3.out H2 (by omega) J7.out HD3.out (by omega)).mono ?_; rintro e w4 ⟨rfl, HB4⟩)
        go_ret
        exact ⟨rfl, HB3.out.trans (HB4.out.mono HB3.out.size)⟩
    · go_wp2_with fail
      go_ret
      exact ⟨rfl, HB.out⟩

theorem fnFrameComesBack_walk (A : Option Addr) (l : List Int) (c : Nat) (w : World) (h : ByteArg w A l c) :
    Calls Try.prog 5 #[.slice A l.length c] w fun e w' => e = .returned (.bool true) ∧ Below w.heap.size w w' := by
  have hr := h.rd
  have hle := h.le
  have hmax := h.max
  unfold maxLen at hmax
  by_cases ho : 2147483647 < l.length
  · exact cb_big A _ c w ho (by omega)
  by_cases h0 : l.length = 0
  · rw [h0]
    exact cb_none A c w
  obtain ⟨b, o, rfl, hc⟩ := hr.2 (by omega)
  have c0 : w.cell? ⟨b, o, none⟩ = some (.int .u8 (l.getD 0 0)) := by simpa using hc 0 (by omega)
  have hx := hr.1.getD 0
  by_cases ht : 4 ≤ l.getD 0 0 ∧ l.getD 0 0 ≤ 29
  · exact cb_in _ ht b o _ c l w hr rfl hle hmax (by omega) (by omega) c0
  · exact cb_out _ hx.1 (by omega) ht b o _ c l w rfl hle hmax (by omega) (by omega) c0
end

end Go.Proofs.Ytggcnepdeaijoaa

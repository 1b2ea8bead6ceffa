/- What an acknowledgement is written as, and that it is read so: the plain law. No program. Conditions: none. -/
import Derived.Test.YtdogepkfgobcfaaAckSet
namespace Go.Proofs.Ytdogepkfgobcfaa
set_option linter.unusedVariables false

/-- The bytes of the ranges behind the first one, the greatest first, below least. -/
def gapsW : Int → Rgs → List Int
  | _, [] => []
  | m, p :: r => enc (m - p.2 - 1) ++ enc (p.2 - p.1 - 1) ++ gapsW p.1 r
/-- The least number of what stands ahead of the k-th. -/
def pv (m : Int) (D : Rgs) (k : Nat) : Int := if k = 0 then m else (D.getD (k - 1) (0, 0)).1
theorem gaps_take : ∀ (D : Rgs) (m : Int) (k : Nat), k < D.length → gapsW m (D.take (k + 1)) = gapsW m (D.take k) ++ enc (pv m D k - (D.getD k (0, 0)).2 - 1) ++ enc ((D.getD k (0, 0)).2 - (D.getD k (0, 0)).1 - 1)
  | [], _, _, h => by simp at h
  | p :: r, m, 0, _ => by simp [gapsW, pv]
  | p :: r, m, k + 1, h => by
    have ih := gaps_take r p.1 k (by simpa using h)
    rw [List.take_succ_cons, List.take_succ_cons, gapsW, gapsW, ih]
    have e1 : pv m (p :: r) (k + 1) = pv p.1 r k := by
      unfold pv
      cases k <;> simp
    rw [e1]
    simp

/-- Ranges in order, the greatest first, all below m with a gap. -/
def Desc : Int → Rgs → Prop
  | _, [] => True
  | m, p :: r => 0 ≤ p.1 ∧ p.1 < p.2 ∧ p.2 < m ∧ Desc p.1 r

theorem gaps_Bs : ∀ (D : Rgs) (m : Int), m ≤ 4611686018427387903 → Desc m D → Bs (gapsW m D)
  | [], _, _, _ => Bs.nil
  | p :: r, m, hm, h => by
    obtain ⟨h0, h1, h2, h3⟩ := h
    exact ((enc_Bs (by omega) (by omega)).append (enc_Bs (by omega) (by omega))).append (gaps_Bs r p.1 (by omega) h3)
theorem gaps_len : ∀ (D : Rgs) (m : Int), (gapsW m D).length ≤ 16 * D.length
  | [], _ => by simp [gapsW]
  | p :: r, m => by
    have := gaps_len r p.1
    have a := esz_bd (m - p.2 - 1)
    have b := esz_bd (p.2 - p.1 - 1)
    simp only [gapsW, List.length_append, enc_length, List.length_cons]
    omega
theorem Desc.take : ∀ {D : Rgs} {m : Int} (k : Nat), Desc m D → Desc m (D.take k)
  | [], _, k, _ => by simp [Desc]
  | p :: r, m, 0, _ => by simp [Desc]
  | p :: r, m, k + 1, ⟨a, b, c, d⟩ => by rw [List.take_succ_cons]; exact ⟨a, b, c, d.take k⟩

/-- A number read. -/
theorem nm_enc {l r : List Int} {k : Nat} {v : Int} (h : l.drop k = enc v ++ r) (h0 : 0 ≤ v) (h1 : v ≤ 4611686018427387903) : nm l k = some (v, k + esz v) ∧ l.drop (k + esz v) = r := by
  refine ⟨nm_some (by rw [h]; exact rv_enc h0 h1 r), ?_⟩
  rw [← List.drop_drop, h, List.drop_left' (enc_length v)]

theorem ackG_put {l : List Int} : ∀ (D : Rgs) (m : Int) (k : Nat) (r : List Int), m ≤ 4611686018427387903 → Desc m D → l.drop k = gapsW m D ++ r → ackG l D.length m k = some (D, k + (gapsW m D).length) ∧ l.drop (k + (gapsW m D).length) = r
  | [], m, k, r, _, _, h => by simpa [gapsW, ackG] using h
  | p :: D, m, k, r, hm, ⟨h0, h1, h2, h3⟩, h => by
    rw [gapsW, List.append_assoc, List.append_assoc] at h
    obtain ⟨n1, d1⟩ := nm_enc h (by omega) (by omega)
    obtain ⟨n2, d2⟩ := nm_enc d1 (by omega) (by omega)
    have ih := ackG_put D p.1 _ r (by omega) h3 d2
    have e1 : m - (m - p.2 - 1) - 2 - (p.2 - p.1 - 1) = p.1 := by omega
    have e2 : m - (m - p.2 - 1) - 2 + 1 = p.2 := by omega
    have el : (gapsW m (p :: D)).length = esz (m - p.2 - 1) + esz (p.2 - p.1 - 1) + (gapsW p.1 D).length := by
      simp [gapsW, enc_length, Nat.add_assoc]
    refine ⟨?_, by rw [el, ← ih.2]; congr 1; omega⟩
    simp only [List.length_cons, ackG, n1, n2]
    rw [if_neg (by omega), e1, ih.1, e2, el]
    simp only [Option.some.injEq, Prod.mk.injEq, true_and]
    omega

/-- The counts' bytes. -/
def ecnW (e0 e1 e2 : Int) : List Int := if e0 = 0 ∧ e1 = 0 ∧ e2 = 0 then [] else enc e0 ++ enc e1 ++ enc e2
def ecnT (e0 e1 e2 : Int) : Int := if e0 = 0 ∧ e1 = 0 ∧ e2 = 0 then 2 else 3
/-- The frame's bytes: the first range p, the others D. -/
def ackW (p : Int × Int) (D : Rgs) (d e0 e1 e2 : Int) : List Int :=
  [ecnT e0 e1 e2] ++ enc (p.2 - 1) ++ enc d ++ [(D.length : Int)] ++ enc (p.2 - p.1 - 1) ++ gapsW p.1 D ++ ecnW e0 e1 e2
theorem enc_small {k : Int} (h : k ≤ 63) : enc k = [k] := if_pos h

/-- What a number of the statement is. -/
def Num62 (v : Int) : Prop := 0 ≤ v ∧ v ≤ 4611686018427387903

theorem ackP_put (p : Int × Int) (D : Rgs) (d e0 e1 e2 : Int) (r : List Int) (hp : 0 ≤ p.1 ∧ p.1 < p.2 ∧ p.2 ≤ 4611686018427387903) (hD : Desc p.1 D) (hl : D.length ≤ 63) (hd : Num62 d) (he0 : Num62 e0) (he1 : Num62 e1) (he2 : Num62 e2) :
    ackP (ackW p D d e0 e1 e2 ++ r) = some ⟨p :: D, p.2 - 1, d, e0, e1, e2, (ackW p D d e0 e1 e2).length⟩ := by
  obtain ⟨hp0, hp1, hp2⟩ := hp
  generalize hL : ackW p D d e0 e1 e2 ++ r = l
  have hL2 : ecnT e0 e1 e2 :: (enc (p.2 - 1) ++ (enc d ++ (enc (D.length : Int) ++ (enc (p.2 - p.1 - 1) ++ (gapsW p.1 D ++ (ecnW e0 e1 e2 ++ r)))))) = l := by
    rw [← hL, enc_small (by omega : (D.length : Int) ≤ 63)]
    simp [ackW]
  have g0 : l.getD 0 0 = ecnT e0 e1 e2 := by rw [← hL2]; rfl
  have k1 : l.drop 1 = enc (p.2 - 1) ++ (enc d ++ (enc (D.length : Int) ++ (enc (p.2 - p.1 - 1) ++ (gapsW p.1 D ++ (ecnW e0 e1 e2 ++ r))))) := by rw [← hL2]; rfl
  obtain ⟨n1, d1⟩ := nm_enc k1 (by omega) (by omega)
  obtain ⟨n2, d2⟩ := nm_enc d1 hd.1 hd.2
  obtain ⟨n3, d3⟩ := nm_enc d2 (by omega) (by omega)
  obtain ⟨n4, d4⟩ := nm_enc d3 (by omega) (by omega)
  obtain ⟨g, d5⟩ := ackG_put D p.1 _ _ (by omega) hD d4
  have e1' : p.2 - 1 - (p.2 - p.1 - 1) = p.1 := by omega
  have e2' : p.2 - 1 + 1 = p.2 := by omega
  have em : ackM l (D.length : Int).toNat (p.2 - 1) (1 + esz (p.2 - 1) + esz d + esz (D.length : Int)) = some (p :: D, 1 + esz (p.2 - 1) + esz d + esz (D.length : Int) + esz (p.2 - p.1 - 1) + (gapsW p.1 D).length) := by
    simp only [ackM, n4, if_neg (by omega : ¬ p.2 - 1 < p.2 - p.1 - 1), e1', Int.toNat_natCast, g, e2']
  have es : esz (D.length : Int) = 1 := if_pos (by omega)
  rw [ackP_4 n1 n2 n3, em]
  simp only
  unfold ecnP
  rw [g0]
  have hlen : (ackW p D d e0 e1 e2).length = 1 + esz (p.2 - 1) + esz d + esz (D.length : Int) + esz (p.2 - p.1 - 1) + (gapsW p.1 D).length + (ecnW e0 e1 e2).length := by
    rw [es]
    simp [ackW, enc_length]
    omega
  by_cases hz : e0 = 0 ∧ e1 = 0 ∧ e2 = 0
  · obtain ⟨rfl, rfl, rfl⟩ := hz
    rw [hlen]
    simp [ecnT, ecnW]
  · have ht : ecnT e0 e1 e2 = 3 := if_neg hz
    have hw : ecnW e0 e1 e2 = enc e0 ++ enc e1 ++ enc e2 := if_neg hz
    rw [hw, List.append_assoc, List.append_assoc] at d5
    obtain ⟨n6, d6⟩ := nm_enc d5 he0.1 he0.2
    obtain ⟨n7, d7⟩ := nm_enc d6 he1.1 he1.2
    obtain ⟨n8, d8⟩ := nm_enc d7 he2.1 he2.2
    rw [if_pos ht, n6]
    simp only [n7, n8, hlen, hw, List.length_append, enc_length]
    simp only [Option.some.injEq, AckR.mk.injEq, true_and]
    omega

/-- The statement's own condition on its ranges: in order, apart, not empty, no number above the greatest. -/
def AscI : Int → Rgs → Prop
  | _, [] => True
  | m, p :: r => m < p.1 ∧ p.1 < p.2 ∧ p.2 ≤ 4611686018427387903 ∧ AscI p.2 r
theorem asc_append : ∀ (X Y : Rgs) (m : Int), AscI m (X ++ Y) → AscI m X ∧ ∃ m', AscI m' Y ∧ m ≤ m' ∧ (∀ p ∈ X, p.2 ≤ m')
  | [], Y, m, h => ⟨trivial, m, h, by omega, by simp⟩
  | p :: X, Y, m, ⟨a, b, c, h⟩ => by
    obtain ⟨h1, m', h2, h3, h4⟩ := asc_append X Y p.2 h
    refine ⟨⟨a, b, c, h1⟩, m', h2, by omega, fun q hq => ?_⟩
    rcases List.mem_cons.1 hq with rfl | hq
    · exact h3
    · exact h4 q hq
/-- .. and downwards. -/
theorem asc_desc : ∀ (R : Rgs) (p : Int × Int) (m : Int), 0 ≤ m + 1 → AscI m (R.reverse ++ [p]) → 0 ≤ p.1 ∧ p.1 < p.2 ∧ p.2 ≤ 4611686018427387903 ∧ Desc p.1 R
  | [], p, m, hm, h => by
    obtain ⟨a, b, c, _⟩ : m < p.1 ∧ p.1 < p.2 ∧ p.2 ≤ 4611686018427387903 ∧ True := h
    exact ⟨by omega, b, c, trivial⟩
  | q :: R, p, m, hm, h => by
    have e : (q :: R).reverse ++ [p] = (R.reverse ++ [q]) ++ [p] := by simp
    rw [e] at h
    obtain ⟨h1, m', h2, h3, h4⟩ := asc_append _ _ _ h
    obtain ⟨i0, i1, i2, i3⟩ := asc_desc R q m hm h1
    obtain ⟨a, b, c, _⟩ : m' < p.1 ∧ p.1 < p.2 ∧ p.2 ≤ 4611686018427387903 ∧ True := h2
    have := h4 q (by simp)
    exact ⟨by omega, b, c, i0, i1, by omega, i3⟩

/-- All but the last, downwards. -/
def below_ (L : Rgs) : Rgs := (L.take (L.length - 1)).reverse
theorem below_len (L : Rgs) : (below_ L).length = L.length - 1 := by simp [below_]
theorem below_get (L : Rgs) (k : Nat) (h : k + 1 < L.length) : (below_ L).getD k (0, 0) = L[L.length - 2 - k]'(by omega) := by
  have hk : k < (below_ L).length := by rw [below_len]; omega
  rw [List.getD, List.getElem?_eq_getElem hk]
  simp only [below_, Option.getD_some, List.getElem_reverse, List.getElem_take, List.length_take]
  congr 1
  omega
theorem below_pv (L : Rgs) (k : Nat) (h : k < L.length) : pv (L[L.length - 1]'(by omega)).1 (below_ L) k = (L[L.length - 1 - k]'(by omega)).1 := by
  unfold pv
  split
  · rename_i e
    subst e
    rfl
  · rename_i e
    rw [below_get L (k - 1) (by omega)]
    congr 2
    omega
theorem below_split (L : Rgs) (h : 0 < L.length) : L = (below_ L).reverse ++ [L[L.length - 1]'(by omega)] := by
  have := List.take_append_getElem (l := L) (i := L.length - 1) (by omega)
  simp only [below_, List.reverse_reverse]
  rw [this, List.take_of_length_le (by omega)]
theorem asc_below {L : Rgs} (h : 0 < L.length) (ha : AscI (-1) L) : 0 ≤ (L[L.length - 1]'(by omega)).1 ∧ (L[L.length - 1]'(by omega)).1 < (L[L.length - 1]'(by omega)).2 ∧ (L[L.length - 1]'(by omega)).2 ≤ 4611686018427387903 ∧ Desc (L[L.length - 1]'(by omega)).1 (below_ L) := by
  have e := below_split L h
  exact asc_desc (below_ L) _ (-1) (by omega) (e ▸ ha)

end Go.Proofs.Ytdogepkfgobcfaa

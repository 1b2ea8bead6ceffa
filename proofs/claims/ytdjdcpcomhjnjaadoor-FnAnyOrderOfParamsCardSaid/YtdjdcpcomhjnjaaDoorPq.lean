/- What transport parameters are read as: the plain law. No program. Conditions: none. -/
import Derived.Test.YtdjdcpcomhjnjaaDoorCvb
namespace Go.Proofs.YtdjdcpcomhjnjaaDoor
set_option linter.unusedVariables false

/-- Transport parameters: bytes, numbers, a flag; addresses as bytes. -/
structure SP where
  od : List Int
  rt : List Int
  is : List Int
  rs : List Int
  idle : Int
  udp : Int
  data : Int
  bl : Int
  br : Int
  un : Int
  sb : Int
  su : Int
  ae : Int
  ad : Int
  nomig : Bool
  v4 : List Int
  v6 : List Int
  p4 : Int
  p6 : Int
  pid : List Int
  ptok : List Int
  act : Int
def usual : SP := ⟨[], [], [], [], 0, 65527, 0, 0, 0, 0, 0, 0, 3, 25, false, [], [], 0, 0, [], [], 2⟩

/-- One parameter at place k: its number, its value, the place behind it. -/
def pstep (l : List Int) (k : Nat) : Option (Int × List Int × Nat) := match rv (l.drop k) with
  | none => none
  | some (id, m) => match rvb (l.drop (k + m)) with
    | none => none
    | some (v, j) => some (id, v, k + m + j)
theorem pstep_none {l : List Int} {k : Nat} (h : rv (l.drop k) = none) : pstep l k = none := by simp [pstep, h]
theorem pstep_none2 {l : List Int} {k m : Nat} {id : Int} (h : rv (l.drop k) = some (id, m)) (h2 : rvb (l.drop (k + m)) = none) : pstep l k = none := by simp [pstep, h, h2]
theorem pstep_some {l : List Int} {k m j : Nat} {id : Int} {v : List Int} (h : rv (l.drop k) = some (id, m)) (h2 : rvb (l.drop (k + m)) = some (v, j)) : pstep l k = some (id, v, k + m + j) := by simp [pstep, h, h2]

/-- From place j the parameters ps lead to place k. -/
def Path (l : List Int) : Nat → List (Int × List Int) → Nat → Prop
  | j, [], k => j = k
  | j, (id, v) :: ps, k => ∃ j', pstep l j = some (id, v, j') ∧ Path l j' ps k
theorem Path.snoc {l : List Int} : ∀ {j : Nat} {ps : List (Int × List Int)} {k : Nat} {id : Int} {v : List Int} {k' : Nat}, Path l j ps k → pstep l k = some (id, v, k') → Path l j (ps ++ [(id, v)]) k'
  | j, [], k, id, v, k', h, hs => by
    obtain rfl : j = k := h
    exact ⟨k', hs, rfl⟩
  | j, (i, u) :: ps, k, id, v, k', ⟨j', h1, h2⟩, hs => ⟨j', h1, h2.snoc hs⟩
/-- Two ways from one place: the one goes on where the other ends. -/
theorem Path.cmp {l : List Int} : ∀ {j : Nat} {ps qs : List (Int × List Int)} {k m : Nat}, Path l j ps k → Path l j qs m → (∃ rs, ps = qs ++ rs ∧ Path l m rs k) ∨ (∃ rs, qs = ps ++ rs ∧ Path l k rs m)
  | j, [], qs, k, m, h, h2 => by
    obtain rfl : j = k := h
    exact .inr ⟨qs, rfl, h2⟩
  | j, p :: ps, [], k, m, h, h2 => by
    obtain rfl : j = m := h2
    exact .inl ⟨p :: ps, rfl, h⟩
  | j, (i, u) :: ps, (i', u') :: qs, k, m, ⟨j1, e1, h1⟩, ⟨j2, e2, h2⟩ => by
    rw [e1] at e2
    obtain ⟨rfl, rfl, rfl⟩ : i = i' ∧ u = u' ∧ j1 = j2 := by simpa using e2
    rcases h1.cmp h2 with ⟨rs, e, h⟩ | ⟨rs, e, h⟩
    · exact .inl ⟨rs, by rw [e]; rfl, h⟩
    · exact .inr ⟨rs, by rw [e]; rfl, h⟩

/-- The number that a value is (0, if none). -/
def num (v : List Int) : Int := match rv v with
  | none => 0
  | some (x, _) => x
theorem num_of {v : List Int} {x : Int} {k : Nat} (h : rv v = some (x, k)) : num v = x := by simp [num, h]
theorem num_none {v : List Int} (h : rv v = none) : num v = 0 := by simp [num, h]
/-- A value is one number. -/
def alone (v : List Int) : Prop := ∃ x, rv v = some (x, v.length)
def rng (id x : Int) : Prop :=
  if id = 3 then 1200 ≤ x else if id = 8 ∨ id = 9 then x ≤ 1152921504606846976 else if id = 10 then x ≤ 20 else if id = 11 then x < 16384 else if id = 14 then 2 ≤ x else True
/-- A preferred address. -/
def pok (v : List Int) : Prop := 25 ≤ v.length ∧ (v.length : Int) = 25 + v.getD 24 0 + 16
def isNum (id : Int) : Prop := (1 ≤ id ∧ id ≤ 11 ∧ id ≠ 2) ∨ id = 14
/-- What the program takes. -/
def iok (id : Int) (v : List Int) : Prop :=
  (id = 2 → v.length = 16) ∧ (id = 12 → v.length = 0) ∧ (id = 13 → pok v) ∧ (isNum id → alone v ∧ rng id (num v))
def be16 (v : List Int) (k : Nat) : Int := v.getD k 0 * 256 + v.getD (k + 1) 0
/-- A preferred address is told. -/
def pref (S : SP) (v : List Int) : SP := { S with v4 := v.take 4, v6 := (v.drop 6).take 16, p4 := be16 v 4, p6 := be16 v 22, pid := (v.drop 25).take (v.getD 24 0).toNat, ptok := v.drop (25 + (v.getD 24 0).toNat) }
/-- A parameter is told. -/
def upd (S : SP) (id : Int) (v : List Int) : SP :=
  if id = 0 then { S with od := v }
  else if id = 1 then { S with idle := num v }
  else if id = 2 then { S with rt := v }
  else if id = 3 then { S with udp := num v }
  else if id = 4 then { S with data := num v }
  else if id = 5 then { S with bl := num v }
  else if id = 6 then { S with br := num v }
  else if id = 7 then { S with un := num v }
  else if id = 8 then { S with sb := num v }
  else if id = 9 then { S with su := num v }
  else if id = 10 then { S with ae := num v }
  else if id = 11 then { S with ad := num v }
  else if id = 12 then { S with nomig := true }
  else if id = 13 then pref S v
  else if id = 14 then { S with act := num v }
  else if id = 15 then { S with is := v }
  else if id = 16 then { S with rs := v }
  else S
/-- .. by the program: a time that is too great is none. -/
def updI (S : SP) (id : Int) (v : List Int) : SP := if id = 1 ∧ 4294967296 < num v then { S with idle := 0 } else upd S id v
/-- Bytes are all 0. -/
def zeroB (l : List Int) : Prop := ∀ x ∈ l, x = 0
/-- What the reference calls good. -/
def sgood (id : Int) (v : List Int) : Prop :=
  iok id v ∧ (id = 0 ∨ id = 15 ∨ id = 16 → v.length ≤ 20) ∧ (id = 1 → num v < 1073741824) ∧ (id = 3 → num v ≤ 65527) ∧
  (id = 13 → 1 ≤ v.getD 24 0 ∧ v.getD 24 0 ≤ 20 ∧ ¬ zeroB (v.take 4) ∧ ¬ zeroB ((v.drop 6).take 16) ∧ be16 v 4 ≠ 0 ∧ be16 v 22 ≠ 0)
theorem sgood.upd {id : Int} {v : List Int} (h : sgood id v) (S : SP) : updI S id v = upd S id v := by
  unfold updI
  rw [if_neg]
  rintro ⟨h1, h2⟩
  have := h.2.2.1 h1
  omega
def foldI (S : SP) (ps : List (Int × List Int)) : SP := ps.foldl (fun S p => updI S p.1 p.2) S
def foldS (S : SP) (ps : List (Int × List Int)) : SP := ps.foldl (fun S p => upd S p.1 p.2) S
theorem foldI_snoc (S : SP) (ps : List (Int × List Int)) (id : Int) (v : List Int) : foldI S (ps ++ [(id, v)]) = updI (foldI S ps) id v := by simp [foldI]
theorem foldS_snoc (S : SP) (ps : List (Int × List Int)) (id : Int) (v : List Int) : foldS S (ps ++ [(id, v)]) = upd (foldS S ps) id v := by simp [foldS]
theorem fold_eq {S : SP} : ∀ {ps : List (Int × List Int)}, (∀ p ∈ ps, sgood p.1 p.2) → foldI S ps = foldS S ps := by
  intro ps
  induction ps generalizing S with
  | nil => intro _; rfl
  | cons p ps ih =>
    intro h
    have h1 := (h p (List.mem_cons_self ..)).upd S
    show foldI (updI S p.1 p.2) ps = foldS (upd S p.1 p.2) ps
    rw [h1]
    exact ih fun q hq => h q (List.mem_cons_of_mem _ hq)

/-- All of them good, none told twice. -/
def Nice (ps : List (Int × List Int)) : Prop := (∀ p ∈ ps, sgood p.1 p.2) ∧ (ps.map Prod.fst).Nodup
theorem Nice.snoc {ps : List (Int × List Int)} {id : Int} {v : List Int} (h : Nice ps) (hg : sgood id v) (hn : id ∉ ps.map Prod.fst) : Nice (ps ++ [(id, v)]) := by
  refine ⟨fun p hp => ?_, ?_⟩
  · rcases List.mem_append.1 hp with hp | hp
    · exact h.1 p hp
    · obtain rfl : p = (id, v) := by simpa using hp
      exact hg
  · rw [List.map_append, List.nodup_append]
    refine ⟨h.2, by simp, fun a ha b hb => ?_⟩
    obtain rfl : b = id := by simpa using hb
    intro e
    exact hn (e ▸ ha)
theorem Nice.init {ps qs : List (Int × List Int)} (h : Nice (ps ++ qs)) : Nice ps := by
  refine ⟨fun p hp => h.1 p (List.mem_append_left _ hp), ?_⟩
  have := h.2
  rw [List.map_append, List.nodup_append] at this
  exact this.1
theorem Nice.last {ps : List (Int × List Int)} {id : Int} {v : List Int} (h : Nice (ps ++ [(id, v)])) : sgood id v ∧ id ∉ ps.map Prod.fst := by
  refine ⟨h.1 (id, v) (by simp), ?_⟩
  have := h.2
  rw [List.map_append, List.nodup_append] at this
  intro hi
  exact this.2.2 id hi id (by simp) rfl

/-- What the program makes of bytes: the parameters, or an error. -/
def GoodI (l : List Int) (S : SP) : Prop := ∃ ps, Path l 0 ps l.length ∧ (∀ p ∈ ps, iok p.1 p.2) ∧ S = foldI usual ps
/-- Something there is no parameter. -/
def BadI (l : List Int) : Prop := ∃ ps k, Path l 0 ps k ∧ k < l.length ∧ ∀ id v k', pstep l k = some (id, v, k') → ¬ iok id v
/-- What the reference calls good. -/
def GoodS (l : List Int) (S : SP) : Prop := ∃ ps, Path l 0 ps l.length ∧ Nice ps ∧ S = foldS usual ps
/-- What it leaves open. -/
def OpenS (l : List Int) : Prop := ∃ ps, Path l 0 ps l.length ∧ ¬ Nice ps
theorem bad_good {l : List Int} (h : BadI l) {ps : List (Int × List Int)} (hp : Path l 0 ps l.length) (hk : ∀ p ∈ ps, iok p.1 p.2) : False := by
  obtain ⟨qs, k, hq, hlt, hb⟩ := h
  rcases hp.cmp hq with ⟨rs, e, hr⟩ | ⟨rs, e, hr⟩
  · cases rs with
    | nil =>
      have : k = l.length := hr
      omega
    | cons r rs =>
      obtain ⟨id, v⟩ := r
      obtain ⟨j', h1, _⟩ := hr
      exact hb id v j' h1 (hk (id, v) (by rw [e]; simp))
  · cases rs with
    | nil =>
      have : l.length = k := hr
      omega
    | cons r rs =>
      obtain ⟨id, v⟩ := r
      obtain ⟨j', h1, _⟩ := hr
      rw [pstep, List.drop_eq_nil_of_le (Nat.le_refl _)] at h1
      cases h1
theorem path_end {l : List Int} {ps qs : List (Int × List Int)} (hp : Path l 0 ps l.length) (hq : Path l 0 qs l.length) : ps = qs := by
  have key : ∀ rs, Path l l.length rs l.length → rs = [] := by
    intro rs h
    cases rs with
    | nil => rfl
    | cons r rs =>
      obtain ⟨id, v⟩ := r
      obtain ⟨j', h1, _⟩ := h
      rw [pstep, List.drop_eq_nil_of_le (Nat.le_refl _)] at h1
      cases h1
  rcases hp.cmp hq with ⟨rs, e, hr⟩ | ⟨rs, e, hr⟩
  · rw [e, key rs hr, List.append_nil]
  · rw [e, key rs hr, List.append_nil]
theorem goodS_bad {l : List Int} {S : SP} (h : GoodS l S) (hb : BadI l) : False := by
  obtain ⟨ps, hp, hn, _⟩ := h
  exact bad_good hb hp fun p hm => (hn.1 p hm).1
theorem goodI_bad {l : List Int} {S : SP} (h : GoodI l S) (hb : BadI l) : False := by
  obtain ⟨ps, hp, hn, _⟩ := h
  exact bad_good hb hp hn
theorem goodS_I {l : List Int} {S S' : SP} (h : GoodS l S) (h' : GoodI l S') : S = S' := by
  obtain ⟨ps, hp, hn, rfl⟩ := h
  obtain ⟨qs, hq, _, rfl⟩ := h'
  obtain rfl := path_end hp hq
  exact (fold_eq hn.1).symm

end Go.Proofs.YtdjdcpcomhjnjaaDoor

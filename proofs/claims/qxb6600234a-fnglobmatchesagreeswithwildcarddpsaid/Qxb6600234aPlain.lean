import Derived.Lib.IndexMore
import Derived.Lib.Strings
namespace Go.Proofs.Qxb6600234a
open Go

def starB (R : Nat → Bool) : Nat → Bool
  | 0 => R 0
  | j + 1 => R (j + 1) || starB R j
def byteIs (s : List UInt8) (j : Nat) (t : Int) : Bool :=
  match s[j]? with
  | some c => (c.toNat : Int) == t
  | none => false
def litB (s : List UInt8) (t : Int) (R : Nat → Bool) : Nat → Bool
  | 0 => false
  | j + 1 => R j && byteIs s j t
def stepB (s : List UInt8) (R : Nat → Bool) (t : Int) : Nat → Bool := if t < 0 then starB R else litB s t R
def row0 : Nat → Bool := fun j => j == 0
def rows (s : List UInt8) (ts : List Int) : Nat → Bool := ts.foldl (stepB s) row0

def numsL (p : List UInt8) : List Int := p.map (fun c => (c.toNat : Int))
def toks : List (List UInt8) → List Int
  | [] => []
  | p :: r => numsL p ++ r.flatMap (fun q => -1 :: numsL q)

def mid (rest : List UInt8) : List (List UInt8) → Option (List UInt8)
  | [] => some rest
  | p :: ps => if Lib.index rest p < 0 then none else mid (rest.drop ((Lib.index rest p).toNat + p.length)) ps

theorem starB_iff (R : Nat → Bool) (j : Nat) : starB R j = true ↔ ∃ i, i ≤ j ∧ R i = true := by
  induction j with
  | zero =>
    simp only [starB]
    exact ⟨fun h => ⟨0, Nat.le_refl _, h⟩, fun ⟨i, h1, h2⟩ => by
      have : i = 0 := by omega
      subst this; exact h2⟩
  | succ j ih =>
    simp only [starB, Bool.or_eq_true, ih]
    constructor
    · rintro (h | ⟨i, h1, h2⟩)
      · exact ⟨j + 1, Nat.le_refl _, h⟩
      · exact ⟨i, by omega, h2⟩
    · rintro ⟨i, h1, h2⟩
      by_cases e : i = j + 1
      · subst e; exact Or.inl h2
      · exact Or.inr ⟨i, by omega, h2⟩

theorem byteIs_iff (s : List UInt8) (j : Nat) (c : UInt8) : byteIs s j (c.toNat : Int) = true ↔ s[j]? = some c := by
  unfold byteIs
  cases h : s[j]? with
  | none => simp
  | some d =>
    simp only [beq_iff_eq, Option.some.injEq]
    constructor
    · intro e
      apply UInt8.toNat_inj.mp
      omega
    · intro e; rw [e]

theorem prefix_cons (s : List UInt8) (c : UInt8) (p : List UInt8) (i : Nat) : (c :: p).isPrefixOf (s.drop i) = true ↔ s[i]? = some c ∧ p.isPrefixOf (s.drop (i + 1)) = true := by
  by_cases h : i < s.length
  · rw [List.drop_eq_getElem_cons h, List.isPrefixOf]
    rw [List.getElem?_eq_getElem h]
    simp only [Bool.and_eq_true, beq_iff_eq, Option.some.injEq]
    constructor
    · rintro ⟨a, b⟩; exact ⟨a.symm, b⟩
    · rintro ⟨a, b⟩; exact ⟨a.symm, b⟩
  · rw [List.drop_eq_nil_of_le (by omega), List.getElem?_eq_none (by omega)]
    simp [List.isPrefixOf]

theorem lit_fold (s : List UInt8) (p : List UInt8) (R : Nat → Bool) (j : Nat) :
    ((numsL p).foldl (stepB s) R) j = true ↔ ∃ i, R i = true ∧ j = i + p.length ∧ p.isPrefixOf (s.drop i) = true := by
  induction p generalizing R with
  | nil =>
    simp [numsL]
  | cons c p ih =>
    have e : numsL (c :: p) = (c.toNat : Int) :: numsL p := rfl
    have hs : stepB s R (c.toNat : Int) = litB s c.toNat R := by unfold stepB; rw [if_neg (by omega)]
    rw [e, List.foldl_cons, hs, ih]
    constructor
    · rintro ⟨i, h1, h2, h3⟩
      cases i with
      | zero => simp [litB] at h1
      | succ i =>
        simp only [litB, Bool.and_eq_true, byteIs_iff] at h1
        exact ⟨i, h1.1, by simp; omega, (prefix_cons s c p i).2 ⟨h1.2, h3⟩⟩
    · rintro ⟨i, h1, h2, h3⟩
      obtain ⟨h4, h5⟩ := (prefix_cons s c p i).1 h3
      refine ⟨i + 1, ?_, by simp at h2; omega, h5⟩
      simp only [litB, Bool.and_eq_true, byteIs_iff]
      exact ⟨h1, h4⟩

/-- What the star's row and the greedy rest have to do with one another. -/
def Inv (s : List UInt8) (r : Option (List UInt8)) (S : Nat → Bool) : Prop :=
  (r = none ∧ ∀ j, j ≤ s.length → S j = false) ∨ (∃ a, a ≤ s.length ∧ r = some (s.drop a) ∧ ∀ j, j ≤ s.length → (S j = true ↔ a ≤ j))

theorem occ_le {s p : List UInt8} {i : Nat} (h : p.isPrefixOf (s.drop i) = true) (hi : i ≤ s.length) : i + p.length ≤ s.length := by
  have hp := (List.isPrefixOf_iff_prefix.1 h).length_le
  rw [List.length_drop] at hp
  omega

/-- One piece in the middle. -/
theorem inv_mid (s p : List UInt8) (r : List UInt8) (X : Nat → Bool) (h : Inv s (some r) (starB X)) :
    Inv s (if Lib.index r p < 0 then none else some (r.drop ((Lib.index r p).toNat + p.length))) (starB ((numsL p).foldl (stepB s) (starB X))) := by
  rcases h with ⟨h, _⟩ | ⟨a, ha, hr, hS⟩
  · cases h
  · cases hr
    have key : ∀ j, j ≤ s.length → (starB ((numsL p).foldl (stepB s) (starB X)) j = true ↔ ∃ k, k ≤ (s.drop a).length ∧ Lib.occAt (s.drop a) p k = true ∧ a + k + p.length ≤ j) := by
      intro j hj
      rw [starB_iff]
      constructor
      · rintro ⟨j', h1, h2⟩
        obtain ⟨i, h3, h4, h5⟩ := (lit_fold s p _ _).1 h2
        have hi : a ≤ i := (hS i (by omega)).1 h3
        refine ⟨i - a, by rw [List.length_drop]; omega, ?_, by omega⟩
        unfold Lib.occAt
        rw [List.drop_drop, show a + (i - a) = i by omega]
        exact h5
      · rintro ⟨k, h1, h2, h3⟩
        refine ⟨a + k + p.length, h3, (lit_fold s p _ _).2 ⟨a + k, (hS _ (by omega)).2 (by omega), rfl, ?_⟩⟩
        unfold Lib.occAt at h2
        rw [List.drop_drop] at h2
        exact h2
    rcases Lib.index_spec (s.drop a) p with ⟨h1, h2⟩ | ⟨i, h1, h2, h3, h4⟩
    · rw [h1, if_pos (by omega)]
      refine Or.inl ⟨rfl, fun j hj => ?_⟩
      rw [← Bool.not_eq_true, key j hj]
      rintro ⟨k, h5, h6, _⟩
      rw [h2 k h5] at h6
      cases h6
    · rw [h1, if_neg (by omega)]
      have hroom : a + i + p.length ≤ s.length := by
        have h3' : p.isPrefixOf (s.drop (a + i)) = true := by
          unfold Lib.occAt at h3
          rw [List.drop_drop] at h3
          exact h3
        rw [List.length_drop] at h2
        exact occ_le h3' (by omega)
      refine Or.inr ⟨a + i + p.length, hroom, ?_, fun j hj => ?_⟩
      · rw [List.drop_drop]
        congr 2
        simp only [Int.toNat_natCast]
        omega
      · rw [key j hj]
        constructor
        · rintro ⟨k, h5, h6, h7⟩
          have : i ≤ k := by
            rcases Nat.lt_or_ge k i with hlt | hge
            · have := h4 k hlt
              rw [this] at h6
              cases h6
            · exact hge
          omega
        · intro h5
          exact ⟨i, h2, h3, h5⟩

theorem inv_none (s p : List UInt8) (X : Nat → Bool) (h : Inv s none (starB X)) : Inv s none (starB ((numsL p).foldl (stepB s) (starB X))) := by
  rcases h with ⟨_, h⟩ | ⟨a, _, hr, _⟩
  · refine Or.inl ⟨rfl, fun j hj => ?_⟩
    rw [← Bool.not_eq_true, starB_iff]
    rintro ⟨j', h1, h2⟩
    obtain ⟨i, h3, h4, _⟩ := (lit_fold s p _ _).1 h2
    rw [h i (by omega)] at h3
    cases h3
  · cases hr

theorem stepB_star (s : List UInt8) (X : Nat → Bool) : stepB s X (-1) = starB X := by unfold stepB; rw [if_pos (by omega)]

/-- All pieces in the middle. -/
theorem inv_mids (s : List UInt8) (ps : List (List UInt8)) (r : Option (List UInt8)) (X : Nat → Bool) (h : Inv s r (starB X)) :
    Inv s (r.bind fun r => mid r ps) (starB ((ps.flatMap (fun q => -1 :: numsL q)).foldl (stepB s) X)) := by
  induction ps generalizing r X with
  | nil =>
    cases r with
    | none => exact h
    | some r => exact h
  | cons p ps ih =>
    rw [List.flatMap_cons, List.foldl_append, List.foldl_cons, stepB_star]
    cases r with
    | none => exact ih none _ (inv_none s p X h)
    | some r =>
      have h1 := ih _ _ (inv_mid s p r X h)
      have e : ((some r).bind fun r => mid r (p :: ps)) = ((if Lib.index r p < 0 then none else some (r.drop ((Lib.index r p).toNat + p.length))).bind fun r => mid r ps) := by
        show mid r (p :: ps) = _
        rw [mid]
        split <;> rfl
      rw [e]
      exact h1

theorem inv_first (s p : List UInt8) : Inv s (if p.isPrefixOf s then some (s.drop p.length) else none) (starB ((numsL p).foldl (stepB s) row0)) := by
  have key : ∀ j, starB ((numsL p).foldl (stepB s) row0) j = true ↔ p.isPrefixOf s = true ∧ p.length ≤ j := by
    intro j
    rw [starB_iff]
    constructor
    · rintro ⟨j', h1, h2⟩
      obtain ⟨i, h3, h4, h5⟩ := (lit_fold s p _ _).1 h2
      have : i = 0 := by simpa [row0] using h3
      subst this
      exact ⟨h5, by omega⟩
    · rintro ⟨h1, h2⟩
      exact ⟨p.length, h2, (lit_fold s p _ _).2 ⟨0, rfl, by omega, h1⟩⟩
  by_cases hp : p.isPrefixOf s = true
  · rw [if_pos hp]
    refine Or.inr ⟨p.length, (List.isPrefixOf_iff_prefix.1 hp).length_le, rfl, fun j _ => ?_⟩
    rw [key j]
    exact ⟨fun h => h.2, fun h => ⟨hp, h⟩⟩
  · rw [if_neg hp]
    refine Or.inl ⟨rfl, fun j _ => ?_⟩
    rw [← Bool.not_eq_true, key j]
    exact fun h => hp h.1

def sufB (r : Option (List UInt8)) (q : List UInt8) : Bool :=
  match r with
  | none => false
  | some r => Lib.hasSuffix r q

/-- The last piece. -/
theorem last_row (s p : List UInt8) (r : Option (List UInt8)) (X : Nat → Bool) (h : Inv s r (starB X)) :
    ((numsL p).foldl (stepB s) (starB X)) s.length = sufB r p := by
  rcases h with ⟨rfl, h⟩ | ⟨a, ha, rfl, hS⟩
  · show _ = false
    rw [← Bool.not_eq_true]
    intro h2
    obtain ⟨i, h3, h4, _⟩ := (lit_fold s p _ _).1 h2
    rw [h i (by omega)] at h3
    cases h3
  · rw [Bool.eq_iff_iff, lit_fold]
    show _ ↔ Lib.hasSuffix (s.drop a) p = true
    simp only [Lib.hasSuffix, List.isSuffixOf_iff_suffix]
    constructor
    · rintro ⟨i, h1, h2, h3⟩
      have hi := (hS i (by omega)).1 h1
      have hp := List.isPrefixOf_iff_prefix.1 h3
      have he : p = s.drop i := hp.eq_of_length (by rw [List.length_drop]; omega)
      rw [he]
      refine ⟨(s.drop a).take (i - a), ?_⟩
      have := List.take_append_drop (i - a) (s.drop a)
      rw [List.drop_drop, show a + (i - a) = i by omega] at this
      exact this
    · rintro ⟨t, ht⟩
      have hl := congrArg List.length ht
      rw [List.length_append, List.length_drop] at hl
      refine ⟨a + t.length, (hS _ (by omega)).2 (by omega), by omega, ?_⟩
      rw [← List.drop_drop, ← ht, List.drop_left]
      exact List.isPrefixOf_iff_prefix.2 (List.prefix_refl _)

/-- What glob.matches computes. -/
def globB (p : List UInt8) (ms : List (List UInt8)) (q : List UInt8) (s : List UInt8) : Bool :=
  sufB ((if p.isPrefixOf s then some (s.drop p.length) else none).bind fun r => mid r ms) q

/-- THE PLAIN LAW, two pieces or more. -/
theorem law_many (p q : List UInt8) (ms : List (List UInt8)) (s : List UInt8) : rows s (toks (p :: (ms ++ [q]))) s.length = globB p ms q s := by
  unfold rows globB
  have e : toks (p :: (ms ++ [q])) = numsL p ++ (ms.flatMap (fun q => -1 :: numsL q) ++ (-1 :: numsL q)) := by
    simp [toks]
  rw [e, List.foldl_append, List.foldl_append, List.foldl_cons, stepB_star]
  exact last_row s q _ _ (inv_mids s ms _ _ (inv_first s p))

/-- THE PLAIN LAW, one piece. -/
theorem law_one (p : List UInt8) (s : List UInt8) : rows s (toks [p]) s.length = (s == p) := by
  unfold rows
  have e : toks [p] = numsL p := by simp [toks]
  rw [e, Bool.eq_iff_iff, lit_fold]
  simp only [beq_iff_eq]
  constructor
  · rintro ⟨i, h1, h2, h3⟩
    have : i = 0 := by simpa [row0] using h1
    subst this
    exact ((List.isPrefixOf_iff_prefix.1 h3).eq_of_length (by simp; omega)).symm
  · intro h
    subst h
    exact ⟨0, rfl, by omega, List.isPrefixOf_iff_prefix.2 (List.prefix_refl _)⟩
end Go.Proofs.Qxb6600234a

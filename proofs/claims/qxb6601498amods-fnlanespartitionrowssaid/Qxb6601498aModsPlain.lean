/-
  Plain lists: which rows a window's lanes hold. No Go in sight.
  'S i j': rows i and j are of one aggregate; 'h t': the row that head t names; m heads; a row goes to the LAST head of its aggregate.
-/
import Derived.Lib.Slices
namespace Go.Proofs.Qxb6601498aMods

/-- The last index below k at which f says yes. -/
def lastOf (f : Nat → Bool) : Nat → Option Nat
  | 0 => none
  | k + 1 => if f k then some k else lastOf f k

theorem lastOf_some {f : Nat → Bool} : ∀ {k i : Nat}, lastOf f k = some i ↔ i < k ∧ f i = true ∧ ∀ t, i < t → t < k → f t = false
  | 0, i => by simp [lastOf]
  | k + 1, i => by
    unfold lastOf
    cases hf : f k with
    | true =>
      simp only [if_true, Option.some.injEq]
      constructor
      · intro e
        subst e
        exact ⟨Nat.lt_succ_self _, hf, fun t h1 h2 => by omega⟩
      · rintro ⟨h1, h2, h3⟩
        by_cases e : k = i
        · exact e
        · have := h3 k (by omega) (Nat.lt_succ_self _)
          rw [hf] at this
          cases this
    | false =>
      simp only [Bool.false_eq_true, if_false]
      rw [lastOf_some]
      constructor
      · rintro ⟨h1, h2, h3⟩
        refine ⟨by omega, h2, fun t ht hk => ?_⟩
        by_cases e : t = k
        · subst e; exact hf
        · exact h3 t ht (by omega)
      · rintro ⟨h1, h2, h3⟩
        have : i ≠ k := fun e => by subst e; rw [hf] at h2; cases h2
        exact ⟨by omega, h2, fun t ht hk => h3 t ht (by omega)⟩

theorem lastOf_none {f : Nat → Bool} : ∀ {k : Nat}, lastOf f k = none ↔ ∀ t, t < k → f t = false
  | 0 => by simp [lastOf]
  | k + 1 => by
    unfold lastOf
    cases hf : f k with
    | true =>
      simp only [if_true]
      constructor
      · intro h; cases h
      · intro h
        have := h k (Nat.lt_succ_self _)
        rw [hf] at this
        cases this
    | false =>
      simp only [Bool.false_eq_true, if_false]
      rw [lastOf_none]
      constructor
      · intro h t ht
        by_cases e : t = k
        · subst e; exact hf
        · exact h t (by omega)
      · intro h t ht
        exact h t (by omega)

theorem lastOf_congr {f g : Nat → Bool} : ∀ {k : Nat}, (∀ t, t < k → f t = g t) → lastOf f k = lastOf g k
  | 0, _ => rfl
  | k + 1, h => by
    unfold lastOf
    rw [h k (Nat.lt_succ_self _), lastOf_congr (fun t ht => h t (by omega))]

/-- An equivalence. -/
structure Equiv3 (S : Nat → Nat → Bool) : Prop where
  refl : ∀ i, S i i = true
  symm : ∀ i j, S i j = true → S j i = true
  trans : ∀ i j k, S i j = true → S j k = true → S i k = true

theorem Equiv3.swap {S : Nat → Nat → Bool} (E : Equiv3 S) (i j : Nat) : S i j = S j i := by
  cases h : S i j with
  | true => exact (E.symm _ _ h).symm
  | false =>
    cases h' : S j i with
    | true => rw [E.symm _ _ h'] at h; exact h.symm
    | false => rfl
theorem Equiv3.left {S : Nat → Nat → Bool} (E : Equiv3 S) {i j : Nat} (h : S i j = true) (t : Nat) : S t i = S t j := by
  cases h1 : S t j with
  | true => exact E.trans _ _ _ h1 (E.symm _ _ h)
  | false =>
    cases h2 : S t i with
    | true => rw [E.trans _ _ _ h2 h] at h1; exact h1
    | false => rfl

/-- The head to which row k goes. -/
def homeOf (S : Nat → Nat → Bool) (h : Nat → Nat) (m k : Nat) : Option Nat := lastOf (fun t => S (h t) k) m

/-- Of the first k rows those that go to head j, ascending. -/
def laneL (S : Nat → Nat → Bool) (h : Nat → Nat) (m j k : Nat) : List Nat := (List.range k).filter (fun i => decide (homeOf S h m i = some j))

theorem laneL_zero (S : Nat → Nat → Bool) (h : Nat → Nat) (m j : Nat) : laneL S h m j 0 = [] := rfl
theorem laneL_hit {S : Nat → Nat → Bool} {h : Nat → Nat} {m j k : Nat} (e : homeOf S h m k = some j) : laneL S h m j (k + 1) = laneL S h m j k ++ [k] := by
  unfold laneL
  rw [List.range_succ, List.filter_append]
  simp [e]
theorem laneL_miss {S : Nat → Nat → Bool} {h : Nat → Nat} {m j k : Nat} (e : homeOf S h m k ≠ some j) : laneL S h m j (k + 1) = laneL S h m j k := by
  unfold laneL
  rw [List.range_succ, List.filter_append]
  simp [e]
theorem laneL_len (S : Nat → Nat → Bool) (h : Nat → Nat) (m j k : Nat) : (laneL S h m j k).length ≤ k := by
  unfold laneL
  have := List.length_filter_le (fun i => decide (homeOf S h m i = some j)) (List.range k)
  simpa using this
theorem laneL_mem {S : Nat → Nat → Bool} {h : Nat → Nat} {m j k i : Nat} : i ∈ laneL S h m j k ↔ i < k ∧ homeOf S h m i = some j := by
  unfold laneL
  rw [List.mem_filter, List.mem_range]
  simp

/-- What lies ahead of row k in the whole lane is the lane of the first k rows. -/
theorem laneL_split (S : Nat → Nat → Bool) (h : Nat → Nat) (m j n k : Nat) (hk : k ≤ n) : ∃ r, laneL S h m j n = laneL S h m j k ++ r := by
  induction n with
  | zero =>
    obtain rfl : k = 0 := by omega
    exact ⟨[], by simp⟩
  | succ n ih =>
    by_cases e : k = n + 1
    · subst e; exact ⟨[], by simp⟩
    · obtain ⟨r, hr⟩ := ih (by omega)
      by_cases hm : homeOf S h m n = some j
      · exact ⟨r ++ [n], by rw [laneL_hit hm, hr, List.append_assoc]⟩
      · exact ⟨r, by rw [laneL_miss hm, hr]⟩

/-- The next row of the lane, read at its place. -/
theorem laneL_at {S : Nat → Nat → Bool} {h : Nat → Nat} {m j n k : Nat} (hk : k < n) (e : homeOf S h m k = some j) :
    (laneL S h m j k).length < (laneL S h m j n).length ∧ (laneL S h m j n).getD (laneL S h m j k).length 0 = k := by
  obtain ⟨r, hr⟩ := laneL_split S h m j n (k + 1) hk
  rw [hr, laneL_hit e]
  constructor
  · simp
  · simp [List.getD]

/-- Is head i's aggregate that of a later head? -/
def shadowed (S : Nat → Nat → Bool) (h : Nat → Nat) (m i : Nat) : Bool := (List.range m).any (fun t => decide (i < t) && S (h t) (h i))

theorem shadowed_true {S : Nat → Nat → Bool} {h : Nat → Nat} {m i : Nat} : shadowed S h m i = true ↔ ∃ t, i < t ∧ t < m ∧ S (h t) (h i) = true := by
  unfold shadowed
  rw [List.any_eq_true]
  constructor
  · rintro ⟨t, h1, h2⟩
    rw [Bool.and_eq_true, decide_eq_true_eq] at h2
    exact ⟨t, h2.1, List.mem_range.1 h1, h2.2⟩
  · rintro ⟨t, h1, h2, h3⟩
    exact ⟨t, List.mem_range.2 h2, by rw [Bool.and_eq_true, decide_eq_true_eq]; exact ⟨h1, h3⟩⟩
theorem shadowed_false {S : Nat → Nat → Bool} {h : Nat → Nat} {m i : Nat} (hf : ∀ t, i < t → t < m → S (h t) (h i) = false) : shadowed S h m i = false := by
  rw [Bool.eq_false_iff]
  intro hs
  obtain ⟨t, h1, h2, h3⟩ := shadowed_true.1 hs
  rw [hf t h1 h2] at h3
  cases h3

/-- A ROW GOES TO HEAD i JUST IF i IS NOT SHADOWED AND THE ROW IS OF ITS AGGREGATE. -/
theorem home_iff {S : Nat → Nat → Bool} (E : Equiv3 S) {h : Nat → Nat} {m i k : Nat} (hi : i < m) : homeOf S h m k = some i ↔ shadowed S h m i = false ∧ S k (h i) = true := by
  unfold homeOf
  rw [lastOf_some]
  constructor
  · rintro ⟨_, h2, h3⟩
    refine ⟨shadowed_false fun t ht hm => ?_, E.symm _ _ h2⟩
    rw [E.left h2 (h t)]
    exact h3 t ht hm
  · rintro ⟨h1, h2⟩
    refine ⟨hi, E.symm _ _ h2, fun t ht hm => ?_⟩
    cases hs : S (h t) k with
    | false => rfl
    | true =>
      have : shadowed S h m i = true := shadowed_true.2 ⟨t, ht, hm, E.trans _ _ _ hs h2⟩
      rw [h1] at this
      cases this

/-- A row has a home just if some head is of its aggregate. -/
theorem home_some {S : Nat → Nat → Bool} (E : Equiv3 S) {h : Nat → Nat} {m k : Nat} : (homeOf S h m k).isSome = (List.range m).any (fun t => S k (h t)) := by
  cases hh : homeOf S h m k with
  | none =>
    unfold homeOf at hh
    rw [lastOf_none] at hh
    symm
    show _ = false
    rw [List.any_eq_false]
    intro t ht
    rw [E.swap, hh t (List.mem_range.1 ht)]
    decide
  | some i =>
    unfold homeOf at hh
    rw [lastOf_some] at hh
    symm
    show _ = true
    rw [List.any_eq_true]
    exact ⟨i, List.mem_range.2 hh.1, E.symm _ _ hh.2.1⟩

/-- A lane that holds a row holds its own head. -/
theorem head_home {S : Nat → Nat → Bool} (E : Equiv3 S) {h : Nat → Nat} {m i k : Nat} (hi : i < m) (hk : homeOf S h m k = some i) : homeOf S h m (h i) = some i := by
  rw [home_iff E hi] at *
  exact ⟨hk.1, E.refl _⟩

/-- A lane is strictly ascending. -/
theorem laneL_asc (S : Nat → Nat → Bool) (h : Nat → Nat) (m j n : Nat) : (laneL S h m j n).Pairwise (· < ·) := by
  unfold laneL
  exact (List.pairwise_lt_range).filter _
theorem laneL_asc_at (S : Nat → Nat → Bool) (h : Nat → Nat) (m j n : Nat) {p : Nat} (hp : p + 1 < (laneL S h m j n).length) : (laneL S h m j n).getD p 0 < (laneL S h m j n).getD (p + 1) 0 := by
  have := List.pairwise_iff_getElem.1 (laneL_asc S h m j n) p (p + 1) (by omega) hp (Nat.lt_succ_self _)
  simp only [List.getD, List.getElem?_eq_getElem hp, List.getElem?_eq_getElem (show p < (laneL S h m j n).length by omega)]
  exact this
theorem laneL_get {S : Nat → Nat → Bool} {h : Nat → Nat} {m j n p : Nat} (hp : p < (laneL S h m j n).length) : (laneL S h m j n).getD p 0 < n ∧ homeOf S h m ((laneL S h m j n).getD p 0) = some j := by
  have hm : (laneL S h m j n).getD p 0 ∈ laneL S h m j n := by simp [List.getD, hp]
  exact laneL_mem.1 hm
end Go.Proofs.Qxb6601498aMods

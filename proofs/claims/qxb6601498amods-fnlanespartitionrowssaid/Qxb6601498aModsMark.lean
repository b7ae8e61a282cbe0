/-
  Plain lists: which rows are marked when the lanes are gone through one by one. No Go in sight.
-/
import Derived.Test.Qxb6601498aModsPlain
namespace Go.Proofs.Qxb6601498aMods

/-- Is row k marked, when the lanes below i are through and the first p rows of lane i? -/
def markB (S : Nat → Nat → Bool) (h : Nat → Nat) (m n i p k : Nat) : Bool :=
  match homeOf S h m k with
  | none => false
  | some j => decide (j < i) || (decide (j = i) && ((laneL S h m i n).take p).contains k)

theorem mark_zero (S : Nat → Nat → Bool) (h : Nat → Nat) (m n k : Nat) : markB S h m n 0 0 k = false := by
  unfold markB
  cases homeOf S h m k with
  | none => rfl
  | some j => simp

theorem mark_next (S : Nat → Nat → Bool) (h : Nat → Nat) (m n i k : Nat) (hk : k < n) {p : Nat} (hp : (laneL S h m i n).length ≤ p) : markB S h m n i p k = markB S h m n (i + 1) 0 k := by
  unfold markB
  rw [List.take_of_length_le hp]
  cases hh : homeOf S h m k with
  | none => rfl
  | some j =>
    simp only [List.take_zero, List.contains_nil, Bool.and_false, Bool.or_false]
    by_cases e : j = i
    · subst e
      have hm : k ∈ laneL S h m j n := laneL_mem.2 ⟨hk, hh⟩
      simp [hm]
    · have e1 : decide (j = i) = false := decide_eq_false e
      rw [e1, Bool.false_and, Bool.or_false]
      by_cases h2 : j < i
      · rw [decide_eq_true h2, decide_eq_true (by omega)]
      · rw [decide_eq_false h2, decide_eq_false (by omega)]

theorem mark_end (S : Nat → Nat → Bool) (h : Nat → Nat) (m n k : Nat) : markB S h m n m 0 k = (homeOf S h m k).isSome := by
  unfold markB
  cases hh : homeOf S h m k with
  | none => rfl
  | some j =>
    unfold homeOf at hh
    have := (lastOf_some.1 hh).1
    simp [this]

theorem getD_mem {l : List Nat} {p : Nat} (hp : p < l.length) : l.getD p 0 ∈ l := by simp [List.getD, hp]

theorem take_snoc_n (l : List Nat) (p : Nat) (hp : p < l.length) : l.take (p + 1) = l.take p ++ [l.getD p 0] := by
  rw [List.take_succ_eq_append_getElem hp]; simp [hp]

theorem lane_notin (S : Nat → Nat → Bool) (h : Nat → Nat) (m n i p : Nat) (hp : p < (laneL S h m i n).length) : ((laneL S h m i n).take p).contains ((laneL S h m i n).getD p 0) = false := by
  rw [Bool.eq_false_iff]
  intro hc
  rw [List.contains_iff_mem] at hc
  have hs := laneL_asc S h m i n
  rw [← List.take_append_drop p (laneL S h m i n), List.pairwise_append] at hs
  have hd : (laneL S h m i n).getD p 0 ∈ (laneL S h m i n).drop p := by
    rw [List.mem_iff_getElem]
    exact ⟨0, by simp; omega, by simp [hp]⟩
  have := hs.2.2 _ hc _ hd
  omega

theorem mark_fresh (S : Nat → Nat → Bool) (h : Nat → Nat) (m n i p : Nat) (hp : p < (laneL S h m i n).length) : markB S h m n i p ((laneL S h m i n).getD p 0) = false := by
  unfold markB
  rw [(laneL_get hp).2]
  simp only [lane_notin S h m n i p hp, Bool.and_false, Bool.or_false]
  exact decide_eq_false (Nat.lt_irrefl _)

theorem mark_set (S : Nat → Nat → Bool) (h : Nat → Nat) (m n i p k : Nat) (hp : p < (laneL S h m i n).length) : markB S h m n i (p + 1) k = if k = (laneL S h m i n).getD p 0 then true else markB S h m n i p k := by
  by_cases e : k = (laneL S h m i n).getD p 0
  · rw [if_pos e]
    unfold markB
    rw [e, (laneL_get hp).2, take_snoc_n _ _ hp]
    simp
  · rw [if_neg e]
    unfold markB
    cases hh : homeOf S h m k with
    | none => rfl
    | some j =>
      simp only
      rw [take_snoc_n _ _ hp]
      have : ((laneL S h m i n).take p ++ [(laneL S h m i n).getD p 0]).contains k = ((laneL S h m i n).take p).contains k := by
        rw [Bool.eq_iff_iff, List.contains_iff_mem, List.contains_iff_mem, List.mem_append, List.mem_singleton]
        constructor
        · rintro (h | h)
          · exact h
          · exact absurd h e
        · intro h; exact .inl h
      rw [this]

/-- Has the head been met among the first p rows of its lane? -/
def metB (S : Nat → Nat → Bool) (h : Nat → Nat) (m n i p : Nat) : Bool := ((laneL S h m i n).take p).contains (h i)
theorem met_zero (S : Nat → Nat → Bool) (h : Nat → Nat) (m n i : Nat) : metB S h m n i 0 = false := by simp [metB]
theorem met_hit (S : Nat → Nat → Bool) (h : Nat → Nat) (m n i p : Nat) (hp : p < (laneL S h m i n).length) (e : (laneL S h m i n).getD p 0 = h i) : metB S h m n i (p + 1) = true := by
  unfold metB
  rw [take_snoc_n _ _ hp, e]
  simp
theorem met_miss (S : Nat → Nat → Bool) (h : Nat → Nat) (m n i p : Nat) (hp : p < (laneL S h m i n).length) (e : (laneL S h m i n).getD p 0 ≠ h i) : metB S h m n i (p + 1) = metB S h m n i p := by
  unfold metB
  rw [take_snoc_n _ _ hp, Bool.eq_iff_iff, List.contains_iff_mem, List.contains_iff_mem, List.mem_append, List.mem_singleton]
  constructor
  · rintro (h | h)
    · exact h
    · exact absurd h.symm e
  · intro h; exact .inl h
theorem met_end {S : Nat → Nat → Bool} (E : Equiv3 S) (h : Nat → Nat) (m n i p : Nat) (hi : i < m) (hn : h i < n) (hp : (laneL S h m i n).length ≤ p) (h0 : 0 < (laneL S h m i n).length) : metB S h m n i p = true := by
  unfold metB
  rw [List.take_of_length_le hp, List.contains_iff_mem]
  have := (laneL_get h0).2
  exact laneL_mem.2 ⟨hn, head_home E hi this⟩
end Go.Proofs.Qxb6601498aMods

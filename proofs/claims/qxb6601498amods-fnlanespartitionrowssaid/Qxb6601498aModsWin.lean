/-
  (*window).lanes: the invariants of its two loops, and what a round does to them. No walk here.
-/
import Derived.Test.Qxb6601498aModsKey
import Derived.Deep.AppendLies
namespace Go.Proofs.Qxb6601498aMods
open Go.RowKit Go.Maps
set_option linter.unusedVariables false

/-- A lane as it is laid. -/
def freshLane : Obj := .cells #[.slice none 0 0, .int .i64 0, .int .i64 0, .bool false] 62

/-- After k heads: 'gl': the slice of pointers; 'gm': the map. -/
structure Win1 (w : World) (m : Nat) (r : Nat → RowV) (hd : Nat → Nat) (k : Nat) (p : Nat → Nat) (D : DataW Unit) (wr : World) : Prop where
  row : wr.rowIs w.heap.size 63 m (fun j => if j < k then .pointer (some ⟨p j, 0, none⟩) else .pointer none)
  map : wr.ownsMap Trym.prog 53 ptrElem (w.heap.size + 1) k D
  at_ : ∀ x : RowV, x.small → D.atKey (keyR x) .nil = ptrD ((lastOf (fun t => sameA (r (hd t)) x) k).map p)
  lane : ∀ j, j < k → w.heap.size + 1 < p j ∧ p j < wr.heap.size ∧ wr.heap[p j]? = some freshLane
  asc : ∀ i j, i < j → j < k → p i < p j
  bel : Below w.heap.size w wr

theorem win1_start (w : World) (m : Nat) (r : Nat → RowV) (hd : Nat → Nat) (p : Nat → Nat) : Win1 w m r hd 0 p (.map []) ((w.alloc (.cells (madeCells #[.pointer none] m) 63)).alloc (.map #[] 0)) := by
  have s1 := Go.Deep.nblk_alloc w (.cells (madeCells #[.pointer none] m) 63)
  refine ⟨?_, ?_, ?_, fun j hj => absurd hj (Nat.not_lt_zero _), fun i j _ hj => absurd hj (Nat.not_lt_zero _), ?_⟩
  · exact ((World.rowIs_made w (.pointer none) m 63).congr fun i _ => by rw [if_neg (Nat.not_lt_zero _)]).alloc _
  · have h := World.ownsMap_made (w.alloc (.cells (madeCells #[.pointer none] m) 63)) Trym.prog 53 ptrElem
    rw [s1] at h
    exact h
  · intro x hx
    rfl
  · exact ((Below.refl _ _).alloc (Nat.le_refl _) _).alloc (by rw [s1]; omega) _

theorem win1_step {w : World} {m : Nat} {r : Nat → RowV} {hd : Nat → Nat} {k : Nat} {p : Nat → Nat} {D : DataW Unit} {wr : World} (I : Win1 w m r hd k p D wr) (hk : k < m) (hkey : (r (hd k)).small) {w1 : World}
    (hown : w1.ownsMap Trym.prog 53 ptrElem (w.heap.size + 1) (k + 1) (D.put (keyR (r (hd k))) (ptrD (some wr.heap.size))))
    (hg : ((wr.setCell ⟨w.heap.size, k, none⟩ (.pointer (some ⟨wr.heap.size, 0, none⟩))).alloc freshLane).grownBy w1 (some (w.heap.size + 1))) :
    Win1 w m r hd (k + 1) (fun j => if j = k then wr.heap.size else p j) (D.put (keyR (r (hd k))) (ptrD (some wr.heap.size))) w1 := by
  have hgl := I.row.lt
  have hgm := I.map.lt
  have hsz : (wr.setCell ⟨w.heap.size, k, none⟩ (.pointer (some ⟨wr.heap.size, 0, none⟩))).heap.size = wr.heap.size := by simp [World.setCell]
  have hsz2 : ((wr.setCell ⟨w.heap.size, k, none⟩ (.pointer (some ⟨wr.heap.size, 0, none⟩))).alloc freshLane).heap.size = wr.heap.size + 1 := by rw [Go.Deep.nblk_alloc, hsz]
  have hblk : ∀ b, b < wr.heap.size → b ≠ w.heap.size → b ≠ w.heap.size + 1 → w1.heap[b]? = wr.heap[b]? := fun b h1 h2 h3 => by
    rw [hg.block b (by rw [hsz2]; omega) (by intro e; injection e with e; exact h3 e), Below.heap_alloc _ _ _ (by rw [hsz]; exact h1), Below.heap_setCell _ _ _ _ h2]
  refine ⟨?_, hown, ?_, ?_, ?_, ?_⟩
  · have h1 : wr.rowIs w.heap.size 63 m (fun j => if j < k then .pointer (some ⟨if j = k then wr.heap.size else p j, 0, none⟩) else .pointer none) := I.row.congr fun i _ => by
      by_cases e : i < k
      · rw [if_pos e, if_pos e, if_neg (by omega)]
      · rw [if_neg e, if_neg e]
    have h2 : (wr.setCell ⟨w.heap.size, k, none⟩ (.pointer (some ⟨wr.heap.size, 0, none⟩))).rowIs w.heap.size 63 m (fun j => if j < k + 1 then .pointer (some ⟨if j = k then wr.heap.size else p j, 0, none⟩) else .pointer none) := by
      refine (h1.set k (.pointer (some ⟨wr.heap.size, 0, none⟩))).congr fun i _ => ?_
      by_cases e : i = k
      · subst e; rw [if_pos rfl, if_pos (Nat.lt_succ_self _), if_pos rfl]
      · by_cases h2 : i < k
        · simp only [if_neg e, if_pos h2, if_pos (show i < k + 1 by omega)]
        · simp only [if_neg e, if_neg h2, if_neg (show ¬ i < k + 1 by omega)]
    refine (h2.alloc freshLane).of_block (hg.block _ (by rw [hsz2]; omega) (by intro e; injection e with e; omega))
  · intro x hx
    unfold lastOf
    cases hs : sameA (r (hd k)) x with
    | true =>
      have hkk : keyR (r (hd k)) = keyR x := (keyR_inj hkey hx).2 hs
      rw [← hkk, atKey_put_same I.map.isMap (keyR_isKey hkey)]
      simp
    | false =>
      have hkk : keyR x ≠ keyR (r (hd k)) := fun e => by rw [(keyR_inj hkey hx).1 e.symm] at hs; cases hs
      rw [atKey_put_other hkk, I.at_ x hx]
      simp only [Bool.false_eq_true, if_false]
      cases hl : lastOf (fun t => sameA (r (hd t)) x) k with
      | none => rfl
      | some i =>
        have := (lastOf_some.1 hl).1
        simp only [Option.map_some]
        rw [if_neg (by omega)]
  · intro j hj
    by_cases e : j = k
    · subst e
      simp only [if_true]
      refine ⟨hgm, Nat.lt_of_lt_of_le (by omega) (Nat.le_trans (Nat.le_of_eq hsz2.symm) hg.size), ?_⟩
      rw [hg.block _ (by rw [hsz2]; omega) (by intro e; injection e with e; omega)]
      have h3 := Go.Deep.blk_alloc_new (wr.setCell ⟨w.heap.size, j, none⟩ (.pointer (some ⟨wr.heap.size, 0, none⟩))) freshLane
      rw [hsz] at h3
      exact h3
    · obtain ⟨h1, h2, h3⟩ := I.lane j (by omega)
      simp only [if_neg e]
      refine ⟨h1, Nat.lt_of_lt_of_le h2 (Nat.le_trans (by rw [hsz2]; omega) hg.size), ?_⟩
      rw [hblk _ h2 (by omega) (by omega)]
      exact h3
  · intro i j hij hj
    by_cases e : j = k
    · subst e
      rw [if_pos rfl, if_neg (by omega)]
      exact (I.lane i hij).2.1
    · rw [if_neg e, if_neg (by omega)]
      exact I.asc i j hij (by omega)
  · have h1 := I.bel.setCell (p := ⟨w.heap.size, k, none⟩) (Nat.le_refl _) (.pointer (some ⟨wr.heap.size, 0, none⟩))
    have h2 := h1.alloc (by rw [hsz]; omega) freshLane
    exact h2.grown hg (by rw [hsz2]; omega) (fun i e => by injection e with e; omega)

/-- A slice value holds a lane's rows: nil, or in a row of its own. -/
def laneVals (l : List Nat) : List Value := l.map (fun i : Nat => Value.int .i64 (i : Int))

/-- After k rows. -/
structure Win2 (w : World) (B n m : Nat) (S : Nat → Nat → Bool) (hd : Nat → Nat) (p : Nat → Nat) (D : DataW Unit) (k : Nat) (v : Nat → Value) (wr : World) : Prop where
  row : wr.rowIs w.heap.size 63 m (fun j => .pointer (some ⟨p j, 0, none⟩))
  map : wr.ownsMap Trym.prog 53 ptrElem (w.heap.size + 1) m D
  lane : ∀ j, j < m → w.heap.size + 1 < p j ∧ p j < B ∧ wr.heap[p j]? = some (.cells #[v j, .int .i64 0, .int .i64 0, .bool false] 62)
  own : ∀ j, j < m → wr.ownsRow B 3 1 (v j) (laneL S hd m j k).length (laneVals (laneL S hd m j k))
  apart : ∀ i j, i < m → j < m → i ≠ j → (v i).ownBlock = none ∨ (v i).ownBlock ≠ (v j).ownBlock
  size : B ≤ wr.heap.size
  bel : Below w.heap.size w wr

theorem win2_start {w : World} {n m : Nat} {r : Nat → RowV} {S : Nat → Nat → Bool} {hd : Nat → Nat} {p : Nat → Nat} {D : DataW Unit} {wr : World} (I : Win1 w m r hd m p D wr) :
    Win2 w wr.heap.size n m S hd p D 0 (fun _ => .slice none 0 0) wr := by
  refine ⟨?_, I.map, I.lane, fun j _ => ?_, fun i j _ _ _ => .inl rfl, Nat.le_refl _, I.bel⟩
  · exact I.row.congr fun i hi => by rw [if_pos hi]
  · exact World.ownsRow_nil _ _ _ _

theorem win2_miss {w : World} {B n m : Nat} {S : Nat → Nat → Bool} {hd : Nat → Nat} {p : Nat → Nat} {D : DataW Unit} {k : Nat} {v : Nat → Value} {wr : World} (I : Win2 w B n m S hd p D k v wr) {wa : World} (hg : wr.grownBy wa none)
    (hh : homeOf S hd m k = none) : Win2 w B n m S hd p D (k + 1) v wa := by
  have hs := I.size
  have hb := I.bel.size
  refine ⟨?_, I.map.kept hg (by simp), ?_, ?_, I.apart, Nat.le_trans hs hg.size, ?_⟩
  · exact I.row.of_block (hg.block _ I.row.lt (by simp))
  · intro j hj
    obtain ⟨h1, h2, h3⟩ := I.lane j hj
    exact ⟨h1, h2, by rw [hg.block _ (by omega) (by simp)]; exact h3⟩
  · intro j hj
    rw [laneL_miss (by rw [hh]; simp)]
    exact (I.own j hj).kept hg (by cases hv : (v j).ownBlock <;> simp)
  · exact I.bel.grown hg (by omega) (fun i e => by cases e)

theorem win2_hit {w : World} {B n m : Nat} {S : Nat → Nat → Bool} {hd : Nat → Nat} {p : Nat → Nat} {D : DataW Unit} {k : Nat} {v : Nat → Value} {wr : World} (I : Win2 w B n m S hd p D k v wr) (hasc : ∀ i j, i < j → j < m → p i < p j) {wa w1 : World} (hga : wr.grownBy wa none)
    {j : Nat} (hj : j < m) (hh : homeOf S hd m k = some j) {g cap : Nat}
    (hown : w1.ownsRow B 3 1 (.slice (some ⟨g, 0, none⟩) ((laneL S hd m j k).length + 1) cap) ((laneL S hd m j k).length + 1) (laneVals (laneL S hd m j k) ++ [.int .i64 (k : Int)]))
    (hg1 : wa.grownBy w1 (v j).ownBlock) (hat : (v j).ownBlock = some g ∨ g = wa.heap.size) :
    Win2 w B n m S hd p D (k + 1) (fun i => if i = j then .slice (some ⟨g, 0, none⟩) ((laneL S hd m j k).length + 1) cap else v i) (w1.setCell ⟨p j, 0, none⟩ (.slice (some ⟨g, 0, none⟩) ((laneL S hd m j k).length + 1) cap)) := by
  have hs := I.size
  have hb := I.bel.size
  have hsa := hga.size
  have hrow := I.row.lt
  have hmap := I.map.lt
  obtain ⟨p1, p2, p3⟩ := I.lane j hj
  have hob : ∀ b, (v j).ownBlock = some b → B ≤ b ∧ b < wr.heap.size := (I.own j hj).lt
  have hne : ∀ b, b < B → some b ≠ (v j).ownBlock := fun b hb' e => by have := (hob b e.symm).1; omega
  have hblk : ∀ b, b < B → b ≠ p j → (w1.setCell ⟨p j, 0, none⟩ (.slice (some ⟨g, 0, none⟩) ((laneL S hd m j k).length + 1) cap)).heap[b]? = wr.heap[b]? := fun b hb' hp => by
    rw [Below.heap_setCell _ _ _ _ hp, hg1.block b (by omega) (hne b hb'), hga.block b (by omega) (by simp)]
  have hsz : (w1.setCell ⟨p j, 0, none⟩ (.slice (some ⟨g, 0, none⟩) ((laneL S hd m j k).length + 1) cap)).heap.size = w1.heap.size := by simp [World.setCell]
  have hpne : ∀ i, i < m → i ≠ j → p i ≠ p j := fun i hi hij => by
    rcases Nat.lt_or_gt_of_ne hij with h | h
    · have := hasc i j h hj; omega
    · have := hasc j i h hi; omega
  have hmap1 : w1.ownsMap Trym.prog 53 ptrElem (w.heap.size + 1) m D := (I.map.kept hga (by simp)).kept hg1 (hne _ (by omega))
  refine ⟨?_, ?_, ?_, ?_, ?_, ?_, ?_⟩
  · exact I.row.of_block (hblk _ (by omega) (by omega))
  · exact hmap1.setCell (a := ⟨p j, 0, none⟩) (by simp only []; omega) _
  · intro i hi
    by_cases e : i = j
    · subst e
      simp only [if_true]
      refine ⟨p1, p2, ?_⟩
      have h1 : w1.heap[p i]? = some (.cells #[v i, .int .i64 0, .int .i64 0, .bool false] 62) := by
        rw [hg1.block _ (by omega) (hne _ p2), hga.block _ (by omega) (by simp)]; exact p3
      simp [World.setCell, Array.getElem?_modify, h1]
    · simp only [if_neg e]
      obtain ⟨h1, h2, h3⟩ := I.lane i hi
      exact ⟨h1, h2, by rw [hblk _ h2 (hpne i hi e)]; exact h3⟩
  · intro i hi
    by_cases e : i = j
    · subst e
      simp only [if_true]
      rw [laneL_hit hh]
      have h1 : laneVals (laneL S hd m i k ++ [k]) = laneVals (laneL S hd m i k) ++ [.int .i64 (k : Int)] := by simp [laneVals]
      rw [h1, List.length_append]
      exact ownsRow_setCell_below hown p2 _
    · simp only [if_neg e]
      rw [laneL_miss (by rw [hh]; intro h; injection h with h; exact e h.symm)]
      have h1 := (I.own i hi).kept hga (by cases hv : (v i).ownBlock <;> simp)
      have h2 := h1.kept hg1 (I.apart i j hi hj e)
      exact ownsRow_setCell_below h2 p2 _
  · intro a b ha hb' hab
    have hnew : ∀ i, i < m → i ≠ j → (v i).ownBlock = none ∨ (v i).ownBlock ≠ some g := fun i hi hij => by
      rcases hat with h | h
      · rw [← h]; exact I.apart i j hi hj hij
      · cases hv : (v i).ownBlock with
        | none => exact .inl rfl
        | some b =>
          right
          intro e
          injection e with e
          have := ((I.own i hi).lt b hv).2
          omega
    by_cases ea : a = j
    · subst ea
      have eb : b ≠ a := fun e => hab e.symm
      simp only [if_true, if_neg eb]
      rcases hnew b hb' eb with h | h
      · right; rw [h]; intro e; cases e
      · right; intro e; exact h e.symm
    · by_cases eb : b = j
      · subst eb
        simp only [if_true, if_neg ea]
        exact hnew a ha ea
      · simp only [if_neg ea, if_neg eb]
        exact I.apart a b ha hb' hab
  · rw [hsz]; exact Nat.le_trans hs (Nat.le_trans hsa hg1.size)
  · have h1 := I.bel.grown hga (by omega) (fun i e => by cases e)
    have h2 := h1.grown hg1 (by omega) (fun i e => by have := (hob i e).1; omega)
    exact h2.setCell (p := ⟨p j, 0, none⟩) (by simp only []; omega) _

/-- The rows of lane j, as ints. -/
def laneInts (S : Nat → Nat → Bool) (hd : Nat → Nat) (m j k : Nat) : List Int := (laneL S hd m j k).map (fun i : Nat => (i : Int))

/-- What is left at the end: each lane's slice holds its rows. -/
theorem win2_ints {w : World} {B n m : Nat} {S : Nat → Nat → Bool} {hd : Nat → Nat} {p : Nat → Nat} {D : DataW Unit} {k : Nat} {v : Nat → Value} {wr : World} (I : Win2 w B n m S hd p D k v wr) {j : Nat} (hj : j < m) :
    ∃ a l c, v j = .slice a l c ∧ l = (laneL S hd m j k).length ∧ IntsAt wr a l (laneInts S hd m j k) := by
  have h := I.own j hj
  obtain ⟨h1, h2⟩ := h
  rcases h2 with ⟨hv, hx⟩ | ⟨g, cap, cur, hv, hg, hh, hr⟩
  · refine ⟨none, 0, 0, hv, ?_, ?_, .inl rfl⟩
    · exact hx.symm
    · unfold laneInts
      rw [List.length_map]; exact hx
  · refine ⟨some ⟨g, 0, none⟩, _, cap, hv, rfl, by simp [laneInts], ?_⟩
    right
    refine ⟨g, 0, rfl, ((I.own j hj).lt g (by rw [hv]; rfl)).2, fun i hi => ?_⟩
    have ho := I.own j hj
    rw [hv] at ho
    rw [Nat.zero_add, ho.cellAt i (by omega)]
    simp [laneVals, laneInts, hi]
end Go.Proofs.Qxb6601498aMods

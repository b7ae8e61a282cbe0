/-
  Slices of RelayB1Row in memory; the guards of the two 'Lanes' laws; relayB1CloneRows; relayB1SameAggregate.
-/
import Derived.Test.Qxb6601498aModsLaneClone
import Derived.Test.Qxb6601498aModsPlain
namespace Go.Proofs.Qxb6601498aMods
open Go.RowKit
set_option linter.unusedVariables false

/-- One row's cells. -/
structure RowV where
  id : ByteArray
  ps : Int
  ty : ByteArray
  ag : ByteArray
  du : Bool

/-- The five cells of a row lie at offset o of block b. -/
def RowCells (w : World) (b o : Nat) (r : RowV) : Prop :=
  w.cell? ⟨b, o, none⟩ = some (.string r.id) ∧ w.cell? ⟨b, o + 1, none⟩ = some (.int .i64 r.ps) ∧ w.cell? ⟨b, o + 2, none⟩ = some (.string r.ty) ∧ w.cell? ⟨b, o + 3, none⟩ = some (.string r.ag) ∧ w.cell? ⟨b, o + 4, none⟩ = some (.bool r.du)

/-- The slice with address 'a' and length 'n' holds the rows 'r 0 .. r (n-1)'. -/
def RowsAt (w : World) (a : Option Addr) (n : Nat) (r : Nat → RowV) : Prop :=
  n = 0 ∨ ∃ b off, a = some ⟨b, off, none⟩ ∧ b < w.heap.size ∧ ∀ i, i < n → RowCells w b (off + i * 5) (r i)

theorem RowCells.below {B : Nat} {w w' : World} {b o : Nat} {r : RowV} (h : RowCells w b o r) (hb : Below B w w') (hlt : b < B) : RowCells w' b o r := by
  obtain ⟨h0, h1, h2, h3, h4⟩ := h
  refine ⟨?_, ?_, ?_, ?_, ?_⟩
  · rw [hb.cell (p := ⟨b, o, none⟩) hlt]; exact h0
  · rw [hb.cell (p := ⟨b, o + 1, none⟩) hlt]; exact h1
  · rw [hb.cell (p := ⟨b, o + 2, none⟩) hlt]; exact h2
  · rw [hb.cell (p := ⟨b, o + 3, none⟩) hlt]; exact h3
  · rw [hb.cell (p := ⟨b, o + 4, none⟩) hlt]; exact h4

theorem RowsAt.below {w w' : World} {a : Option Addr} {n : Nat} {r : Nat → RowV} (h : RowsAt w a n r) (hb : Below w.heap.size w w') : RowsAt w' a n r := by
  rcases h with h0 | ⟨b, off, e, hlt, hc⟩
  · exact .inl h0
  · exact .inr ⟨b, off, e, Nat.lt_of_lt_of_le hlt hb.size, fun i hi => (hc i hi).below hb hlt⟩

/-- The lengths are small. -/
def FitR (n m l : Nat) (r : Nat → RowV) : Prop := n ≤ 1048576 ∧ m ≤ 1048576 ∧ l ≤ 1048576 ∧ ∀ i, i < n → (r i).id.size ≤ 1048576 ∧ (r i).ty.size ≤ 1048576 ∧ (r i).ag.size ≤ 1048576

theorem bytes10_some (x : Int) (b off n c : Nat) (a1 : Option Addr) (m c1 : Nat) (a2 : Option Addr) (l c2 : Nat) (r : Nat → RowV) (w : World) (hn : n ≤ maxLen) (hm : m ≤ maxLen) (hl : l ≤ maxLen)
    (hs : ∀ i, i < n → (r i).id.size ≤ maxLen ∧ (r i).ty.size ≤ maxLen ∧ (r i).ag.size ≤ maxLen) (hc : ∀ i, i < n → RowCells w b (off + i * 5) (r i)) :
    Calls Trym.prog 10 #[.int .i64 x, .slice (some ⟨b, off, none⟩) n c, .slice a1 m c1, .slice a2 l c2] w fun e w' => AnsB e (FitR n m l r) ∧ w' = w := by
  unfold maxLen at hn hm hl hs
  have HC : Hid (∀ i, i < n → RowCells w b (off + i * 5) (r i)) := hc
  have HS : Hid (∀ i, i < n → (r i).id.size ≤ 9223372036854775807 ∧ (r i).ty.size ≤ 9223372036854775807 ∧ (r i).ag.size ≤ 9223372036854775807) := hs
  clear hc hs
  by_cases h1 : n ≤ 1048576
  · go_enter Trym.func10, Trym.ntmps10
    go_wp2
    go_loop [9, 10] (fun s9 s10 => ∃ (k z : Nat), k ≤ n ∧ z ≤ 1048576 ∧ s9 = .int .i64 z ∧ s10 = .int .i64 k ∧ Hid (∀ i, i < k → (r i).id.size ≤ 1048576 ∧ (r i).ty.size ≤ 1048576 ∧ (r i).ag.size ≤ 1048576)) (fun _ i => n - (intOf i).toNat)
    case atStart => exact ⟨0, n, Nat.zero_le _, h1, rfl, rfl, fun i hi => absurd hi (Nat.not_lt_zero _)⟩
    case round =>
      obtain ⟨k, z, hk, hz, rfl, rfl, HE⟩ := hrel
      by_cases hlt : k < n
      · obtain ⟨q0, q1, q2, q3, q4⟩ := HC.out k hlt
        obtain ⟨t0, t1, t2⟩ := HS.out k hlt
        generalize hrk : r k = rk at q0 q1 q2 q3 q4 t0 t1 t2
        have HF : Hid (r k = rk) := hrk
        clear hrk
        obtain ⟨id, ps, ty, ag, du⟩ := rk
        simp only at q0 q1 q2 q3 q4 t0 t1 t2
        by_cases g0 : id.size ≤ 1048576
        · by_cases g1 : z + id.size ≤ 1048576
          · by_cases g2 : ty.size ≤ 1048576
            · by_cases g3 : z + id.size + ty.size ≤ 1048576
              · by_cases g4 : ag.size ≤ 1048576
                · by_cases g5 : z + id.size + ty.size + ag.size ≤ 1048576
                  · go_wp2
                    go_round
                    case rel =>
                      refine ⟨k + 1, z + id.size + ty.size + ag.size, by omega, g5, by go_num, by go_num, fun i hi => ?_⟩
                      rcases Nat.lt_succ_iff_lt_or_eq.1 hi with h | rfl
                      · exact HE.out i h
                      · rw [HF.out]; exact ⟨g0, g2, g4⟩
                    case measure => simp [intOf]; omega
                  · go_wp2
                    go_ret
                    exact ⟨AnsB.no rfl, rfl⟩
                · go_wp2
                  go_ret
                  exact ⟨AnsB.no rfl, rfl⟩
              · go_wp2
                go_ret
                exact ⟨AnsB.no rfl, rfl⟩
            · go_wp2
              go_ret
              exact ⟨AnsB.no rfl, rfl⟩
          · go_wp2
            go_ret
            exact ⟨AnsB.no rfl, rfl⟩
        · go_wp2
          go_ret
          exact ⟨AnsB.no rfl, rfl⟩
      · by_cases g0 : m ≤ 1048576
        · by_cases g1 : z + m ≤ 1048576
          · by_cases g2 : l ≤ 1048576
            · by_cases g3 : z + m + l ≤ 1048576
              · go_wp2
                go_ret
                exact ⟨AnsB.yes rfl ⟨h1, g0, g2, fun i hi => HE.out i (by omega)⟩, rfl⟩
              · go_wp2
                go_ret
                exact ⟨AnsB.no rfl, rfl⟩
            · go_wp2
              go_ret
              exact ⟨AnsB.no rfl, rfl⟩
          · go_wp2
            go_ret
            exact ⟨AnsB.no rfl, rfl⟩
        · go_wp2
          go_ret
          exact ⟨AnsB.no rfl, rfl⟩
  · go_enter Trym.func10, Trym.ntmps10
    go_wp2
    go_ret
    exact ⟨AnsB.no rfl, rfl⟩

theorem bytes10_none (x : Int) (a : Option Addr) (c : Nat) (a1 : Option Addr) (m c1 : Nat) (a2 : Option Addr) (l c2 : Nat) (r : Nat → RowV) (w : World) (hm : m ≤ maxLen) (hl : l ≤ maxLen) :
    Calls Trym.prog 10 #[.int .i64 x, .slice a 0 c, .slice a1 m c1, .slice a2 l c2] w fun e w' => AnsB e (FitR 0 m l r) ∧ w' = w := by
  unfold maxLen at hm hl
  go_enter Trym.func10, Trym.ntmps10
  go_wp2
  go_loop [9, 10] (fun s9 s10 => s9 = .int .i64 0 ∧ s10 = .int .i64 0) (fun _ _ => 0)
  case atStart => exact ⟨rfl, rfl⟩
  case round =>
    obtain ⟨rfl, rfl⟩ := hrel
    by_cases g0 : m ≤ 1048576
    · by_cases g2 : l ≤ 1048576
      · by_cases g3 : m + l ≤ 1048576
        · go_wp2
          go_ret
          exact ⟨AnsB.yes rfl ⟨by omega, g0, g2, fun i hi => absurd hi (Nat.not_lt_zero _)⟩, rfl⟩
        · go_wp2
          go_ret
          exact ⟨AnsB.no rfl, rfl⟩
      · go_wp2
        go_ret
        exact ⟨AnsB.no rfl, rfl⟩
    · go_wp2
      go_ret
      exact ⟨AnsB.no rfl, rfl⟩

theorem bytes10 (x : Int) (a : Option Addr) (n c : Nat) (a1 : Option Addr) (m c1 : Nat) (a2 : Option Addr) (l c2 : Nat) (r : Nat → RowV) (w : World) (hn : n ≤ maxLen) (hm : m ≤ maxLen) (hl : l ≤ maxLen)
    (hs : ∀ i, i < n → (r i).id.size ≤ maxLen ∧ (r i).ty.size ≤ maxLen ∧ (r i).ag.size ≤ maxLen) (h : RowsAt w a n r) :
    Calls Trym.prog 10 #[.int .i64 x, .slice a n c, .slice a1 m c1, .slice a2 l c2] w fun e w' => AnsB e (FitR n m l r) ∧ w' = w := by
  rcases h with rfl | ⟨b, off, rfl, hlt, hc⟩
  · exact bytes10_none x a c a1 m c1 a2 l c2 r w hm hl
  · exact bytes10_some x b off n c a1 m c1 a2 l c2 r w hn hm hl hs hc

theorem bytes18_some (x : Int) (b off n c : Nat) (a1 : Option Addr) (m c1 : Nat) (a2 : Option Addr) (l c2 : Nat) (r : Nat → RowV) (w : World) (hn : n ≤ maxLen) (hm : m ≤ maxLen) (hl : l ≤ maxLen)
    (hs : ∀ i, i < n → (r i).id.size ≤ maxLen ∧ (r i).ty.size ≤ maxLen ∧ (r i).ag.size ≤ maxLen) (hc : ∀ i, i < n → RowCells w b (off + i * 5) (r i)) :
    Calls Trym.prog 18 #[.int .i64 x, .slice (some ⟨b, off, none⟩) n c, .slice a1 m c1, .slice a2 l c2] w fun e w' => AnsB e (FitR n m l r) ∧ w' = w := by
  unfold maxLen at hn hm hl hs
  have HC : Hid (∀ i, i < n → RowCells w b (off + i * 5) (r i)) := hc
  have HS : Hid (∀ i, i < n → (r i).id.size ≤ 9223372036854775807 ∧ (r i).ty.size ≤ 9223372036854775807 ∧ (r i).ag.size ≤ 9223372036854775807) := hs
  clear hc hs
  by_cases h1 : n ≤ 1048576
  · go_enter Trym.func18, Trym.ntmps18
    go_wp2
    go_loop [9, 10] (fun s9 s10 => ∃ (k z : Nat), k ≤ n ∧ z ≤ 1048576 ∧ s9 = .int .i64 z ∧ s10 = .int .i64 k ∧ Hid (∀ i, i < k → (r i).id.size ≤ 1048576 ∧ (r i).ty.size ≤ 1048576 ∧ (r i).ag.size ≤ 1048576)) (fun _ i => n - (intOf i).toNat)
    case atStart => exact ⟨0, n, Nat.zero_le _, h1, rfl, rfl, fun i hi => absurd hi (Nat.not_lt_zero _)⟩
    case round =>
      obtain ⟨k, z, hk, hz, rfl, rfl, HE⟩ := hrel
      by_cases hlt : k < n
      · obtain ⟨q0, q1, q2, q3, q4⟩ := HC.out k hlt
        obtain ⟨t0, t1, t2⟩ := HS.out k hlt
        generalize hrk : r k = rk at q0 q1 q2 q3 q4 t0 t1 t2
        have HF : Hid (r k = rk) := hrk
        clear hrk
        obtain ⟨id, ps, ty, ag, du⟩ := rk
        simp only at q0 q1 q2 q3 q4 t0 t1 t2
        by_cases g0 : id.size ≤ 1048576
        · by_cases g1 : z + id.size ≤ 1048576
          · by_cases g2 : ty.size ≤ 1048576
            · by_cases g3 : z + id.size + ty.size ≤ 1048576
              · by_cases g4 : ag.size ≤ 1048576
                · by_cases g5 : z + id.size + ty.size + ag.size ≤ 1048576
                  · go_wp2
                    go_round
                    case rel =>
                      refine ⟨k + 1, z + id.size + ty.size + ag.size, by omega, g5, by go_num, by go_num, fun i hi => ?_⟩
                      rcases Nat.lt_succ_iff_lt_or_eq.1 hi with h | rfl
                      · exact HE.out i h
                      · rw [HF.out]; exact ⟨g0, g2, g4⟩
                    case measure => simp [intOf]; omega
                  · go_wp2
                    go_ret
                    exact ⟨AnsB.no rfl, rfl⟩
                · go_wp2
                  go_ret
                  exact ⟨AnsB.no rfl, rfl⟩
              · go_wp2
                go_ret
                exact ⟨AnsB.no rfl, rfl⟩
            · go_wp2
              go_ret
              exact ⟨AnsB.no rfl, rfl⟩
          · go_wp2
            go_ret
            exact ⟨AnsB.no rfl, rfl⟩
        · go_wp2
          go_ret
          exact ⟨AnsB.no rfl, rfl⟩
      · by_cases g0 : m ≤ 1048576
        · by_cases g1 : z + m ≤ 1048576
          · by_cases g2 : l ≤ 1048576
            · by_cases g3 : z + m + l ≤ 1048576
              · go_wp2
                go_ret
                exact ⟨AnsB.yes rfl ⟨h1, g0, g2, fun i hi => HE.out i (by omega)⟩, rfl⟩
              · go_wp2
                go_ret
                exact ⟨AnsB.no rfl, rfl⟩
            · go_wp2
              go_ret
              exact ⟨AnsB.no rfl, rfl⟩
          · go_wp2
            go_ret
            exact ⟨AnsB.no rfl, rfl⟩
        · go_wp2
          go_ret
          exact ⟨AnsB.no rfl, rfl⟩
  · go_enter Trym.func18, Trym.ntmps18
    go_wp2
    go_ret
    exact ⟨AnsB.no rfl, rfl⟩

theorem bytes18_none (x : Int) (a : Option Addr) (c : Nat) (a1 : Option Addr) (m c1 : Nat) (a2 : Option Addr) (l c2 : Nat) (r : Nat → RowV) (w : World) (hm : m ≤ maxLen) (hl : l ≤ maxLen) :
    Calls Trym.prog 18 #[.int .i64 x, .slice a 0 c, .slice a1 m c1, .slice a2 l c2] w fun e w' => AnsB e (FitR 0 m l r) ∧ w' = w := by
  unfold maxLen at hm hl
  go_enter Trym.func18, Trym.ntmps18
  go_wp2
  go_loop [9, 10] (fun s9 s10 => s9 = .int .i64 0 ∧ s10 = .int .i64 0) (fun _ _ => 0)
  case atStart => exact ⟨rfl, rfl⟩
  case round =>
    obtain ⟨rfl, rfl⟩ := hrel
    by_cases g0 : m ≤ 1048576
    · by_cases g2 : l ≤ 1048576
      · by_cases g3 : m + l ≤ 1048576
        · go_wp2
          go_ret
          exact ⟨AnsB.yes rfl ⟨by omega, g0, g2, fun i hi => absurd hi (Nat.not_lt_zero _)⟩, rfl⟩
        · go_wp2
          go_ret
          exact ⟨AnsB.no rfl, rfl⟩
      · go_wp2
        go_ret
        exact ⟨AnsB.no rfl, rfl⟩
    · go_wp2
      go_ret
      exact ⟨AnsB.no rfl, rfl⟩

theorem bytes18 (x : Int) (a : Option Addr) (n c : Nat) (a1 : Option Addr) (m c1 : Nat) (a2 : Option Addr) (l c2 : Nat) (r : Nat → RowV) (w : World) (hn : n ≤ maxLen) (hm : m ≤ maxLen) (hl : l ≤ maxLen)
    (hs : ∀ i, i < n → (r i).id.size ≤ maxLen ∧ (r i).ty.size ≤ maxLen ∧ (r i).ag.size ≤ maxLen) (h : RowsAt w a n r) :
    Calls Trym.prog 18 #[.int .i64 x, .slice a n c, .slice a1 m c1, .slice a2 l c2] w fun e w' => AnsB e (FitR n m l r) ∧ w' = w := by
  rcases h with rfl | ⟨b, off, rfl, hlt, hc⟩
  · exact bytes18_none x a c a1 m c1 a2 l c2 r w hm hl
  · exact bytes18_some x b off n c a1 m c1 a2 l c2 r w hn hm hl hs hc
end Go.Proofs.Qxb6601498aMods

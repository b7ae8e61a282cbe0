/-
  Slices of RelayB1Lane in memory; the length guards of FnGoingExact.
-/
import Derived.Test.Qxb6601498aModsEnd
import Derived.Deep.RegionHeld3
namespace Go.Proofs.Qxb6601498aMods
open Go.RowKit
set_option linter.unusedVariables false

/-- The ending is a bool, and where it is true p holds. (A word of its own: the walk does not look into it.) -/
def AnsB (e : Ending) (p : Prop) : Prop := ∃ r : Bool, e = .returned (.bool r) ∧ (r = true → p)
theorem AnsB.no {e : Ending} {p : Prop} (h : e = .returned (.bool false)) : AnsB e p := ⟨false, h, fun h => Bool.noConfusion h⟩
theorem AnsB.yes {e : Ending} {p : Prop} (h : e = .returned (.bool true)) (hp : p) : AnsB e p := ⟨true, h, fun _ => hp⟩
/-- The ending is an int. -/
def AnsI (e : Ending) : Prop := ∃ r : Int, e = .returned (.int .i64 r)

/-- One lane's cells: its row slice (address, length, capacity, content), next, taking, done. -/
structure LaneV where
  a : Option Addr
  l : Nat
  c : Nat
  zs : List Int
  nx : Int
  tk : Int
  dn : Bool

/-- The slice with address 'a' and length 'n' holds the lanes 'f 0 .. f (n-1)'. -/
def LanesAt (w : World) (a : Option Addr) (n : Nat) (f : Nat → LaneV) : Prop :=
  n = 0 ∨ ∃ b off, a = some ⟨b, off, none⟩ ∧ b < w.heap.size ∧ ∀ i, i < n →
    w.cell? ⟨b, off + i * 4, none⟩ = some (.slice (f i).a (f i).l (f i).c) ∧ w.cell? ⟨b, off + i * 4 + 1, none⟩ = some (.int .i64 (f i).nx) ∧
    w.cell? ⟨b, off + i * 4 + 2, none⟩ = some (.int .i64 (f i).tk) ∧ w.cell? ⟨b, off + i * 4 + 3, none⟩ = some (.bool (f i).dn) ∧ (f i).l ≤ maxLen ∧ IntsAt w (f i).a (f i).l (f i).zs

/-- The lengths are small. -/
def Fit (n : Nat) (f : Nat → LaneV) : Prop := n ≤ 1048576 ∧ ∀ i, i < n → (f i).l ≤ 1048576

theorem LanesAt.below {w w' : World} {a : Option Addr} {n : Nat} {f : Nat → LaneV} (h : LanesAt w a n f) (hb : Below w.heap.size w w') : LanesAt w' a n f := by
  rcases h with h0 | ⟨b, off, e, hlt, hc⟩
  · exact .inl h0
  · refine .inr ⟨b, off, e, Nat.lt_of_lt_of_le hlt hb.size, fun i hi => ?_⟩
    obtain ⟨h1, h2, h3, h4, h5, h6⟩ := hc i hi
    refine ⟨?_, ?_, ?_, ?_, h5, h6.below hb⟩
    · rw [hb.cell (p := ⟨b, off + i * 4, none⟩) hlt]; exact h1
    · rw [hb.cell (p := ⟨b, off + i * 4 + 1, none⟩) hlt]; exact h2
    · rw [hb.cell (p := ⟨b, off + i * 4 + 2, none⟩) hlt]; exact h3
    · rw [hb.cell (p := ⟨b, off + i * 4 + 3, none⟩) hlt]; exact h4

theorem bytes19_some (b off n c : Nat) (f : Nat → LaneV) (w : World) (hn : n ≤ maxLen) (hl : ∀ i, i < n → (f i).l ≤ maxLen) (hc : ∀ i, i < n → w.cell? ⟨b, off + i * 4, none⟩ = some (.slice (f i).a (f i).l (f i).c)) :
    Calls Trym.prog 19 #[.slice (some ⟨b, off, none⟩) n c] w fun e w' => AnsB e (Fit n f) ∧ w' = w := by
  unfold maxLen at hn hl
  by_cases h1 : n ≤ 1048576
  · go_enter Trym.func19, Trym.ntmps19
    go_wp2
    go_loop [3, 4] (fun s3 s4 => ∃ (k z : Nat), k ≤ n ∧ z ≤ 1048576 ∧ s3 = .int .i64 z ∧ s4 = .int .i64 k ∧ Hid (∀ i, i < k → (f i).l ≤ 1048576)) (fun _ i => n - (intOf i).toNat)
    case atStart => exact ⟨0, n, Nat.zero_le _, h1, rfl, rfl, fun i hi => absurd hi (Nat.not_lt_zero _)⟩
    case round =>
      obtain ⟨k, z, hk, hz, rfl, rfl, HE⟩ := hrel
      by_cases hlt : k < n
      · have hck := hc k hlt
        have hlk := hl k hlt
        clear hc hl
        generalize hfk : f k = fk at hck hlk
        have HF : Hid (f k = fk) := hfk
        clear hfk
        obtain ⟨fa, fl, fc, fz, fn, ft, fd⟩ := fk
        simp only at hck hlk
        by_cases h2 : fl ≤ 1048576
        · by_cases h3 : z + fl ≤ 1048576
          · go_wp2
            go_round
            case rel =>
              refine ⟨k + 1, z + fl, by omega, h3, by go_num, by go_num, fun i hi => ?_⟩
              rcases Nat.lt_succ_iff_lt_or_eq.1 hi with h | rfl
              · exact HE.out i h
              · rw [HF.out]; exact h2
            case measure => simp [intOf]; omega
          · go_wp2
            go_ret
            exact ⟨AnsB.no rfl, rfl⟩
        · go_wp2
          go_ret
          exact ⟨AnsB.no rfl, rfl⟩
      · go_wp2
        go_ret
        exact ⟨AnsB.yes rfl ⟨h1, fun i hi => HE.out i (by omega)⟩, rfl⟩
  · go_enter Trym.func19, Trym.ntmps19
    go_wp2
    go_ret
    exact ⟨AnsB.no rfl, rfl⟩

theorem bytes19_none (a : Option Addr) (c : Nat) (w : World) :
    Calls Trym.prog 19 #[.slice a 0 c] w fun e w' => e = .returned (.bool true) ∧ w' = w := by
  go_enter Trym.func19, Trym.ntmps19
  go_wp2
  go_loop [4] (fun i => i = .int .i64 0) (fun _ => 0)
  case atStart => rfl
  case round =>
    subst hrel
    go_wp2
    go_ret
    exact ⟨rfl, rfl⟩

theorem bytes19 (a : Option Addr) (n c : Nat) (f : Nat → LaneV) (w : World) (hn : n ≤ maxLen) (h : LanesAt w a n f) :
    Calls Trym.prog 19 #[.slice a n c] w fun e w' => AnsB e (Fit n f) ∧ w' = w := by
  rcases h with rfl | ⟨b, off, rfl, hlt, hc⟩
  · refine (bytes19_none a c w).mono ?_
    rintro e w' ⟨rfl, rfl⟩
    exact ⟨AnsB.yes rfl ⟨by omega, fun i hi => absurd hi (Nat.not_lt_zero _)⟩, rfl⟩
  · exact bytes19_some b off n c f w hn (fun i hi => (hc i hi).2.2.2.2.1) (fun i hi => (hc i hi).1)

theorem left20_some (b off n c : Nat) (f : Nat → LaneV) (w : World) (hn : n ≤ 1048576) (hl : ∀ i, i < n → (f i).l ≤ 1048576) (hc : ∀ i, i < n → w.cell? ⟨b, off + i * 4, none⟩ = some (.slice (f i).a (f i).l (f i).c)) :
    Calls Trym.prog 20 #[.slice (some ⟨b, off, none⟩) n c, .int .i64 1048576] w fun e w' => AnsI e ∧ w' = w := by
  go_enter Trym.func20, Trym.ntmps20
  go_wp2
  go_loop [1, 5] (fun s1 s5 => ∃ (k z : Nat), k ≤ n ∧ z ≤ 1048576 ∧ s1 = .int .i64 z ∧ s5 = .int .i64 k) (fun _ i => n - (intOf i).toNat)
  case atStart => exact ⟨0, 1048576, Nat.zero_le _, Nat.le_refl _, rfl, rfl⟩
  case round =>
    obtain ⟨k, z, hk, hz, rfl, rfl⟩ := hrel
    by_cases hlt : k < n
    · have hck := hc k hlt
      have hlk := hl k hlt
      clear hc hl
      generalize hfk : f k = fk at hck hlk
      clear hfk
      obtain ⟨fa, fl, fc, fz, fn, ft, fd⟩ := fk
      simp only at hck hlk
      by_cases h2 : 32 ≤ z
      · obtain ⟨y, hy⟩ : ∃ y : Nat, z = y + 32 := ⟨z - 32, by omega⟩
        subst hy
        have h2' : (0 : Int) ≤ (y : Int) := by omega
        by_cases h3 : fl ≤ y / 8
        · go_wp2
          go_round
          case rel => exact ⟨k + 1, y - 8 * fl, by omega, by omega, by go_num, by go_num⟩
          case measure => simp [intOf]; omega
        · go_wp2
          go_ret
          exact ⟨⟨_, rfl⟩, rfl⟩
      · go_wp2
        go_ret
        exact ⟨⟨_, rfl⟩, rfl⟩
    · go_wp2
      go_ret
      exact ⟨⟨_, rfl⟩, rfl⟩

theorem left20_none (a : Option Addr) (c : Nat) (w : World) :
    Calls Trym.prog 20 #[.slice a 0 c, .int .i64 1048576] w fun e w' => AnsI e ∧ w' = w := by
  go_enter Trym.func20, Trym.ntmps20
  go_wp2
  go_loop [1, 5] (fun s1 i => s1 = .int .i64 1048576 ∧ i = .int .i64 0) (fun _ _ => 0)
  case atStart => exact ⟨rfl, rfl⟩
  case round =>
    obtain ⟨rfl, rfl⟩ := hrel
    go_wp2
    go_ret
    exact ⟨⟨_, rfl⟩, rfl⟩

theorem left20 (a : Option Addr) (n c : Nat) (f : Nat → LaneV) (w : World) (hn : n ≤ 1048576) (hl : ∀ i, i < n → (f i).l ≤ 1048576) (h : LanesAt w a n f) :
    Calls Trym.prog 20 #[.slice a n c, .int .i64 1048576] w fun e w' => AnsI e ∧ w' = w := by
  rcases h with rfl | ⟨b, off, rfl, hlt, hc⟩
  · exact left20_none a c w
  · exact left20_some b off n c f w hn hl (fun i hi => (hc i hi).1)
end Go.Proofs.Qxb6601498aMods

/-
  The library's BinarySearch at []int64 and its callees, walked over this program.
-/
import Derived.Test.Qxb6601498aModsBase
namespace Go.Proofs.Qxb6601498aMods
open Go.RowKit

theorem nan37 (x : Int) (w : World) : Calls Trym.prog 37 #[.int .i64 x] w fun e w' => e = .returned (.bool false) ∧ w' = w := by
  go_enter Trym.func37, Trym.ntmps37
  go_wp2
  go_ret
  exact ⟨by simp, rfl⟩

theorem nan36 (x : Int) (w : World) : Calls Trym.prog 36 #[.int .i64 x] w fun e w' => e = .returned (.bool false) ∧ w' = w := by
  go_enter Trym.func36, Trym.ntmps36
  go_wp2
  go_ret
  exact ⟨by simp, rfl⟩

theorem less35 (x y : Int) (w : World) : Calls Trym.prog 35 #[.int .i64 x, .int .i64 y] w fun e w' => e = .returned (.bool (decide (x < y))) ∧ w' = w := by
  go_enter Trym.func35, Trym.ntmps35
  go_wp2_with (go_at_call 37; refine (nan37 _ _).mono ?_; rintro e w' ⟨rfl, rfl⟩)
  go_ret
  exact ⟨rfl, rfl⟩

/-- No element: the target is not found. -/
theorem search_none (a : Option Addr) (c : Nat) (x : Int) (w : World) : Calls Trym.prog 34 #[.slice a 0 c, .int .i64 x] w fun e w' => e = .returned (.tuple #[.int .i64 0, .bool false]) ∧ w' = w := by
  go_enter Trym.func34, Trym.ntmps34
  go_wp2
  go_loop [7, 8] (fun s7 s8 => s7 = .int .i64 0 ∧ s8 = .int .i64 0) (fun _ _ => 0)
  case atStart => exact ⟨rfl, rfl⟩
  case round =>
    obtain ⟨rfl, rfl⟩ := hrel
    go_wp2
    go_ret2
    exact ⟨rfl, rfl⟩

set_option maxHeartbeats 4000000 in
set_option maxRecDepth 1000000 in
theorem search_some (b off n c : Nat) (zs : List Int) (x : Int) (w : World) (hz : zs.length = n) (hbig : n < 4611686018427387904) (hc : ∀ j, j < n → w.cell? ⟨b, off + j, none⟩ = some (.int .i64 (zs.getD j 0))) (hs : zs.Pairwise (· ≤ ·)) :
    Calls Trym.prog 34 #[.slice (some ⟨b, off, none⟩) n c, .int .i64 x] w fun e w' => e = .returned (.tuple #[.int .i64 (zs.countP (· < x) : Nat), .bool (zs.contains x)]) ∧ ∃ q, w' = w.drewN q := by
  have htake : zs.take n = zs := List.take_of_length_le (by omega)
  have S : Aside (∀ a b, a ≤ b → b < n → zs.getD a 0 ≤ zs.getD b 0) := Lib.sorted_at zs n (by omega) (by rw [htake]; exact hs)
  have T : Aside (zs.take n = zs) := htake
  have Z : Aside (zs.length = n) := hz
  clear hs htake hz
  go_enter Trym.func34, Trym.ntmps34
  go_wp2
  go_loopg [7, 8] n (fun g s7 s8 wr => ∃ lo hi q : Nat, s7 = .int .i64 lo ∧ s8 = .int .i64 hi ∧ lo ≤ hi ∧ hi ≤ n ∧ hi - lo ≤ g ∧ wr = w.drewN q ∧ (∀ t, t < lo → zs.getD t 0 < x) ∧ (∀ t, hi ≤ t → t < n → x ≤ zs.getD t 0))
  case atStart => exact ⟨0, n, 0, rfl, rfl, Nat.zero_le _, Nat.le_refl _, by omega, rfl, fun t ht => absurd ht (Nat.not_lt_zero _), fun t h1 h2 => by omega⟩
  case round =>
    obtain ⟨lo, hi, q, rfl, rfl, hlh, hin, hg, rfl, h1, h2⟩ := hrel
    have I : Aside ((∀ t, t < lo → zs.getD t 0 < x) ∧ (∀ t, hi ≤ t → t < n → x ≤ zs.getD t 0)) := ⟨h1, h2⟩
    clear h1 h2
    by_cases hlt : lo < hi
    · have cm : w.cell? ⟨b, off + (lo + hi) / 2, none⟩ = some (.int .i64 (zs.getD ((lo + hi) / 2) 0)) := hc _ (by omega)
      clear hc
      generalize hy : zs.getD ((lo + hi) / 2) 0 = y at cm
      have Y : Aside (zs.getD ((lo + hi) / 2) 0 = y) := hy
      clear hy
      by_cases hyx : y < x
      · go_wp2_with (first | (go_at_call 35; refine (less35 _ _ _).mono ?_; rintro e w' ⟨rfl, rfl⟩) | (go_at_call 36; refine (nan36 _ _).mono ?_; rintro e w' ⟨rfl, rfl⟩))
        go_roundg (hi - ((lo + hi) / 2 + 1))
        case measure => omega
        case rel =>
          refine ⟨(lo + hi) / 2 + 1, hi, _, by rw [show ((lo : Int) + (hi : Int)) / 2 + 1 = (((lo + hi) / 2 + 1 : Nat) : Int) by omega], rfl, by omega, hin, Nat.le_refl _, rfl, fun t ht => ?_, I.out.2⟩
          have := S.out t ((lo + hi) / 2) (by omega) (by omega)
          rw [Y.out] at this
          omega
      · go_wp2_with (first | (go_at_call 35; refine (less35 _ _ _).mono ?_; rintro e w' ⟨rfl, rfl⟩) | (go_at_call 36; refine (nan36 _ _).mono ?_; rintro e w' ⟨rfl, rfl⟩))
        go_roundg ((lo + hi) / 2 - lo)
        case measure => omega
        case rel =>
          refine ⟨lo, (lo + hi) / 2, _, rfl, by rw [show ((lo : Int) + (hi : Int)) / 2 = (((lo + hi) / 2 : Nat) : Int) by omega], by omega, by omega, Nat.le_refl _, rfl, I.out.1, fun t ht htn => ?_⟩
          have := S.out ((lo + hi) / 2) t ht htn
          rw [Y.out] at this
          omega
    · have : hi = lo := by omega
      subst this
      obtain ⟨e1, e2⟩ := Lib.search_end zs n hi x (by have := Z.out; omega) hin I.out.1 I.out.2 S.out
      rw [T.out] at e1 e2
      have E : Aside (zs.countP (· < x) = hi ∧ zs.contains x = decide (hi < n ∧ zs.getD hi 0 = x)) := ⟨e1, e2⟩
      clear e1 e2
      by_cases hn : hi < n
      · have cl : w.cell? ⟨b, off + hi, none⟩ = some (.int .i64 (zs.getD hi 0)) := hc _ (by omega)
        clear hc
        generalize hy : zs.getD hi 0 = y at cl
        have Y : Aside (zs.getD hi 0 = y) := hy
        clear hy
        by_cases hyx : y = x
        · go_wp2_with (first | (go_at_call 35; refine (less35 _ _ _).mono ?_; rintro e w' ⟨rfl, rfl⟩) | (go_at_call 36; refine (nan36 _ _).mono ?_; rintro e w' ⟨rfl, rfl⟩))
          go_ret2
          refine ⟨?_, _, rfl⟩
          rw [E.out.1, E.out.2, Y.out, decide_eq_true (show hi < n ∧ y = x from ⟨hn, hyx⟩)]
          first | rfl | simp [*]
        · go_wp2_with (first | (go_at_call 35; refine (less35 _ _ _).mono ?_; rintro e w' ⟨rfl, rfl⟩) | (go_at_call 36; refine (nan36 _ _).mono ?_; rintro e w' ⟨rfl, rfl⟩))
          go_ret2
          refine ⟨?_, _, rfl⟩
          rw [E.out.1, E.out.2, Y.out, decide_eq_false (show ¬ (hi < n ∧ y = x) from fun h => hyx h.2)]
          first | rfl | simp [*]
      · clear hc
        go_wp2_with (first | (go_at_call 35; refine (less35 _ _ _).mono ?_; rintro e w' ⟨rfl, rfl⟩) | (go_at_call 36; refine (nan36 _ _).mono ?_; rintro e w' ⟨rfl, rfl⟩))
        go_ret2
        refine ⟨?_, _, rfl⟩
        rw [E.out.1, E.out.2, decide_eq_false (show ¬ (hi < n ∧ zs.getD hi 0 = x) from fun h => hn h.1)]
        first | rfl | simp [*]

/-- The search, whatever the slice: an ascending one is searched rightly. -/
theorem search34 (a : Option Addr) (n c : Nat) (zs : List Int) (x : Int) (w : World) (h : IntsAt w a n zs) (hbig : n < 4611686018427387904) (hs : zs.Pairwise (· ≤ ·)) :
    Calls Trym.prog 34 #[.slice a n c, .int .i64 x] w fun e w' => ∃ i : Int, e = .returned (.tuple #[.int .i64 i, .bool (zs.contains x)]) ∧ ∃ q, w' = w.drewN q := by
  obtain ⟨hz, rfl | ⟨b, off, rfl, _, hc⟩⟩ := h
  · obtain rfl : zs = [] := List.eq_nil_of_length_eq_zero hz
    refine (search_none a c x w).mono ?_
    rintro e w' ⟨rfl, rfl⟩
    exact ⟨0, rfl, 0, rfl⟩
  · refine (search_some b off n c zs x w hz hbig hc hs).mono ?_
    rintro e w' ⟨rfl, q, rfl⟩
    exact ⟨_, rfl, q, rfl⟩
#print axioms search34
end Go.Proofs.Qxb6601498aMods

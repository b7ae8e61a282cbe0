/-
  The law FnEndedExact: its walk over plain lists.
-/
import Derived.Test.Qxb6601498aModsEnd
namespace Go.Proofs.Qxb6601498aMods
open Go.RowKit
set_option linter.unusedVariables false

theorem endedB_take_true (rs ns : List Int) (k : Nat) (h : endedB (rs.take k) ns = true) : endedB rs ns = true := by
  unfold endedB at *
  rw [List.any_eq_true] at *
  obtain ⟨x, hx, h⟩ := h
  exact ⟨x, List.mem_of_mem_take hx, h⟩

theorem endedB_miss (rs ns : List Int) (k : Nat) (h : k < rs.length) (h2 : ns.contains (rs.getD k 0) = false) : endedB (rs.take (k + 1)) ns = true := by
  rw [take_snoc_i rs k h]
  unfold endedB
  rw [List.any_append, List.any_cons, h2]
  simp

theorem contains_at (ns : List Int) (j : Nat) (h : j < ns.length) (x : Int) (e : ns.getD j 0 = x) : ns.contains x = true := by
  subst e
  simp [h]

theorem contains_none (ns : List Int) (x : Int) (h : ∀ t, t < ns.length → ns.getD t 0 ≠ x) : ns.contains x = false := by
  rw [Bool.eq_false_iff]
  intro hc
  rw [List.contains_iff_mem, List.mem_iff_getElem] at hc
  obtain ⟨t, ht, e⟩ := hc
  exact h t ht (by rw [Lib.getD_lt _ _ ht]; exact e)

set_option maxHeartbeats 2000000 in
theorem endedExact_walk (a0 : Option Addr) (n c0 : Nat) (rs : List Int) (a1 : Option Addr) (m c1 : Nat) (ns : List Int) (w : World) (hn : n ≤ maxLen) (hm : m ≤ maxLen) (h0 : IntsAt w a0 n rs) (h1 : IntsAt w a1 m ns) :
    Calls Trym.prog 7 #[.slice a0 n c0, .slice a1 m c1] w fun e w' => e = .returned (.bool true) ∧ Below w.heap.size w w' := by
  have H0 : Hid (IntsAt w a0 n rs) := h0
  have H1 : Hid (IntsAt w a1 m ns) := h1
  have HN : Hid (n ≤ maxLen ∧ m ≤ maxLen) := ⟨hn, hm⟩
  clear h0 h1 hn hm
  go_enter Trym.func7, Trym.ntmps7
  go_wp2_with fail
  refine (bytes24 a0 n c0 a1 m c1 _ HN.out.1 HN.out.2).mono ?_
  rintro e w' ⟨r, rfl, hw, hr⟩
  obtain rfl : w = w' := hw.symm
  cases r with
  | false =>
    go_wp2
    go_ret
    exact ⟨rfl, Below.refl _ _⟩
  | true =>
    have hsz : n + m ≤ 1048576 := hr rfl
    clear hr
    by_cases hn : n ≤ 4096
    · by_cases hm : m ≤ 4096
      · go_wp2_with fail
        refine (nondec25 a1 m c1 ns _ H1.out (by omega)).mono ?_
        rintro e w' ⟨r, rfl, hr, q0, rfl⟩
        cases r with
        | false =>
          go_wp2
          go_ret
          exact ⟨rfl, below_drewN _ _ _⟩
        | true =>
          have HS : Hid (ns.Pairwise (· ≤ ·)) := hr rfl
          clear hr
          go_wp2_with fail
          refine (clone15 a0 n c0 rs _ (H0.out.below (below_drewN _ _ _)) (by omega)).mono ?_
          rintro e w1 ⟨b0, d0, rfl, hi0, hb1⟩
          have HB1 : Hid (Below w.heap.size w w1) := below_next (below_drewN _ _ _) hb1
          have HI0 : Hid (IntsAt w1 b0 n rs) := hi0
          clear hb1 hi0
          go_wp2_with fail
          refine (clone15 a1 m c1 ns _ (H1.out.below HB1.out) (by omega)).mono ?_
          rintro e w2 ⟨b1, d1, rfl, hi1, hb2⟩
          have HB2 : Hid (Below w.heap.size w w2 ∧ IntsAt w2 b0 n rs ∧ IntsAt w2 b1 m ns) := ⟨below_next HB1.out hb2, HI0.out.below hb2, hi1⟩
          clear HB1 HI0 hi1 hb2
          go_wp2_with fail
          refine (ended26 b0 n d0 rs b1 m d1 ns _ (by omega) (by omega) HB2.out.2.1 HB2.out.2.2 HS.out).mono ?_
          rintro e w3 ⟨rfl, hb3⟩
          have HB3 : Hid (Below w.heap.size w w3 ∧ IntsAt w3 b0 n rs ∧ IntsAt w3 b1 m ns) := ⟨below_next HB2.out.1 hb3, HB2.out.2.1.below hb3, HB2.out.2.2.below hb3⟩
          clear HB2 hb3 H0 H1 HN HS
          go_wp2
          go_loopw [6, 7] (fun s6 s7 wr => ∃ (k q : Nat) (wb : Bool), k ≤ n ∧ s6 = .bool wb ∧ s7 = .int .i64 k ∧ wr = w3.drewN q ∧ Hid (wb = endedB (rs.take k) ns)) (fun _ i _ => n - (intOf i).toNat)
          case atStart => exact ⟨0, 0, false, Nat.zero_le _, rfl, rfl, rfl, (show false = endedB [] ns from rfl)⟩
          case round =>
            obtain ⟨k, q, wb, hk, rfl, rfl, rfl, HW⟩ := hrel
            cases wb with
            | true =>
              have hfin : Hid (endedB rs ns = true) := endedB_take_true rs ns k HW.out.symm
              by_cases hlt : k < n
              · go_wp2
                go_ret
                exact ⟨ret_bool (by rw [hfin.out]), HB3.out.1.trans (below_drewN _ _ _)⟩
              · go_wp2
                go_ret
                exact ⟨ret_bool (by rw [hfin.out]), HB3.out.1.trans (below_drewN _ _ _)⟩
            | false =>
              by_cases hlt : k < n
              · obtain ⟨hz, h0 | ⟨bb, off, rfl, _, hc⟩⟩ := HB3.out.2.1
                · omega
                have hck : w3.cell? ⟨bb, off + k, none⟩ = some (.int .i64 (rs.getD k 0)) := hc k hlt
                have HZ : Hid (rs.length = n) := hz
                clear hc hz
                generalize hx : rs.getD k 0 = x at hck
                have HX : Hid (rs.getD k 0 = x) := hx
                clear hx
                go_wp2
                obtain ⟨wo, hwo⟩ : ∃ wo : World, wo = w3.drewN q := ⟨_, rfl⟩
                go_loopw [8, 9] (fun s8 s9 wr => ∃ (j q' : Nat), j ≤ m ∧ s8 = .bool false ∧ s9 = .int .i64 j ∧ wr = w3.drewN q' ∧ Hid (∀ t, t < j → ns.getD t 0 ≠ x)) (fun _ i _ => m - (intOf i).toNat)
                case atStart => exact ⟨0, q, Nat.zero_le _, rfl, rfl, rfl, fun t ht => absurd ht (Nat.not_lt_zero _)⟩
                case round =>
                  obtain ⟨j, q', hj, rfl, rfl, rfl, HJ⟩ := hrel
                  by_cases hjm : j < m
                  · obtain ⟨hzn, h0 | ⟨b2, off2, rfl, _, hc⟩⟩ := HB3.out.2.2
                    · omega
                    have hcj : w3.cell? ⟨b2, off2 + j, none⟩ = some (.int .i64 (ns.getD j 0)) := hc j hjm
                    have HZN : Hid (ns.length = m) := hzn
                    clear hc hzn
                    generalize hy : ns.getD j 0 = y at hcj
                    have HY : Hid (ns.getD j 0 = y) := hy
                    clear hy
                    by_cases hyx : y = x
                    · have hb : (y == x) = true := by simp [hyx]
                      have HYX : Hid (y = x) := hyx
                      clear hyx
                      go_wp2
                      go_quiet (fail)
                      go_wp2
                      go_roundw
                      case rel => exact ⟨k + 1, _, false, by omega, rfl, by go_num, rfl, (endedB_step rs ns k (by have := HZ.out; omega) HW.out.symm (contains_at ns j (by have := HZN.out; omega) _ (by rw [HY.out, HX.out, HYX.out]))).symm⟩
                      case measure => simp [intOf]; omega
                    · have hb : (y == x) = false := by simp [hyx]
                      have HYX : Hid (y ≠ x) := hyx
                      clear hyx
                      go_wp2
                      go_quiet (fail)
                      go_wp2
                      go_roundw
                      case rel =>
                        refine ⟨j + 1, _, by omega, rfl, by go_num, rfl, fun t ht => ?_⟩
                        rcases Nat.lt_succ_iff_lt_or_eq.1 ht with h | rfl
                        · exact HJ.out t h
                        · rw [HY.out]; exact HYX.out
                      case measure => simp [intOf]; omega
                  · go_wp2
                    go_roundw
                    case rel => exact ⟨k + 1, _, true, by omega, rfl, by go_num, rfl, (endedB_miss rs ns k (by have := HZ.out; omega) (by rw [HX.out]; exact contains_none ns x (fun t ht => HJ.out t (by have := HB3.out.2.2.1; omega)))).symm⟩
                    case measure => simp [intOf]; omega
              · go_wp2
                go_ret
                refine ⟨ret_bool ?_, HB3.out.1.trans (below_drewN _ _ _)⟩
                have h1 := HW.out
                rw [List.take_of_length_le (by have := HB3.out.2.1.1; omega)] at h1
                rw [← h1]; rfl
      · go_wp2
        go_ret
        exact ⟨rfl, Below.refl _ _⟩
    · go_wp2
      go_ret
      exact ⟨rfl, Below.refl _ _⟩
#print axioms endedExact_walk
end Go.Proofs.Qxb6601498aMods

/-
  The law FnEndedSelfAndDrop: its walk over plain lists.
-/
import Derived.Test.Qxb6601498aModsEnd
import Derived.Maps.AppendAt
namespace Go.Proofs.Qxb6601498aMods
open Go.RowKit
set_option linter.unusedVariables false

/-- Of the first j elements those that are not v. -/
def dropD (rs : List Int) (v : Int) (j : Nat) : List Int := (rs.take j).filter (fun x => x != v)

theorem dropD_zero (rs : List Int) (v : Int) : dropD rs v 0 = [] := by simp [dropD]
theorem dropD_hit (rs : List Int) (v : Int) (j : Nat) (h : j < rs.length) (e : rs.getD j 0 ≠ v) : dropD rs v (j + 1) = dropD rs v j ++ [rs.getD j 0] := by
  unfold dropD
  rw [take_snoc_i rs j h, List.filter_append]
  have : (rs.getD j 0 != v) = true := by rw [bne_iff_ne]; exact e
  simp only [List.filter_cons, this, if_true, List.filter_nil]
theorem dropD_miss (rs : List Int) (v : Int) (j : Nat) (h : j < rs.length) (e : rs.getD j 0 = v) : dropD rs v (j + 1) = dropD rs v j := by
  unfold dropD
  rw [take_snoc_i rs j h, List.filter_append, e]
  simp
theorem dropD_len (rs : List Int) (v : Int) (j : Nat) : (dropD rs v j).length ≤ j := by
  unfold dropD
  exact Nat.le_trans (List.length_filter_le _ _) (List.length_take_le _ _)
theorem dropD_sorted (rs : List Int) (v : Int) (j : Nat) (h : rs.Pairwise (· ≤ ·)) : (dropD rs v j).Pairwise (· ≤ ·) := by
  unfold dropD
  exact (h.sublist (List.take_sublist _ _)).sublist List.filter_sublist
theorem dropD_ended (rs : List Int) (k j : Nat) (h : k < rs.length) : endedB rs (dropD rs (rs.getD k 0) j) = true := by
  refine endedB_hit rs _ k h ?_
  rw [Bool.eq_false_iff]
  intro hc
  rw [List.contains_iff_mem] at hc
  unfold dropD at hc
  rw [List.mem_filter] at hc
  simp at hc
theorem endedB_self (rs : List Int) : endedB rs rs = false := by
  unfold endedB
  rw [List.any_eq_false]
  intro x hx
  simp [hx]

theorem ints_of_own {w : World} {base g L cap : Nat} {zs : List Int} (hL : zs.length = L) (h : w.ownsRow base 2 1 (.slice (some ⟨g, 0, none⟩) L cap) L (zs.map (Value.int .i64))) : IntsAt w (some ⟨g, 0, none⟩) L zs := by
  refine ⟨hL, ?_⟩
  by_cases h0 : L = 0
  · exact .inl h0
  · refine .inr ⟨g, 0, rfl, (h.lt g rfl).2, fun j hj => ?_⟩
    rw [Nat.zero_add, h.cellAt j (by omega)]
    simp [show j < zs.length by omega]

set_option maxHeartbeats 2000000 in
theorem selfDrop_walk (a0 : Option Addr) (n c0 : Nat) (rs : List Int) (w : World) (hn : n ≤ maxLen) (h0 : IntsAt w a0 n rs) :
    Calls Trym.prog 9 #[.slice a0 n c0] w fun e w' => e = .returned (.bool true) ∧ Below w.heap.size w w' := by
  obtain ⟨i0, hi, hz0, hz1, hz2⟩ := info_parts Trym.info2
  have HI : Hid (Trym.prog.info? 2 = some i0 ∧ i0.zero = some (.int .i64 0) ∧ i0.size = 1 ∧ i0.bytes = 8) := ⟨hi, hz0, hz1, hz2⟩
  have H0 : Hid (IntsAt w a0 n rs) := h0
  have HN : Hid (n ≤ maxLen) := hn
  clear h0 hn hi hz0 hz1 hz2
  go_enter Trym.func9, Trym.ntmps9
  go_wp2_with fail
  refine (bytes28 a0 n c0 _ HN.out).mono ?_
  rintro e w' ⟨r, rfl, hw, hr⟩
  obtain rfl : w = w' := hw.symm
  cases r with
  | false =>
    go_wp2
    go_ret
    exact ⟨rfl, Below.refl _ _⟩
  | true =>
    have hsz : n ≤ 1048576 := hr rfl
    clear hr
    by_cases hn : n ≤ 4096
    · go_wp2_with fail
      refine (nondec25 a0 n c0 rs _ H0.out (by omega)).mono ?_
      rintro e w' ⟨r, rfl, hr, q0, rfl⟩
      cases r with
      | false =>
        go_wp2
        go_ret
        exact ⟨rfl, below_drewN _ _ _⟩
      | true =>
        have HS : Hid (rs.Pairwise (· ≤ ·)) := hr rfl
        clear hr
        go_wp2_with fail
        refine (clone15 a0 n c0 rs _ (H0.out.below (below_drewN _ _ _)) (by omega)).mono ?_
        rintro e w1 ⟨b0, d0, rfl, hi0, hb1⟩
        have HB1 : Hid (Below w.heap.size w w1 ∧ IntsAt w1 b0 n rs) := ⟨below_next (below_drewN _ _ _) hb1, hi0⟩
        clear hb1 hi0
        go_wp2_with fail
        refine (ended26 b0 n d0 rs b0 n d0 rs _ (by omega) (by omega) HB1.out.2 HB1.out.2 HS.out).mono ?_
        rintro e w2 ⟨rfl, hb2⟩
        rw [endedB_self rs]
        have HB2 : Hid (Below w.heap.size w w2 ∧ IntsAt w2 b0 n rs) := ⟨below_next HB1.out.1 hb2, HB1.out.2.below hb2⟩
        clear HB1 hb2 H0 HN
        go_wp2
        go_loopw [3] (fun s3 wr => ∃ k : Nat, k ≤ n ∧ s3 = .int .i64 k ∧ Below w2.heap.size w2 wr) (fun i _ => n - (intOf i).toNat)
        case atStart => exact ⟨0, Nat.zero_le _, rfl, Below.refl _ _⟩
        case round =>
          obtain ⟨k, hk, rfl, hbel⟩ := hrel
          have HBR : Hid (Below w2.heap.size w2 wr ∧ IntsAt wr b0 n rs) := ⟨hbel, HB2.out.2.below hbel⟩
          clear hbel
          obtain ⟨wo, rfl⟩ : ∃ wo : World, wo = wr := ⟨_, rfl⟩
          by_cases hlt : k < n
          · obtain ⟨hz, h0 | ⟨bb, off, rfl, hbb, hc⟩⟩ := HBR.out.2
            · omega
            have HC : Hid (rs.length = n ∧ bb < wo.heap.size ∧ ∀ j, j < n → wo.cell? ⟨bb, off + j, none⟩ = some (.int .i64 (rs.getD j 0))) := ⟨hz, hbb, hc⟩
            have hck : wo.cell? ⟨bb, off + k, none⟩ = some (.int .i64 (rs.getD k 0)) := hc k hlt
            clear hz hbb hc
            generalize hx : rs.getD k 0 = x at hck
            have HX : Hid (rs.getD k 0 = x) := hx
            clear hx
            have hcase : k = 0 ∨ (0 < k ∧ rs.getD (k - 1) 0 = x) ∨ (0 < k ∧ rs.getD (k - 1) 0 ≠ x) := by
              by_cases h1 : k = 0
              · exact .inl h1
              · by_cases h2 : rs.getD (k - 1) 0 = x
                · exact .inr (.inl ⟨by omega, h2⟩)
                · exact .inr (.inr ⟨by omega, h2⟩)
            rcases hcase with h1 | ⟨h1, h2⟩ | ⟨h1, h2⟩
            · have hd : decide ((0 : Int) < (k : Int)) = false := decide_eq_false (by omega)
              have hd' : decide (0 < k) = false := decide_eq_false (by omega)
              clear h1
              go_wp2
              go_quiet (fail)
              go_wp2_with (at_make; refine wpList_make_own _ rfl _ _ 24 rfl wo.heap.size 2 i0 (.int .i64 0) 1 Trym.underlying24 HI.out.1 HI.out.2.1 HI.out.2.2.1 .i64 .i64 _ n rfl rfl rfl (by rw [HI.out.2.2.2]; omega) (by unfold maxLen; omega) (Nat.le_refl _) ?_; intro w3 hown3 hg3)
              have HB3 : Hid (Below wo.heap.size wo w3) := (below_drewN wo.heap.size wo nq).grown hg3 (Nat.le_refl _) (fun j hj => by cases hj)
              have HO3 : Hid (w3.ownsRow wo.heap.size 2 1 (.slice (some ⟨wo.heap.size, 0, none⟩) (dropD rs x 0).length n) (dropD rs x 0).length ((dropD rs x 0).map (Value.int .i64))) := by rw [dropD_zero]; exact hown3
              clear hown3 hg3
              go_loopw [5, 6] (fun s5 s6 wi => ∃ j : Nat, j ≤ n ∧ s6 = .int .i64 j ∧ s5 = .slice (some ⟨wo.heap.size, 0, none⟩) (dropD rs x j).length n ∧ Hid (wi.ownsRow wo.heap.size 2 1 (.slice (some ⟨wo.heap.size, 0, none⟩) (dropD rs x j).length n) (dropD rs x j).length ((dropD rs x j).map (Value.int .i64)) ∧ Below wo.heap.size wo wi)) (fun _ i _ => n - (intOf i).toNat)
              case atStart => exact ⟨0, Nat.zero_le _, rfl, by rw [dropD_zero]; rfl, HO3.out, HB3.out⟩
              case round =>
                obtain ⟨j, hj, rfl, rfl, HO⟩ := hrel
                have hdl := dropD_len rs x j
                by_cases hjn : j < n
                · have hcj : wr.cell? ⟨bb, off + j, none⟩ = some (.int .i64 (rs.getD j 0)) := by rw [HO.out.2.cell (p := ⟨bb, off + j, none⟩) HC.out.2.1]; exact HC.out.2.2 j hjn
                  generalize hy : rs.getD j 0 = z at hcj
                  have HZ : Hid (rs.getD j 0 = z) := hy
                  clear hy
                  by_cases hzx : z = x
                  · have hb : (z != x) = false := by simp [hzx]
                    have HM : Hid (dropD rs x (j + 1) = dropD rs x j) := dropD_miss rs x j (by have := HC.out.1; omega) (by rw [HZ.out, hzx])
                    clear hzx
                    go_wp2
                    go_roundw
                    case rel => exact ⟨j + 1, by omega, by go_num, by rw [HM.out], by rw [HM.out]; exact HO.out⟩
                    case measure => simp [intOf]; omega
                  · have hb : (z != x) = true := by rw [bne_iff_ne]; exact hzx
                    have HM : Hid (dropD rs x (j + 1) = dropD rs x j ++ [z]) := by have := dropD_hit rs x j (by have := HC.out.1; omega) (by rw [HZ.out]; exact hzx); rw [HZ.out] at this; exact this
                    clear hzx
                    go_wp2_with (at_builtin; refine wpList_append_fits _ rfl _ _ 24 rfl wo.heap.size 2 i0 1 Trym.underlying24 HI.out.1 HI.out.2.2.1 wo.heap.size _ n _ rfl (HO.out.1.alloc _) ⟨wr.heap.size, 0, none⟩ 1 1 [.int .i64 z] rfl rfl (cell_one_new _ _ _) (ints_oneCell .i64 [z]) (by omega) ?_; intro w4 hown4 hg4)
                    go_roundw
                    case rel =>
                      refine ⟨j + 1, by omega, by go_num, by rw [HM.out, List.length_append]; rfl, ?_⟩
                      rw [HM.out, List.length_append, List.map_append]
                      exact ⟨hown4, (HO.out.2.alloc HO.out.2.size _).grown hg4 (Nat.le_trans HO.out.2.size (by simp)) (fun i e => by cases e; exact Nat.le_refl _)⟩
                    case measure => simp [intOf]; omega
                · go_wp2_with fail
                  refine (ended26 (some ⟨bb, off, none⟩) n d0 rs (some ⟨wo.heap.size, 0, none⟩) _ n (dropD rs x j) _ (by omega) (by omega) (HBR.out.2.below HO.out.2) (ints_of_own rfl HO.out.1) (dropD_sorted rs x j HS.out)).mono ?_
                  rintro e w5 ⟨rfl, hb5⟩
                  have hfin : endedB rs (dropD rs x j) = true := by rw [← HX.out]; exact dropD_ended rs k j (by have := HC.out.1; omega)
                  rw [hfin]
                  have HB5 : Hid (Below w2.heap.size w2 w5) := below_next (below_next HBR.out.1 HO.out.2) hb5
                  clear hfin hb5
                  go_wp2
                  go_roundw
                  case rel => exact ⟨k + 1, by omega, by go_num, HB5.out⟩
                  case measure => simp [intOf]; omega
            · obtain ⟨y, hy⟩ : ∃ y, rs.getD (k - 1) 0 = y := ⟨_, rfl⟩
              have hck1 : wo.cell? ⟨bb, off + (k - 1), none⟩ = some (.int .i64 y) := by rw [← hy]; exact HC.out.2.2 (k - 1) (by omega)
              have hxy : (x == y) = true := by rw [beq_iff_eq, ← hy]; exact h2.symm
              have hp : (0 : Int) < (k : Int) := by omega
              have HY : Hid (rs.getD (k - 1) 0 = y) := hy
              clear hy h2
              go_wp2
              go_quiet (fail)
              go_wp2
              go_roundw
              case rel => exact ⟨k + 1, by omega, by go_num, HBR.out.1.trans (below_drewN _ _ _)⟩
              case measure => simp [intOf]; omega
            · obtain ⟨y, hy⟩ : ∃ y, rs.getD (k - 1) 0 = y := ⟨_, rfl⟩
              have hck1 : wo.cell? ⟨bb, off + (k - 1), none⟩ = some (.int .i64 y) := by rw [← hy]; exact HC.out.2.2 (k - 1) (by omega)
              have hxy : (x == y) = false := by rw [beq_eq_false_iff_ne]; rw [← hy]; exact fun h => h2 h.symm
              have hp : (0 : Int) < (k : Int) := by omega
              have HY : Hid (rs.getD (k - 1) 0 = y) := hy
              clear hy h2
              go_wp2
              go_quiet (fail)
              go_wp2_with (at_make; refine wpList_make_own _ rfl _ _ 24 rfl wo.heap.size 2 i0 (.int .i64 0) 1 Trym.underlying24 HI.out.1 HI.out.2.1 HI.out.2.2.1 .i64 .i64 _ n rfl rfl rfl (by rw [HI.out.2.2.2]; omega) (by unfold maxLen; omega) (Nat.le_refl _) ?_; intro w3 hown3 hg3)
              have HB3 : Hid (Below wo.heap.size wo w3) := (below_drewN wo.heap.size wo nq).grown hg3 (Nat.le_refl _) (fun j hj => by cases hj)
              have HO3 : Hid (w3.ownsRow wo.heap.size 2 1 (.slice (some ⟨wo.heap.size, 0, none⟩) (dropD rs x 0).length n) (dropD rs x 0).length ((dropD rs x 0).map (Value.int .i64))) := by rw [dropD_zero]; exact hown3
              clear hown3 hg3
              go_loopw [5, 6] (fun s5 s6 wi => ∃ j : Nat, j ≤ n ∧ s6 = .int .i64 j ∧ s5 = .slice (some ⟨wo.heap.size, 0, none⟩) (dropD rs x j).length n ∧ Hid (wi.ownsRow wo.heap.size 2 1 (.slice (some ⟨wo.heap.size, 0, none⟩) (dropD rs x j).length n) (dropD rs x j).length ((dropD rs x j).map (Value.int .i64)) ∧ Below wo.heap.size wo wi)) (fun _ i _ => n - (intOf i).toNat)
              case atStart => exact ⟨0, Nat.zero_le _, rfl, by rw [dropD_zero]; rfl, HO3.out, HB3.out⟩
              case round =>
                obtain ⟨j, hj, rfl, rfl, HO⟩ := hrel
                have hdl := dropD_len rs x j
                by_cases hjn : j < n
                · have hcj : wr.cell? ⟨bb, off + j, none⟩ = some (.int .i64 (rs.getD j 0)) := by rw [HO.out.2.cell (p := ⟨bb, off + j, none⟩) HC.out.2.1]; exact HC.out.2.2 j hjn
                  generalize hy : rs.getD j 0 = z at hcj
                  have HZ : Hid (rs.getD j 0 = z) := hy
                  clear hy
                  by_cases hzx : z = x
                  · have hb : (z != x) = false := by simp [hzx]
                    have HM : Hid (dropD rs x (j + 1) = dropD rs x j) := dropD_miss rs x j (by have := HC.out.1; omega) (by rw [HZ.out, hzx])
                    clear hzx
                    go_wp2
                    go_roundw
                    case rel => exact ⟨j + 1, by omega, by go_num, by rw [HM.out], by rw [HM.out]; exact HO.out⟩
                    case measure => simp [intOf]; omega
                  · have hb : (z != x) = true := by rw [bne_iff_ne]; exact hzx
                    have HM : Hid (dropD rs x (j + 1) = dropD rs x j ++ [z]) := by have := dropD_hit rs x j (by have := HC.out.1; omega) (by rw [HZ.out]; exact hzx); rw [HZ.out] at this; exact this
                    clear hzx
                    go_wp2_with (at_builtin; refine wpList_append_fits _ rfl _ _ 24 rfl wo.heap.size 2 i0 1 Trym.underlying24 HI.out.1 HI.out.2.2.1 wo.heap.size _ n _ rfl (HO.out.1.alloc _) ⟨wr.heap.size, 0, none⟩ 1 1 [.int .i64 z] rfl rfl (cell_one_new _ _ _) (ints_oneCell .i64 [z]) (by omega) ?_; intro w4 hown4 hg4)
                    go_roundw
                    case rel =>
                      refine ⟨j + 1, by omega, by go_num, by rw [HM.out, List.length_append]; rfl, ?_⟩
                      rw [HM.out, List.length_append, List.map_append]
                      exact ⟨hown4, (HO.out.2.alloc HO.out.2.size _).grown hg4 (Nat.le_trans HO.out.2.size (by simp)) (fun i e => by cases e; exact Nat.le_refl _)⟩
                    case measure => simp [intOf]; omega
                · go_wp2_with fail
                  refine (ended26 (some ⟨bb, off, none⟩) n d0 rs (some ⟨wo.heap.size, 0, none⟩) _ n (dropD rs x j) _ (by omega) (by omega) (HBR.out.2.below HO.out.2) (ints_of_own rfl HO.out.1) (dropD_sorted rs x j HS.out)).mono ?_
                  rintro e w5 ⟨rfl, hb5⟩
                  have hfin : endedB rs (dropD rs x j) = true := by rw [← HX.out]; exact dropD_ended rs k j (by have := HC.out.1; omega)
                  rw [hfin]
                  have HB5 : Hid (Below w2.heap.size w2 w5) := below_next (below_next HBR.out.1 HO.out.2) hb5
                  clear hfin hb5
                  go_wp2
                  go_roundw
                  case rel => exact ⟨k + 1, by omega, by go_num, HB5.out⟩
                  case measure => simp [intOf]; omega
          · go_wp2
            go_ret
            exact ⟨rfl, HB2.out.1.trans (HBR.out.1.mono HB2.out.1.size)⟩
    · go_wp2
      go_ret
      exact ⟨rfl, Below.refl _ _⟩
#print axioms selfDrop_walk
end Go.Proofs.Qxb6601498aMods

/-
  'relayB1Going', and the walk of FnGoingExact.
-/
import Derived.Test.Qxb6601498aModsGoing
namespace Go.Proofs.Qxb6601498aMods
open Go.RowKit
set_option linter.unusedVariables false

theorem Trym.info23 : (Trym.prog.info? 23).map (fun i => (i.zero, i.size, i.bytes)) = some (some (.slice none 0 0), 1, 24) := by kernel_rfl
theorem Trym.info4 : (Trym.prog.info? 4).map (fun i => (i.zero, i.size, i.bytes)) = some (some (.bool false), 1, 1) := by kernel_rfl

/-- Four rows, each filled up to k. -/
def Rows4 (w : World) (n : Nat) (f : Nat → LaneV) (k : Nat) (wr : World) : Prop :=
  wr.rowIs w.heap.size 23 n (fun j => if j < k then .slice (f j).a (f j).l (f j).c else .slice none 0 0) ∧ wr.rowIs (w.heap.size + 1) 3 n (fun j => if j < k then .int .i64 (f j).nx else .int .i64 0) ∧
  wr.rowIs (w.heap.size + 2) 3 n (fun j => if j < k then .int .i64 (f j).tk else .int .i64 0) ∧ wr.rowIs (w.heap.size + 3) 4 n (fun j => if j < k then .bool (f j).dn else .bool false) ∧ Below w.heap.size w wr

theorem rows4_start (w : World) (n : Nat) (f : Nat → LaneV) :
    Rows4 w n f 0 ((((w.alloc (.cells (madeCells #[.slice none 0 0] n) 23)).alloc (.cells (madeCells #[.int .i64 0] n) 3)).alloc (.cells (madeCells #[.int .i64 0] n) 3)).alloc (.cells (madeCells #[.bool false] n) 4)) := by
  have s1 := Go.Deep.nblk_alloc w (.cells (madeCells #[.slice none 0 0] n) 23)
  have s2 := Go.Deep.nblk_alloc (w.alloc (.cells (madeCells #[.slice none 0 0] n) 23)) (.cells (madeCells #[.int .i64 0] n) 3)
  have s3 := Go.Deep.nblk_alloc ((w.alloc (.cells (madeCells #[.slice none 0 0] n) 23)).alloc (.cells (madeCells #[.int .i64 0] n) 3)) (.cells (madeCells #[.int .i64 0] n) 3)
  have r0 := row_start w (.slice none 0 0) n 23 (fun j => .slice (f j).a (f j).l (f j).c)
  have r1 := row_start (w.alloc (.cells (madeCells #[.slice none 0 0] n) 23)) (.int .i64 0) n 3 (fun j => .int .i64 (f j).nx)
  have r2 := row_start ((w.alloc (.cells (madeCells #[.slice none 0 0] n) 23)).alloc (.cells (madeCells #[.int .i64 0] n) 3)) (.int .i64 0) n 3 (fun j => .int .i64 (f j).tk)
  have r3 := row_start (((w.alloc (.cells (madeCells #[.slice none 0 0] n) 23)).alloc (.cells (madeCells #[.int .i64 0] n) 3)).alloc (.cells (madeCells #[.int .i64 0] n) 3)) (.bool false) n 4 (fun j => .bool (f j).dn)
  rw [s1] at r1
  rw [s2, s1] at r2
  rw [s3, s2, s1] at r3
  refine ⟨((r0.alloc _).alloc _).alloc _, (r1.alloc _).alloc _, r2.alloc _, r3, ?_⟩
  exact ((((Below.refl _ _).alloc (Nat.le_refl _) _).alloc (by rw [s1]; omega) _).alloc (by rw [s2, s1]; omega) _).alloc (by rw [s3, s2, s1]; omega) _

theorem rows4_step {w : World} {n : Nat} {f : Nat → LaneV} {k : Nat} {wr : World} (h : Rows4 w n f k wr) {fk : LaneV} (e : f k = fk) :
    Rows4 w n f (k + 1) ((((wr.setCell ⟨w.heap.size, k, none⟩ (.slice fk.a fk.l fk.c)).setCell ⟨w.heap.size + 1, k, none⟩ (.int .i64 fk.nx)).setCell ⟨w.heap.size + 2, k, none⟩ (.int .i64 fk.tk)).setCell ⟨w.heap.size + 3, k, none⟩ (.bool fk.dn)) := by
  obtain ⟨r0, r1, r2, r3, hb⟩ := h
  subst e
  refine ⟨?_, ?_, ?_, ?_, ?_⟩
  · exact (((row_step (V := fun j => .slice (f j).a (f j).l (f j).c) r0).setOther (a := ⟨w.heap.size + 1, k, none⟩) (by simp) _).setOther (a := ⟨w.heap.size + 2, k, none⟩) (by simp) _).setOther (a := ⟨w.heap.size + 3, k, none⟩) (by simp) _
  · exact ((row_step (V := fun j => .int .i64 (f j).nx) (r1.setOther (a := ⟨w.heap.size, k, none⟩) (by simp) _)).setOther (a := ⟨w.heap.size + 2, k, none⟩) (by simp) _).setOther (a := ⟨w.heap.size + 3, k, none⟩) (by simp) _
  · exact (row_step (V := fun j => .int .i64 (f j).tk) ((r2.setOther (a := ⟨w.heap.size, k, none⟩) (by simp) _).setOther (a := ⟨w.heap.size + 1, k, none⟩) (by simp) _)).setOther (a := ⟨w.heap.size + 3, k, none⟩) (by simp) _
  · exact row_step (V := fun j => .bool (f j).dn) (((r3.setOther (a := ⟨w.heap.size, k, none⟩) (by simp) _).setOther (a := ⟨w.heap.size + 1, k, none⟩) (by simp) _).setOther (a := ⟨w.heap.size + 2, k, none⟩) (by simp) _)
  · exact (((hb.setCell (p := ⟨w.heap.size, k, none⟩) (Nat.le_refl _) _).setCell (p := ⟨w.heap.size + 1, k, none⟩) (Nat.le_succ _) _).setCell (p := ⟨w.heap.size + 2, k, none⟩) (by simp) _).setCell (p := ⟨w.heap.size + 3, k, none⟩) (by simp) _

set_option maxHeartbeats 2000000 in
theorem going22_some (b off n c : Nat) (f : Nat → LaneV) (w : World) (hn : n ≤ 1048576) (hb : b < w.heap.size)
    (hc : ∀ i, i < n → w.cell? ⟨b, off + i * 4, none⟩ = some (.slice (f i).a (f i).l (f i).c) ∧ w.cell? ⟨b, off + i * 4 + 1, none⟩ = some (.int .i64 (f i).nx) ∧
    w.cell? ⟨b, off + i * 4 + 2, none⟩ = some (.int .i64 (f i).tk) ∧ w.cell? ⟨b, off + i * 4 + 3, none⟩ = some (.bool (f i).dn)) :
    Calls Trym.prog 22 #[.slice (some ⟨b, off, none⟩) n c] w fun e w' => e = .returned (.bool (goingB n (fun i => (f i).dn))) ∧ Below w.heap.size w w' := by
  have hmk0 := run_make_row' (P := Trym.prog) 31 23 (.slice none 0 0) 24 Trym.underlying31 Trym.info23 rfl .i64 .i64 n (by omega) (by omega)
  have hmk1 := run_make_row' (P := Trym.prog) 23 3 (.int .i64 0) 8 Trym.underlying23 Trym.info3 rfl .i64 .i64 n (by omega) (by omega)
  have hmk2 := run_make_row' (P := Trym.prog) 32 4 (.bool false) 1 Trym.underlying32 Trym.info4 rfl .i64 .i64 n (by omega) (by omega)
  have HC : Hid (∀ i, i < n → w.cell? ⟨b, off + i * 4, none⟩ = some (.slice (f i).a (f i).l (f i).c) ∧ w.cell? ⟨b, off + i * 4 + 1, none⟩ = some (.int .i64 (f i).nx) ∧
    w.cell? ⟨b, off + i * 4 + 2, none⟩ = some (.int .i64 (f i).tk) ∧ w.cell? ⟨b, off + i * 4 + 3, none⟩ = some (.bool (f i).dn)) := hc
  clear hc
  go_enter Trym.func22, Trym.ntmps22
  go_wp2
  go_loopw [7] (fun i wr => ∃ k : Nat, k ≤ n ∧ i = .int .i64 k ∧ Rows4 w n f k wr) (fun i _ => n - (intOf i).toNat)
  case atStart => exact ⟨0, Nat.zero_le _, rfl, rows4_start w n f⟩
  case round =>
    obtain ⟨k, hk, rfl, hinv⟩ := hrel
    have HI : Hid (Rows4 w n f k wr) := hinv
    by_cases hlt : k < n
    · obtain ⟨r0, r1, r2, r3, hbel⟩ := hinv
      obtain ⟨q0, q1, q2, q3⟩ := HC.out k hlt
      have d0 := (hbel.cell (p := ⟨b, off + k * 4, none⟩) hb).trans q0
      have d1 := (hbel.cell (p := ⟨b, off + k * 4 + 1, none⟩) hb).trans q1
      have d2 := (hbel.cell (p := ⟨b, off + k * 4 + 2, none⟩) hb).trans q2
      have d3 := (hbel.cell (p := ⟨b, off + k * 4 + 3, none⟩) hb).trans q3
      have x0 := r0.cell hlt; have z0 := r0.frozen k
      have x1 := r1.cell hlt; have z1 := r1.frozen k
      have x2 := r2.cell hlt; have z2 := r2.frozen k
      have x3 := r3.cell hlt; have z3 := r3.frozen k
      rw [if_neg (Nat.lt_irrefl _)] at x0 x1 x2 x3
      clear r0 r1 r2 r3 hbel q0 q1 q2 q3 hmk0 hmk1 hmk2
      generalize hfk : f k = fk at d0 d1 d2 d3
      have HS : Hid (Rows4 w n f (k + 1) _) := rows4_step HI.out hfk
      clear hfk
      obtain ⟨fa, fl, fc, fz, fn, ft, fd⟩ := fk
      simp only at d0 d1 d2 d3 HS
      go_wp2
      go_roundw
      case rel => exact ⟨k + 1, by omega, by go_num, HS.out⟩
      case measure => simp [intOf]; omega
    · obtain rfl : k = n := by omega
      clear hinv hmk0 hmk1 hmk2
      go_wp2_with fail
      obtain ⟨r0, r1, r2, r3, hbel⟩ := HI.out
      refine (zzgoing30 w.heap.size (w.heap.size + 1) (w.heap.size + 2) (w.heap.size + 3) k k k k k (fun i => (f i).a) (fun i => (f i).l) (fun i => (f i).c) (fun i => (f i).nx) (fun i => (f i).tk) (fun i => (f i).dn) wr hn (row_end r0) (row_end r1) (row_end r2) (row_end r3)).mono ?_
      rintro e w' ⟨rfl, hb2⟩
      have HB : Hid (Below w.heap.size w w') := below_next hbel hb2
      clear r0 r1 r2 r3 hbel hb2
      go_wp2
      go_ret
      exact ⟨rfl, HB.out⟩

theorem going22_none (a : Option Addr) (c : Nat) (w : World) :
    Calls Trym.prog 22 #[.slice a 0 c] w fun e w' => e = .returned (.bool false) ∧ Below w.heap.size w w' := by
  have hmk0 : ∀ w : World, (Instr.makeSlice 31 (.int .i64 0) (.int .i64 0)).run Trym.prog w = .ok (.slice (some ⟨w.heap.size, 0, none⟩) 0 0) (w.alloc (.cells (madeCells #[.slice none 0 0] 0) 23)) := run_make_row' (P := Trym.prog) 31 23 (.slice none 0 0) 24 Trym.underlying31 Trym.info23 rfl .i64 .i64 0 (by omega) (by omega)
  have hmk1 : ∀ w : World, (Instr.makeSlice 23 (.int .i64 0) (.int .i64 0)).run Trym.prog w = .ok (.slice (some ⟨w.heap.size, 0, none⟩) 0 0) (w.alloc (.cells (madeCells #[.int .i64 0] 0) 3)) := run_make_row' (P := Trym.prog) 23 3 (.int .i64 0) 8 Trym.underlying23 Trym.info3 rfl .i64 .i64 0 (by omega) (by omega)
  have hmk2 : ∀ w : World, (Instr.makeSlice 32 (.int .i64 0) (.int .i64 0)).run Trym.prog w = .ok (.slice (some ⟨w.heap.size, 0, none⟩) 0 0) (w.alloc (.cells (madeCells #[.bool false] 0) 4)) := run_make_row' (P := Trym.prog) 32 4 (.bool false) 1 Trym.underlying32 Trym.info4 rfl .i64 .i64 0 (by omega) (by omega)
  have HS : Hid (Rows4 w 0 (fun _ => ⟨none, 0, 0, [], 0, 0, false⟩) 0 ((((w.alloc (.cells (madeCells #[.slice none 0 0] 0) 23)).alloc (.cells (madeCells #[.int .i64 0] 0) 3)).alloc (.cells (madeCells #[.int .i64 0] 0) 3)).alloc (.cells (madeCells #[.bool false] 0) 4))) := rows4_start w 0 _
  go_enter Trym.func22, Trym.ntmps22
  go_wp2
  go_loopw [7] (fun i wr => i = .int .i64 0 ∧ Hid (Rows4 w 0 (fun _ => ⟨none, 0, 0, [], 0, 0, false⟩) 0 wr)) (fun _ _ => 0)
  case atStart => exact ⟨rfl, HS⟩
  case round =>
    obtain ⟨rfl, HI⟩ := hrel
    clear hmk0 hmk1 hmk2
    go_wp2_with fail
    obtain ⟨r0, r1, r2, r3, hbel⟩ := HI.out
    refine (zzgoing30 w.heap.size (w.heap.size + 1) (w.heap.size + 2) (w.heap.size + 3) 0 0 0 0 0 (fun _ => none) (fun _ => 0) (fun _ => 0) (fun _ => 0) (fun _ => 0) (fun _ => false) wr (by omega) (row_end r0) (row_end r1) (row_end r2) (row_end r3)).mono ?_
    rintro e w' ⟨rfl, hb2⟩
    have HB : Hid (Below w.heap.size w w') := below_next hbel hb2
    clear r0 r1 r2 r3 hbel hb2
    go_wp2
    go_ret
    exact ⟨rfl, HB.out⟩

theorem going22 (a : Option Addr) (n c : Nat) (f : Nat → LaneV) (w : World) (hn : n ≤ 1048576) (h : LanesAt w a n f) :
    Calls Trym.prog 22 #[.slice a n c] w fun e w' => e = .returned (.bool (goingB n (fun i => (f i).dn))) ∧ Below w.heap.size w w' := by
  rcases h with rfl | ⟨b, off, rfl, hlt, hc⟩
  · exact going22_none a c w
  · exact going22_some b off n c f w hn hlt (fun i hi => ⟨(hc i hi).1, (hc i hi).2.1, (hc i hi).2.2.1, (hc i hi).2.2.2.1⟩)

/-- How many of the first k are done. -/
def cntD (d : Nat → Bool) : Nat → Nat
  | 0 => 0
  | k + 1 => cntD d k + if d k then 1 else 0
theorem cntD_le (d : Nat → Bool) : ∀ k, cntD d k ≤ k
  | 0 => Nat.le_refl _
  | k + 1 => by have := cntD_le d k; unfold cntD; split <;> omega
theorem cntD_all (d : Nat → Bool) : ∀ k, (∀ j, j < k → d j = true) → cntD d k = k
  | 0, _ => rfl
  | k + 1, h => by unfold cntD; rw [cntD_all d k (fun j hj => h j (by omega)), h k (by omega)]; rfl
theorem cntD_some (d : Nat → Bool) : ∀ k, (∃ j, j < k ∧ d j = false) → cntD d k < k
  | 0, h => by obtain ⟨j, hj, _⟩ := h; omega
  | k + 1, h => by
    obtain ⟨j, hj, e⟩ := h
    unfold cntD
    have hle := cntD_le d k
    by_cases hk : j = k
    · subst hk; rw [e]; simp; omega
    · have := cntD_some d k ⟨j, by omega, e⟩
      split <;> omega
theorem goingB_cnt (d : Nat → Bool) (n : Nat) : goingB n d = decide (cntD d n < n) := by
  cases h : goingB n d with
  | true =>
    unfold goingB at h
    rw [List.any_eq_true] at h
    obtain ⟨x, hx, e⟩ := h
    exact (decide_eq_true (cntD_some d n ⟨x, List.mem_range.1 hx, by simpa using e⟩)).symm
  | false =>
    have : ∀ j, j < n → d j = true := fun j hj => by
      cases hd : d j with
      | true => rfl
      | false => rw [goingB_hit n d j hj hd] at h; exact h.symm
    rw [cntD_all d n this]
    exact (decide_eq_false (Nat.lt_irrefl _)).symm

set_option maxHeartbeats 2000000 in
theorem goingExact_walk (a0 : Option Addr) (n c0 : Nat) (f : Nat → LaneV) (w : World) (hn : n ≤ maxLen) (h0 : LanesAt w a0 n f) :
    Calls Trym.prog 5 #[.slice a0 n c0] w fun e w' => e = .returned (.bool true) ∧ Below w.heap.size w w' := by
  have H0 : Hid (LanesAt w a0 n f) := h0
  have HN : Hid (n ≤ maxLen) := hn
  clear h0 hn
  go_enter Trym.func5, Trym.ntmps5
  go_wp2_with fail
  refine (bytes19 a0 n c0 f _ HN.out H0.out).mono ?_
  rintro e w' ⟨⟨r, rfl, hr⟩, hw⟩
  obtain rfl : w = w' := hw.symm
  clear hw
  cases r with
  | false =>
    go_wp2
    go_ret
    exact ⟨rfl, Below.refl _ _⟩
  | true =>
    obtain ⟨hsz, hls⟩ := hr rfl
    have HL : Hid (∀ i, i < n → (f i).l ≤ 1048576) := hls
    clear hr hls
    by_cases hn : n ≤ 65536
    · go_wp2_with fail
      refine (left20 a0 n c0 f _ (by omega) HL.out H0.out).mono ?_
      rintro e w' ⟨⟨r, rfl⟩, hw⟩
      obtain rfl : w = w' := hw.symm
      clear hw
      by_cases hr : r < 0
      · go_wp2
        go_ret
        exact ⟨rfl, Below.refl _ _⟩
      · go_wp2_with fail
        refine (cloneLanes21 a0 n c0 f _ (by omega) HL.out H0.out).mono ?_
        rintro e w1 ⟨b0, d0, g, rfl, hl1, hg1, hb1⟩
        have HB1 : Hid (Below w.heap.size w w1 ∧ LanesAt w1 b0 n g) := ⟨hb1, hl1⟩
        clear hb1 hl1 hg1 H0 HN HL
        go_wp2_with fail
        refine (going22 b0 n d0 g _ (by omega) HB1.out.2).mono ?_
        rintro e w2 ⟨rfl, hb2⟩
        have HB2 : Hid (Below w.heap.size w w2 ∧ LanesAt w2 b0 n g) := ⟨below_next HB1.out.1 hb2, HB1.out.2.below hb2⟩
        clear HB1 hb2
        go_wp2
        go_loop [4, 5] (fun s4 s5 => ∃ k : Nat, k ≤ n ∧ s4 = .int .i64 (cntD (fun i => (g i).dn) k : Nat) ∧ s5 = .int .i64 k) (fun _ i => n - (intOf i).toNat)
        case atStart => exact ⟨0, Nat.zero_le _, rfl, rfl⟩
        case round =>
          obtain ⟨k, hk, rfl, rfl⟩ := hrel
          have hcl := cntD_le (fun i => (g i).dn) k
          generalize hm : cntD (fun i => (g i).dn) k = m at hcl
          have HM : Hid (cntD (fun i => (g i).dn) k = m) := hm
          clear hm
          by_cases hlt : k < n
          · obtain h0 | ⟨b, off, rfl, hbb, hc⟩ := HB2.out.2
            · omega
            have c3 := (hc k hlt).2.2.2.1
            clear hc hbb
            cases hd : (g k).dn with
            | true =>
              rw [hd] at c3
              have HD : Hid ((g k).dn = true) := hd
              clear hd
              go_wp2
              go_round
              case rel => exact ⟨k + 1, by omega, by simp only [cntD, HM.out, HD.out]; go_num, by go_num⟩
              case measure => simp [intOf]; omega
            | false =>
              rw [hd] at c3
              have HD : Hid ((g k).dn = false) := hd
              clear hd
              go_wp2
              go_round
              case rel => exact ⟨k + 1, by omega, by simp only [cntD, HM.out, HD.out]; go_num, by go_num⟩
              case measure => simp [intOf]; omega
          · obtain rfl : k = n := by omega
            go_wp2
            go_ret
            refine ⟨ret_bool ?_, HB2.out.1⟩
            rw [goingB_cnt, HM.out]
            simp
    · go_wp2
      go_ret
      exact ⟨rfl, Below.refl _ _⟩
#print axioms goingExact_walk
end Go.Proofs.Qxb6601498aMods

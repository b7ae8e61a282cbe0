/-
  'ended', 'ZZended', the clones of integer slices, 'relayB1NonDecreasing', the length guards of the two 'Ended' laws.
-/
import Derived.Test.Qxb6601498aModsSearch
import Derived.Lib.SliceRun
namespace Go.Proofs.Qxb6601498aMods
open Go.RowKit
set_option linter.unusedVariables false

/-- What 'ended' answers of an ascending 'now'. -/
def endedB (rs ns : List Int) : Bool := rs.any (fun x => !ns.contains x)

theorem take_snoc_i (l : List Int) (k : Nat) (h : k < l.length) : l.take (k + 1) = l.take k ++ [l.getD k 0] := by
  rw [List.take_succ_eq_append_getElem h]; simp [h]

theorem endedB_step (rs ns : List Int) (k : Nat) (h : k < rs.length) (h1 : endedB (rs.take k) ns = false) (h2 : ns.contains (rs.getD k 0) = true) : endedB (rs.take (k + 1)) ns = false := by
  rw [take_snoc_i rs k h]
  unfold endedB at *
  rw [List.any_append, h1, List.any_cons, h2]
  rfl

theorem endedB_hit (rs ns : List Int) (k : Nat) (h : k < rs.length) (h2 : ns.contains (rs.getD k 0) = false) : endedB rs ns = true := by
  unfold endedB
  rw [List.any_eq_true]
  refine ⟨rs.getD k 0, ?_, by rw [h2]; rfl⟩
  simp [h]

set_option maxHeartbeats 1000000 in
theorem ended_some (b off n c : Nat) (rs : List Int) (a1 : Option Addr) (m c1 : Nat) (ns : List Int) (w : World) (hz : rs.length = n) (hbig : n ≤ 1048576) (hbigm : m ≤ 1048576)
    (hb : b < w.heap.size) (hc : ∀ j, j < n → w.cell? ⟨b, off + j, none⟩ = some (.int .i64 (rs.getD j 0))) (hn : IntsAt w a1 m ns) (hs : ns.Pairwise (· ≤ ·)) :
    Calls Trym.prog 31 #[.slice (some ⟨b, off, none⟩) n c, .slice a1 m c1] w fun e w' => e = .returned (.bool (endedB rs ns)) ∧ Below w.heap.size w w' := by
  have HN : Hid (IntsAt w a1 m ns) := hn
  have HS : Hid (ns.Pairwise (· ≤ ·)) := hs
  have HZ : Hid (rs.length = n) := hz
  clear hn hs hz
  go_enter Trym.func31, Trym.ntmps31
  go_wp2
  go_loopw [11] (fun i wr => ∃ k q : Nat, k ≤ n ∧ i = .int .i64 k ∧ wr = w.drewN q ∧ Hid (endedB (rs.take k) ns = false)) (fun i _ => n - (intOf i).toNat)
  case atStart => exact ⟨0, 0, Nat.zero_le _, rfl, rfl, (show endedB [] ns = false from rfl)⟩
  case round =>
    obtain ⟨k, q, hk, rfl, rfl, HE⟩ := hrel
    by_cases hlt : k < n
    · have hck : w.cell? ⟨b, off + k, none⟩ = some (.int .i64 (rs.getD k 0)) := hc k hlt
      clear hc
      generalize hx : rs.getD k 0 = x at hck
      have HX : Hid (rs.getD k 0 = x) := hx
      clear hx
      cases hcon : ns.contains x
      · have HC : Hid (ns.contains x = false) := hcon
        clear hcon
        go_wp2_with fail
        refine (search34 a1 m c1 ns x _ (HN.out.below (below_drewN _ _ _)) (by omega) HS.out).mono ?_
        rintro e w' ⟨i, rfl, q', rfl⟩
        rw [HC.out]
        go_wp2
        go_ret
        exact ⟨ret_bool (endedB_hit rs ns k (by have := HZ.out; omega) (by rw [HX.out]; exact HC.out)).symm, below_drewN _ _ _⟩
      · have HC : Hid (ns.contains x = true) := hcon
        clear hcon
        go_wp2_with fail
        refine (search34 a1 m c1 ns x _ (HN.out.below (below_drewN _ _ _)) (by omega) HS.out).mono ?_
        rintro e w' ⟨i, rfl, q', rfl⟩
        rw [HC.out]
        go_wp2
        go_roundw
        case rel => exact ⟨k + 1, q + q', by omega, by go_num, rfl, endedB_step rs ns k (by have := HZ.out; omega) HE.out (by rw [HX.out]; exact HC.out)⟩
        case measure => simp [intOf]; omega
    · go_wp2
      go_ret
      refine ⟨ret_bool ?_, below_drewN _ _ _⟩
      have h1 := HE.out
      rw [List.take_of_length_le (by have := HZ.out; omega)] at h1
      exact h1.symm

theorem ended_none (a : Option Addr) (c : Nat) (v : Value) (w : World) :
    Calls Trym.prog 31 #[.slice a 0 c, v] w fun e w' => e = .returned (.bool false) ∧ w' = w := by
  go_enter Trym.func31, Trym.ntmps31
  go_wp2
  go_loop [11] (fun i => i = .int .i64 0) (fun _ => 0)
  case atStart => rfl
  case round =>
    subst hrel
    go_wp2
    go_ret
    exact ⟨rfl, rfl⟩

theorem ended31 (a : Option Addr) (n c : Nat) (rs : List Int) (a1 : Option Addr) (m c1 : Nat) (ns : List Int) (w : World) (hbig : n ≤ 1048576) (hbigm : m ≤ 1048576)
    (hr : IntsAt w a n rs) (hn : IntsAt w a1 m ns) (hs : ns.Pairwise (· ≤ ·)) :
    Calls Trym.prog 31 #[.slice a n c, .slice a1 m c1] w fun e w' => e = .returned (.bool (endedB rs ns)) ∧ Below w.heap.size w w' := by
  obtain ⟨hz, rfl | ⟨b, off, rfl, hb, hc⟩⟩ := hr
  · obtain rfl : rs = [] := List.eq_nil_of_length_eq_zero hz
    refine (ended_none a c _ w).mono ?_
    rintro e w' ⟨rfl, rfl⟩
    exact ⟨rfl, Below.refl _ _⟩
  · exact ended_some b off n c rs a1 m c1 ns w hz hbig hbigm hb hc hn hs

theorem ended26 (a : Option Addr) (n c : Nat) (rs : List Int) (a1 : Option Addr) (m c1 : Nat) (ns : List Int) (w : World) (hbig : n ≤ 1048576) (hbigm : m ≤ 1048576)
    (hr : IntsAt w a n rs) (hn : IntsAt w a1 m ns) (hs : ns.Pairwise (· ≤ ·)) :
    Calls Trym.prog 26 #[.slice a n c, .slice a1 m c1] w fun e w' => e = .returned (.bool (endedB rs ns)) ∧ Below w.heap.size w w' := by
  have HR : Hid (IntsAt w a n rs) := hr
  have HN : Hid (IntsAt w a1 m ns) := hn
  have HS : Hid (ns.Pairwise (· ≤ ·)) := hs
  clear hr hn hs
  go_enter Trym.func26, Trym.ntmps26
  go_wp2_with fail
  refine (ended31 a n c rs a1 m c1 ns w hbig hbigm HR.out HN.out HS.out).mono ?_
  rintro e w' ⟨rfl, hb⟩
  go_wp2
  go_ret
  exact ⟨rfl, hb⟩

/-- The guard on lengths of FnEndedExact, where the lengths are what lengths can be. -/
theorem bytes24 (a : Option Addr) (n c : Nat) (a1 : Option Addr) (m c1 : Nat) (w : World) (hn : n ≤ maxLen) (hm : m ≤ maxLen) :
    Calls Trym.prog 24 #[.slice a n c, .slice a1 m c1] w fun e w' => ∃ r : Bool, e = .returned (.bool r) ∧ w' = w ∧ (r = true → n + m ≤ 1048576) := by
  unfold maxLen at hn hm
  by_cases h1 : n ≤ 1048576
  · by_cases h2 : m ≤ 1048576
    · by_cases h3 : n + m ≤ 1048576
      · go_enter Trym.func24, Trym.ntmps24
        go_wp2
        go_ret
        exact ⟨true, rfl, rfl, fun _ => h3⟩
      · go_enter Trym.func24, Trym.ntmps24
        go_wp2
        go_ret
        exact ⟨false, rfl, rfl, fun h => by cases h⟩
    · go_enter Trym.func24, Trym.ntmps24
      go_wp2
      go_ret
      exact ⟨false, rfl, rfl, fun h => by cases h⟩
  · go_enter Trym.func24, Trym.ntmps24
    go_wp2
    go_ret
    exact ⟨false, rfl, rfl, fun h => by cases h⟩

theorem bytes28 (a : Option Addr) (n c : Nat) (w : World) (hn : n ≤ maxLen) :
    Calls Trym.prog 28 #[.slice a n c] w fun e w' => ∃ r : Bool, e = .returned (.bool r) ∧ w' = w ∧ (r = true → n ≤ 1048576) := by
  unfold maxLen at hn
  by_cases h1 : n ≤ 1048576
  · go_enter Trym.func28, Trym.ntmps28
    go_wp2
    go_ret
    exact ⟨true, rfl, rfl, fun _ => h1⟩
  · go_enter Trym.func28, Trym.ntmps28
    go_wp2
    go_ret
    exact ⟨false, rfl, rfl, fun h => by cases h⟩

/-- Ascending, by places. -/
theorem sorted_of (zs : List Int) (h : ∀ j, j + 1 < zs.length → zs.getD j 0 ≤ zs.getD (j + 1) 0) : zs.Pairwise (· ≤ ·) := by
  have hle : ∀ d i, i + d < zs.length → zs.getD i 0 ≤ zs.getD (i + d) 0 := by
    intro d
    induction d with
    | zero => intro i _; exact Int.le_refl _
    | succ d ih =>
      intro i hi
      have h1 := ih i (by omega)
      have h2 := h (i + d) (by omega)
      exact Int.le_trans h1 h2
  rw [List.pairwise_iff_getElem]
  intro i j hi hj hij
  have := hle (j - i) i (by omega)
  rw [show i + (j - i) = j by omega, Lib.getD_lt _ _ hi, Lib.getD_lt _ _ hj] at this
  exact this

theorem nondec_some (b off n c : Nat) (zs : List Int) (w : World) (hz : zs.length = n) (hbig : n ≤ 1048576) (hc : ∀ j, j < n → w.cell? ⟨b, off + j, none⟩ = some (.int .i64 (zs.getD j 0))) :
    Calls Trym.prog 25 #[.slice (some ⟨b, off, none⟩) n c] w fun e w' => ∃ r : Bool, e = .returned (.bool r) ∧ (r = true → zs.Pairwise (· ≤ ·)) ∧ ∃ q, w' = w.drewN q := by
  have HZ : Hid (zs.length = n) := hz
  clear hz
  go_enter Trym.func25, Trym.ntmps25
  go_wp2
  go_loopw [3] (fun i wr => ∃ k q : Nat, k + 1 ≤ n + 1 ∧ i = .int .i64 (k + 1 : Nat) ∧ wr = w.drewN q ∧ Hid (∀ j, j < k → j + 1 < n → zs.getD j 0 ≤ zs.getD (j + 1) 0)) (fun i _ => n + 1 - (intOf i).toNat)
  case atStart => exact ⟨0, 0, by omega, rfl, rfl, fun j hj => absurd hj (Nat.not_lt_zero _)⟩
  case round =>
    obtain ⟨k, q, hk, rfl, rfl, HE⟩ := hrel
    by_cases hlt : k + 1 < n
    · have hc0 : w.cell? ⟨b, off + k, none⟩ = some (.int .i64 (zs.getD k 0)) := hc k (by omega)
      have hc1 : w.cell? ⟨b, off + (k + 1), none⟩ = some (.int .i64 (zs.getD (k + 1) 0)) := hc (k + 1) (by omega)
      clear hc
      generalize hx : zs.getD k 0 = x at hc0
      generalize hy : zs.getD (k + 1) 0 = y at hc1
      have HX : Hid (zs.getD k 0 = x ∧ zs.getD (k + 1) 0 = y) := ⟨hx, hy⟩
      clear hx hy
      by_cases hxy : y < x
      · go_wp2
        go_quiet (fail)
        go_wp2
        go_ret
        exact ⟨false, rfl, fun h => Bool.noConfusion h, _, World.drewN_drewN _ _ _⟩
      · go_wp2
        go_quiet (fail)
        go_wp2
        go_roundw
        case rel =>
          refine ⟨k + 1, _, by omega, by go_num, rfl, fun j hj hjn => ?_⟩
          rcases Nat.lt_succ_iff_lt_or_eq.1 hj with h | rfl
          · exact HE.out j h hjn
          · rw [HX.out.1, HX.out.2]; omega
        case measure => simp [intOf]; omega
    · go_wp2
      go_ret
      refine ⟨true, rfl, fun _ => sorted_of zs fun j hj => HE.out j (by have := HZ.out; omega) (by have := HZ.out; omega), q, rfl⟩

theorem nondec_none (a : Option Addr) (c : Nat) (w : World) :
    Calls Trym.prog 25 #[.slice a 0 c] w fun e w' => e = .returned (.bool true) ∧ w' = w := by
  go_enter Trym.func25, Trym.ntmps25
  go_wp2
  go_loop [3] (fun i => i = .int .i64 1) (fun _ => 0)
  case atStart => rfl
  case round =>
    subst hrel
    go_wp2
    go_ret
    exact ⟨rfl, rfl⟩

theorem nondec25 (a : Option Addr) (n c : Nat) (zs : List Int) (w : World) (h : IntsAt w a n zs) (hbig : n ≤ 1048576) :
    Calls Trym.prog 25 #[.slice a n c] w fun e w' => ∃ r : Bool, e = .returned (.bool r) ∧ (r = true → zs.Pairwise (· ≤ ·)) ∧ ∃ q, w' = w.drewN q := by
  obtain ⟨hz, rfl | ⟨b, off, rfl, hb, hc⟩⟩ := h
  · obtain rfl : zs = [] := List.eq_nil_of_length_eq_zero hz
    refine (nondec_none a c w).mono ?_
    rintro e w' ⟨rfl, rfl⟩
    exact ⟨true, rfl, fun _ => List.Pairwise.nil, 0, rfl⟩
  · exact nondec_some b off n c zs w hz hbig hc


/-- The clone of a slice of integers that is not nil. -/
theorem clone_some_15 (x : Addr) (n c : Nat) (zs : List Int) (w : World) (hz : zs.length = n) (hbig : n ≤ 1048576)
    (h : n = 0 ∨ ∃ b off, x = ⟨b, off, none⟩ ∧ b < w.heap.size ∧ ∀ j, j < n → w.cell? ⟨b, off + j, none⟩ = some (.int .i64 (zs.getD j 0))) :
    Calls Trym.prog 15 #[.slice (some x) n c] w fun e w' => e = .returned (.slice (some ⟨w.heap.size, 0, none⟩) n n) ∧ w'.rowIs w.heap.size 2 n (fun i => .int .i64 (zs.getD i 0)) ∧ Below w.heap.size w w' := by
  have hq : ∀ (w : World) (a : Option Addr) (n c n' c' : Nat), (binOp .eql 24 (.slice a n c) (.slice none n' c')).run Trym.prog w = .ok (.bool a.isNone) w := fun w a n c n' c' => Lib.run_eql_slice_nil w 24 2 a n c n' c' Trym.underlying24
  have hmk := run_make_row' (P := Trym.prog) 24 2 (.int .i64 0) 8 Trym.underlying24 Trym.info2 rfl .i64 .i64 n (by omega) (by omega)
  rcases h with rfl | ⟨b, off, rfl, hb, hc⟩
  · have hmk0 : ∀ w : World, (Instr.makeSlice 24 (.int .i64 0) (.int .i64 0)).run Trym.prog w = .ok (.slice (some ⟨w.heap.size, 0, none⟩) 0 0) (w.alloc (.cells (madeCells #[.int .i64 0] 0) 2)) := hmk
    clear hmk
    go_enter Trym.func15, Trym.ntmps15
    go_wp2
    go_loop [4] (fun i => i = .int .i64 0) (fun _ => 0)
    case atStart => rfl
    case round =>
      subst hrel
      go_wp2
      go_ret
      exact ⟨rfl, (World.rowIs_made w (.int .i64 0) 0 2).congr (fun i hi => absurd hi (Nat.not_lt_zero _)), (Below.refl _ _).alloc (Nat.le_refl _) _⟩
  · go_enter Trym.func15, Trym.ntmps15
    go_wp2
    go_loopw [4] (fun i wr => ∃ k : Nat, k ≤ n ∧ i = .int .i64 k ∧ wr.rowIs w.heap.size 2 n (fun j => if j < k then .int .i64 (zs.getD j 0) else .int .i64 0) ∧ Below w.heap.size w wr) (fun i _ => n - (intOf i).toNat)
    case atStart => exact ⟨0, Nat.zero_le _, rfl, (World.rowIs_made w (.int .i64 0) n 2).congr (fun i _ => by rw [if_neg (Nat.not_lt_zero _)]), (Below.refl _ _).alloc (Nat.le_refl _) _⟩
    case round =>
      obtain ⟨k, hk, rfl, hrow, hbel⟩ := hrel
      by_cases hlt : k < n
      · have hck : wr.cell? ⟨b, off + k, none⟩ = some (.int .i64 (zs.getD k 0)) := (hbel.cell (p := ⟨b, off + k, none⟩) hb).trans (hc k hlt)
        have hcd := hrow.cell hlt
        have hfd := hrow.frozen k
        rw [if_neg (Nat.lt_irrefl _)] at hcd
        have hset := hrow.set k (.int .i64 (zs.getD k 0))
        have hbel' := hbel.setCell (p := ⟨w.heap.size, k, none⟩) (Nat.le_refl _) (.int .i64 (zs.getD k 0))
        have HR : Hid ((wr.setCell ⟨w.heap.size, k, none⟩ (.int .i64 (zs.getD k 0))).rowIs w.heap.size 2 n (fun j => if j < k + 1 then .int .i64 (zs.getD j 0) else .int .i64 0) ∧ Below w.heap.size w (wr.setCell ⟨w.heap.size, k, none⟩ (.int .i64 (zs.getD k 0)))) := by
          refine ⟨hset.congr fun i _ => ?_, hbel'⟩
          by_cases e : i = k
          · subst e; rw [if_pos rfl, if_pos (Nat.lt_succ_self _)]
          · by_cases h2 : i < k
            · rw [if_neg e, if_pos h2, if_pos (by omega)]
            · rw [if_neg e, if_neg h2, if_neg (by omega)]
        clear hset hbel' hc hrow hbel
        generalize hx : zs.getD k 0 = x at hck HR
        have HX : Hid (zs.getD k 0 = x) := hx
        clear hx
        go_wp2
        go_roundw
        case rel => exact ⟨k + 1, by omega, by go_num, HR.out.1, HR.out.2⟩
        case measure => simp [intOf]; omega
      · go_wp2
        go_ret
        exact ⟨rfl, hrow.congr (fun i hi => by rw [if_pos (by omega)]), hbel⟩

theorem clone_nil_15 (c : Nat) (w : World) : Calls Trym.prog 15 #[.slice none 0 c] w fun e w' => e = .returned (.slice none 0 0) ∧ w' = w := by
  have hq : ∀ (w : World) (a : Option Addr) (n c n' c' : Nat), (binOp .eql 24 (.slice a n c) (.slice none n' c')).run Trym.prog w = .ok (.bool a.isNone) w := fun w a n c n' c' => Lib.run_eql_slice_nil w 24 2 a n c n' c' Trym.underlying24
  go_enter Trym.func15, Trym.ntmps15
  go_wp2
  go_ret
  exact ⟨rfl, rfl⟩

theorem clone15 (a : Option Addr) (n c : Nat) (zs : List Int) (w : World) (h : IntsAt w a n zs) (hbig : n ≤ 1048576) :
    Calls Trym.prog 15 #[.slice a n c] w fun e w' => ∃ a' c', e = .returned (.slice a' n c') ∧ IntsAt w' a' n zs ∧ Below w.heap.size w w' := by
  obtain ⟨hz, h⟩ := h
  cases a with
  | none =>
    obtain rfl : n = 0 := by
      rcases h with h | ⟨b, off, e, _⟩
      · exact h
      · cases e
    refine (clone_nil_15 c w).mono ?_
    rintro e w' ⟨rfl, rfl⟩
    exact ⟨none, 0, rfl, ⟨hz, .inl rfl⟩, Below.refl _ _⟩
  | some x =>
    have h' : n = 0 ∨ ∃ b off, x = ⟨b, off, none⟩ ∧ b < w.heap.size ∧ ∀ j, j < n → w.cell? ⟨b, off + j, none⟩ = some (.int .i64 (zs.getD j 0)) := by
      rcases h with h | ⟨b, off, e, r⟩
      · exact .inl h
      · exact .inr ⟨b, off, Option.some.inj e, r⟩
    refine (clone_some_15 x n c zs w hz hbig h').mono ?_
    rintro e w' ⟨rfl, hrow, hbel⟩
    exact ⟨_, _, rfl, IntsAt.of_row hz hrow, hbel⟩

/-- The clone of a slice of integers that is not nil. -/
theorem clone_some_14 (x : Addr) (n c : Nat) (zs : List Int) (w : World) (hz : zs.length = n) (hbig : n ≤ 1048576)
    (h : n = 0 ∨ ∃ b off, x = ⟨b, off, none⟩ ∧ b < w.heap.size ∧ ∀ j, j < n → w.cell? ⟨b, off + j, none⟩ = some (.int .i64 (zs.getD j 0))) :
    Calls Trym.prog 14 #[.slice (some x) n c] w fun e w' => e = .returned (.slice (some ⟨w.heap.size, 0, none⟩) n n) ∧ w'.rowIs w.heap.size 3 n (fun i => .int .i64 (zs.getD i 0)) ∧ Below w.heap.size w w' := by
  have hq : ∀ (w : World) (a : Option Addr) (n c n' c' : Nat), (binOp .eql 23 (.slice a n c) (.slice none n' c')).run Trym.prog w = .ok (.bool a.isNone) w := fun w a n c n' c' => Lib.run_eql_slice_nil w 23 3 a n c n' c' Trym.underlying23
  have hmk := run_make_row' (P := Trym.prog) 23 3 (.int .i64 0) 8 Trym.underlying23 Trym.info3 rfl .i64 .i64 n (by omega) (by omega)
  rcases h with rfl | ⟨b, off, rfl, hb, hc⟩
  · have hmk0 : ∀ w : World, (Instr.makeSlice 23 (.int .i64 0) (.int .i64 0)).run Trym.prog w = .ok (.slice (some ⟨w.heap.size, 0, none⟩) 0 0) (w.alloc (.cells (madeCells #[.int .i64 0] 0) 3)) := hmk
    clear hmk
    go_enter Trym.func14, Trym.ntmps14
    go_wp2
    go_loop [4] (fun i => i = .int .i64 0) (fun _ => 0)
    case atStart => rfl
    case round =>
      subst hrel
      go_wp2
      go_ret
      exact ⟨rfl, (World.rowIs_made w (.int .i64 0) 0 3).congr (fun i hi => absurd hi (Nat.not_lt_zero _)), (Below.refl _ _).alloc (Nat.le_refl _) _⟩
  · go_enter Trym.func14, Trym.ntmps14
    go_wp2
    go_loopw [4] (fun i wr => ∃ k : Nat, k ≤ n ∧ i = .int .i64 k ∧ wr.rowIs w.heap.size 3 n (fun j => if j < k then .int .i64 (zs.getD j 0) else .int .i64 0) ∧ Below w.heap.size w wr) (fun i _ => n - (intOf i).toNat)
    case atStart => exact ⟨0, Nat.zero_le _, rfl, (World.rowIs_made w (.int .i64 0) n 3).congr (fun i _ => by rw [if_neg (Nat.not_lt_zero _)]), (Below.refl _ _).alloc (Nat.le_refl _) _⟩
    case round =>
      obtain ⟨k, hk, rfl, hrow, hbel⟩ := hrel
      by_cases hlt : k < n
      · have hck : wr.cell? ⟨b, off + k, none⟩ = some (.int .i64 (zs.getD k 0)) := (hbel.cell (p := ⟨b, off + k, none⟩) hb).trans (hc k hlt)
        have hcd := hrow.cell hlt
        have hfd := hrow.frozen k
        rw [if_neg (Nat.lt_irrefl _)] at hcd
        have hset := hrow.set k (.int .i64 (zs.getD k 0))
        have hbel' := hbel.setCell (p := ⟨w.heap.size, k, none⟩) (Nat.le_refl _) (.int .i64 (zs.getD k 0))
        have HR : Hid ((wr.setCell ⟨w.heap.size, k, none⟩ (.int .i64 (zs.getD k 0))).rowIs w.heap.size 3 n (fun j => if j < k + 1 then .int .i64 (zs.getD j 0) else .int .i64 0) ∧ Below w.heap.size w (wr.setCell ⟨w.heap.size, k, none⟩ (.int .i64 (zs.getD k 0)))) := by
          refine ⟨hset.congr fun i _ => ?_, hbel'⟩
          by_cases e : i = k
          · subst e; rw [if_pos rfl, if_pos (Nat.lt_succ_self _)]
          · by_cases h2 : i < k
            · rw [if_neg e, if_pos h2, if_pos (by omega)]
            · rw [if_neg e, if_neg h2, if_neg (by omega)]
        clear hset hbel' hc hrow hbel
        generalize hx : zs.getD k 0 = x at hck HR
        have HX : Hid (zs.getD k 0 = x) := hx
        clear hx
        go_wp2
        go_roundw
        case rel => exact ⟨k + 1, by omega, by go_num, HR.out.1, HR.out.2⟩
        case measure => simp [intOf]; omega
      · go_wp2
        go_ret
        exact ⟨rfl, hrow.congr (fun i hi => by rw [if_pos (by omega)]), hbel⟩

theorem clone_nil_14 (c : Nat) (w : World) : Calls Trym.prog 14 #[.slice none 0 c] w fun e w' => e = .returned (.slice none 0 0) ∧ w' = w := by
  have hq : ∀ (w : World) (a : Option Addr) (n c n' c' : Nat), (binOp .eql 23 (.slice a n c) (.slice none n' c')).run Trym.prog w = .ok (.bool a.isNone) w := fun w a n c n' c' => Lib.run_eql_slice_nil w 23 3 a n c n' c' Trym.underlying23
  go_enter Trym.func14, Trym.ntmps14
  go_wp2
  go_ret
  exact ⟨rfl, rfl⟩

theorem clone14 (a : Option Addr) (n c : Nat) (zs : List Int) (w : World) (h : IntsAt w a n zs) (hbig : n ≤ 1048576) :
    Calls Trym.prog 14 #[.slice a n c] w fun e w' => ∃ a' c', e = .returned (.slice a' n c') ∧ IntsAt w' a' n zs ∧ Below w.heap.size w w' := by
  obtain ⟨hz, h⟩ := h
  cases a with
  | none =>
    obtain rfl : n = 0 := by
      rcases h with h | ⟨b, off, e, _⟩
      · exact h
      · cases e
    refine (clone_nil_14 c w).mono ?_
    rintro e w' ⟨rfl, rfl⟩
    exact ⟨none, 0, rfl, ⟨hz, .inl rfl⟩, Below.refl _ _⟩
  | some x =>
    have h' : n = 0 ∨ ∃ b off, x = ⟨b, off, none⟩ ∧ b < w.heap.size ∧ ∀ j, j < n → w.cell? ⟨b, off + j, none⟩ = some (.int .i64 (zs.getD j 0)) := by
      rcases h with h | ⟨b, off, e, r⟩
      · exact .inl h
      · exact .inr ⟨b, off, Option.some.inj e, r⟩
    refine (clone_some_14 x n c zs w hz hbig h').mono ?_
    rintro e w' ⟨rfl, hrow, hbel⟩
    exact ⟨_, _, rfl, IntsAt.of_row hz hrow, hbel⟩

end Go.Proofs.Qxb6601498aMods

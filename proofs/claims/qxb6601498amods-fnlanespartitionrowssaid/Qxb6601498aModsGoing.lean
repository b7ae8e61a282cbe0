/-
  'going', 'ZZgoing', 'relayB1Going'.
-/
import Derived.Test.Qxb6601498aModsLaneClone
namespace Go.Proofs.Qxb6601498aMods
open Go.RowKit
set_option linter.unusedVariables false
attribute [local go_sem ↓] Go.wp_at_zero Go.wp_at_succ

/-- Is some lane of the first n not done? -/
def goingB (n : Nat) (d : Nat → Bool) : Bool := (List.range n).any (fun i => !d i)

theorem goingB_hit (n : Nat) (d : Nat → Bool) (k : Nat) (h : k < n) (hd : d k = false) : goingB n d = true := by
  unfold goingB
  rw [List.any_eq_true]
  exact ⟨k, List.mem_range.2 h, by rw [hd]; rfl⟩
theorem goingB_none (n : Nat) (d : Nat → Bool) (h : ∀ j, j < n → d j = true) : goingB n d = false := by
  unfold goingB
  rw [List.any_eq_false]
  intro x hx
  rw [h x (List.mem_range.1 hx)]
  decide
theorem goingB_congr (n : Nat) (d d' : Nat → Bool) (h : ∀ j, j < n → d j = d' j) : goingB n d = goingB n d' := by
  cases hb : goingB n d' with
  | true =>
    unfold goingB at hb
    rw [List.any_eq_true] at hb
    obtain ⟨x, hx, e⟩ := hb
    exact goingB_hit n d x (List.mem_range.1 hx) (by rw [h x (List.mem_range.1 hx)]; simpa using e)
  | false =>
    refine goingB_none n d fun j hj => ?_
    rw [h j hj]
    cases hd : d' j with
    | true => rfl
    | false => rw [goingB_hit n d' j hj hd] at hb; exact hb.symm

set_option maxHeartbeats 1000000 in
theorem going33 (bl n c : Nat) (p : Nat → Nat) (d : Nat → Bool) (w : World) (hn : n ≤ 1048576) (hc : ∀ i, i < n → w.cell? ⟨bl, i, none⟩ = some (.pointer (some ⟨p i, 0, none⟩)) ∧ w.cell? ⟨p i, 3, none⟩ = some (.bool (d i))) :
    Calls Trym.prog 33 #[.slice (some ⟨bl, 0, none⟩) n c] w fun e w' => e = .returned (.bool (goingB n d)) ∧ w' = w := by
  have HC : Hid (∀ i, i < n → w.cell? ⟨bl, i, none⟩ = some (.pointer (some ⟨p i, 0, none⟩)) ∧ w.cell? ⟨p i, 3, none⟩ = some (.bool (d i))) := hc
  clear hc
  go_enter Trym.func33, Trym.ntmps33
  go_wp2
  go_loop [7] (fun i => ∃ k : Nat, k ≤ n ∧ i = .int .i64 k ∧ Hid (∀ j, j < k → d j = true)) (fun i => n - (intOf i).toNat)
  case atStart => exact ⟨0, Nat.zero_le _, rfl, fun j hj => absurd hj (Nat.not_lt_zero _)⟩
  case round =>
    obtain ⟨k, hk, rfl, HE⟩ := hrel
    by_cases hlt : k < n
    · obtain ⟨c0, c1⟩ := HC.out k hlt
      generalize hpk : p k = pk at c0 c1
      clear hpk
      cases hd : d k with
      | true =>
        rw [hd] at c1
        have HD : Hid (d k = true) := hd
        clear hd
        go_wp2
        go_round
        case rel =>
          refine ⟨k + 1, by omega, by go_num, fun j hj => ?_⟩
          rcases Nat.lt_succ_iff_lt_or_eq.1 hj with h | rfl
          · exact HE.out j h
          · exact HD.out
        case measure => simp [intOf]; omega
      | false =>
        rw [hd] at c1
        have HD : Hid (d k = false) := hd
        clear hd
        go_wp2
        go_ret
        exact ⟨ret_bool (goingB_hit n d k hlt HD.out).symm, rfl⟩
    · go_wp2
      go_ret
      exact ⟨ret_bool (goingB_none n d fun j hj => HE.out j (by omega)).symm, rfl⟩

/-- The next cell of a row that is being filled. -/
theorem row_step {w : World} {b t n k : Nat} {V : Nat → Value} {z : Value} (h : w.rowIs b t n (fun j => if j < k then V j else z)) : (w.setCell ⟨b, k, none⟩ (V k)).rowIs b t n (fun j => if j < k + 1 then V j else z) := by
  refine (h.set k (V k)).congr fun i _ => ?_
  by_cases e : i = k
  · subst e; rw [if_pos rfl, if_pos (Nat.lt_succ_self _)]
  · by_cases h2 : i < k
    · rw [if_neg e, if_pos h2, if_pos (by omega)]
    · rw [if_neg e, if_neg h2, if_neg (by omega)]
theorem row_start (w : World) (z : Value) (n t : Nat) (V : Nat → Value) : (w.alloc (.cells (madeCells #[z] n) t)).rowIs w.heap.size t n (fun j => if j < 0 then V j else z) :=
  (World.rowIs_made w z n t).congr fun i _ => by rw [if_neg (Nat.not_lt_zero _)]
theorem row_end {w : World} {b t n : Nat} {V : Nat → Value} {z : Value} (h : w.rowIs b t n (fun j => if j < n then V j else z)) : w.rowIs b t n V :=
  h.congr fun i hi => by rw [if_pos hi]

theorem Trym.info63 : (Trym.prog.info? 63).map (fun i => (i.zero, i.size, i.bytes)) = some (some (.pointer none), 1, 8) := by kernel_rfl

/-- What holds after k rounds of ZZgoing's loop. -/
def GoInv (w : World) (n : Nat) (d : Nat → Bool) (k : Nat) (wr : World) : Prop :=
  ∃ p : Nat → Nat, wr.rowIs w.heap.size 63 n (fun j => if j < k then .pointer (some ⟨p j, 0, none⟩) else .pointer none) ∧ Below w.heap.size w wr ∧ ∀ i, i < k → w.heap.size < p i ∧ p i < wr.heap.size ∧ wr.cell? ⟨p i, 3, none⟩ = some (.bool (d i))

theorem far_cell2 {w : World} {g b o p : Nat} {v : Value} {ob : Obj} (h : b ≠ g) (hb : b < w.heap.size) : ((w.setCell ⟨g, o, none⟩ v).alloc ob).drew.cell? ⟨b, p, none⟩ = w.cell? ⟨b, p, none⟩ := by
  have h1 : ((w.setCell ⟨g, o, none⟩ v).alloc ob).drew.heap[b]? = w.heap[b]? := by
    have h2 := Below.heap_alloc (w.setCell ⟨g, o, none⟩ v) ob b (by simpa [World.setCell] using hb)
    rw [Below.heap_setCell _ _ _ _ h] at h2
    exact h2
  exact World.cell?_of_block (w := w) (a := ⟨b, p, none⟩) h1

theorem goInv_step {w : World} {n : Nat} {d : Nat → Bool} {k : Nat} {wr : World} (hinv : GoInv w n d k wr) (hk : k < n) (x0 x1 x2 : Value) {dk : Bool} (hd : d k = dk) :
    GoInv w n d (k + 1) ((wr.setCell ⟨w.heap.size, k, none⟩ (.pointer (some ⟨wr.heap.size, 0, none⟩))).alloc (.cells #[x0, x1, x2, .bool dk] 62)).drew := by
  obtain ⟨p, hrow, hbel, hall⟩ := hinv
  have hg := hrow.lt
  have hsz : (wr.setCell ⟨w.heap.size, k, none⟩ (.pointer (some ⟨wr.heap.size, 0, none⟩))).heap.size = wr.heap.size := by simp [World.setCell]
  refine ⟨fun i => if i = k then wr.heap.size else p i, ?_, ?_, fun i hi => ?_⟩
  · have h1 : wr.rowIs w.heap.size 63 n (fun j => if j < k then .pointer (some ⟨if j = k then wr.heap.size else p j, 0, none⟩) else .pointer none) := hrow.congr fun i _ => by
      by_cases e : i < k
      · rw [if_pos e, if_pos e, if_neg (by omega)]
      · rw [if_neg e, if_neg e]
    have h2 := row_step (V := fun j => .pointer (some ⟨if j = k then wr.heap.size else p j, 0, none⟩)) h1
    simp only [if_true] at h2
    exact ((h2.alloc _).drew)
  · have h1 := hbel.setCell (p := ⟨w.heap.size, k, none⟩) (Nat.le_refl _) (.pointer (some ⟨wr.heap.size, 0, none⟩))
    exact (h1.alloc (by rw [hsz]; omega) _).drew
  · have hsz2 : ((wr.setCell ⟨w.heap.size, k, none⟩ (.pointer (some ⟨wr.heap.size, 0, none⟩))).alloc (.cells #[x0, x1, x2, .bool dk] 62)).drew.heap.size = wr.heap.size + 1 := by
      have := Go.Deep.nblk_alloc (wr.setCell ⟨w.heap.size, k, none⟩ (.pointer (some ⟨wr.heap.size, 0, none⟩))) (.cells #[x0, x1, x2, .bool dk] 62)
      rw [hsz] at this
      exact this
    by_cases e : i = k
    · subst e
      simp only [if_true]
      refine ⟨hg, by rw [hsz2]; omega, ?_⟩
      have h3 := World.cell?_alloc_at (w := wr.setCell ⟨w.heap.size, i, none⟩ (.pointer (some ⟨wr.heap.size, 0, none⟩))) #[x0, x1, x2, .bool dk] 62 wr.heap.size 3 hsz.symm
      rw [hd]
      exact h3
    · simp only [if_neg e]
      obtain ⟨q1, q2, q3⟩ := hall i (by omega)
      exact ⟨q1, by rw [hsz2]; omega, by rw [far_cell2 (by omega) q2]; exact q3⟩

set_option maxHeartbeats 4000000 in
theorem zzgoing30 (b0 b1 b2 b3 n c0 c1 c2 c3 : Nat) (A : Nat → Option Addr) (L C : Nat → Nat) (N T : Nat → Int) (d : Nat → Bool) (w : World) (hn : n ≤ 1048576)
    (h0 : w.rowIs b0 23 n (fun i => .slice (A i) (L i) (C i))) (h1 : w.rowIs b1 3 n (fun i => .int .i64 (N i))) (h2 : w.rowIs b2 3 n (fun i => .int .i64 (T i))) (h3 : w.rowIs b3 4 n (fun i => .bool (d i))) :
    Calls Trym.prog 30 #[.slice (some ⟨b0, 0, none⟩) n c0, .slice (some ⟨b1, 0, none⟩) n c1, .slice (some ⟨b2, 0, none⟩) n c2, .slice (some ⟨b3, 0, none⟩) n c3] w fun e w' => e = .returned (.bool (goingB n d)) ∧ Below w.heap.size w w' := by
  have hmk := run_make_row' (P := Trym.prog) 59 63 (.pointer none) 8 Trym.underlying59 Trym.info63 rfl .i64 .i64 n (by omega) (by omega)
  have HR : Hid (w.rowIs b0 23 n (fun i => .slice (A i) (L i) (C i)) ∧ w.rowIs b1 3 n (fun i => .int .i64 (N i)) ∧ w.rowIs b2 3 n (fun i => .int .i64 (T i)) ∧ w.rowIs b3 4 n (fun i => .bool (d i))) := ⟨h0, h1, h2, h3⟩
  clear h0 h1 h2 h3
  go_enter Trym.func30, Trym.ntmps30
  go_wp2
  go_loopw [10] (fun i wr => ∃ k : Nat, k ≤ n ∧ i = .int .i64 k ∧ GoInv w n d k wr) (fun i _ => n - (intOf i).toNat)
  case atStart => exact ⟨0, Nat.zero_le _, rfl, fun _ => 0, row_start w _ n 63 _, (Below.refl _ _).alloc (Nat.le_refl _) _, fun i hi => absurd hi (Nat.not_lt_zero _)⟩
  case round =>
    obtain ⟨k, hk, rfl, hinv⟩ := hrel
    have HI : Hid (GoInv w n d k wr) := hinv
    by_cases hlt : k < n
    · obtain ⟨p, hrow, hbel, hall⟩ := hinv
      obtain ⟨r0, r1, r2, r3⟩ := HR.out
      have l0 := r0.lt; have l1 := r1.lt; have l2 := r2.lt; have l3 := r3.lt
      have d0 : wr.cell? ⟨b0, k, none⟩ = some (.slice (A k) (L k) (C k)) := (hbel.cell (p := ⟨b0, k, none⟩) l0).trans (r0.cell hlt)
      have d1 : wr.cell? ⟨b1, k, none⟩ = some (.int .i64 (N k)) := (hbel.cell (p := ⟨b1, k, none⟩) l1).trans (r1.cell hlt)
      have d2 : wr.cell? ⟨b2, k, none⟩ = some (.int .i64 (T k)) := (hbel.cell (p := ⟨b2, k, none⟩) l2).trans (r2.cell hlt)
      have d3 : wr.cell? ⟨b3, k, none⟩ = some (.bool (d k)) := (hbel.cell (p := ⟨b3, k, none⟩) l3).trans (r3.cell hlt)
      have hg := hrow.lt
      have e0 := hrow.cell hlt
      have e1 := hrow.frozen k
      rw [if_neg (Nat.lt_irrefl _)] at e0
      have HB : Hid (Below w.heap.size w wr) := hbel
      have m0 := Nat.lt_of_lt_of_le l0 hbel.size; have m1 := Nat.lt_of_lt_of_le l1 hbel.size; have m2 := Nat.lt_of_lt_of_le l2 hbel.size; have m3 := Nat.lt_of_lt_of_le l3 hbel.size
      clear r0 r1 r2 r3 hrow hbel hall hmk
      generalize hA : A k = ak at d0
      generalize hL : L k = lk at d0
      generalize hC : C k = ck at d0
      generalize hN : N k = nk at d1
      generalize hT : T k = tk at d2
      generalize hD : d k = dk at d3
      have HD : Hid (d k = dk) := hD
      clear hA hL hC hN hT hD
      have n0 : b0 ≠ w.heap.size := by omega
      have n1 : b1 ≠ w.heap.size := by omega
      have n2 : b2 ≠ w.heap.size := by omega
      have n3 : b3 ≠ w.heap.size := by omega
      have hk0 : (0 : Int) ≤ (k : Int) := by omega
      have hk1 : (k : Int) < (n : Int) := by omega
      go_wp2
      go_region_held3 (fun w' => w'.cell? ⟨b0, k, none⟩ = some (.slice ak lk ck) ∧ w'.cell? ⟨b1, k, none⟩ = some (.int .i64 nk) ∧ w'.cell? ⟨b2, k, none⟩ = some (.int .i64 tk) ∧ w'.cell? ⟨b3, k, none⟩ = some (.bool dk))
        (((try dsimp only); (repeat' apply And.intro)) <;> (first | (go_keep; done) | (rw [far_cell2 n0 m0]; exact d0) | (rw [far_cell2 n1 m1]; exact d1) | (rw [far_cell2 n2 m2]; exact d2) | (rw [far_cell2 n3 m3]; exact d3)))
        (fail)
      have HS := goInv_step HI.out hlt (.slice ak lk ck) (.int .i64 nk) (.int .i64 tk) HD.out
      have HS' : Hid (GoInv w n d (k + 1) _) := HS
      clear HS
      go_wp2
      go_roundw
      case rel => exact ⟨k + 1, by omega, by go_num, HS'.out⟩
      case measure => simp [intOf]; omega
    · obtain rfl : k = n := by omega
      clear hinv
      go_wp2_with fail
      obtain ⟨p, hrow, hbel, hall⟩ := HI.out
      have hrow' := row_end hrow
      refine (going33 w.heap.size k k p d wr hn (fun i hi => ⟨hrow'.cell hi, (hall i hi).2.2⟩)).mono ?_
      rintro e w' ⟨rfl, hw⟩
      obtain rfl : wr = w' := hw.symm
      have HB : Hid (Below w.heap.size w wr) := hbel
      clear hrow hbel hall hrow' hw
      go_wp2
      go_ret
      exact ⟨rfl, HB.out⟩
end Go.Proofs.Qxb6601498aMods

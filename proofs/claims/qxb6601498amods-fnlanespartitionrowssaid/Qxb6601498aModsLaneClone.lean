/-
  relayB1CloneLanes.
-/
import Derived.Test.Qxb6601498aModsLane
import Derived.Deep.DrawnRows
namespace Go.Proofs.Qxb6601498aMods
open Go.RowKit
set_option linter.unusedVariables false
attribute [local go_sem ↓] Go.wp_at_zero Go.wp_at_succ

/-- As 'IntsAt', the array from block 'base' on. -/
def IntsFrom (base : Nat) (w : World) (a : Option Addr) (n : Nat) (zs : List Int) : Prop :=
  zs.length = n ∧ (n = 0 ∨ ∃ b off, a = some ⟨b, off, none⟩ ∧ base ≤ b ∧ b < w.heap.size ∧ ∀ j, j < n → w.cell? ⟨b, off + j, none⟩ = some (.int .i64 (zs.getD j 0)))

theorem IntsFrom.ints {base : Nat} {w : World} {a : Option Addr} {n : Nat} {zs : List Int} (h : IntsFrom base w a n zs) : IntsAt w a n zs := by
  refine ⟨h.1, ?_⟩
  rcases h.2 with h0 | ⟨b, off, e, _, hlt, hc⟩
  · exact .inl h0
  · exact .inr ⟨b, off, e, hlt, hc⟩

/-- What turns only below 'base', or makes new blocks, leaves it. -/
theorem IntsFrom.kept {base : Nat} {w w' : World} {a : Option Addr} {n : Nat} {zs : List Int} (h : IntsFrom base w a n zs) (hs : w.heap.size ≤ w'.heap.size) (hb : ∀ k, base ≤ k → k < w.heap.size → w'.heap[k]? = w.heap[k]?) : IntsFrom base w' a n zs := by
  refine ⟨h.1, ?_⟩
  rcases h.2 with h0 | ⟨b, off, e, h1, hlt, hc⟩
  · exact .inl h0
  · refine .inr ⟨b, off, e, h1, Nat.lt_of_lt_of_le hlt hs, fun j hj => ?_⟩
    rw [World.cell?_of_block (w := w) (hb b h1 hlt)]
    exact hc j hj

theorem IntsFrom.mono {base base' : Nat} {w : World} {a : Option Addr} {n : Nat} {zs : List Int} (h : IntsFrom base w a n zs) (hb : base' ≤ base) : IntsFrom base' w a n zs := by
  refine ⟨h.1, ?_⟩
  rcases h.2 with h0 | ⟨b, off, e, h1, r⟩
  · exact .inl h0
  · exact .inr ⟨b, off, e, Nat.le_trans hb h1, r⟩

theorem clone14F (a : Option Addr) (n c : Nat) (zs : List Int) (w : World) (h : IntsAt w a n zs) (hbig : n ≤ 1048576) :
    Calls Trym.prog 14 #[.slice a n c] w fun e w' => ∃ a' c', e = .returned (.slice a' n c') ∧ IntsFrom w.heap.size w' a' n zs ∧ Below w.heap.size w w' := by
  obtain ⟨hz, h⟩ := h
  cases a with
  | none =>
    obtain rfl : n = 0 := by
      rcases h with h | ⟨b, off, e, _⟩
      · exact h
      · cases e
    refine (clone_nil_14 c w).mono ?_
    rintro e w' ⟨rfl, rfl⟩
    exact ⟨none, 0, rfl, ⟨hz, .inl rfl⟩, Below.refl _ _⟩
  | some x =>
    have h' : n = 0 ∨ ∃ b off, x = ⟨b, off, none⟩ ∧ b < w.heap.size ∧ ∀ j, j < n → w.cell? ⟨b, off + j, none⟩ = some (.int .i64 (zs.getD j 0)) := by
      rcases h with h | ⟨b, off, e, r⟩
      · exact .inl h
      · exact .inr ⟨b, off, Option.some.inj e, r⟩
    refine (clone_some_14 x n c zs w hz hbig h').mono ?_
    rintro e w' ⟨rfl, hrow, hbel⟩
    refine ⟨_, _, rfl, ⟨hz, .inr ⟨_, 0, rfl, Nat.le_refl _, hrow.lt, fun j hj => ?_⟩⟩, hbel⟩
    rw [Nat.zero_add]
    exact hrow.cell hj

theorem Trym.info43 : (Trym.prog.info? 43).map (fun i => (i.zero, i.size, i.bytes)) = some (some (.agg #[.slice none 0 0, .int .i64 0, .int .i64 0, .bool false]), 4, 48) := by kernel_rfl

/-- 'make' of n elements of several cells, as a row. -/
theorem make_many {P : Program} (t e : TypeId) (z : Value) (size bytes : Nat) (ht : P.underlying t = some (.slice e)) (hinfo : (P.info? e).map (fun i => (i.zero, i.size, i.bytes)) = some (some z, size, bytes))
    (n : Nat) (hbytes : bytes * n ≤ 281474976710656) (h63 : n ≤ 9223372036854775807) (w : World) :
    (Instr.makeSlice t (.int .i64 (n : Int)) (.int .i64 (n : Int))).run P w = .ok (.slice (some ⟨w.heap.size, 0, none⟩) n n) (w.alloc (.cells (madeCells z.cells (n * size)) e)) := by
  obtain ⟨i, hi, hz, hs, hb⟩ := info_parts hinfo
  have hb' : (i.bytes : Int) * (n : Int) ≤ 281474976710656 := by
    have h : ((i.bytes * n : Nat) : Int) ≤ 281474976710656 := by rw [hb]; omega
    rwa [Int.natCast_mul] at h
  have hr := run_make (P := P) w t e i z ht hi hz .i64 .i64 n n (by omega) (Int.le_refl _) hb' (by omega)
  simp only [Int.toNat_natCast, hs] at hr
  exact hr

theorem rowIs_some (w : World) (c : Array Value) (t : TypeId) : ∃ F, (w.alloc (.cells c t)).rowIs w.heap.size t c.size F := by
  refine ⟨fun i => c[i]!, World.rowIs_alloc w c t _ fun i hi => ?_⟩
  simp [hi]

/-- What holds after k rounds of the clone. -/
def CloneInv (w : World) (n : Nat) (f : Nat → LaneV) (k : Nat) (wr : World) : Prop :=
  ∃ (f' : Nat → LaneV) (F : Nat → Value), wr.rowIs w.heap.size 43 (n * 4) F ∧ Below w.heap.size w wr ∧ ∀ i, i < k →
    F (i * 4) = .slice (f' i).a (f' i).l (f' i).c ∧ F (i * 4 + 1) = .int .i64 (f' i).nx ∧ F (i * 4 + 2) = .int .i64 (f' i).tk ∧ F (i * 4 + 3) = .bool (f' i).dn ∧
    (f' i).dn = (f i).dn ∧ (f' i).l = (f i).l ∧ IntsFrom (w.heap.size + 1) wr (f' i).a (f' i).l (f' i).zs

theorem far_cell {w : World} {g b o p : Nat} {v : Value} (h : b ≠ g) : (w.setCell ⟨g, o, none⟩ v).cell? ⟨b, p, none⟩ = w.cell? ⟨b, p, none⟩ :=
  World.cell?_of_block (w := w) (Below.heap_setCell w ⟨g, o, none⟩ v b h)

theorem row4 {w : World} {g t m : Nat} {F : Nat → Value} (h : w.rowIs g t m F) (o : Nat) (ho : o + 3 < m) :
    w.cell? ⟨g, o, none⟩ = some (F o) ∧ w.cell? ⟨g, o + 1, none⟩ = some (F (o + 1)) ∧ w.cell? ⟨g, o + 2, none⟩ = some (F (o + 2)) ∧ w.cell? ⟨g, o + 3, none⟩ = some (F (o + 3)) ∧
    w.frozen? ⟨g, o, none⟩ = false ∧ w.frozen? ⟨g, o + 1, none⟩ = false ∧ w.frozen? ⟨g, o + 2, none⟩ = false ∧ w.frozen? ⟨g, o + 3, none⟩ = false :=
  ⟨h.cell (by omega), h.cell (by omega), h.cell (by omega), h.cell ho, h.frozen _, h.frozen _, h.frozen _, h.frozen _⟩

theorem below_of_drew {w w1 : World} (h : Below w.drew.heap.size w.drew w1) : Below w.heap.size w w1 := ⟨h.os, h.tape, h.output, h.size, h.block⟩

theorem heap_set4 (w : World) (g o : Nat) (v0 v1 v2 v3 : Value) (k : Nat) (h : k ≠ g) :
    ((((w.setCell ⟨g, o, none⟩ v0).setCell ⟨g, o + 1, none⟩ v1).setCell ⟨g, o + 2, none⟩ v2).setCell ⟨g, o + 3, none⟩ v3).heap[k]? = w.heap[k]? := by
  rw [Below.heap_setCell _ _ _ _ h, Below.heap_setCell _ _ _ _ h, Below.heap_setCell _ _ _ _ h, Below.heap_setCell _ _ _ _ h]

theorem size_set4 (w : World) (g o : Nat) (v0 v1 v2 v3 : Value) :
    ((((w.setCell ⟨g, o, none⟩ v0).setCell ⟨g, o + 1, none⟩ v1).setCell ⟨g, o + 2, none⟩ v2).setCell ⟨g, o + 3, none⟩ v3).heap.size = w.heap.size := by
  simp [World.setCell]

theorem cloneInv_start (w : World) (n : Nat) (f : Nat → LaneV) (z : Array Value) : CloneInv w n f 0 (w.alloc (.cells (madeCells z (n * 4)) 43)) := by
  obtain ⟨F, hF⟩ := rowIs_some w (madeCells z (n * 4)) 43
  rw [size_madeCells] at hF
  exact ⟨f, F, hF, (Below.refl _ _).alloc (Nat.le_refl _) _, fun i hi => absurd hi (Nat.not_lt_zero _)⟩

theorem cloneInv_step {w : World} {n : Nat} {f : Nat → LaneV} {k : Nat} {wr : World} (hinv : CloneInv w n f k wr) (hk : k < n) {fa : Option Addr} {fl fc : Nat} {fz : List Int} {fn ft : Int} {fd : Bool}
    (hf : f k = ⟨fa, fl, fc, fz, fn, ft, fd⟩) {w1 : World} {a' : Option Addr} {c' : Nat} (hbc : Below wr.heap.size wr w1) (hif : IntsFrom wr.heap.size w1 a' fl fz) :
    CloneInv w n f (k + 1) ((((w1.setCell ⟨w.heap.size, k * 4, none⟩ (.slice a' fl c')).setCell ⟨w.heap.size, k * 4 + 1, none⟩ (.int .i64 fn)).setCell ⟨w.heap.size, k * 4 + 2, none⟩ (.int .i64 ft)).setCell ⟨w.heap.size, k * 4 + 3, none⟩ (.bool fd)) := by
  obtain ⟨f', F, hrow, hbel, hall⟩ := hinv
  have hg := hrow.lt
  have hrow1 : w1.rowIs w.heap.size 43 (n * 4) F := hrow.of_block (hbc.block _ hg)
  have hset := (((hrow1.set (k * 4) (.slice a' fl c')).set (k * 4 + 1) (.int .i64 fn)).set (k * 4 + 2) (.int .i64 ft)).set (k * 4 + 3) (.bool fd)
  refine ⟨fun i => if i = k then ⟨a', fl, c', fz, fn, ft, fd⟩ else f' i, _, hset, ?_, fun i hi => ?_⟩
  · refine (below_next hbel hbc).trans ?_
    exact (((((Below.refl _ _).setCell (p := ⟨w.heap.size, k * 4, none⟩) (Nat.le_refl _) _).setCell (p := ⟨w.heap.size, k * 4 + 1, none⟩) (Nat.le_refl _) _).setCell (p := ⟨w.heap.size, k * 4 + 2, none⟩) (Nat.le_refl _) _).setCell (p := ⟨w.heap.size, k * 4 + 3, none⟩) (Nat.le_refl _) _)
  · by_cases e : i = k
    · subst e
      simp only [if_true]
      refine ⟨?_, ?_, ?_, trivial, by rw [hf], by rw [hf], ?_⟩
      · rw [if_neg (by omega), if_neg (by omega), if_neg (by omega)]
      · rw [if_neg (by omega), if_neg (by omega)]
      · rw [if_neg (by omega)]
      · refine (hif.mono hg).kept ?_ ?_
        · rw [size_set4]; exact Nat.le_refl _
        · intro j hj _
          exact heap_set4 _ _ _ _ _ _ _ j (by omega)
    · obtain ⟨h1, h2, h3, h4, h5, h6, h7⟩ := hall i (by omega)
      simp only [if_neg e]
      refine ⟨?_, ?_, ?_, ?_, h5, h6, ?_⟩
      · rw [if_neg (by omega), if_neg (by omega), if_neg (by omega), if_neg (by omega)]; exact h1
      · rw [if_neg (by omega), if_neg (by omega), if_neg (by omega), if_neg (by omega)]; exact h2
      · rw [if_neg (by omega), if_neg (by omega), if_neg (by omega), if_neg (by omega)]; exact h3
      · rw [if_neg (by omega), if_neg (by omega), if_neg (by omega), if_neg (by omega)]; exact h4
      · refine (h7.kept hbc.size (fun j _ hj => hbc.block j hj)).kept ?_ ?_
        · rw [size_set4]; exact Nat.le_refl _
        · intro j hj _
          exact heap_set4 _ _ _ _ _ _ _ j (by omega)

theorem cloneInv_end {w : World} {n : Nat} {f : Nat → LaneV} {wr : World} (hinv : CloneInv w n f n wr) (hl : ∀ i, i < n → (f i).l ≤ 1048576) :
    ∃ f', LanesAt wr (some ⟨w.heap.size, 0, none⟩) n f' ∧ (∀ i, i < n → (f' i).dn = (f i).dn ∧ (f' i).l = (f i).l) ∧ Below w.heap.size w wr := by
  obtain ⟨f', F, hrow, hbel, hall⟩ := hinv
  refine ⟨f', .inr ⟨w.heap.size, 0, rfl, hrow.lt, fun i hi => ?_⟩, fun i hi => ⟨(hall i hi).2.2.2.2.1, (hall i hi).2.2.2.2.2.1⟩, hbel⟩
  obtain ⟨h1, h2, h3, h4, h5, h6, h7⟩ := hall i hi
  have hli := hl i hi
  simp only [Nat.zero_add]
  refine ⟨?_, ?_, ?_, ?_, by rw [h6]; unfold maxLen; omega, h7.ints⟩
  · rw [hrow.cell (by omega), h1]
  · rw [hrow.cell (by omega), h2]
  · rw [hrow.cell (by omega), h3]
  · rw [hrow.cell (by omega), h4]

set_option maxHeartbeats 4000000 in
theorem cloneLanes_some (b off n c : Nat) (f : Nat → LaneV) (w : World) (hn : n ≤ 1048576) (hb : b < w.heap.size)
    (hl : ∀ i, i < n → (f i).l ≤ 1048576)
    (hc : ∀ i, i < n → w.cell? ⟨b, off + i * 4, none⟩ = some (.slice (f i).a (f i).l (f i).c) ∧ w.cell? ⟨b, off + i * 4 + 1, none⟩ = some (.int .i64 (f i).nx) ∧
    w.cell? ⟨b, off + i * 4 + 2, none⟩ = some (.int .i64 (f i).tk) ∧ w.cell? ⟨b, off + i * 4 + 3, none⟩ = some (.bool (f i).dn) ∧ (f i).l ≤ maxLen ∧ IntsAt w (f i).a (f i).l (f i).zs) :
    Calls Trym.prog 21 #[.slice (some ⟨b, off, none⟩) n c] w fun e w' => ∃ (f' : Nat → LaneV), e = .returned (.slice (some ⟨w.heap.size, 0, none⟩) n n) ∧ LanesAt w' (some ⟨w.heap.size, 0, none⟩) n f' ∧ (∀ i, i < n → (f' i).dn = (f i).dn ∧ (f' i).l = (f i).l) ∧ Below w.heap.size w w' := by
  have hmk := make_many (P := Trym.prog) 38 43 _ 4 48 Trym.underlying38 Trym.info43 n (by omega) (by omega)
  have hq : ∀ (w : World) (a : Option Addr) (n c n' c' : Nat), (binOp .eql 38 (.slice a n c) (.slice none n' c')).run Trym.prog w = .ok (.bool a.isNone) w := fun w a n c n' c' => Lib.run_eql_slice_nil w 38 43 a n c n' c' Trym.underlying38
  have HC : Hid (∀ i, i < n → w.cell? ⟨b, off + i * 4, none⟩ = some (.slice (f i).a (f i).l (f i).c) ∧ w.cell? ⟨b, off + i * 4 + 1, none⟩ = some (.int .i64 (f i).nx) ∧
    w.cell? ⟨b, off + i * 4 + 2, none⟩ = some (.int .i64 (f i).tk) ∧ w.cell? ⟨b, off + i * 4 + 3, none⟩ = some (.bool (f i).dn) ∧ (f i).l ≤ maxLen ∧ IntsAt w (f i).a (f i).l (f i).zs) := hc
  have HL : Hid (∀ i, i < n → (f i).l ≤ 1048576) := hl
  clear hc hl
  go_enter Trym.func21, Trym.ntmps21
  go_wp2
  go_loopw [4] (fun i wr => ∃ k : Nat, k ≤ n ∧ i = .int .i64 k ∧ CloneInv w n f k wr) (fun i _ => n - (intOf i).toNat)
  case atStart => exact ⟨0, Nat.zero_le _, rfl, cloneInv_start w n f _⟩
  case round =>
    obtain ⟨k, hk, rfl, hinv⟩ := hrel
    have HI : Hid (CloneInv w n f k wr) := hinv
    by_cases hlt : k < n
    · obtain ⟨f', F, hrow, hbel, -⟩ := hinv
      obtain ⟨c0, c1, c2, c3, -, hints⟩ := HC.out k hlt
      have hlk := HL.out k hlt
      have hi0 : IntsAt wr (f k).a (f k).l (f k).zs := hints.below hbel
      generalize hfk : f k = fk at c0 c1 c2 c3 hlk hi0
      have HF : Hid (f k = fk) := hfk
      clear hfk hints
      obtain ⟨fa, fl, fc, fz, fn, ft, fd⟩ := fk
      simp only at c0 c1 c2 c3 hlk hi0
      have d0 : wr.cell? ⟨b, off + k * 4, none⟩ = some (.slice fa fl fc) := (hbel.cell (p := ⟨b, off + k * 4, none⟩) hb).trans c0
      have d1 : wr.cell? ⟨b, off + k * 4 + 1, none⟩ = some (.int .i64 fn) := (hbel.cell (p := ⟨b, off + k * 4 + 1, none⟩) hb).trans c1
      have d2 : wr.cell? ⟨b, off + k * 4 + 2, none⟩ = some (.int .i64 ft) := (hbel.cell (p := ⟨b, off + k * 4 + 2, none⟩) hb).trans c2
      have d3 : wr.cell? ⟨b, off + k * 4 + 3, none⟩ = some (.bool fd) := (hbel.cell (p := ⟨b, off + k * 4 + 3, none⟩) hb).trans c3
      have hb' : b < wr.heap.size := Nat.lt_of_lt_of_le hb hbel.size
      have HR : Hid (wr.rowIs w.heap.size 43 (n * 4) F ∧ Below w.heap.size w wr ∧ IntsAt wr fa fl fz ∧ b < wr.heap.size) := ⟨hrow, hbel, hi0, hb'⟩
      clear c0 c1 c2 c3 hi0 hrow hbel hb' hmk hq
      have hbg : b ≠ w.heap.size := by omega
      have hk0 : (0 : Int) ≤ (k : Int) := by omega
      have hk1 : (k : Int) < (n : Int) := by omega
      go_wp2
      go_region_held3 (fun w' => w'.cell? ⟨b, off + k * 4, none⟩ = some (.slice fa fl fc) ∧ w'.cell? ⟨b, off + k * 4 + 1, none⟩ = some (.int .i64 fn) ∧ w'.cell? ⟨b, off + k * 4 + 2, none⟩ = some (.int .i64 ft) ∧ w'.cell? ⟨b, off + k * 4 + 3, none⟩ = some (.bool fd))
        (((try dsimp only); (repeat' apply And.intro)) <;> (first | go_keep | (rw [hbc.cell (by simpa using HR.out.2.2.2)]; simp; assumption) | (rw [far_cell hbg, far_cell hbg, far_cell hbg, far_cell hbg]; go_split_ands; assumption)))
        ((go_at_call 14; refine (clone14F fa fl fc fz _ ?_ (by omega)).mono ?_; (exact HR.out.2.2.1); rintro e w1 ⟨a', c', rfl, hif, hbc⟩; obtain ⟨x0, x1, x2, x3, z0, z1, z2, z3⟩ := row4 (World.rowIs.of_block HR.out.1 (hbc.block _ HR.out.1.lt)) (k * 4) (by omega)))
      have HS := cloneInv_step (c' := c') HI.out hlt HF.out (below_of_drew hbc) hif
      have HS' : Hid (CloneInv w n f (k + 1) _) := HS
      clear HS hif hbc x0 x1 x2 x3 z0 z1 z2 z3
      go_wp2
      go_roundw
      case rel => exact ⟨k + 1, by omega, by go_num, HS'.out⟩
      case measure => simp [intOf]; omega
    · obtain rfl : k = n := by omega
      go_wp2
      go_ret
      obtain ⟨f', h1, h2, h3⟩ := cloneInv_end HI.out HL.out
      exact ⟨f', rfl, h1, h2, h3⟩

theorem cloneLanes_nil (c : Nat) (w : World) : Calls Trym.prog 21 #[.slice none 0 c] w fun e w' => e = .returned (.slice none 0 0) ∧ w' = w := by
  have hq : ∀ (w : World) (a : Option Addr) (n c n' c' : Nat), (binOp .eql 38 (.slice a n c) (.slice none n' c')).run Trym.prog w = .ok (.bool a.isNone) w := fun w a n c n' c' => Lib.run_eql_slice_nil w 38 43 a n c n' c' Trym.underlying38
  go_enter Trym.func21, Trym.ntmps21
  go_wp2
  go_ret
  exact ⟨rfl, rfl⟩

theorem cloneLanes_empty (x : Addr) (c : Nat) (w : World) : Calls Trym.prog 21 #[.slice (some x) 0 c] w fun e w' => e = .returned (.slice (some ⟨w.heap.size, 0, none⟩) 0 0) ∧ Below w.heap.size w w' := by
  have hmk : ∀ w : World, (Instr.makeSlice 38 (.int .i64 0) (.int .i64 0)).run Trym.prog w = .ok (.slice (some ⟨w.heap.size, 0, none⟩) 0 0) (w.alloc (.cells (madeCells _ (0 * 4)) 43)) := make_many (P := Trym.prog) 38 43 _ 4 48 Trym.underlying38 Trym.info43 0 (by omega) (by omega)
  have hq : ∀ (w : World) (a : Option Addr) (n c n' c' : Nat), (binOp .eql 38 (.slice a n c) (.slice none n' c')).run Trym.prog w = .ok (.bool a.isNone) w := fun w a n c n' c' => Lib.run_eql_slice_nil w 38 43 a n c n' c' Trym.underlying38
  go_enter Trym.func21, Trym.ntmps21
  go_wp2
  go_loop [4] (fun i => i = .int .i64 0) (fun _ => 0)
  case atStart => rfl
  case round =>
    subst hrel
    go_wp2
    go_ret
    exact ⟨rfl, (Below.refl _ _).alloc (Nat.le_refl _) _⟩

theorem cloneLanes21 (a : Option Addr) (n c : Nat) (f : Nat → LaneV) (w : World) (hn : n ≤ 1048576) (hl : ∀ i, i < n → (f i).l ≤ 1048576) (h : LanesAt w a n f) :
    Calls Trym.prog 21 #[.slice a n c] w fun e w' => ∃ (a' : Option Addr) (c' : Nat) (f' : Nat → LaneV), e = .returned (.slice a' n c') ∧ LanesAt w' a' n f' ∧ (∀ i, i < n → (f' i).dn = (f i).dn ∧ (f' i).l = (f i).l) ∧ Below w.heap.size w w' := by
  rcases h with rfl | ⟨b, off, rfl, hlt, hc⟩
  · cases a with
    | none =>
      refine (cloneLanes_nil c w).mono ?_
      rintro e w' ⟨rfl, rfl⟩
      exact ⟨none, 0, f, rfl, .inl rfl, fun i hi => absurd hi (Nat.not_lt_zero _), Below.refl _ _⟩
    | some x =>
      refine (cloneLanes_empty x c w).mono ?_
      rintro e w' ⟨rfl, hb⟩
      exact ⟨_, 0, f, rfl, .inl rfl, fun i hi => absurd hi (Nat.not_lt_zero _), hb⟩
  · refine (cloneLanes_some b off n c f w hn hlt hl hc).mono ?_
    rintro e w' ⟨f', rfl, h1, h2, h3⟩
    exact ⟨_, n, f', rfl, h1, h2, h3⟩
#print axioms cloneLanes21
end Go.Proofs.Qxb6601498aMods

/-
  relayB1WindowBytesFit, relayB1HeadsInRange, relayB1CloneRows, relayB1SameAggregate.
-/
import Derived.Test.Qxb6601498aModsRow
namespace Go.Proofs.Qxb6601498aMods
open Go.RowKit
set_option linter.unusedVariables false

theorem fit11_some (b off n c : Nat) (a1 : Option Addr) (m c1 : Nat) (a2 : Option Addr) (l c2 : Nat) (r : Nat → RowV) (w : World) (hn : n ≤ 4096) (hm : m ≤ 4096) (hl : l ≤ 65536)
    (hs : ∀ i, i < n → (r i).id.size ≤ 1048576 ∧ (r i).ty.size ≤ 1048576 ∧ (r i).ag.size ≤ 1048576) (hc : ∀ i, i < n → RowCells w b (off + i * 5) (r i)) :
    Calls Trym.prog 11 #[.slice (some ⟨b, off, none⟩) n c, .slice a1 m c1, .slice a2 l c2] w fun e w' => AnsB e True ∧ w' = w := by
  have HC : Hid (∀ i, i < n → RowCells w b (off + i * 5) (r i)) := hc
  have HS : Hid (∀ i, i < n → (r i).id.size ≤ 1048576 ∧ (r i).ty.size ≤ 1048576 ∧ (r i).ag.size ≤ 1048576) := hs
  clear hc hs
  go_enter Trym.func11, Trym.ntmps11
  go_wp2
  go_loop [7, 8] (fun s7 s8 => ∃ (k z : Nat), k ≤ n ∧ z ≤ 1048576 ∧ s7 = .int .i64 z ∧ s8 = .int .i64 k) (fun _ i => n - (intOf i).toNat)
  case atStart => exact ⟨0, 1048576 - 8 * m - 8 * l, Nat.zero_le _, by omega, by go_num, rfl⟩
  case round =>
    obtain ⟨k, z, hk, hz, rfl, rfl⟩ := hrel
    by_cases hlt : k < n
    · obtain ⟨q0, q1, q2, q3, q4⟩ := HC.out k hlt
      obtain ⟨t0, t1, t2⟩ := HS.out k hlt
      generalize hrk : r k = rk at q0 q1 q2 q3 q4 t0 t1 t2
      clear hrk
      obtain ⟨id, ps, ty, ag, du⟩ := rk
      simp only at q0 q1 q2 q3 q4 t0 t1 t2
      by_cases g0 : 24 ≤ z
      · obtain ⟨y, hy⟩ : ∃ y : Nat, z = y + 24 := ⟨z - 24, by omega⟩
        subst hy
        by_cases g1 : id.size ≤ y
        · by_cases g2 : ty.size ≤ y - id.size
          · by_cases g3 : ag.size ≤ y - id.size - ty.size
            · go_wp2
              go_round
              case rel => exact ⟨k + 1, y - id.size - ty.size - ag.size, by omega, by omega, by go_num, by go_num⟩
              case measure => simp [intOf]; omega
            · go_wp2
              go_ret
              exact ⟨AnsB.no rfl, rfl⟩
          · go_wp2
            go_ret
            exact ⟨AnsB.no rfl, rfl⟩
        · go_wp2
          go_ret
          exact ⟨AnsB.no rfl, rfl⟩
      · go_wp2
        go_ret
        exact ⟨AnsB.no rfl, rfl⟩
    · go_wp2
      go_ret
      exact ⟨AnsB.yes rfl trivial, rfl⟩

theorem fit11_none (a : Option Addr) (c : Nat) (a1 : Option Addr) (m c1 : Nat) (a2 : Option Addr) (l c2 : Nat) (w : World) (hm : m ≤ 4096) (hl : l ≤ 65536) :
    Calls Trym.prog 11 #[.slice a 0 c, .slice a1 m c1, .slice a2 l c2] w fun e w' => AnsB e True ∧ w' = w := by
  go_enter Trym.func11, Trym.ntmps11
  go_wp2
  go_loop [8] (fun s8 => s8 = .int .i64 0) (fun _ => 0)
  case atStart => rfl
  case round =>
    subst hrel
    go_wp2
    go_ret
    exact ⟨AnsB.yes rfl trivial, rfl⟩

theorem fit11 (a : Option Addr) (n c : Nat) (a1 : Option Addr) (m c1 : Nat) (a2 : Option Addr) (l c2 : Nat) (r : Nat → RowV) (w : World) (hn : n ≤ 4096) (hm : m ≤ 4096) (hl : l ≤ 65536)
    (hs : ∀ i, i < n → (r i).id.size ≤ 1048576 ∧ (r i).ty.size ≤ 1048576 ∧ (r i).ag.size ≤ 1048576) (h : RowsAt w a n r) :
    Calls Trym.prog 11 #[.slice a n c, .slice a1 m c1, .slice a2 l c2] w fun e w' => AnsB e True ∧ w' = w := by
  rcases h with rfl | ⟨b, off, rfl, hlt, hc⟩
  · exact fit11_none a c a1 m c1 a2 l c2 w hm hl
  · exact fit11_some b off n c a1 m c1 a2 l c2 r w hn hm hl hs hc

/-- Every head is a row's index. -/
def InRange (n m : Nat) (hs : List Int) : Prop := ∀ i, i < m → 0 ≤ hs.getD i 0 ∧ hs.getD i 0 < n

theorem heads12_some (a : Option Addr) (n c : Nat) (b off m c1 : Nat) (hs : List Int) (w : World) (hn : n ≤ 4096) (hm : m ≤ 4096) (hc : ∀ j, j < m → w.cell? ⟨b, off + j, none⟩ = some (.int .i64 (hs.getD j 0))) :
    Calls Trym.prog 12 #[.slice a n c, .slice (some ⟨b, off, none⟩) m c1] w fun e w' => AnsB e (InRange n m hs) ∧ w' = w := by
  have HC : Hid (∀ j, j < m → w.cell? ⟨b, off + j, none⟩ = some (.int .i64 (hs.getD j 0))) := hc
  clear hc
  go_enter Trym.func12, Trym.ntmps12
  go_wp2
  go_loop [5] (fun s5 => ∃ k : Nat, k ≤ m ∧ s5 = .int .i64 k ∧ Hid (∀ i, i < k → 0 ≤ hs.getD i 0 ∧ hs.getD i 0 < n)) (fun i => m - (intOf i).toNat)
  case atStart => exact ⟨0, Nat.zero_le _, rfl, fun i hi => absurd hi (Nat.not_lt_zero _)⟩
  case round =>
    obtain ⟨k, hk, rfl, HE⟩ := hrel
    by_cases hlt : k < m
    · have c0 := HC.out k hlt
      generalize hx : hs.getD k 0 = x at c0
      have HX : Hid (hs.getD k 0 = x) := hx
      clear hx
      by_cases g0 : x < 0
      · go_wp2
        go_ret
        exact ⟨AnsB.no rfl, rfl⟩
      · by_cases g1 : (n : Int) ≤ x
        · go_wp2
          go_ret
          exact ⟨AnsB.no rfl, rfl⟩
        · go_wp2
          go_round
          case rel =>
            refine ⟨k + 1, by omega, by go_num, fun i hi => ?_⟩
            rcases Nat.lt_succ_iff_lt_or_eq.1 hi with h | rfl
            · exact HE.out i h
            · rw [HX.out]; omega
          case measure => simp [intOf]; omega
    · go_wp2
      go_ret
      exact ⟨AnsB.yes rfl (fun i hi => HE.out i (by omega)), rfl⟩

theorem heads12_none (v : Value) (a : Option Addr) (c : Nat) (w : World) :
    Calls Trym.prog 12 #[v, .slice a 0 c] w fun e w' => e = .returned (.bool true) ∧ w' = w := by
  go_enter Trym.func12, Trym.ntmps12
  go_wp2
  go_loop [5] (fun s5 => s5 = .int .i64 0) (fun _ => 0)
  case atStart => rfl
  case round =>
    subst hrel
    go_wp2
    go_ret
    exact ⟨rfl, rfl⟩

theorem heads12 (a : Option Addr) (n c : Nat) (a1 : Option Addr) (m c1 : Nat) (hs : List Int) (w : World) (hn : n ≤ 4096) (hm : m ≤ 4096) (h : IntsAt w a1 m hs) :
    Calls Trym.prog 12 #[.slice a n c, .slice a1 m c1] w fun e w' => AnsB e (InRange n m hs) ∧ w' = w := by
  obtain ⟨hz, rfl | ⟨b, off, rfl, _, hc⟩⟩ := h
  · refine (heads12_none _ a1 c1 w).mono ?_
    rintro e w' ⟨rfl, rfl⟩
    exact ⟨AnsB.yes rfl (fun i hi => absurd hi (Nat.not_lt_zero _)), rfl⟩
  · exact heads12_some a n c b off m c1 hs w hn hm hc

/-- A row as a value. -/
def RowV.val (r : RowV) : Value := .agg #[.string r.id, .int .i64 r.ps, .string r.ty, .string r.ag, .bool r.du]

theorem same17 (i0 : ByteArray) (p0 : Int) (t0 g0 : ByteArray) (u0 : Bool) (i1 : ByteArray) (p1 : Int) (t1 g1 : ByteArray) (u1 : Bool) (w : World) :
    Calls Trym.prog 17 #[.agg #[.string i0, .int .i64 p0, .string t0, .string g0, .bool u0], .agg #[.string i1, .int .i64 p1, .string t1, .string g1, .bool u1]] w fun e w' => e = .returned (.bool (t0.toList == t1.toList && g0.toList == g1.toList)) ∧ Below w.heap.size w w' := by
  cases ht : (t0.toList == t1.toList) with
  | true =>
    rw [Bool.true_and]
    go_enter Trym.func17, Trym.ntmps17
    go_wp2
    go_ret
    exact ⟨rfl, ((Below.refl _ _).alloc (Nat.le_refl _) _).alloc (by simp) _⟩
  | false =>
    rw [Bool.false_and]
    go_enter Trym.func17, Trym.ntmps17
    go_wp2
    go_ret
    exact ⟨rfl, ((Below.refl _ _).alloc (Nat.le_refl _) _).alloc (by simp) _⟩

theorem Trym.info36 : (Trym.prog.info? 36).map (fun i => (i.zero, i.size, i.bytes)) = some (some (.agg #[.string ⟨#[]⟩, .int .i64 0, .string ⟨#[]⟩, .string ⟨#[]⟩, .bool false]), 5, 64) := by kernel_rfl

/-- What holds after k rounds of the clone. -/
def CloneInvR (ty : TypeId) (w : World) (n : Nat) (r : Nat → RowV) (k : Nat) (wr : World) : Prop :=
  ∃ (F : Nat → Value), wr.rowIs w.heap.size ty (n * 5) F ∧ Below w.heap.size w wr ∧ ∀ i, i < k →
    F (i * 5) = .string (r i).id ∧ F (i * 5 + 1) = .int .i64 (r i).ps ∧ F (i * 5 + 2) = .string (r i).ty ∧ F (i * 5 + 3) = .string (r i).ag ∧ F (i * 5 + 4) = .bool (r i).du

theorem row5 {w : World} {g t m : Nat} {F : Nat → Value} (h : w.rowIs g t m F) (o : Nat) (ho : o + 4 < m) :
    w.cell? ⟨g, o, none⟩ = some (F o) ∧ w.cell? ⟨g, o + 1, none⟩ = some (F (o + 1)) ∧ w.cell? ⟨g, o + 2, none⟩ = some (F (o + 2)) ∧ w.cell? ⟨g, o + 3, none⟩ = some (F (o + 3)) ∧ w.cell? ⟨g, o + 4, none⟩ = some (F (o + 4)) ∧
    w.frozen? ⟨g, o, none⟩ = false ∧ w.frozen? ⟨g, o + 1, none⟩ = false ∧ w.frozen? ⟨g, o + 2, none⟩ = false ∧ w.frozen? ⟨g, o + 3, none⟩ = false ∧ w.frozen? ⟨g, o + 4, none⟩ = false :=
  ⟨h.cell (by omega), h.cell (by omega), h.cell (by omega), h.cell (by omega), h.cell ho, h.frozen _, h.frozen _, h.frozen _, h.frozen _, h.frozen _⟩

theorem cloneInvR_start (ty : TypeId) (w : World) (n : Nat) (r : Nat → RowV) (z : Array Value) : CloneInvR ty w n r 0 (w.alloc (.cells (madeCells z (n * 5)) ty)) := by
  obtain ⟨F, hF⟩ := rowIs_some w (madeCells z (n * 5)) ty
  rw [size_madeCells] at hF
  exact ⟨F, hF, (Below.refl _ _).alloc (Nat.le_refl _) _, fun i hi => absurd hi (Nat.not_lt_zero _)⟩

theorem cloneInvR_step {ty : TypeId} {w : World} {n : Nat} {r : Nat → RowV} {k : Nat} {wr : World} (hinv : CloneInvR ty w n r k wr) (hk : k < n) {rk : RowV} (hr : r k = rk) :
    CloneInvR ty w n r (k + 1) (((((wr.setCell ⟨w.heap.size, k * 5, none⟩ (.string rk.id)).setCell ⟨w.heap.size, k * 5 + 1, none⟩ (.int .i64 rk.ps)).setCell ⟨w.heap.size, k * 5 + 2, none⟩ (.string rk.ty)).setCell ⟨w.heap.size, k * 5 + 3, none⟩ (.string rk.ag)).setCell ⟨w.heap.size, k * 5 + 4, none⟩ (.bool rk.du)) := by
  obtain ⟨F, hrow, hbel, hall⟩ := hinv
  have hset := ((((hrow.set (k * 5) (.string rk.id)).set (k * 5 + 1) (.int .i64 rk.ps)).set (k * 5 + 2) (.string rk.ty)).set (k * 5 + 3) (.string rk.ag)).set (k * 5 + 4) (.bool rk.du)
  refine ⟨_, hset, ?_, fun i hi => ?_⟩
  · exact ((((hbel.setCell (p := ⟨w.heap.size, k * 5, none⟩) (Nat.le_refl _) _).setCell (p := ⟨w.heap.size, k * 5 + 1, none⟩) (Nat.le_refl _) _).setCell (p := ⟨w.heap.size, k * 5 + 2, none⟩) (Nat.le_refl _) _).setCell (p := ⟨w.heap.size, k * 5 + 3, none⟩) (Nat.le_refl _) _).setCell (p := ⟨w.heap.size, k * 5 + 4, none⟩) (Nat.le_refl _) _
  · by_cases e : i = k
    · subst e
      rw [hr]
      refine ⟨?_, ?_, ?_, ?_, ?_⟩
      · simp only []; rw [if_neg (by omega), if_neg (by omega), if_neg (by omega), if_neg (by omega), if_pos trivial]
      · simp only []; rw [if_neg (by omega), if_neg (by omega), if_neg (by omega), if_pos trivial]
      · simp only []; rw [if_neg (by omega), if_neg (by omega), if_pos trivial]
      · simp only []; rw [if_neg (by omega), if_pos trivial]
      · simp only []; rw [if_pos trivial]
    · obtain ⟨h0, h1, h2, h3, h4⟩ := hall i (by omega)
      refine ⟨?_, ?_, ?_, ?_, ?_⟩
      · rw [if_neg (by omega), if_neg (by omega), if_neg (by omega), if_neg (by omega), if_neg (by omega)]; exact h0
      · rw [if_neg (by omega), if_neg (by omega), if_neg (by omega), if_neg (by omega), if_neg (by omega)]; exact h1
      · rw [if_neg (by omega), if_neg (by omega), if_neg (by omega), if_neg (by omega), if_neg (by omega)]; exact h2
      · rw [if_neg (by omega), if_neg (by omega), if_neg (by omega), if_neg (by omega), if_neg (by omega)]; exact h3
      · rw [if_neg (by omega), if_neg (by omega), if_neg (by omega), if_neg (by omega), if_neg (by omega)]; exact h4

theorem cloneInvR_end {ty : TypeId} {w : World} {n : Nat} {r : Nat → RowV} {wr : World} (hinv : CloneInvR ty w n r n wr) : RowsAt wr (some ⟨w.heap.size, 0, none⟩) n r ∧ Below w.heap.size w wr := by
  obtain ⟨F, hrow, hbel, hall⟩ := hinv
  refine ⟨.inr ⟨w.heap.size, 0, rfl, hrow.lt, fun i hi => ?_⟩, hbel⟩
  obtain ⟨h0, h1, h2, h3, h4⟩ := hall i hi
  rw [Nat.zero_add]
  refine ⟨?_, ?_, ?_, ?_, ?_⟩
  · rw [hrow.cell (by omega), h0]
  · rw [hrow.cell (by omega), h1]
  · rw [hrow.cell (by omega), h2]
  · rw [hrow.cell (by omega), h3]
  · rw [hrow.cell (by omega), h4]

set_option maxHeartbeats 1000000 in
theorem cloneRows_some (b off n c : Nat) (r : Nat → RowV) (w : World) (hn : n ≤ 4096) (hb : b < w.heap.size) (hc : ∀ i, i < n → RowCells w b (off + i * 5) (r i)) :
    Calls Trym.prog 13 #[.slice (some ⟨b, off, none⟩) n c] w fun e w' => e = .returned (.slice (some ⟨w.heap.size, 0, none⟩) n n) ∧ RowsAt w' (some ⟨w.heap.size, 0, none⟩) n r ∧ Below w.heap.size w w' := by
  have hmk := make_many (P := Trym.prog) 22 36 _ 5 64 Trym.underlying22 Trym.info36 n (by omega) (by omega)
  have hq : ∀ (w : World) (a : Option Addr) (n c n' c' : Nat), (binOp .eql 22 (.slice a n c) (.slice none n' c')).run Trym.prog w = .ok (.bool a.isNone) w := fun w a n c n' c' => Lib.run_eql_slice_nil w 22 36 a n c n' c' Trym.underlying22
  have HC : Hid (∀ i, i < n → RowCells w b (off + i * 5) (r i)) := hc
  clear hc
  go_enter Trym.func13, Trym.ntmps13
  go_wp2
  go_loopw [4] (fun i wr => ∃ k : Nat, k ≤ n ∧ i = .int .i64 k ∧ CloneInvR 36 w n r k wr) (fun i _ => n - (intOf i).toNat)
  case atStart => exact ⟨0, Nat.zero_le _, rfl, cloneInvR_start 36 w n r _⟩
  case round =>
    obtain ⟨k, hk, rfl, hinv⟩ := hrel
    have HI : Hid (CloneInvR 36 w n r k wr) := hinv
    by_cases hlt : k < n
    · obtain ⟨F, hrow, hbel, -⟩ := hinv
      obtain ⟨d0, d1, d2, d3, d4⟩ := (HC.out k hlt).below hbel hb
      obtain ⟨x0, x1, x2, x3, x4, z0, z1, z2, z3, z4⟩ := row5 hrow (k * 5) (by omega)
      clear hrow hbel hmk hq
      generalize hrk : r k = rk at d0 d1 d2 d3 d4
      have HS : Hid (CloneInvR 36 w n r (k + 1) _) := cloneInvR_step HI.out hlt hrk
      clear hrk
      obtain ⟨id, ps, ty, ag, du⟩ := rk
      simp only at d0 d1 d2 d3 d4 HS
      go_wp2
      go_roundw
      case rel => exact ⟨k + 1, by omega, by go_num, HS.out⟩
      case measure => simp [intOf]; omega
    · obtain rfl : k = n := by omega
      go_wp2
      go_ret
      exact ⟨rfl, cloneInvR_end HI.out⟩

theorem cloneRows_nil (c : Nat) (w : World) : Calls Trym.prog 13 #[.slice none 0 c] w fun e w' => e = .returned (.slice none 0 0) ∧ w' = w := by
  have hq : ∀ (w : World) (a : Option Addr) (n c n' c' : Nat), (binOp .eql 22 (.slice a n c) (.slice none n' c')).run Trym.prog w = .ok (.bool a.isNone) w := fun w a n c n' c' => Lib.run_eql_slice_nil w 22 36 a n c n' c' Trym.underlying22
  go_enter Trym.func13, Trym.ntmps13
  go_wp2
  go_ret
  exact ⟨rfl, rfl⟩

theorem cloneRows_empty (x : Addr) (c : Nat) (w : World) : Calls Trym.prog 13 #[.slice (some x) 0 c] w fun e w' => e = .returned (.slice (some ⟨w.heap.size, 0, none⟩) 0 0) ∧ Below w.heap.size w w' := by
  have hmk : ∀ w : World, (Instr.makeSlice 22 (.int .i64 0) (.int .i64 0)).run Trym.prog w = .ok (.slice (some ⟨w.heap.size, 0, none⟩) 0 0) (w.alloc (.cells (madeCells _ (0 * 5)) 36)) := make_many (P := Trym.prog) 22 36 _ 5 64 Trym.underlying22 Trym.info36 0 (by omega) (by omega)
  have hq : ∀ (w : World) (a : Option Addr) (n c n' c' : Nat), (binOp .eql 22 (.slice a n c) (.slice none n' c')).run Trym.prog w = .ok (.bool a.isNone) w := fun w a n c n' c' => Lib.run_eql_slice_nil w 22 36 a n c n' c' Trym.underlying22
  go_enter Trym.func13, Trym.ntmps13
  go_wp2
  go_loop [4] (fun i => i = .int .i64 0) (fun _ => 0)
  case atStart => rfl
  case round =>
    subst hrel
    go_wp2
    go_ret
    exact ⟨rfl, (Below.refl _ _).alloc (Nat.le_refl _) _⟩

theorem cloneRows13 (a : Option Addr) (n c : Nat) (r : Nat → RowV) (w : World) (hn : n ≤ 4096) (h : RowsAt w a n r) :
    Calls Trym.prog 13 #[.slice a n c] w fun e w' => ∃ (a' : Option Addr) (c' : Nat), e = .returned (.slice a' n c') ∧ RowsAt w' a' n r ∧ Below w.heap.size w w' := by
  rcases h with rfl | ⟨b, off, rfl, hlt, hc⟩
  · cases a with
    | none =>
      refine (cloneRows_nil c w).mono ?_
      rintro e w' ⟨rfl, rfl⟩
      exact ⟨none, 0, rfl, .inl rfl, Below.refl _ _⟩
    | some x =>
      refine (cloneRows_empty x c w).mono ?_
      rintro e w' ⟨rfl, hb⟩
      exact ⟨_, 0, rfl, .inl rfl, hb⟩
  · refine (cloneRows_some b off n c r w hn hlt hc).mono ?_
    rintro e w' ⟨rfl, h1, h2⟩
    exact ⟨_, n, rfl, h1, h2⟩
#print axioms cloneRows13
end Go.Proofs.Qxb6601498aMods

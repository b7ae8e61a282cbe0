/-
  'relayB1Lanes'.
-/
import Derived.Test.Qxb6601498aModsZZ
namespace Go.Proofs.Qxb6601498aMods
open Go.RowKit Go.Maps
set_option linter.unusedVariables false

theorem Trym.info9 : (Trym.prog.info? 9).map (fun i => (i.zero, i.size, i.bytes)) = some (some (.string ⟨#[]⟩), 1, 16) := by kernel_rfl

/-- Five columns, each filled up to k. -/
def Cols5 (w : World) (n : Nat) (r : Nat → RowV) (k : Nat) (wr : World) : Prop :=
  wr.rowIs w.heap.size 9 n (fun j => if j < k then .string (r j).id else .string ⟨#[]⟩) ∧ wr.rowIs (w.heap.size + 1) 2 n (fun j => if j < k then .int .i64 (r j).ps else .int .i64 0) ∧
  wr.rowIs (w.heap.size + 2) 9 n (fun j => if j < k then .string (r j).ty else .string ⟨#[]⟩) ∧ wr.rowIs (w.heap.size + 3) 9 n (fun j => if j < k then .string (r j).ag else .string ⟨#[]⟩) ∧
  wr.rowIs (w.heap.size + 4) 4 n (fun j => if j < k then .bool (r j).du else .bool false) ∧ Below w.heap.size w wr

theorem cols5_start (w : World) (n : Nat) (r : Nat → RowV) :
    Cols5 w n r 0 (((((w.alloc (.cells (madeCells #[.string ⟨#[]⟩] n) 9)).alloc (.cells (madeCells #[.int .i64 0] n) 2)).alloc (.cells (madeCells #[.string ⟨#[]⟩] n) 9)).alloc (.cells (madeCells #[.string ⟨#[]⟩] n) 9)).alloc (.cells (madeCells #[.bool false] n) 4)) := by
  generalize hA : (Obj.cells (madeCells #[.string ⟨#[]⟩] n) 9) = A
  generalize hB : (Obj.cells (madeCells #[.int .i64 0] n) 2) = Bo
  have s1 := Go.Deep.nblk_alloc w A
  have s2 := Go.Deep.nblk_alloc (w.alloc A) Bo
  have s3 := Go.Deep.nblk_alloc ((w.alloc A).alloc Bo) A
  have s4 := Go.Deep.nblk_alloc (((w.alloc A).alloc Bo).alloc A) A
  have r0 := row_start w (.string ⟨#[]⟩) n 9 (fun j => .string (r j).id)
  have r1 := row_start (w.alloc A) (.int .i64 0) n 2 (fun j => .int .i64 (r j).ps)
  have r2 := row_start ((w.alloc A).alloc Bo) (.string ⟨#[]⟩) n 9 (fun j => .string (r j).ty)
  have r3 := row_start (((w.alloc A).alloc Bo).alloc A) (.string ⟨#[]⟩) n 9 (fun j => .string (r j).ag)
  have r4 := row_start ((((w.alloc A).alloc Bo).alloc A).alloc A) (.bool false) n 4 (fun j => .bool (r j).du)
  rw [hA] at r0 r2 r3
  rw [hB, s1] at r1
  rw [s2, s1] at r2
  rw [s3, s2, s1] at r3
  rw [s4, s3, s2, s1] at r4
  refine ⟨(((r0.alloc _).alloc _).alloc _).alloc _, ((r1.alloc _).alloc _).alloc _, (r2.alloc _).alloc _, r3.alloc _, r4, ?_⟩
  exact (((((Below.refl _ _).alloc (Nat.le_refl _) _).alloc (by rw [s1]; omega) _).alloc (by rw [s2, s1]; omega) _).alloc (by rw [s3, s2, s1]; omega) _).alloc (by rw [s4, s3, s2, s1]; omega) _

theorem cols5_step {w : World} {n : Nat} {r : Nat → RowV} {k : Nat} {wr : World} (h : Cols5 w n r k wr) {rk : RowV} (e : r k = rk) :
    Cols5 w n r (k + 1) (((((wr.setCell ⟨w.heap.size, k, none⟩ (.string rk.id)).setCell ⟨w.heap.size + 1, k, none⟩ (.int .i64 rk.ps)).setCell ⟨w.heap.size + 2, k, none⟩ (.string rk.ty)).setCell ⟨w.heap.size + 3, k, none⟩ (.string rk.ag)).setCell ⟨w.heap.size + 4, k, none⟩ (.bool rk.du)) := by
  obtain ⟨r0, r1, r2, r3, r4, hb⟩ := h
  subst e
  refine ⟨?_, ?_, ?_, ?_, ?_, ?_⟩
  · exact ((((row_step (V := fun j => .string (r j).id) r0).setOther (a := ⟨w.heap.size + 1, k, none⟩) (by simp) _).setOther (a := ⟨w.heap.size + 2, k, none⟩) (by simp) _).setOther (a := ⟨w.heap.size + 3, k, none⟩) (by simp) _).setOther (a := ⟨w.heap.size + 4, k, none⟩) (by simp) _
  · exact (((row_step (V := fun j => .int .i64 (r j).ps) (r1.setOther (a := ⟨w.heap.size, k, none⟩) (by simp) _)).setOther (a := ⟨w.heap.size + 2, k, none⟩) (by simp) _).setOther (a := ⟨w.heap.size + 3, k, none⟩) (by simp) _).setOther (a := ⟨w.heap.size + 4, k, none⟩) (by simp) _
  · exact ((row_step (V := fun j => .string (r j).ty) ((r2.setOther (a := ⟨w.heap.size, k, none⟩) (by simp) _).setOther (a := ⟨w.heap.size + 1, k, none⟩) (by simp) _)).setOther (a := ⟨w.heap.size + 3, k, none⟩) (by simp) _).setOther (a := ⟨w.heap.size + 4, k, none⟩) (by simp) _
  · exact (row_step (V := fun j => .string (r j).ag) (((r3.setOther (a := ⟨w.heap.size, k, none⟩) (by simp) _).setOther (a := ⟨w.heap.size + 1, k, none⟩) (by simp) _).setOther (a := ⟨w.heap.size + 2, k, none⟩) (by simp) _)).setOther (a := ⟨w.heap.size + 4, k, none⟩) (by simp) _
  · exact row_step (V := fun j => .bool (r j).du) ((((r4.setOther (a := ⟨w.heap.size, k, none⟩) (by simp) _).setOther (a := ⟨w.heap.size + 1, k, none⟩) (by simp) _).setOther (a := ⟨w.heap.size + 2, k, none⟩) (by simp) _).setOther (a := ⟨w.heap.size + 3, k, none⟩) (by simp) _)
  · exact ((((hb.setCell (p := ⟨w.heap.size, k, none⟩) (Nat.le_refl _) _).setCell (p := ⟨w.heap.size + 1, k, none⟩) (by simp) _).setCell (p := ⟨w.heap.size + 2, k, none⟩) (by simp) _).setCell (p := ⟨w.heap.size + 3, k, none⟩) (by simp) _).setCell (p := ⟨w.heap.size + 4, k, none⟩) (by simp) _

theorem Got.back {w w0 w' : World} {n m : Nat} {r : Nat → RowV} {hs : List Int} {G : Nat} {f : Nat → LaneV} (h : Got w0 n m r hs G f w') (hb : Below w.heap.size w w0) : Got w n m r hs G f w' := by
  obtain ⟨h0, h1, h2, h3, h4, h5⟩ := h
  exact ⟨h0, h1, h2, h3, h4, below_next hb h5⟩

set_option maxHeartbeats 8000000 in
theorem lanes16 (after : Int) (ra : Option Addr) (n cn : Nat) (ha : Option Addr) (m cm : Nat) (la : Option Addr) (l cl : Nat) (r : Nat → RowV) (hs : List Int) (w : World) (hn : n ≤ 4096) (hm : m ≤ 4096) (hsm : ∀ i, i < n → (r i).small)
    (hr : RowsAt w ra n r) (hh : IntsAt w ha m hs) (hin : InRange n m hs) :
    Calls Trym.prog 16 #[.int .i64 after, .slice ra n cn, .slice ha m cm, .slice la l cl] w fun e w' => OutGot w n m r hs e w' := by
  have hmk0 := run_make_row' (P := Trym.prog) 48 9 (.string ⟨#[]⟩) 16 Trym.underlying48 Trym.info9 rfl .i64 .i64 n (by omega) (by omega)
  have hmk1 := run_make_row' (P := Trym.prog) 24 2 (.int .i64 0) 8 Trym.underlying24 Trym.info2 rfl .i64 .i64 n (by omega) (by omega)
  have hmk2 := run_make_row' (P := Trym.prog) 32 4 (.bool false) 1 Trym.underlying32 Trym.info4 rfl .i64 .i64 n (by omega) (by omega)
  have HR : Hid (RowsAt w ra n r) := hr
  have HH : Hid (IntsAt w ha m hs) := hh
  have HIN : Hid (InRange n m hs) := hin
  have HSM : Hid (∀ i, i < n → (r i).small) := hsm
  clear hr hh hin hsm
  go_enter Trym.func16, Trym.ntmps16
  go_wp2
  go_loopw [17] (fun i wr => ∃ k : Nat, k ≤ n ∧ i = .int .i64 k ∧ Cols5 w n r k wr) (fun i _ => n - (intOf i).toNat)
  case atStart => exact ⟨0, Nat.zero_le _, rfl, cols5_start w n r⟩
  case round =>
    obtain ⟨k, hk, rfl, hinv⟩ := hrel
    have HI : Hid (Cols5 w n r k wr) := hinv
    clear hmk0 hmk1 hmk2
    by_cases hlt : k < n
    · obtain h0 | ⟨rb, roff, rfl, rbl, rc⟩ := HR.out
      · omega
      obtain ⟨r0, r1, r2, r3, r4, hbel⟩ := hinv
      obtain ⟨d0, d1, d2, d3, d4⟩ := (rc k hlt).below hbel rbl
      have x0 := r0.cell hlt; have z0 := r0.frozen k
      have x1 := r1.cell hlt; have z1 := r1.frozen k
      have x2 := r2.cell hlt; have z2 := r2.frozen k
      have x3 := r3.cell hlt; have z3 := r3.frozen k
      have x4 := r4.cell hlt; have z4 := r4.frozen k
      rw [if_neg (Nat.lt_irrefl _)] at x0 x1 x2 x3 x4
      clear r0 r1 r2 r3 r4 hbel rc
      generalize hrk : r k = rk at d0 d1 d2 d3 d4
      have HS : Hid (Cols5 w n r (k + 1) _) := cols5_step HI.out hrk
      clear hrk
      obtain ⟨id, ps, ty, ag, du⟩ := rk
      simp only at d0 d1 d2 d3 d4 HS
      go_wp2
      go_roundw
      case rel => exact ⟨k + 1, by omega, by go_num, HS.out⟩
      case measure => simp [intOf]; omega
    · obtain rfl : k = n := by omega
      clear hinv
      go_wp2_with fail
      obtain ⟨r0, r1, r2, r3, r4, hbel⟩ := HI.out
      refine (zzlanes29 after w.heap.size (w.heap.size + 1) (w.heap.size + 2) (w.heap.size + 3) (w.heap.size + 4) k k k k k k ha m cm la l cl r hs wr hn hm HSM.out ⟨row_end r0, row_end r1, row_end r2, row_end r3, row_end r4⟩ (HH.out.below hbel) HIN.out).mono ?_
      rintro e w' ⟨G, f, rfl, hg⟩
      have HG : Hid (Got w k m r hs G f w') := hg.back hbel
      clear r0 r1 r2 r3 r4 hbel hg
      go_wp2
      refine bodyPost_ret (v := .tuple #[.slice (some ⟨G, 0, none⟩) m m, .slice (some ⟨G + 1, 0, none⟩) m m, .slice (some ⟨G + 2, 0, none⟩) m m, .slice (some ⟨G + 3, 0, none⟩) m m]) (by simp [results, Trym.results16, go_sem]) rfl ?_
      exact ⟨G, f, rfl, HG.out⟩
#print axioms lanes16
end Go.Proofs.Qxb6601498aMods

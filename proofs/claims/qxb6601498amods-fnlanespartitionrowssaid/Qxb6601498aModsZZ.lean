/-
  'ZZlanes'.
-/
import Derived.Test.Qxb6601498aModsWinWalk
import Derived.Test.Qxb6601498aModsGoingLaw
namespace Go.Proofs.Qxb6601498aMods
open Go.RowKit Go.Maps
set_option linter.unusedVariables false
attribute [local go_sem ↓] Go.wp_at_zero Go.wp_at_succ

theorem Trym.info55 : (Trym.prog.info? 55).map (fun i => (i.zero, i.size, i.bytes)) = some (some (.agg #[.string ⟨#[]⟩, .int .i64 0, .string ⟨#[]⟩, .string ⟨#[]⟩, .bool false]), 5, 64) := by kernel_rfl

/-- The four slices that come back: block G on; lane j's rows are 'laneL .. j n'. -/
def Got (w : World) (n m : Nat) (r : Nat → RowV) (hs : List Int) (G : Nat) (f : Nat → LaneV) (w' : World) : Prop :=
  w'.rowIs G 23 m (fun j => .slice (f j).a (f j).l (f j).c) ∧ w'.rowIs (G + 1) 3 m (fun _ => .int .i64 0) ∧ w'.rowIs (G + 2) 3 m (fun _ => .int .i64 0) ∧ w'.rowIs (G + 3) 4 m (fun _ => .bool false) ∧
  (∀ j, j < m → (f j).l = (laneL (sameR r) (headOf hs) m j n).length ∧ IntsAt w' (f j).a (f j).l (laneInts (sameR r) (headOf hs) m j n)) ∧ Below w.heap.size w w'

def OutGot (w : World) (n m : Nat) (r : Nat → RowV) (hs : List Int) (e : Ending) (w' : World) : Prop :=
  ∃ G f, e = .returned (.tuple #[.slice (some ⟨G, 0, none⟩) m m, .slice (some ⟨G + 1, 0, none⟩) m m, .slice (some ⟨G + 2, 0, none⟩) m m, .slice (some ⟨G + 3, 0, none⟩) m m]) ∧ Got w n m r hs G f w'

/-- The five columns of the rows. -/
def Cols (w : World) (n : Nat) (r : Nat → RowV) (b0 b1 b2 b3 b4 : Nat) : Prop :=
  w.rowIs b0 9 n (fun i => .string (r i).id) ∧ w.rowIs b1 2 n (fun i => .int .i64 (r i).ps) ∧ w.rowIs b2 9 n (fun i => .string (r i).ty) ∧ w.rowIs b3 9 n (fun i => .string (r i).ag) ∧ w.rowIs b4 4 n (fun i => .bool (r i).du)

theorem CloneInvR.drew {t : TypeId} {w : World} {n : Nat} {r : Nat → RowV} {k : Nat} {wr : World} (h : CloneInvR t w n r k wr) : CloneInvR t w n r k wr.drew := by
  obtain ⟨F, h1, h2, h3⟩ := h
  exact ⟨F, h1.drew, h2.drew, h3⟩

/-- A slice value as a fresh lane. -/
def laneOfV : Value → LaneV
  | .slice a l c => ⟨a, l, c, [], 0, 0, false⟩
  | _ => ⟨none, 0, 0, [], 0, 0, false⟩
theorem laneOfV_nx (v : Value) : (laneOfV v).nx = 0 := by cases v <;> rfl
theorem laneOfV_tk (v : Value) : (laneOfV v).tk = 0 := by cases v <;> rfl
theorem laneOfV_dn (v : Value) : (laneOfV v).dn = false := by cases v <;> rfl

theorem got_mk {w W w1 wr : World} {B n m : Nat} {r : Nat → RowV} {hs : List Int} {p : Nat → Nat} {D : DataW Unit} {v : Nat → Value} (h4 : Rows4 w1 m (fun j => laneOfV (v j)) m wr) (h2 : Win2 W B n m (sameR r) (headOf hs) p D n v w1) (hb : Below w.heap.size w w1) :
    Got w n m r hs w1.heap.size (fun j => laneOfV (v j)) wr := by
  obtain ⟨r0, r1, r2, r3, hbel⟩ := h4
  refine ⟨row_end r0, ?_, ?_, ?_, ?_, below_next hb hbel⟩
  · exact (row_end r1).congr fun i _ => by rw [laneOfV_nx]
  · exact (row_end r2).congr fun i _ => by rw [laneOfV_tk]
  · exact (row_end r3).congr fun i _ => by rw [laneOfV_dn]
  · intro j hj
    obtain ⟨a, l, c, hv, hl, hi⟩ := win2_ints h2 hj
    simp only [hv]
    exact ⟨hl, hi.below hbel⟩

set_option maxHeartbeats 8000000 in
theorem zzlanes29 (after : Int) (b0 b1 b2 b3 b4 n c0 c1 c2 c3 c4 : Nat) (ha : Option Addr) (m cm : Nat) (la : Option Addr) (l cl : Nat) (r : Nat → RowV) (hs : List Int) (w : World) (hn : n ≤ 4096) (hm : m ≤ 4096) (hsm : ∀ i, i < n → (r i).small)
    (hcol : Cols w n r b0 b1 b2 b3 b4) (hh : IntsAt w ha m hs) (hin : InRange n m hs) :
    Calls Trym.prog 29 #[.int .i64 after, .slice (some ⟨b0, 0, none⟩) n c0, .slice (some ⟨b1, 0, none⟩) n c1, .slice (some ⟨b2, 0, none⟩) n c2, .slice (some ⟨b3, 0, none⟩) n c3, .slice (some ⟨b4, 0, none⟩) n c4, .slice ha m cm, .slice la l cl] w fun e w' => OutGot w n m r hs e w' := by
  have hmk := make_many (P := Trym.prog) 51 55 _ 5 64 Trym.underlying51 Trym.info55 n (by omega) (by omega)
  have HCOL : Hid (Cols w n r b0 b1 b2 b3 b4) := hcol
  have HH : Hid (IntsAt w ha m hs) := hh
  have HIN : Hid (InRange n m hs) := hin
  have HSM : Hid (∀ i, i < n → (r i).small) := hsm
  clear hcol hh hin hsm
  go_enter Trym.func29, Trym.ntmps29
  go_wp2
  go_loopw [21] (fun i wr => ∃ k : Nat, k ≤ n ∧ i = .int .i64 k ∧ CloneInvR 55 w n r k wr) (fun i _ => n - (intOf i).toNat)
  case atStart => exact ⟨0, Nat.zero_le _, rfl, cloneInvR_start 55 w n r _⟩
  case round =>
    obtain ⟨k, hk, rfl, hinv⟩ := hrel
    have HI : Hid (CloneInvR 55 w n r k wr) := hinv
    clear hmk
    by_cases hlt : k < n
    · obtain ⟨F, hrow, hbel, -⟩ := hinv
      obtain ⟨r0, r1, r2, r3, r4⟩ := HCOL.out
      have l0 := r0.lt; have l1 := r1.lt; have l2 := r2.lt; have l3 := r3.lt; have l4 := r4.lt
      have d0 := (hbel.cell (p := ⟨b0, k, none⟩) l0).trans (r0.cell hlt)
      have d1 := (hbel.cell (p := ⟨b1, k, none⟩) l1).trans (r1.cell hlt)
      have d2 := (hbel.cell (p := ⟨b2, k, none⟩) l2).trans (r2.cell hlt)
      have d3 := (hbel.cell (p := ⟨b3, k, none⟩) l3).trans (r3.cell hlt)
      have d4 := (hbel.cell (p := ⟨b4, k, none⟩) l4).trans (r4.cell hlt)
      obtain ⟨x0, x1, x2, x3, x4, z0, z1, z2, z3, z4⟩ := row5 hrow (k * 5) (by omega)
      clear r0 r1 r2 r3 r4 hrow hbel
      generalize hrk : r k = rk at d0 d1 d2 d3 d4
      have HS : Hid (CloneInvR 55 w n r (k + 1) _) := cloneInvR_step HI.out hlt hrk
      clear hrk
      obtain ⟨id, ps, ty, ag, du⟩ := rk
      simp only at d0 d1 d2 d3 d4 HS
      have n0 : b0 ≠ w.heap.size := by omega
      have n1 : b1 ≠ w.heap.size := by omega
      have n2 : b2 ≠ w.heap.size := by omega
      have n3 : b3 ≠ w.heap.size := by omega
      have n4 : b4 ≠ w.heap.size := by omega
      have hk0 : (0 : Int) ≤ (k : Int) := by omega
      have hk1 : (k : Int) < (n : Int) := by omega
      go_wp2
      go_region_held3 (fun w' => w'.cell? ⟨b0, k, none⟩ = some (.string id) ∧ w'.cell? ⟨b1, k, none⟩ = some (.int .i64 ps) ∧ w'.cell? ⟨b2, k, none⟩ = some (.string ty) ∧ w'.cell? ⟨b3, k, none⟩ = some (.string ag) ∧ w'.cell? ⟨b4, k, none⟩ = some (.bool du))
        (((try dsimp only); (repeat' apply And.intro)) <;> (first | (go_keep; done) | (rw [World.cell?_drew, far_cell n0, far_cell n0, far_cell n0, far_cell n0, far_cell n0]; exact d0) | (rw [World.cell?_drew, far_cell n1, far_cell n1, far_cell n1, far_cell n1, far_cell n1]; exact d1) | (rw [World.cell?_drew, far_cell n2, far_cell n2, far_cell n2, far_cell n2, far_cell n2]; exact d2) | (rw [World.cell?_drew, far_cell n3, far_cell n3, far_cell n3, far_cell n3, far_cell n3]; exact d3) | (rw [World.cell?_drew, far_cell n4, far_cell n4, far_cell n4, far_cell n4, far_cell n4]; exact d4)))
        (fail)
      have HS2 : Hid (CloneInvR 55 w n r (k + 1) _) := HS.out.drew
      clear HS x0 x1 x2 x3 x4 z0 z1 z2 z3 z4 d0 d1 d2 d3 d4
      go_wp2
      go_roundw
      case rel => exact ⟨k + 1, by omega, by go_num, HS2.out⟩
      case measure => simp [intOf]; omega
    · obtain rfl : k = n := by omega
      clear hinv
      obtain ⟨hrows, hbel⟩ := cloneInvR_end HI.out
      have HRB : Hid (RowsAt wr (some ⟨w.heap.size, 0, none⟩) k r ∧ Below w.heap.size w wr) := ⟨hrows, hbel⟩
      clear hrows hbel HI HCOL
      go_wp2_with fail
      obtain ⟨W, hW⟩ : ∃ W : World, W = wr.alloc (.cells #[.int .i64 after, .slice (some ⟨w.heap.size, 0, none⟩) k k, .slice ha m cm, .slice la l cl] 58) := ⟨_, rfl⟩
      rw [← hW]
      have hbW : Below wr.heap.size wr W := by rw [hW]; exact (Below.refl _ _).alloc (Nat.le_refl _) _
      have q1 : W.cell? ⟨wr.heap.size, 1, none⟩ = some (.slice (some ⟨w.heap.size, 0, none⟩) k k) := by rw [hW, World.cell?_alloc_at _ _ _ _ rfl]; rfl
      have q2 : W.cell? ⟨wr.heap.size, 2, none⟩ = some (.slice ha m cm) := by rw [hW, World.cell?_alloc_at _ _ _ _ rfl]; rfl
      have qs : wr.heap.size < W.heap.size := by rw [hW, Go.Deep.nblk_alloc]; omega
      refine (lanes32 wr.heap.size k m k cm (some ⟨w.heap.size, 0, none⟩) ha r hs W hn hm HSM.out (HRB.out.1.below hbW) (HH.out.below (below_next HRB.out.2 hbW)) HIN.out q1 q2 qs).mono ?_
      rintro e w1 ⟨rfl, B, p, D, v, h2⟩
      have HB1 : Hid (Below w.heap.size w w1) := below_next (below_next HRB.out.2 hbW) h2.bel
      have H2 : Hid (Win2 W B k m (sameR r) (headOf hs) p D k v w1) := h2
      clear hbW q1 q2 qs h2 HRB hW
      have hmk0 := run_make_row' (P := Trym.prog) 31 23 (.slice none 0 0) 24 Trym.underlying31 Trym.info23 rfl .i64 .i64 m (by omega) (by omega)
      have hmk1 := run_make_row' (P := Trym.prog) 23 3 (.int .i64 0) 8 Trym.underlying23 Trym.info3 rfl .i64 .i64 m (by omega) (by omega)
      have hmk2 := run_make_row' (P := Trym.prog) 32 4 (.bool false) 1 Trym.underlying32 Trym.info4 rfl .i64 .i64 m (by omega) (by omega)
      obtain ⟨wo, rfl⟩ : ∃ wo : World, wo = wr := ⟨_, rfl⟩
      go_wp2
      go_loopw [28] (fun i wr => ∃ c : Nat, c ≤ m ∧ i = .int .i64 c ∧ Rows4 w1 m (fun j => laneOfV (v j)) c wr) (fun i _ => m - (intOf i).toNat)
      case atStart => exact ⟨0, Nat.zero_le _, rfl, rows4_start w1 m _⟩
      case round =>
        obtain ⟨c, hc, rfl, hinv⟩ := hrel
        have HI : Hid (Rows4 w1 m (fun j => laneOfV (v j)) c wr) := hinv
        clear hmk0 hmk1 hmk2
        by_cases hcm : c < m
        · obtain ⟨r0, r1, r2, r3, hbel⟩ := hinv
          obtain ⟨va, vl, vc, hv, -, -⟩ := win2_ints H2.out hcm
          obtain ⟨p1, p2, p3⟩ := H2.out.lane c hcm
          have hsz := H2.out.size
          have g0 : wr.cell? ⟨W.heap.size, c, none⟩ = some (.pointer (some ⟨p c, 0, none⟩)) := (hbel.cell (p := ⟨W.heap.size, c, none⟩) H2.out.row.lt).trans (H2.out.row.cell hcm)
          have hpb : wr.heap[p c]? = some (.cells #[.slice va vl vc, .int .i64 0, .int .i64 0, .bool false] 62) := by rw [hbel.block _ (by omega), p3, hv]
          have e0 : wr.cell? ⟨p c, 0, none⟩ = some (.slice va vl vc) := by simp [World.cell?, hpb]
          have e1 : wr.cell? ⟨p c, 1, none⟩ = some (.int .i64 0) := by simp [World.cell?, hpb]
          have e2 : wr.cell? ⟨p c, 2, none⟩ = some (.int .i64 0) := by simp [World.cell?, hpb]
          have e3 : wr.cell? ⟨p c, 3, none⟩ = some (.bool false) := by simp [World.cell?, hpb]
          have x0 := r0.cell hcm; have z0 := r0.frozen c
          have x1 := r1.cell hcm; have z1 := r1.frozen c
          have x2 := r2.cell hcm; have z2 := r2.frozen c
          have x3 := r3.cell hcm; have z3 := r3.frozen c
          rw [if_neg (Nat.lt_irrefl _)] at x0 x1 x2 x3
          have hWl : W.heap.size < w1.heap.size := H2.out.row.lt
          have HS : Hid (Rows4 w1 m (fun j => laneOfV (v j)) (c + 1) _) := rows4_step HI.out (fk := ⟨va, vl, vc, [], 0, 0, false⟩) (by rw [hv]; rfl)
          simp only at HS
          have hpl : p c < w1.heap.size := by omega
          clear r0 r1 r2 r3 hbel hpb hv p1 p2 p3
          generalize hpc : p c = pc at g0 e0 e1 e2 e3 hpl
          clear hpc
          go_wp2
          go_roundw
          case rel => exact ⟨c + 1, by omega, by go_num, HS.out⟩
          case measure => simp [intOf]; omega
        · obtain rfl : c = m := by omega
          clear hinv
          go_wp2
          refine bodyPost_ret (v := .tuple #[.slice (some ⟨w1.heap.size, 0, none⟩) c c, .slice (some ⟨w1.heap.size + 1, 0, none⟩) c c, .slice (some ⟨w1.heap.size + 2, 0, none⟩) c c, .slice (some ⟨w1.heap.size + 3, 0, none⟩) c c]) (by simp [results, Trym.results29, go_sem]) rfl ?_
          exact ⟨w1.heap.size, fun j => laneOfV (v j), rfl, got_mk HI.out H2.out HB1.out⟩
#print axioms zzlanes29
end Go.Proofs.Qxb6601498aMods

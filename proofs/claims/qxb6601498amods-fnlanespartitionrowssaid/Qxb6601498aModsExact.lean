/-
  The walk of FnLanesExact.
-/
import Derived.Test.Qxb6601498aModsLanes16
namespace Go.Proofs.Qxb6601498aMods
open Go.RowKit Go.Maps
set_option linter.unusedVariables false
attribute [local go_sem ↓] Go.wp_at_zero Go.wp_at_succ

theorem hidden {p : Prop} (h : p) : Hid p := h

theorem sameR_equiv (r : Nat → RowV) : Equiv3 (sameR r) where
  refl i := (sameA_iff _ _).2 ⟨rfl, rfl⟩
  symm i j h := by have := (sameA_iff _ _).1 h; exact (sameA_iff _ _).2 ⟨this.1.symm, this.2.symm⟩
  trans i j k h1 h2 := by
    have a := (sameA_iff _ _).1 h1
    have b := (sameA_iff _ _).1 h2
    exact (sameA_iff _ _).2 ⟨a.1.trans b.1, a.2.trans b.2⟩

/-- What the checking loops read: the rows, the heads, the four slices. -/
def Base (n m : Nat) (r : Nat → RowV) (hs : List Int) (ra ha : Option Addr) (G : Nat) (f : Nat → LaneV) (w : World) : Prop :=
  RowsAt w ra n r ∧ IntsAt w ha m hs ∧ w.rowIs G 23 m (fun j => .slice (f j).a (f j).l (f j).c) ∧ w.rowIs (G + 1) 3 m (fun _ => .int .i64 0) ∧ w.rowIs (G + 2) 3 m (fun _ => .int .i64 0) ∧ w.rowIs (G + 3) 4 m (fun _ => .bool false) ∧
  (∀ j, j < m → (f j).l = (laneL (sameR r) (headOf hs) m j n).length ∧ IntsAt w (f j).a (f j).l (laneInts (sameR r) (headOf hs) m j n))

theorem rowIs_below {w w' : World} {b t n : Nat} {F : Nat → Value} (h : w.rowIs b t n F) (hb : Below w.heap.size w w') : w'.rowIs b t n F := h.of_block (hb.block _ h.lt)

theorem Base.below {n m : Nat} {r : Nat → RowV} {hs : List Int} {ra ha : Option Addr} {G : Nat} {f : Nat → LaneV} {w w' : World} (h : Base n m r hs ra ha G f w) (hb : Below w.heap.size w w') : Base n m r hs ra ha G f w' := by
  obtain ⟨h0, h1, h2, h3, h4, h5, h6⟩ := h
  exact ⟨h0.below hb, h1.below hb, rowIs_below h2 hb, rowIs_below h3 hb, rowIs_below h4 hb, rowIs_below h5 hb, fun j hj => ⟨(h6 j hj).1, (h6 j hj).2.below hb⟩⟩

theorem head_at {n m : Nat} {hs : List Int} (h : InRange n m hs) {i : Nat} (hi : i < m) : hs.getD i 0 = (headOf hs i : Int) ∧ headOf hs i < n := by
  obtain ⟨h1, h2⟩ := h i hi
  unfold headOf
  omega

theorem same17b (i0 : ByteArray) (p0 : Int) (t0 g0 : ByteArray) (u0 : Bool) (i1 : ByteArray) (p1 : Int) (t1 g1 : ByteArray) (u1 : Bool) (b : Bool) (h : sameA ⟨i0, p0, t0, g0, u0⟩ ⟨i1, p1, t1, g1, u1⟩ = b) (w : World) :
    Calls Trym.prog 17 #[.agg #[.string i0, .int .i64 p0, .string t0, .string g0, .bool u0], .agg #[.string i1, .int .i64 p1, .string t1, .string g1, .bool u1]] w fun e w' => e = .returned (.bool b) ∧ Below w.heap.size w w' := by
  have := same17 i0 p0 t0 g0 u0 i1 p1 t1 g1 u1 w
  unfold sameA at h
  rw [h] at this
  exact this

theorem laneL_shadowed {r : Nat → RowV} {hd : Nat → Nat} {m i n : Nat} (hi : i < m) (h : shadowed (sameR r) hd m i = true) : laneL (sameR r) hd m i n = [] := by
  rw [List.eq_nil_iff_forall_not_mem]
  intro k hk
  have := (home_iff (sameR_equiv r) hi).1 (laneL_mem.1 hk).2
  rw [h] at this
  cases this.1

theorem home_of_same {r : Nat → RowV} {hd : Nat → Nat} {m i k : Nat} (hi : i < m) (h : shadowed (sameR r) hd m i = false) (hs : sameA (r k) (r (hd i)) = true) : homeOf (sameR r) hd m k = some i := (home_iff (sameR_equiv r) hi).2 ⟨h, hs⟩
theorem home_of_other {r : Nat → RowV} {hd : Nat → Nat} {m i k : Nat} (hi : i < m) (hs : sameA (r k) (r (hd i)) = false) : homeOf (sameR r) hd m k ≠ some i := fun e => by
  have := ((home_iff (sameR_equiv r) hi).1 e).2
  unfold sameR at this
  rw [hs] at this
  cases this

/-- What is read of lane i. -/
theorem lane_at {n m : Nat} {r : Nat → RowV} {hs : List Int} {i : Nat} {f : LaneV} {w : World} (h : f.l = (laneL (sameR r) (headOf hs) m i n).length ∧ IntsAt w f.a f.l (laneInts (sameR r) (headOf hs) m i n)) {k : Nat} (hk : k < n) (hh : homeOf (sameR r) (headOf hs) m k = some i) :
    ∃ b o, f.a = some ⟨b, o, none⟩ ∧ (laneL (sameR r) (headOf hs) m i k).length < f.l ∧ w.cell? ⟨b, o + (laneL (sameR r) (headOf hs) m i k).length, none⟩ = some (.int .i64 (k : Int)) := by
  obtain ⟨h1, h2, h3⟩ := h
  obtain ⟨q1, q2⟩ := laneL_at hk hh
  rcases h3 with h0 | ⟨b, o, e, _, hc⟩
  · omega
  · refine ⟨b, o, e, by omega, ?_⟩
    rw [hc _ (by omega)]
    have : (laneInts (sameR r) (headOf hs) m i n).getD (laneL (sameR r) (headOf hs) m i k).length 0 = (((laneL (sameR r) (headOf hs) m i n).getD (laneL (sameR r) (headOf hs) m i k).length 0 : Nat) : Int) := by
      unfold laneInts
      simp [List.getD, q1]
    rw [this, q2]

/-- The boxed row. -/
theorem box_facts {n m : Nat} {r : Nat → RowV} {hs : List Int} {ra ha : Option Addr} {G : Nat} {f : Nat → LaneV} {wo wx : World} (hB : Base n m r hs ra ha G f wo) (q : RowV) (h : wx = wo.alloc (.cells #[.string q.id, .int .i64 q.ps, .string q.ty, .string q.ag, .bool q.du] 36)) :
    Below wo.heap.size wo wx ∧ Base n m r hs ra ha G f wx ∧ RowCells wx wo.heap.size 0 q ∧ wo.heap.size < wx.heap.size := by
  have hb : Below wo.heap.size wo wx := by rw [h]; exact (Below.refl _ _).alloc (Nat.le_refl _) _
  refine ⟨hb, hB.below hb, ?_, by rw [h, Go.Deep.nblk_alloc]; omega⟩
  subst h
  refine ⟨?_, ?_, ?_, ?_, ?_⟩ <;> (rw [World.cell?_alloc_at _ _ _ _ rfl]; rfl)

theorem heads_rows {n m : Nat} {r : Nat → RowV} {hs : List Int} {rb roff hb hoff : Nat} {G : Nat} {f : Nat → LaneV} {w : World} (hB : Base n m r hs (some ⟨rb, roff, none⟩) (some ⟨hb, hoff, none⟩) G f w) (hin : InRange n m hs) {j : Nat} (hj : j < m) :
    w.cell? ⟨hb, hoff + j, none⟩ = some (.int .i64 (headOf hs j : Int)) ∧ headOf hs j < n ∧ RowCells w rb (roff + headOf hs j * 5) (r (headOf hs j)) ∧ rb < w.heap.size ∧ hb < w.heap.size := by
  obtain ⟨hq, hqn⟩ := head_at hin hj
  obtain ⟨hra, hha, _⟩ := hB
  obtain ⟨-, h0 | ⟨b, o, e, hbl, hbc⟩⟩ := hha
  · omega
  injection e with e
  injection e with e1 e2
  subst e1 e2
  obtain h0 | ⟨b, o, e, rbl, rc⟩ := hra
  · omega
  injection e with e
  injection e with e1 e2
  subst e1 e2
  exact ⟨by rw [hbc j hj, hq], hqn, rc _ hqn, rbl, hbl⟩

theorem row_at {n m : Nat} {r : Nat → RowV} {hs : List Int} {rb roff : Nat} {ha : Option Addr} {G : Nat} {f : Nat → LaneV} {w : World} (hB : Base n m r hs (some ⟨rb, roff, none⟩) ha G f w) {k : Nat} (hk : k < n) :
    RowCells w rb (roff + k * 5) (r k) ∧ rb < w.heap.size := by
  obtain ⟨hra, _⟩ := hB
  obtain h0 | ⟨b, o, e, rbl, rc⟩ := hra
  · omega
  injection e with e
  injection e with e1 e2
  subst e1 e2
  exact ⟨rc k hk, rbl⟩

set_option maxHeartbeats 8000000 in
set_option maxRecDepth 100000 in
theorem lanesExact_walk (after : Int) (a1 : Option Addr) (n c1 : Nat) (a2 : Option Addr) (m c2 : Nat) (a3 : Option Addr) (l c3 : Nat) (r : Nat → RowV) (hs zs : List Int) (w : World) (hn : n ≤ maxLen) (hm : m ≤ maxLen) (hl : l ≤ maxLen)
    (hsz : ∀ i, i < n → (r i).id.size ≤ maxLen ∧ (r i).ty.size ≤ maxLen ∧ (r i).ag.size ≤ maxLen) (hr : RowsAt w a1 n r) (hh : IntsAt w a2 m hs) (hz : IntsAt w a3 l zs) :
    Calls Trym.prog 3 #[.int .i64 after, .slice a1 n c1, .slice a2 m c2, .slice a3 l c3] w fun e w' => e = .returned (.bool true) ∧ Below w.heap.size w w' := by
  have HR : Hid (RowsAt w a1 n r) := hr
  have HH : Hid (IntsAt w a2 m hs) := hh
  have HZ : Hid (IntsAt w a3 l zs) := hz
  have HN : Hid (n ≤ maxLen ∧ m ≤ maxLen ∧ l ≤ maxLen ∧ ∀ i, i < n → (r i).id.size ≤ maxLen ∧ (r i).ty.size ≤ maxLen ∧ (r i).ag.size ≤ maxLen) := ⟨hn, hm, hl, hsz⟩
  clear hr hh hz hn hm hl hsz
  go_enter Trym.func3, Trym.ntmps3
  go_wp2_with fail
  refine (bytes10 after a1 n c1 a2 m c2 a3 l c3 r _ HN.out.1 HN.out.2.1 HN.out.2.2.1 HN.out.2.2.2 HR.out).mono ?_
  rintro e w' ⟨⟨b, rfl, hb⟩, hw⟩
  obtain rfl : w = w' := hw.symm
  clear hw
  cases b with
  | false =>
    go_wp2
    go_ret
    exact ⟨rfl, Below.refl _ _⟩
  | true =>
    obtain ⟨-, -, -, hfit⟩ := hb rfl
    have HFIT : Hid (∀ i, i < n → (r i).id.size ≤ 1048576 ∧ (r i).ty.size ≤ 1048576 ∧ (r i).ag.size ≤ 1048576) := hfit
    have HSM : Hid (∀ i, i < n → (r i).small) := fun i hi => by have := hfit i hi; exact ⟨by unfold maxLen; omega, by unfold maxLen; omega⟩
    clear hb hfit HN
    by_cases hn : n ≤ 4096
    · by_cases hm : m ≤ 4096
      · by_cases hl : l ≤ 65536
        · go_wp2_with fail
          refine (fit11 a1 n c1 a2 m c2 a3 l c3 r _ hn hm hl HFIT.out HR.out).mono ?_
          rintro e w' ⟨⟨b, rfl, -⟩, hw⟩
          obtain rfl : w = w' := hw.symm
          clear hw HFIT
          cases b with
          | false =>
            go_wp2
            go_ret
            exact ⟨rfl, Below.refl _ _⟩
          | true =>
            go_wp2_with fail
            refine (heads12 a1 n c1 a2 m c2 hs _ hn hm HH.out).mono ?_
            rintro e w' ⟨⟨b, rfl, hb⟩, hw⟩
            obtain rfl : w = w' := hw.symm
            clear hw
            cases b with
            | false =>
              go_wp2
              go_ret
              exact ⟨rfl, Below.refl _ _⟩
            | true =>
              have HIN : Hid (InRange n m hs) := hb rfl
              clear hb
              go_wp2_with fail
              refine (cloneRows13 a1 n c1 r _ hn HR.out).mono ?_
              rintro e w1 ⟨ra, rc, rfl, hr1, hb1⟩
              have HB1 : Hid (Below w.heap.size w w1 ∧ RowsAt w1 ra n r) := ⟨hb1, hr1⟩
              clear hr1 hb1 HR
              go_wp2_with fail
              refine (clone14 a2 m c2 hs _ (HH.out.below HB1.out.1) (by omega)).mono ?_
              rintro e w2 ⟨ha, hc, rfl, hh2, hb2⟩
              have HB2 : Hid (Below w.heap.size w w2 ∧ RowsAt w2 ra n r ∧ IntsAt w2 ha m hs) := ⟨below_next HB1.out.1 hb2, HB1.out.2.below hb2, hh2⟩
              clear hh2 hb2 HH HB1
              go_wp2_with fail
              refine (clone15 a3 l c3 zs _ (HZ.out.below HB2.out.1) (by omega)).mono ?_
              rintro e w3 ⟨la, lc, rfl, -, hb3⟩
              have HB3 : Hid (Below w.heap.size w w3 ∧ RowsAt w3 ra n r ∧ IntsAt w3 ha m hs) := ⟨below_next HB2.out.1 hb3, HB2.out.2.1.below hb3, HB2.out.2.2.below hb3⟩
              clear hb3 HZ HB2
              go_wp2_with fail
              refine (lanes16 after ra n rc ha m hc la l lc r hs _ hn hm HSM.out HB3.out.2.1 HB3.out.2.2 HIN.out).mono ?_
              rintro e w4 ⟨G, f, rfl, g0, g1, g2, g3, g4, gb⟩
              have HB4 : Hid (Below w.heap.size w w4 ∧ Base n m r hs ra ha G f w4) := ⟨below_next HB3.out.1 gb, HB3.out.2.1.below gb, HB3.out.2.2.below gb, g0, g1, g2, g3, g4⟩
              clear g0 g1 g2 g3 g4 gb HB3 HSM
              go_wp2
              go_loopw [13] (fun s13 wr => ∃ i : Nat, i ≤ m ∧ s13 = .int .i64 i ∧ Hid (Below w4.heap.size w4 wr)) (fun i _ => m - (intOf i).toNat)
              case atStart => exact ⟨0, Nat.zero_le _, rfl, Below.refl _ _⟩
              case round =>
                obtain ⟨i, hi, rfl, HBR⟩ := hrel
                obtain ⟨wo, rfl⟩ : ∃ wo : World, wo = wr := ⟨_, rfl⟩
                by_cases him : i < m
                · have HBO : Hid (Base n m r hs ra ha G f wo) := HB4.out.2.below HBR.out
                  obtain ⟨hra, hha, x0, x1, x2, x3, x4⟩ := HBO.out
                  obtain ⟨-, h0 | ⟨hb, hoff, rfl, hbl, hbc⟩⟩ := hha
                  · omega
                  obtain ⟨hq, hqn⟩ := head_at HIN.out him
                  obtain h0 | ⟨rb, roff, rfl, rbl, rc5⟩ := hra
                  · omega
                  have hcell := hbc i him
                  rw [hq] at hcell
                  obtain ⟨q, hqq⟩ : ∃ q, headOf hs i = q := ⟨_, rfl⟩
                  rw [hqq] at hcell hqn
                  obtain ⟨d0, d1, d2, d3, d4⟩ := rc5 q hqn
                  have y1 := x1.cell him
                  have y2 := x2.cell him
                  have y3 := x3.cell him
                  obtain ⟨rq, hrq⟩ : ∃ rq, r q = rq := ⟨_, rfl⟩
                  rw [hrq] at d0 d1 d2 d3 d4
                  have HQ : Hid (headOf hs i = q ∧ r q = rq) := ⟨hqq, hrq⟩
                  clear hbc hbl rbl rc5 x0 x1 x2 x3 x4 hq hqq hrq
                  obtain ⟨id, ps, ty, ag, du⟩ := rq
                  simp only at d0 d1 d2 d3 d4
                  cases hsb : shadowed (sameR r) (headOf hs) m i with
                  | false =>
                    have HSB : Hid (shadowed (sameR r) (headOf hs) m i = false) := hsb
                    clear hsb
                    go_wp2
                    obtain ⟨wx, hwx⟩ : ∃ wx : World, wx = wo.alloc (.cells #[.string id, .int .i64 ps, .string ty, .string ag, .bool du] 36) := ⟨_, rfl⟩
                    rw [← hwx]
                    have HX := hidden (box_facts HBO.out ⟨id, ps, ty, ag, du⟩ hwx)
                    clear hwx d0 d1 d2 d3 d4 y1 y2 y3 hcell
                    go_loopw [15, 16] (fun s15 s16 wr => ∃ j : Nat, i + 1 ≤ j ∧ j ≤ m ∧ s15 = .bool false ∧ s16 = .int .i64 j ∧ Hid (Below wx.heap.size wx wr)) (fun _ j _ => m - (intOf j).toNat)
                    case atStart => exact ⟨i + 1, Nat.le_refl _, by omega, rfl, by go_num, Below.refl _ _⟩
                    case round =>
                      obtain ⟨j, hj1, hj2, rfl, rfl, HBI⟩ := hrel
                      by_cases hjm : j < m
                      · obtain ⟨hc, hqn2, hrc, rbl, hbl⟩ := heads_rows (HX.out.2.1.below HBI.out) HIN.out hjm
                        have hxc := HX.out.2.2.1.below HBI.out HX.out.2.2.2
                        have hsame : sameA (r (headOf hs j)) (r (headOf hs i)) = false := by
                          cases hh : sameA (r (headOf hs j)) (r (headOf hs i)) with
                          | false => rfl
                          | true =>
                            have := (shadowed_true (S := sameR r) (h := headOf hs) (m := m) (i := i)).2 ⟨j, hj1, hjm, hh⟩
                            rw [HSB.out] at this
                            cases this
                        rw [HQ.out.1, HQ.out.2] at hsame
                        obtain ⟨q2, hq2⟩ : ∃ q2, headOf hs j = q2 := ⟨_, rfl⟩
                        rw [hq2] at hc hqn2 hrc hsame
                        clear hq2
                        obtain ⟨rq2, hrq2⟩ : ∃ rq2, r q2 = rq2 := ⟨_, rfl⟩
                        rw [hrq2] at hrc hsame
                        clear hrq2
                        obtain ⟨id2, ps2, ty2, ag2, du2⟩ := rq2
                        have HCALL := hidden (same17b id2 ps2 ty2 ag2 du2 id ps ty ag du false hsame)
                        have HF := hidden (And.intro hc (And.intro hrc (And.intro hxc (And.intro rbl (And.intro hbl (Nat.lt_of_lt_of_le HX.out.2.2.2 HBI.out.size))))))
                        obtain ⟨e0, e1, e2, e3, e4⟩ := hrc
                        obtain ⟨g0, g1, g2, g3, g4⟩ := hxc
                        simp only [Nat.zero_add] at e0 e1 e2 e3 e4 g0 g1 g2 g3 g4
                        clear hsame rbl hbl
                        have k0 : (0 : Int) ≤ (j : Int) := by omega
                        have k1 : (j : Int) < (m : Int) := by omega
                        have k2 : (0 : Int) ≤ (q2 : Int) := by omega
                        have k3 : (q2 : Int) < (n : Int) := by omega
                        go_wp2
                        go_region_held3 (fun w' => w'.cell? ⟨hb, hoff + j, none⟩ = some (.int .i64 (q2 : Int)) ∧ w'.cell? ⟨rb, roff + q2 * 5, none⟩ = some (.string id2) ∧ w'.cell? ⟨rb, roff + q2 * 5 + 1, none⟩ = some (.int .i64 ps2) ∧ w'.cell? ⟨rb, roff + q2 * 5 + 2, none⟩ = some (.string ty2) ∧ w'.cell? ⟨rb, roff + q2 * 5 + 3, none⟩ = some (.string ag2) ∧ w'.cell? ⟨rb, roff + q2 * 5 + 4, none⟩ = some (.bool du2) ∧
            w'.cell? ⟨wo.heap.size, 0, none⟩ = some (.string id) ∧ w'.cell? ⟨wo.heap.size, 1, none⟩ = some (.int .i64 ps) ∧ w'.cell? ⟨wo.heap.size, 2, none⟩ = some (.string ty) ∧ w'.cell? ⟨wo.heap.size, 3, none⟩ = some (.string ag) ∧ w'.cell? ⟨wo.heap.size, 4, none⟩ = some (.bool du))
                          (((try dsimp only); (repeat' apply And.intro)) <;> (first | assumption | (go_keep; done)))
                          ((go_at_call 17; refine (HCALL.out _).mono ?_; rintro e w' ⟨rfl, hbc⟩; have hbd := below_of_drew hbc; obtain ⟨m0, m1, m2, m3, m4⟩ := RowCells.below HF.out.2.1 hbd HF.out.2.2.2.1; obtain ⟨v0, v1, v2, v3, v4⟩ := RowCells.below HF.out.2.2.1 hbd HF.out.2.2.2.2.2; have hk := (hbd.cell (p := ⟨hb, hoff + j, none⟩) HF.out.2.2.2.2.1).trans HF.out.1))
                        have HBN := hidden (below_next HBI.out hbd)
                        clear hbd hbc m0 m1 m2 m3 m4 v0 v1 v2 v3 v4 hk e0 e1 e2 e3 e4 g0 g1 g2 g3 g4 hc
                        go_wp2
                        go_roundw
                        case rel => exact ⟨j + 1, by omega, by omega, rfl, by go_num, HBN.out⟩
                        case measure => simp [intOf]; omega
                      · clear hj1
                        go_wp2
                        obtain ⟨wp, rfl⟩ : ∃ wp : World, wp = wr := ⟨_, rfl⟩
                        go_loopw [17, 18] (fun s17 s18 wr => ∃ k : Nat, k ≤ n ∧ s17 = .int .i64 ((laneL (sameR r) (headOf hs) m i k).length : Nat) ∧ s18 = .int .i64 k ∧ Hid (Below wx.heap.size wx wr)) (fun _ k _ => n - (intOf k).toNat)
                        case atStart => exact ⟨0, Nat.zero_le _, rfl, rfl, HBI⟩
                        case round =>
                          obtain ⟨k, hk, rfl, rfl, HBK⟩ := hrel
                          have HBB := hidden (HX.out.2.1.below HBK.out)
                          have hlen := laneL_len (sameR r) (headOf hs) m i k
                          obtain ⟨pl, hpl⟩ : ∃ pl, (laneL (sameR r) (headOf hs) m i k).length = pl := ⟨_, rfl⟩
                          rw [hpl] at hlen
                          rw [hpl]
                          have HPL := hidden hpl
                          clear hpl
                          have hgi := HBB.out.2.2.1.cell him
                          obtain ⟨fi, hfi⟩ : ∃ fi, f i = fi := ⟨_, rfl⟩
                          have hlane := HBB.out.2.2.2.2.2.2 i him
                          rw [hfi] at hgi hlane
                          clear hfi
                          have HLN := hidden hlane
                          clear hlane
                          by_cases hkn : k < n
                          · obtain ⟨hrc, rbl⟩ := row_at HBB.out hkn
                            have hxc := HX.out.2.2.1.below HBK.out HX.out.2.2.2
                            have gl := HBB.out.2.2.1.lt
                            cases hsame : sameA (r k) (r (headOf hs i)) with
                            | true =>
                              have HH2 := hidden (home_of_same him HSB.out hsame)
                              rw [HQ.out.1, HQ.out.2] at hsame
                              obtain ⟨lb, lo, hfa, hpf, hlc⟩ := lane_at HLN.out hkn HH2.out
                              rw [HPL.out] at hpf hlc
                              have lbl := World.block_lt_of_cell? _ _ hlc
                              obtain ⟨fa, fl, fc, fz, fn, ft, fd⟩ := fi
                              simp only at hgi hfa hpf
                              subst hfa
                              obtain ⟨rk, hrk⟩ : ∃ rk, r k = rk := ⟨_, rfl⟩
                              rw [hrk] at hrc hsame
                              clear hrk
                              obtain ⟨id2, ps2, ty2, ag2, du2⟩ := rk
                              have HCALL := hidden (same17b id2 ps2 ty2 ag2 du2 id ps ty ag du true hsame)
                              have HF := hidden (And.intro hgi (And.intro hrc (And.intro hxc (And.intro rbl (And.intro gl (And.intro (Nat.lt_of_lt_of_le HX.out.2.2.2 HBK.out.size) (And.intro hlc lbl)))))))
                              obtain ⟨e0, e1, e2, e3, e4⟩ := hrc
                              obtain ⟨g0, g1, g2, g3, g4⟩ := hxc
                              simp only [Nat.zero_add] at e0 e1 e2 e3 e4 g0 g1 g2 g3 g4
                              clear hsame rbl gl lbl hgi hlc
                              have k0 : (0 : Int) ≤ (k : Int) := by omega
                              have k1 : (k : Int) < (n : Int) := by omega
                              go_wp2
                              go_region_held3 (fun w' => w'.cell? ⟨rb, roff + k * 5, none⟩ = some (.string id2) ∧ w'.cell? ⟨rb, roff + k * 5 + 1, none⟩ = some (.int .i64 ps2) ∧ w'.cell? ⟨rb, roff + k * 5 + 2, none⟩ = some (.string ty2) ∧ w'.cell? ⟨rb, roff + k * 5 + 3, none⟩ = some (.string ag2) ∧ w'.cell? ⟨rb, roff + k * 5 + 4, none⟩ = some (.bool du2) ∧
            w'.cell? ⟨wo.heap.size, 0, none⟩ = some (.string id) ∧ w'.cell? ⟨wo.heap.size, 1, none⟩ = some (.int .i64 ps) ∧ w'.cell? ⟨wo.heap.size, 2, none⟩ = some (.string ty) ∧ w'.cell? ⟨wo.heap.size, 3, none⟩ = some (.string ag) ∧ w'.cell? ⟨wo.heap.size, 4, none⟩ = some (.bool du))
                                (((try dsimp only); (repeat' apply And.intro)) <;> (first | assumption | (go_keep; done)))
                                ((go_at_call 17; refine (HCALL.out _).mono ?_; rintro e w' ⟨rfl, hbc⟩; have hbd := below_of_drew hbc; obtain ⟨m0, m1, m2, m3, m4⟩ := RowCells.below HF.out.2.1 hbd HF.out.2.2.2.1; obtain ⟨v0, v1, v2, v3, v4⟩ := RowCells.below HF.out.2.2.1 hbd HF.out.2.2.2.2.2.1))
                              have hgi2 := (hbd.cell (p := ⟨G, i, none⟩) HF.out.2.2.2.2.1).trans HF.out.1
                              have hlc2 := (hbd.cell (p := ⟨lb, lo + pl, none⟩) HF.out.2.2.2.2.2.2.2).trans HF.out.2.2.2.2.2.2.1
                              have HBN := hidden (below_next HBK.out hbd)
                              clear hbd hbc m0 m1 m2 m3 m4 v0 v1 v2 v3 v4 e0 e1 e2 e3 e4 g0 g1 g2 g3 g4
                              go_wp2
                              go_roundw
                              case rel => exact ⟨k + 1, by omega, by rw [laneL_hit HH2.out, List.length_append, HPL.out]; go_num, by go_num, HBN.out⟩
                              case measure => simp [intOf]; omega
                            | false =>
                              have HH2 := hidden (home_of_other him hsame)
                              rw [HQ.out.1, HQ.out.2] at hsame
                              obtain ⟨rk, hrk⟩ : ∃ rk, r k = rk := ⟨_, rfl⟩
                              rw [hrk] at hrc hsame
                              clear hrk
                              obtain ⟨id2, ps2, ty2, ag2, du2⟩ := rk
                              have HCALL := hidden (same17b id2 ps2 ty2 ag2 du2 id ps ty ag du false hsame)
                              have HF := hidden (And.intro hrc (And.intro hxc (And.intro rbl (Nat.lt_of_lt_of_le HX.out.2.2.2 HBK.out.size))))
                              obtain ⟨e0, e1, e2, e3, e4⟩ := hrc
                              obtain ⟨g0, g1, g2, g3, g4⟩ := hxc
                              simp only [Nat.zero_add] at e0 e1 e2 e3 e4 g0 g1 g2 g3 g4
                              clear hsame rbl gl hgi
                              have k0 : (0 : Int) ≤ (k : Int) := by omega
                              have k1 : (k : Int) < (n : Int) := by omega
                              go_wp2
                              go_region_held3 (fun w' => w'.cell? ⟨rb, roff + k * 5, none⟩ = some (.string id2) ∧ w'.cell? ⟨rb, roff + k * 5 + 1, none⟩ = some (.int .i64 ps2) ∧ w'.cell? ⟨rb, roff + k * 5 + 2, none⟩ = some (.string ty2) ∧ w'.cell? ⟨rb, roff + k * 5 + 3, none⟩ = some (.string ag2) ∧ w'.cell? ⟨rb, roff + k * 5 + 4, none⟩ = some (.bool du2) ∧
            w'.cell? ⟨wo.heap.size, 0, none⟩ = some (.string id) ∧ w'.cell? ⟨wo.heap.size, 1, none⟩ = some (.int .i64 ps) ∧ w'.cell? ⟨wo.heap.size, 2, none⟩ = some (.string ty) ∧ w'.cell? ⟨wo.heap.size, 3, none⟩ = some (.string ag) ∧ w'.cell? ⟨wo.heap.size, 4, none⟩ = some (.bool du))
                                (((try dsimp only); (repeat' apply And.intro)) <;> (first | assumption | (go_keep; done)))
                                ((go_at_call 17; refine (HCALL.out _).mono ?_; rintro e w' ⟨rfl, hbc⟩; have hbd := below_of_drew hbc; obtain ⟨m0, m1, m2, m3, m4⟩ := RowCells.below HF.out.1 hbd HF.out.2.2.1; obtain ⟨v0, v1, v2, v3, v4⟩ := RowCells.below HF.out.2.1 hbd HF.out.2.2.2))
                              have HBN := hidden (below_next HBK.out hbd)
                              clear hbd hbc m0 m1 m2 m3 m4 v0 v1 v2 v3 v4 e0 e1 e2 e3 e4 g0 g1 g2 g3 g4
                              go_wp2
                              go_roundw
                              case rel => exact ⟨k + 1, by omega, by rw [laneL_miss HH2.out, HPL.out], by go_num, HBN.out⟩
                              case measure => simp [intOf]; omega
                          · have hfl : fi.l = pl := by
                              have h1 := HLN.out.1
                              have h2 := HPL.out
                              rw [show k = n by omega] at h2
                              omega
                            rw [hfl] at hgi
                            clear hfl
                            go_wp2
                            go_roundw
                            case rel => exact ⟨i + 1, by omega, by go_num, below_next (below_next HBR.out HX.out.1) HBK.out⟩
                            case measure => simp [intOf]; omega
                  | true =>
                    have HSB : Hid (shadowed (sameR r) (headOf hs) m i = true) := hsb
                    clear hsb
                    go_wp2
                    obtain ⟨wx, hwx⟩ : ∃ wx : World, wx = wo.alloc (.cells #[.string id, .int .i64 ps, .string ty, .string ag, .bool du] 36) := ⟨_, rfl⟩
                    rw [← hwx]
                    have HX := hidden (box_facts HBO.out ⟨id, ps, ty, ag, du⟩ hwx)
                    clear hwx d0 d1 d2 d3 d4 y1 y2 y3 hcell
                    go_loopw [15, 16] (fun s15 s16 wr => ∃ j : Nat, i + 1 ≤ j ∧ j ≤ m ∧ s15 = .bool false ∧ s16 = .int .i64 j ∧ Hid (Below wx.heap.size wx wr) ∧ Hid (∀ t, i < t → t < j → sameA (r (headOf hs t)) (r (headOf hs i)) = false)) (fun _ j _ => m - (intOf j).toNat)
                    case atStart => exact ⟨i + 1, Nat.le_refl _, by omega, rfl, by go_num, Below.refl _ _, fun t h1 h2 => by omega⟩
                    case round =>
                      obtain ⟨j, hj1, hj2, rfl, rfl, HBI, HNO⟩ := hrel
                      by_cases hjm : j < m
                      · obtain ⟨hc, hqn2, hrc, rbl, hbl⟩ := heads_rows (HX.out.2.1.below HBI.out) HIN.out hjm
                        have hxc := HX.out.2.2.1.below HBI.out HX.out.2.2.2
                        cases hsame : sameA (r (headOf hs j)) (r (headOf hs i)) with
                        | false =>
                          have HN2 := hidden hsame
                          rw [HQ.out.1, HQ.out.2] at hsame
                          obtain ⟨q2, hq2⟩ : ∃ q2, headOf hs j = q2 := ⟨_, rfl⟩
                          rw [hq2] at hc hqn2 hrc hsame
                          clear hq2
                          obtain ⟨rq2, hrq2⟩ : ∃ rq2, r q2 = rq2 := ⟨_, rfl⟩
                          rw [hrq2] at hrc hsame
                          clear hrq2
                          obtain ⟨id2, ps2, ty2, ag2, du2⟩ := rq2
                          have HCALL := hidden (same17b id2 ps2 ty2 ag2 du2 id ps ty ag du false hsame)
                          have HF := hidden (And.intro hc (And.intro hrc (And.intro hxc (And.intro rbl (And.intro hbl (Nat.lt_of_lt_of_le HX.out.2.2.2 HBI.out.size))))))
                          obtain ⟨e0, e1, e2, e3, e4⟩ := hrc
                          obtain ⟨g0, g1, g2, g3, g4⟩ := hxc
                          simp only [Nat.zero_add] at e0 e1 e2 e3 e4 g0 g1 g2 g3 g4
                          clear hsame rbl hbl
                          have k0 : (0 : Int) ≤ (j : Int) := by omega
                          have k1 : (j : Int) < (m : Int) := by omega
                          have k2 : (0 : Int) ≤ (q2 : Int) := by omega
                          have k3 : (q2 : Int) < (n : Int) := by omega
                          go_wp2
                          go_region_held3 (fun w' => w'.cell? ⟨hb, hoff + j, none⟩ = some (.int .i64 (q2 : Int)) ∧ w'.cell? ⟨rb, roff + q2 * 5, none⟩ = some (.string id2) ∧ w'.cell? ⟨rb, roff + q2 * 5 + 1, none⟩ = some (.int .i64 ps2) ∧ w'.cell? ⟨rb, roff + q2 * 5 + 2, none⟩ = some (.string ty2) ∧ w'.cell? ⟨rb, roff + q2 * 5 + 3, none⟩ = some (.string ag2) ∧ w'.cell? ⟨rb, roff + q2 * 5 + 4, none⟩ = some (.bool du2) ∧
              w'.cell? ⟨wo.heap.size, 0, none⟩ = some (.string id) ∧ w'.cell? ⟨wo.heap.size, 1, none⟩ = some (.int .i64 ps) ∧ w'.cell? ⟨wo.heap.size, 2, none⟩ = some (.string ty) ∧ w'.cell? ⟨wo.heap.size, 3, none⟩ = some (.string ag) ∧ w'.cell? ⟨wo.heap.size, 4, none⟩ = some (.bool du))
                            (((try dsimp only); (repeat' apply And.intro)) <;> (first | assumption | (go_keep; done)))
                            ((go_at_call 17; refine (HCALL.out _).mono ?_; rintro e w' ⟨rfl, hbc⟩; have hbd := below_of_drew hbc; obtain ⟨m0, m1, m2, m3, m4⟩ := RowCells.below HF.out.2.1 hbd HF.out.2.2.2.1; obtain ⟨v0, v1, v2, v3, v4⟩ := RowCells.below HF.out.2.2.1 hbd HF.out.2.2.2.2.2; have hk := (hbd.cell (p := ⟨hb, hoff + j, none⟩) HF.out.2.2.2.2.1).trans HF.out.1))
                          have HBN := hidden (below_next HBI.out hbd)
                          clear hbd hbc m0 m1 m2 m3 m4 v0 v1 v2 v3 v4 hk e0 e1 e2 e3 e4 g0 g1 g2 g3 g4 hc
                          go_wp2
                          go_roundw
                          case rel =>
                            refine ⟨j + 1, by omega, by omega, rfl, by go_num, HBN.out, fun t h1 h2 => ?_⟩
                            rcases Nat.lt_succ_iff_lt_or_eq.1 h2 with h | rfl
                            · exact HNO.out t h1 h
                            · exact HN2.out
                          case measure => simp [intOf]; omega
                        | true =>
                          rw [HQ.out.1, HQ.out.2] at hsame
                          obtain ⟨q2, hq2⟩ : ∃ q2, headOf hs j = q2 := ⟨_, rfl⟩
                          rw [hq2] at hc hqn2 hrc hsame
                          clear hq2
                          obtain ⟨rq2, hrq2⟩ : ∃ rq2, r q2 = rq2 := ⟨_, rfl⟩
                          rw [hrq2] at hrc hsame
                          clear hrq2
                          obtain ⟨id2, ps2, ty2, ag2, du2⟩ := rq2
                          have HCALL := hidden (same17b id2 ps2 ty2 ag2 du2 id ps ty ag du true hsame)
                          have HF := hidden (And.intro hc (And.intro hrc (And.intro hxc (And.intro rbl (And.intro hbl (Nat.lt_of_lt_of_le HX.out.2.2.2 HBI.out.size))))))
                          obtain ⟨e0, e1, e2, e3, e4⟩ := hrc
                          obtain ⟨g0, g1, g2, g3, g4⟩ := hxc
                          simp only [Nat.zero_add] at e0 e1 e2 e3 e4 g0 g1 g2 g3 g4
                          clear hsame rbl hbl
                          have k0 : (0 : Int) ≤ (j : Int) := by omega
                          have k1 : (j : Int) < (m : Int) := by omega
                          have k2 : (0 : Int) ≤ (q2 : Int) := by omega
                          have k3 : (q2 : Int) < (n : Int) := by omega
                          go_wp2
                          go_region_held3 (fun w' => w'.cell? ⟨hb, hoff + j, none⟩ = some (.int .i64 (q2 : Int)) ∧ w'.cell? ⟨rb, roff + q2 * 5, none⟩ = some (.string id2) ∧ w'.cell? ⟨rb, roff + q2 * 5 + 1, none⟩ = some (.int .i64 ps2) ∧ w'.cell? ⟨rb, roff + q2 * 5 + 2, none⟩ = some (.string ty2) ∧ w'.cell? ⟨rb, roff + q2 * 5 + 3, none⟩ = some (.string ag2) ∧ w'.cell? ⟨rb, roff + q2 * 5 + 4, none⟩ = some (.bool du2) ∧
              w'.cell? ⟨wo.heap.size, 0, none⟩ = some (.string id) ∧ w'.cell? ⟨wo.heap.size, 1, none⟩ = some (.int .i64 ps) ∧ w'.cell? ⟨wo.heap.size, 2, none⟩ = some (.string ty) ∧ w'.cell? ⟨wo.heap.size, 3, none⟩ = some (.string ag) ∧ w'.cell? ⟨wo.heap.size, 4, none⟩ = some (.bool du))
                            (((try dsimp only); (repeat' apply And.intro)) <;> (first | assumption | (go_keep; done)))
                            ((go_at_call 17; refine (HCALL.out _).mono ?_; rintro e w' ⟨rfl, hbc⟩; have hbd := below_of_drew hbc; obtain ⟨m0, m1, m2, m3, m4⟩ := RowCells.below HF.out.2.1 hbd HF.out.2.2.2.1; obtain ⟨v0, v1, v2, v3, v4⟩ := RowCells.below HF.out.2.2.1 hbd HF.out.2.2.2.2.2; have hk := (hbd.cell (p := ⟨hb, hoff + j, none⟩) HF.out.2.2.2.2.1).trans HF.out.1))
                          have HBN := hidden (below_next HBI.out hbd)
                          clear hbd hbc m0 m1 m2 m3 m4 v0 v1 v2 v3 v4 hk e0 e1 e2 e3 e4 g0 g1 g2 g3 g4 hc
                          go_wp2
                          obtain ⟨wp, rfl⟩ : ∃ wp : World, wp = wr := ⟨_, rfl⟩
                          go_loopw [17, 18] (fun s17 s18 wr => ∃ k : Nat, k ≤ n ∧ s17 = .int .i64 0 ∧ s18 = .int .i64 k ∧ Hid (Below wx.heap.size wx wr)) (fun _ k _ => n - (intOf k).toNat)
                          case atStart => exact ⟨0, Nat.zero_le _, rfl, rfl, HBN⟩
                          case round =>
                            obtain ⟨k, hk, rfl, rfl, HBK⟩ := hrel
                            by_cases hkn : k < n
                            · go_wp2
                              go_quiet (fail)
                              go_wp2
                              go_roundw
                              case rel => exact ⟨k + 1, by omega, rfl, by go_num, HBK.out.trans (below_drewN _ _ _)⟩
                              case measure => simp [intOf]; omega
                            · have HBB := hidden (HX.out.2.1.below HBK.out)
                              have hgi := HBB.out.2.2.1.cell him
                              have hfl : (f i).l = 0 := by rw [(HBB.out.2.2.2.2.2.2 i him).1, laneL_shadowed him HSB.out]; rfl
                              rw [hfl] at hgi
                              clear hfl
                              go_wp2
                              go_roundw
                              case rel => exact ⟨i + 1, by omega, by go_num, below_next (below_next HBR.out HX.out.1) HBK.out⟩
                              case measure => simp [intOf]; omega
                      · exfalso
                        obtain ⟨t, t1, t2, t3⟩ := (shadowed_true (S := sameR r) (h := headOf hs) (m := m) (i := i)).1 HSB.out
                        have := HNO.out t t1 (by omega)
                        unfold sameR at t3
                        rw [this] at t3
                        cases t3
                · go_wp2
                  go_ret
                  exact ⟨rfl, HB4.out.1.trans (HBR.out.mono HB4.out.1.size)⟩
        · go_wp2
          go_ret
          exact ⟨rfl, Below.refl _ _⟩
      · go_wp2
        go_ret
        exact ⟨rfl, Below.refl _ _⟩
    · go_wp2
      go_ret
      exact ⟨rfl, Below.refl _ _⟩
#print axioms lanesExact_walk
end Go.Proofs.Qxb6601498aMods

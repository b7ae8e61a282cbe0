/-
  The walk of FnLanesPartitionRows.
-/
import Derived.Test.Qxb6601498aModsExact
import Derived.Test.Qxb6601498aModsMark
namespace Go.Proofs.Qxb6601498aMods
open Go.RowKit Go.Maps
set_option linter.unusedVariables false
attribute [local go_sem ↓] Go.wp_at_zero Go.wp_at_succ

/-- The marks in memory. -/
def Marks (w4 : World) (n m : Nat) (r : Nat → RowV) (hs : List Int) (i p : Nat) (wr : World) : Prop :=
  wr.rowIs w4.heap.size 3 n (fun k => .int .i64 (if markB (sameR r) (headOf hs) m n i p k then 1 else 0)) ∧ Below w4.heap.size w4 wr

theorem marks_start (w4 : World) (n m : Nat) (r : Nat → RowV) (hs : List Int) : Marks w4 n m r hs 0 0 (w4.alloc (.cells (madeCells #[.int .i64 0] n) 3)) :=
  ⟨(World.rowIs_made w4 (.int .i64 0) n 3).congr fun k _ => by rw [mark_zero]; rfl, (Below.refl _ _).alloc (Nat.le_refl _) _⟩

theorem Marks.below {w4 : World} {n m : Nat} {r : Nat → RowV} {hs : List Int} {i p : Nat} {wr w' : World} (h : Marks w4 n m r hs i p wr) (hb : Below wr.heap.size wr w') : Marks w4 n m r hs i p w' :=
  ⟨rowIs_below h.1 hb, h.2.trans (hb.mono h.2.size)⟩

theorem Marks.next {w4 : World} {n m : Nat} {r : Nat → RowV} {hs : List Int} {i p : Nat} {wr : World} (h : Marks w4 n m r hs i p wr) (hp : (laneL (sameR r) (headOf hs) m i n).length ≤ p) : Marks w4 n m r hs (i + 1) 0 wr :=
  ⟨h.1.congr fun k hk => by rw [mark_next _ _ _ _ _ _ hk hp], h.2⟩

theorem Marks.set {w4 : World} {n m : Nat} {r : Nat → RowV} {hs : List Int} {i p : Nat} {wr : World} (h : Marks w4 n m r hs i p wr) (hp : p < (laneL (sameR r) (headOf hs) m i n).length) {kk : Nat} (hk : (laneL (sameR r) (headOf hs) m i n).getD p 0 = kk) : Marks w4 n m r hs i (p + 1) (wr.setCell ⟨w4.heap.size, kk, none⟩ (.int .i64 1)) := by
  refine ⟨(h.1.set kk (.int .i64 1)).congr fun k _ => ?_, h.2.setCell (p := ⟨w4.heap.size, kk, none⟩) (Nat.le_refl _) _⟩
  rw [mark_set _ _ _ _ _ _ _ hp, hk]
  by_cases e : k = kk
  · rw [if_pos e, if_pos e]; rfl
  · rw [if_neg e, if_neg e]

theorem lane_get {n m : Nat} {r : Nat → RowV} {hs : List Int} {i : Nat} {a : Option Addr} {l : Nat} {w : World} (h1 : l = (laneL (sameR r) (headOf hs) m i n).length) (h2 : IntsAt w a l (laneInts (sameR r) (headOf hs) m i n)) (hl : 0 < l) :
    ∃ b o, a = some ⟨b, o, none⟩ ∧ b < w.heap.size ∧ ∀ t, t < l → w.cell? ⟨b, o + t, none⟩ = some (.int .i64 (((laneL (sameR r) (headOf hs) m i n).getD t 0 : Nat) : Int)) := by
  obtain ⟨_, h0 | ⟨b, o, e, hlt, hc⟩⟩ := h2
  · omega
  refine ⟨b, o, e, hlt, fun t ht => ?_⟩
  rw [hc t ht]
  have : (laneInts (sameR r) (headOf hs) m i n).getD t 0 = (((laneL (sameR r) (headOf hs) m i n).getD t 0 : Nat) : Int) := by
    unfold laneInts
    simp [List.getD, show t < (laneL (sameR r) (headOf hs) m i n).length by omega]
  rw [this]

set_option maxHeartbeats 8000000 in
set_option maxRecDepth 100000 in
theorem lanesPart_walk (after : Int) (a1 : Option Addr) (n c1 : Nat) (a2 : Option Addr) (m c2 : Nat) (a3 : Option Addr) (l c3 : Nat) (r : Nat → RowV) (hs zs : List Int) (w : World) (hn : n ≤ maxLen) (hm : m ≤ maxLen) (hl : l ≤ maxLen)
    (hsz : ∀ i, i < n → (r i).id.size ≤ maxLen ∧ (r i).ty.size ≤ maxLen ∧ (r i).ag.size ≤ maxLen) (hr : RowsAt w a1 n r) (hh : IntsAt w a2 m hs) (hz : IntsAt w a3 l zs) :
    Calls Trym.prog 4 #[.int .i64 after, .slice a1 n c1, .slice a2 m c2, .slice a3 l c3] w fun e w' => e = .returned (.bool true) ∧ Below w.heap.size w w' := by
  have HR : Hid (RowsAt w a1 n r) := hr
  have HH : Hid (IntsAt w a2 m hs) := hh
  have HZ : Hid (IntsAt w a3 l zs) := hz
  have HN : Hid (n ≤ maxLen ∧ m ≤ maxLen ∧ l ≤ maxLen ∧ ∀ i, i < n → (r i).id.size ≤ maxLen ∧ (r i).ty.size ≤ maxLen ∧ (r i).ag.size ≤ maxLen) := ⟨hn, hm, hl, hsz⟩
  clear hr hh hz hn hm hl hsz
  go_enter Trym.func4, Trym.ntmps4
  go_wp2_with fail
  refine (bytes18 after a1 n c1 a2 m c2 a3 l c3 r _ HN.out.1 HN.out.2.1 HN.out.2.2.1 HN.out.2.2.2 HR.out).mono ?_
  rintro e w' ⟨⟨b, rfl, hb⟩, hw⟩
  obtain rfl : w = w' := hw.symm
  clear hw
  cases b with
  | false =>
    go_wp2
    go_ret
    exact ⟨rfl, Below.refl _ _⟩
  | true =>
    obtain ⟨-, -, -, hfit⟩ := hb rfl
    have HFIT : Hid (∀ i, i < n → (r i).id.size ≤ 1048576 ∧ (r i).ty.size ≤ 1048576 ∧ (r i).ag.size ≤ 1048576) := hfit
    have HSM : Hid (∀ i, i < n → (r i).small) := fun i hi => by have := hfit i hi; exact ⟨by unfold maxLen; omega, by unfold maxLen; omega⟩
    clear hb hfit HN
    by_cases hn : n ≤ 4096
    · by_cases hm : m ≤ 4096
      · by_cases hl : l ≤ 65536
        · go_wp2_with fail
          refine (fit11 a1 n c1 a2 m c2 a3 l c3 r _ hn hm hl HFIT.out HR.out).mono ?_
          rintro e w' ⟨⟨b, rfl, -⟩, hw⟩
          obtain rfl : w = w' := hw.symm
          clear hw HFIT
          cases b with
          | false =>
            go_wp2
            go_ret
            exact ⟨rfl, Below.refl _ _⟩
          | true =>
            go_wp2_with fail
            refine (heads12 a1 n c1 a2 m c2 hs _ hn hm HH.out).mono ?_
            rintro e w' ⟨⟨b, rfl, hb⟩, hw⟩
            obtain rfl : w = w' := hw.symm
            clear hw
            cases b with
            | false =>
              go_wp2
              go_ret
              exact ⟨rfl, Below.refl _ _⟩
            | true =>
              have HIN : Hid (InRange n m hs) := hb rfl
              clear hb
              go_wp2_with fail
              refine (cloneRows13 a1 n c1 r _ hn HR.out).mono ?_
              rintro e w1 ⟨ra, rc, rfl, hr1, hb1⟩
              have HB1 : Hid (Below w.heap.size w w1 ∧ RowsAt w1 ra n r) := ⟨hb1, hr1⟩
              clear hr1 hb1 HR
              go_wp2_with fail
              refine (clone14 a2 m c2 hs _ (HH.out.below HB1.out.1) (by omega)).mono ?_
              rintro e w2 ⟨ha, hc, rfl, hh2, hb2⟩
              have HB2 : Hid (Below w.heap.size w w2 ∧ RowsAt w2 ra n r ∧ IntsAt w2 ha m hs) := ⟨below_next HB1.out.1 hb2, HB1.out.2.below hb2, hh2⟩
              clear hh2 hb2 HH HB1
              go_wp2_with fail
              refine (clone15 a3 l c3 zs _ (HZ.out.below HB2.out.1) (by omega)).mono ?_
              rintro e w3 ⟨la, lc, rfl, -, hb3⟩
              have HB3 : Hid (Below w.heap.size w w3 ∧ RowsAt w3 ra n r ∧ IntsAt w3 ha m hs) := ⟨below_next HB2.out.1 hb3, HB2.out.2.1.below hb3, HB2.out.2.2.below hb3⟩
              clear hb3 HZ HB2
              go_wp2_with fail
              refine (lanes16 after ra n rc ha m hc la l lc r hs _ hn hm HSM.out HB3.out.2.1 HB3.out.2.2 HIN.out).mono ?_
              rintro e w4 ⟨G, f, rfl, g0, g1, g2, g3, g4, gb⟩
              have HB4 : Hid (Below w.heap.size w w4 ∧ Base n m r hs ra ha G f w4) := ⟨below_next HB3.out.1 gb, HB3.out.2.1.below gb, HB3.out.2.2.below gb, g0, g1, g2, g3, g4⟩
              clear g0 g1 g2 g3 g4 gb HB3 HSM
              have hmk := run_make_row' (P := Trym.prog) 23 3 (.int .i64 0) 8 Trym.underlying23 Trym.info3 rfl .i64 .i64 n (by omega) (by omega)
              go_wp2
              go_loopw [14] (fun s14 wr => ∃ i : Nat, i ≤ m ∧ s14 = .int .i64 i ∧ Hid (Marks w4 n m r hs i 0 wr)) (fun i _ => m - (intOf i).toNat)
              case atStart => exact ⟨0, Nat.zero_le _, rfl, marks_start w4 n m r hs⟩
              case round =>
                obtain ⟨i, hi, rfl, HMK⟩ := hrel
                obtain ⟨wo, rfl⟩ : ∃ wo : World, wo = wr := ⟨_, rfl⟩
                clear hmk
                by_cases him : i < m
                · have HBO := hidden (HB4.out.2.below HMK.out.2)
                  obtain ⟨fi, hfi⟩ : ∃ fi, f i = fi := ⟨_, rfl⟩
                  have hgi := HBO.out.2.2.1.cell him
                  have hlane := HBO.out.2.2.2.2.2.2 i him
                  rw [hfi] at hgi hlane
                  obtain ⟨fa, fl, fc, fz, fn, ft, fd⟩ := fi
                  simp only at hgi hlane
                  have HFI := hidden hfi
                  have HLN := hidden hlane
                  clear hfi hlane
                  obtain ⟨-, h0 | ⟨hb, hoff, rfl, hbl4, -⟩⟩ := HB4.out.2.2.1
                  · omega
                  obtain h0 | ⟨rb, roff, rfl, rbl4, -⟩ := HB4.out.2.1
                  · have := (head_at HIN.out him).2
                    omega
                  obtain ⟨q, hq⟩ : ∃ q, headOf hs i = q := ⟨_, rfl⟩
                  have HQ := hidden hq
                  clear hq
                  have hfln : fl ≤ n := by
                    have h1 := HLN.out.1
                    have h2 := laneL_len (sameR r) (headOf hs) m i n
                    omega
                  go_wp2
                  go_loopw [16, 17] (fun s16 s17 wr => ∃ p : Nat, p ≤ fl ∧ s16 = .bool (metB (sameR r) (headOf hs) m n i p) ∧ s17 = .int .i64 p ∧ Hid (Marks w4 n m r hs i p wr)) (fun _ p _ => fl - (intOf p).toNat)
                  case atStart => exact ⟨0, Nat.zero_le _, by rw [met_zero], rfl, HMK⟩
                  case round =>
                    obtain ⟨p, hp, rfl, rfl, HMP⟩ := hrel
                    obtain ⟨mb, hmb⟩ : ∃ mb, metB (sameR r) (headOf hs) m n i p = mb := ⟨_, rfl⟩
                    rw [hmb]
                    have HMB := hidden hmb
                    clear hmb
                    by_cases hpf : p < fl
                    · have HBP := hidden (HB4.out.2.below HMP.out.2)
                      have hln := HBP.out.2.2.2.2.2.2 i him
                      rw [HFI.out] at hln
                      simp only at hln
                      obtain ⟨lb, lo, rfl, lbl, hlc⟩ := lane_get hln.1 hln.2 (by omega)
                      have HPL : Hid (p < (laneL (sameR r) (headOf hs) m i n).length) := by have := hln.1; show p < _; omega
                      have hfr := mark_fresh (sameR r) (headOf hs) m n i p HPL.out
                      obtain ⟨hkn, hkh⟩ := laneL_get HPL.out
                      have hc0 := hlc p hpf
                      have hasc : 0 < p → (laneL (sameR r) (headOf hs) m i n).getD (p - 1) 0 < (laneL (sameR r) (headOf hs) m i n).getD p 0 := fun h => by
                        have := laneL_asc_at (sameR r) (headOf hs) m i n (p := p - 1) (by have := HPL.out; omega)
                        rw [show p - 1 + 1 = p by omega] at this
                        exact this
                      obtain ⟨kk, hkk⟩ : ∃ kk, (laneL (sameR r) (headOf hs) m i n).getD p 0 = kk := ⟨_, rfl⟩
                      rw [hkk] at hfr hkn hkh hc0 hasc
                      have HKK := hidden hkk
                      have HFR := hidden hfr
                      have hsame : sameA (r kk) (r (headOf hs i)) = true := ((home_iff (sameR_equiv r) him).1 hkh).2
                      obtain ⟨hc, hqn, hrcB, rbl, hbl⟩ := heads_rows HBP.out HIN.out him
                      obtain ⟨hrcA, -⟩ := row_at HBP.out hkn
                      rw [HQ.out] at hc hqn hrcB hsame
                      clear hkk hfr hkh hln
                      have hz4 := HMP.out.2.size
                      obtain ⟨rA, hrA⟩ : ∃ rA, r kk = rA := ⟨_, rfl⟩
                      obtain ⟨rB, hrB⟩ : ∃ rB, r q = rB := ⟨_, rfl⟩
                      rw [hrA] at hrcA hsame
                      rw [hrB] at hrcB hsame
                      clear hrA hrB
                      obtain ⟨id2, ps2, ty2, ag2, du2⟩ := rA
                      obtain ⟨id, ps, ty, ag, du⟩ := rB
                      have HCALL := hidden (same17b id2 ps2 ty2 ag2 du2 id ps ty ag du true hsame)
                      have HF := hidden (And.intro hrcA (And.intro hrcB (And.intro rbl (And.intro hbl hc))))
                      obtain ⟨e0, e1, e2, e3, e4⟩ := hrcA
                      obtain ⟨g0, g1, g2, g3, g4⟩ := hrcB
                      simp only at e0 e1 e2 e3 e4 g0 g1 g2 g3 g4
                      clear hsame rbl hbl
                      have b0 : (0 : Int) ≤ (i : Int) := by omega
                      have b1 : (i : Int) < (m : Int) := by omega
                      have b2 : (0 : Int) ≤ (kk : Int) := by omega
                      have b3 : (kk : Int) < (n : Int) := by omega
                      have b4 : (0 : Int) ≤ (q : Int) := by omega
                      have b5 : (q : Int) < (n : Int) := by omega
                      by_cases hp0 : 0 < p
                      · have hc1 := hlc (p - 1) (by omega)
                        have hkp := hasc hp0
                        obtain ⟨kp, hkpe⟩ : ∃ kp, (laneL (sameR r) (headOf hs) m i n).getD (p - 1) 0 = kp := ⟨_, rfl⟩
                        rw [hkpe] at hc1 hkp
                        clear hkpe hlc hasc
                        go_wp2
                        go_region_held3 (fun w' => w'.cell? ⟨hb, hoff + i, none⟩ = some (.int .i64 (q : Int)) ∧ w'.cell? ⟨rb, roff + kk * 5, none⟩ = some (.string id2) ∧ w'.cell? ⟨rb, roff + kk * 5 + 1, none⟩ = some (.int .i64 ps2) ∧ w'.cell? ⟨rb, roff + kk * 5 + 2, none⟩ = some (.string ty2) ∧ w'.cell? ⟨rb, roff + kk * 5 + 3, none⟩ = some (.string ag2) ∧ w'.cell? ⟨rb, roff + kk * 5 + 4, none⟩ = some (.bool du2) ∧
                            w'.cell? ⟨rb, roff + q * 5, none⟩ = some (.string id) ∧ w'.cell? ⟨rb, roff + q * 5 + 1, none⟩ = some (.int .i64 ps) ∧ w'.cell? ⟨rb, roff + q * 5 + 2, none⟩ = some (.string ty) ∧ w'.cell? ⟨rb, roff + q * 5 + 3, none⟩ = some (.string ag) ∧ w'.cell? ⟨rb, roff + q * 5 + 4, none⟩ = some (.bool du))
                          (((try dsimp only); (repeat' apply And.intro)) <;> (first | assumption | (go_keep; done)))
                          ((go_at_call 17; refine (HCALL.out _).mono ?_; rintro e w' ⟨rfl, hbc⟩; have hbd := below_of_drew hbc; obtain ⟨m0, m1, m2, m3, m4⟩ := RowCells.below HF.out.1 hbd HF.out.2.2.1; obtain ⟨v0, v1, v2, v3, v4⟩ := RowCells.below HF.out.2.1 hbd HF.out.2.2.1; have hk := (hbd.cell (p := ⟨hb, hoff + i, none⟩) HF.out.2.2.2.1).trans HF.out.2.2.2.2))
                        have hz := (HMP.out.below hbd).1.cell hkn
                        have hzf := (HMP.out.below hbd).1.frozen kk
                        rw [HFR.out] at hz
                        simp only [Bool.false_eq_true, if_false] at hz
                        have HMN := hidden ((HMP.out.below hbd).set HPL.out HKK.out)
                        clear hbd hbc m0 m1 m2 m3 m4 v0 v1 v2 v3 v4 e0 e1 e2 e3 e4 g0 g1 g2 g3 g4 hc
                        by_cases hkq : kk = q
                        · have hbq : ((kk : Int) == (q : Int)) = true := by simp [hkq]
                          have HKQ := hidden hkq
                          clear hkq
                          go_wp2
                          go_roundw
                          case rel => exact ⟨p + 1, by omega, by rw [met_hit _ _ _ _ _ _ HPL.out (by rw [HKK.out, HKQ.out, HQ.out])], by go_num, HMN.out⟩
                          case measure => simp [intOf]; omega
                        · have hbq : ((kk : Int) == (q : Int)) = false := by rw [beq_eq_false_iff_ne]; omega
                          have HKQ := hidden hkq
                          clear hkq
                          go_wp2
                          go_roundw
                          case rel => exact ⟨p + 1, by omega, by rw [met_miss _ _ _ _ _ _ HPL.out (by rw [HKK.out, HQ.out]; exact HKQ.out), HMB.out], by go_num, HMN.out⟩
                          case measure => simp [intOf]; omega
                      · have hd0 : decide (0 < p) = false := decide_eq_false hp0
                        clear hlc hasc
                        go_wp2
                        go_region_held3 (fun w' => w'.cell? ⟨hb, hoff + i, none⟩ = some (.int .i64 (q : Int)) ∧ w'.cell? ⟨rb, roff + kk * 5, none⟩ = some (.string id2) ∧ w'.cell? ⟨rb, roff + kk * 5 + 1, none⟩ = some (.int .i64 ps2) ∧ w'.cell? ⟨rb, roff + kk * 5 + 2, none⟩ = some (.string ty2) ∧ w'.cell? ⟨rb, roff + kk * 5 + 3, none⟩ = some (.string ag2) ∧ w'.cell? ⟨rb, roff + kk * 5 + 4, none⟩ = some (.bool du2) ∧
                            w'.cell? ⟨rb, roff + q * 5, none⟩ = some (.string id) ∧ w'.cell? ⟨rb, roff + q * 5 + 1, none⟩ = some (.int .i64 ps) ∧ w'.cell? ⟨rb, roff + q * 5 + 2, none⟩ = some (.string ty) ∧ w'.cell? ⟨rb, roff + q * 5 + 3, none⟩ = some (.string ag) ∧ w'.cell? ⟨rb, roff + q * 5 + 4, none⟩ = some (.bool du))
                          (((try dsimp only); (repeat' apply And.intro)) <;> (first | assumption | (go_keep; done)))
                          ((go_at_call 17; refine (HCALL.out _).mono ?_; rintro e w' ⟨rfl, hbc⟩; have hbd := below_of_drew hbc; obtain ⟨m0, m1, m2, m3, m4⟩ := RowCells.below HF.out.1 hbd HF.out.2.2.1; obtain ⟨v0, v1, v2, v3, v4⟩ := RowCells.below HF.out.2.1 hbd HF.out.2.2.1; have hk := (hbd.cell (p := ⟨hb, hoff + i, none⟩) HF.out.2.2.2.1).trans HF.out.2.2.2.2))
                        have hz := (HMP.out.below hbd).1.cell hkn
                        have hzf := (HMP.out.below hbd).1.frozen kk
                        rw [HFR.out] at hz
                        simp only [Bool.false_eq_true, if_false] at hz
                        have HMN := hidden ((HMP.out.below hbd).set HPL.out HKK.out)
                        clear hbd hbc m0 m1 m2 m3 m4 v0 v1 v2 v3 v4 e0 e1 e2 e3 e4 g0 g1 g2 g3 g4 hc
                        by_cases hkq : kk = q
                        · have hbq : ((kk : Int) == (q : Int)) = true := by simp [hkq]
                          have HKQ := hidden hkq
                          clear hkq
                          go_wp2
                          go_roundw
                          case rel => exact ⟨p + 1, by omega, by rw [met_hit _ _ _ _ _ _ HPL.out (by rw [HKK.out, HKQ.out, HQ.out])], by go_num, HMN.out⟩
                          case measure => simp [intOf]; omega
                        · have hbq : ((kk : Int) == (q : Int)) = false := by rw [beq_eq_false_iff_ne]; omega
                          have HKQ := hidden hkq
                          clear hkq
                          go_wp2
                          go_roundw
                          case rel => exact ⟨p + 1, by omega, by rw [met_miss _ _ _ _ _ _ HPL.out (by rw [HKK.out, HQ.out]; exact HKQ.out), HMB.out], by go_num, HMN.out⟩
                          case measure => simp [intOf]; omega
                    · by_cases hfl0 : fl = 0
                      · have hd0 : decide (0 < fl) = false := decide_eq_false (by omega)
                        have HFL := hidden hfl0
                        clear hfl0
                        go_wp2
                        go_roundw
                        case rel => exact ⟨i + 1, by omega, by go_num, HMP.out.next (by have := HLN.out.1; omega)⟩
                        case measure => simp [intOf]; omega
                      · have hmt : mb = true := by rw [← HMB.out]; exact met_end (sameR_equiv r) _ _ _ _ _ him (head_at HIN.out him).2 (by have := HLN.out.1; omega) (by have := HLN.out.1; omega)
                        subst hmt
                        go_wp2
                        go_roundw
                        case rel => exact ⟨i + 1, by omega, by go_num, HMP.out.next (by have := HLN.out.1; omega)⟩
                        case measure => simp [intOf]; omega
                · obtain rfl : i = m := by omega
                  go_wp2
                  go_loopw [19] (fun s19 wr => ∃ k : Nat, k ≤ n ∧ s19 = .int .i64 k ∧ Hid (Marks w4 n i r hs i 0 wr)) (fun k _ => n - (intOf k).toNat)
                  case atStart => exact ⟨0, Nat.zero_le _, rfl, HMK⟩
                  case round =>
                    obtain ⟨k, hk, rfl, HMC⟩ := hrel
                    by_cases hkn : k < n
                    · obtain h0 | ⟨rb, roff, rfl, rbl4, -⟩ := HB4.out.2.1
                      · omega
                      obtain ⟨wq, rfl⟩ : ∃ wq : World, wq = wr := ⟨_, rfl⟩
                      go_wp2
                      go_loopw [20, 21] (fun s20 s21 wr => ∃ t : Nat, t ≤ i ∧ s20 = .bool false ∧ s21 = .int .i64 t ∧ Hid (Marks w4 n i r hs i 0 wr) ∧ Hid (∀ u, u < t → sameA (r k) (r (headOf hs u)) = false)) (fun _ t _ => i - (intOf t).toNat)
                      case atStart => exact ⟨0, Nat.zero_le _, rfl, rfl, HMC, fun u hu => absurd hu (Nat.not_lt_zero _)⟩
                      case round =>
                        obtain ⟨t, ht, rfl, rfl, HMT, HNO⟩ := hrel
                        by_cases htm : t < i
                        · obtain ⟨-, h0 | ⟨hb, hoff, rfl, hbl4, -⟩⟩ := HB4.out.2.2.1
                          · omega
                          have HBP := hidden (HB4.out.2.below HMT.out.2)
                          obtain ⟨hc, hqn, hrcB, rbl, hbl⟩ := heads_rows HBP.out HIN.out htm
                          obtain ⟨hrcA, -⟩ := row_at HBP.out hkn
                          cases hsame : sameA (r k) (r (headOf hs t)) with
                          | false =>
                            have HSAME := hidden hsame
                            obtain ⟨q, hq⟩ : ∃ q, headOf hs t = q := ⟨_, rfl⟩
                            rw [hq] at hc hqn hrcB hsame
                            clear hq
                            obtain ⟨rA, hrA⟩ : ∃ rA, r k = rA := ⟨_, rfl⟩
                            obtain ⟨rB, hrB⟩ : ∃ rB, r q = rB := ⟨_, rfl⟩
                            rw [hrA] at hrcA hsame
                            rw [hrB] at hrcB hsame
                            clear hrA hrB
                            obtain ⟨id2, ps2, ty2, ag2, du2⟩ := rA
                            obtain ⟨id, ps, ty, ag, du⟩ := rB
                            have HCALL := hidden (same17b id2 ps2 ty2 ag2 du2 id ps ty ag du false hsame)
                            have HF := hidden (And.intro hrcA (And.intro hrcB (And.intro rbl (And.intro hbl hc))))
                            obtain ⟨e0, e1, e2, e3, e4⟩ := hrcA
                            obtain ⟨g0, g1, g2, g3, g4⟩ := hrcB
                            simp only at e0 e1 e2 e3 e4 g0 g1 g2 g3 g4
                            clear hsame rbl hbl
                            have b0 : (0 : Int) ≤ (t : Int) := by omega
                            have b1 : (t : Int) < (i : Int) := by omega
                            have b2 : (0 : Int) ≤ (k : Int) := by omega
                            have b3 : (k : Int) < (n : Int) := by omega
                            have b4 : (0 : Int) ≤ (q : Int) := by omega
                            have b5 : (q : Int) < (n : Int) := by omega
                            go_wp2
                            go_region_held3 (fun w' => w'.cell? ⟨hb, hoff + t, none⟩ = some (.int .i64 (q : Int)) ∧ w'.cell? ⟨rb, roff + k * 5, none⟩ = some (.string id2) ∧ w'.cell? ⟨rb, roff + k * 5 + 1, none⟩ = some (.int .i64 ps2) ∧ w'.cell? ⟨rb, roff + k * 5 + 2, none⟩ = some (.string ty2) ∧ w'.cell? ⟨rb, roff + k * 5 + 3, none⟩ = some (.string ag2) ∧ w'.cell? ⟨rb, roff + k * 5 + 4, none⟩ = some (.bool du2) ∧
                                w'.cell? ⟨rb, roff + q * 5, none⟩ = some (.string id) ∧ w'.cell? ⟨rb, roff + q * 5 + 1, none⟩ = some (.int .i64 ps) ∧ w'.cell? ⟨rb, roff + q * 5 + 2, none⟩ = some (.string ty) ∧ w'.cell? ⟨rb, roff + q * 5 + 3, none⟩ = some (.string ag) ∧ w'.cell? ⟨rb, roff + q * 5 + 4, none⟩ = some (.bool du))
                              (((try dsimp only); (repeat' apply And.intro)) <;> (first | assumption | (go_keep; done)))
                              ((go_at_call 17; refine (HCALL.out _).mono ?_; rintro e w' ⟨rfl, hbc⟩; have hbd := below_of_drew hbc; obtain ⟨m0, m1, m2, m3, m4⟩ := RowCells.below HF.out.1 hbd HF.out.2.2.1; obtain ⟨v0, v1, v2, v3, v4⟩ := RowCells.below HF.out.2.1 hbd HF.out.2.2.1; have hk := (hbd.cell (p := ⟨hb, hoff + t, none⟩) HF.out.2.2.2.1).trans HF.out.2.2.2.2))
                            have HMN := hidden (HMT.out.below hbd)
                            clear hbd hbc m0 m1 m2 m3 m4 v0 v1 v2 v3 v4 e0 e1 e2 e3 e4 g0 g1 g2 g3 g4 hc
                            go_wp2
                            go_roundw
                            case rel =>
                              refine ⟨t + 1, by omega, rfl, by go_num, HMN.out, fun u hu => ?_⟩
                              rcases Nat.lt_succ_iff_lt_or_eq.1 hu with h | rfl
                              · exact HNO.out u h
                              · exact HSAME.out
                            case measure => simp [intOf]; omega
                          | true =>
                            have HSAME := hidden hsame
                            obtain ⟨q, hq⟩ : ∃ q, headOf hs t = q := ⟨_, rfl⟩
                            rw [hq] at hc hqn hrcB hsame
                            clear hq
                            obtain ⟨rA, hrA⟩ : ∃ rA, r k = rA := ⟨_, rfl⟩
                            obtain ⟨rB, hrB⟩ : ∃ rB, r q = rB := ⟨_, rfl⟩
                            rw [hrA] at hrcA hsame
                            rw [hrB] at hrcB hsame
                            clear hrA hrB
                            obtain ⟨id2, ps2, ty2, ag2, du2⟩ := rA
                            obtain ⟨id, ps, ty, ag, du⟩ := rB
                            have HCALL := hidden (same17b id2 ps2 ty2 ag2 du2 id ps ty ag du true hsame)
                            have HF := hidden (And.intro hrcA (And.intro hrcB (And.intro rbl (And.intro hbl hc))))
                            obtain ⟨e0, e1, e2, e3, e4⟩ := hrcA
                            obtain ⟨g0, g1, g2, g3, g4⟩ := hrcB
                            simp only at e0 e1 e2 e3 e4 g0 g1 g2 g3 g4
                            clear hsame rbl hbl
                            have b0 : (0 : Int) ≤ (t : Int) := by omega
                            have b1 : (t : Int) < (i : Int) := by omega
                            have b2 : (0 : Int) ≤ (k : Int) := by omega
                            have b3 : (k : Int) < (n : Int) := by omega
                            have b4 : (0 : Int) ≤ (q : Int) := by omega
                            have b5 : (q : Int) < (n : Int) := by omega
                            go_wp2
                            go_region_held3 (fun w' => w'.cell? ⟨hb, hoff + t, none⟩ = some (.int .i64 (q : Int)) ∧ w'.cell? ⟨rb, roff + k * 5, none⟩ = some (.string id2) ∧ w'.cell? ⟨rb, roff + k * 5 + 1, none⟩ = some (.int .i64 ps2) ∧ w'.cell? ⟨rb, roff + k * 5 + 2, none⟩ = some (.string ty2) ∧ w'.cell? ⟨rb, roff + k * 5 + 3, none⟩ = some (.string ag2) ∧ w'.cell? ⟨rb, roff + k * 5 + 4, none⟩ = some (.bool du2) ∧
                                w'.cell? ⟨rb, roff + q * 5, none⟩ = some (.string id) ∧ w'.cell? ⟨rb, roff + q * 5 + 1, none⟩ = some (.int .i64 ps) ∧ w'.cell? ⟨rb, roff + q * 5 + 2, none⟩ = some (.string ty) ∧ w'.cell? ⟨rb, roff + q * 5 + 3, none⟩ = some (.string ag) ∧ w'.cell? ⟨rb, roff + q * 5 + 4, none⟩ = some (.bool du))
                              (((try dsimp only); (repeat' apply And.intro)) <;> (first | assumption | (go_keep; done)))
                              ((go_at_call 17; refine (HCALL.out _).mono ?_; rintro e w' ⟨rfl, hbc⟩; have hbd := below_of_drew hbc; obtain ⟨m0, m1, m2, m3, m4⟩ := RowCells.below HF.out.1 hbd HF.out.2.2.1; obtain ⟨v0, v1, v2, v3, v4⟩ := RowCells.below HF.out.2.1 hbd HF.out.2.2.1; have hk := (hbd.cell (p := ⟨hb, hoff + t, none⟩) HF.out.2.2.2.1).trans HF.out.2.2.2.2))
                            have HMN := hidden (HMT.out.below hbd)
                            clear hbd hbc m0 m1 m2 m3 m4 v0 v1 v2 v3 v4 e0 e1 e2 e3 e4 g0 g1 g2 g3 g4 hc
                            have hz := (HMN.out).1.cell hkn
                            have hcov : markB (sameR r) (headOf hs) i n i 0 k = true := by
                              rw [mark_end, home_some (sameR_equiv r), List.any_eq_true]
                              exact ⟨t, List.mem_range.2 htm, HSAME.out⟩
                            rw [hcov] at hz
                            simp only [if_true] at hz
                            clear hcov
                            go_wp2
                            go_roundw
                            case rel => exact ⟨k + 1, by omega, by go_num, HMN.out⟩
                            case measure => simp [intOf]; omega
                        · have hz := HMT.out.1.cell hkn
                          have hcov : markB (sameR r) (headOf hs) i n i 0 k = false := by
                            rw [mark_end, home_some (sameR_equiv r), List.any_eq_false]
                            intro u hu
                            have := HNO.out u (by have := List.mem_range.1 hu; omega)
                            unfold sameR
                            rw [this]
                            decide
                          rw [hcov] at hz
                          simp only [Bool.false_eq_true, if_false] at hz
                          clear hcov
                          go_wp2
                          go_roundw
                          case rel => exact ⟨k + 1, by omega, by go_num, HMT.out⟩
                          case measure => simp [intOf]; omega
                    · go_wp2
                      go_ret
                      exact ⟨rfl, HB4.out.1.trans (HMC.out.2.mono HB4.out.1.size)⟩
        · go_wp2
          go_ret
          exact ⟨rfl, Below.refl _ _⟩
      · go_wp2
        go_ret
        exact ⟨rfl, Below.refl _ _⟩
    · go_wp2
      go_ret
      exact ⟨rfl, Below.refl _ _⟩
#print axioms lanesPart_walk
end Go.Proofs.Qxb6601498aMods

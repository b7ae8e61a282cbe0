/-
  (*window).lanes: the walk.
-/
import Derived.Test.Qxb6601498aModsWin
import Derived.Test.Qxb6601498aModsGoing
namespace Go.Proofs.Qxb6601498aMods
open Go.RowKit Go.Maps
set_option linter.unusedVariables false
attribute [local go_sem ↓] Go.wp_at_zero Go.wp_at_succ

/-- The heads as naturals. -/
def headOf (hs : List Int) (t : Nat) : Nat := (hs.getD t 0).toNat
/-- Rows i and j are of one aggregate. -/
def sameR (r : Nat → RowV) (i j : Nat) : Bool := sameA (r i) (r j)

theorem run_makeMap_hint (w : World) (k : Int) : (Instr.makeMap 67 (some (.int .i64 k))).run Trym.prog w = .ok (.map (some w.heap.size)) (w.alloc (.map #[] 0)) := by
  simp [Instr.makeMap, run_underlying Trym.underlying67]
  rfl

/-- What (*window).lanes leaves. -/
def Out32 (w : World) (n m : Nat) (r : Nat → RowV) (hs : List Int) (e : Ending) (w' : World) : Prop :=
  e = .returned (.slice (some ⟨w.heap.size, 0, none⟩) m m) ∧ ∃ B p D v, Win2 w B n m (sameR r) (headOf hs) p D n v w'

theorem region7 {w : World} {m : Nat} {r : Nat → RowV} {hd : Nat → Nat} {k : Nat} {p : Nat → Nat} {D : DataW Unit} {wr : World} (I : Win1 w m r hd k p D wr) (hlt : k < m) {wb n cn rb roff q : Nat} {ty ag : ByteArray} (hwb : wb < w.heap.size) (rbl : rb < w.heap.size)
    (ht : ty.size ≤ maxLen) (hg : ag.size ≤ maxLen) (hm : m ≤ 4096)
    (d1 : wr.cell? ⟨wb, 1, none⟩ = some (.slice (some ⟨rb, roff, none⟩) n cn)) (a2 : wr.cell? ⟨rb, roff + q * 5 + 2, none⟩ = some (.string ty)) (a3 : wr.cell? ⟨rb, roff + q * 5 + 3, none⟩ = some (.string ag)) {W6 : World}
    (hW6 : W6 = (wr.setCell ⟨w.heap.size, k, none⟩ (.pointer (some ⟨wr.heap.size, 0, none⟩))).alloc (.cells #[.slice none 0 0, .int .i64 0, .int .i64 0, .bool false] 62)) :
    ∃ w1, (Instr.mapUpdate 67 (.map (some (w.heap.size + 1))) (.agg #[.string ty, .string ag]) (.pointer (some ⟨wr.heap.size, 0, none⟩))).run Trym.prog W6.drew = .ok () w1 ∧
          w1.ownsMap Trym.prog 53 ptrElem (w.heap.size + 1) (k + 1) (D.put (keyL ty ag) (ptrD (some wr.heap.size))) ∧ W6.drew.grownBy w1 (some (w.heap.size + 1)) ∧
          W6.cell? ⟨wb, 1, none⟩ = some (.slice (some ⟨rb, roff, none⟩) n cn) ∧ W6.cell? ⟨rb, roff + q * 5 + 2, none⟩ = some (.string ty) ∧ W6.cell? ⟨rb, roff + q * 5 + 3, none⟩ = some (.string ag) ∧ W6.cell? ⟨w.heap.size, k, none⟩ = some (.pointer (some ⟨wr.heap.size, 0, none⟩)) ∧
          w1.cell? ⟨wb, 1, none⟩ = some (.slice (some ⟨rb, roff, none⟩) n cn) ∧ w1.cell? ⟨rb, roff + q * 5 + 2, none⟩ = some (.string ty) ∧ w1.cell? ⟨rb, roff + q * 5 + 3, none⟩ = some (.string ag) ∧ w1.cell? ⟨w.heap.size, k, none⟩ = some (.pointer (some ⟨wr.heap.size, 0, none⟩)) := by
  have hgl := I.row.lt
  have hgm := I.map.lt
  have hsz : (wr.setCell ⟨w.heap.size, k, none⟩ (.pointer (some ⟨wr.heap.size, 0, none⟩))).heap.size = wr.heap.size := by simp [World.setCell]
  have hsz2 : W6.drew.heap.size = wr.heap.size + 1 := by
    subst hW6
    have := Go.Deep.nblk_alloc (wr.setCell ⟨w.heap.size, k, none⟩ (.pointer (some ⟨wr.heap.size, 0, none⟩))) (.cells #[.slice none 0 0, .int .i64 0, .int .i64 0, .bool false] 62)
    rw [hsz] at this
    exact this
  have hmap : W6.drew.ownsMap Trym.prog 53 ptrElem (w.heap.size + 1) k D := by
    subst hW6
    exact ((I.map.setCell (a := ⟨w.heap.size, k, none⟩) (by simp) _).alloc _).drew
  obtain ⟨w1, hrun, hown, hgr⟩ := hmap.update Trym.law53 Trym.underlying67 (by unfold maxLen; omega) (keyL_eq ty ag ht hg) (ptrElem_mk (some wr.heap.size))
  have hrow : W6.drew.rowIs w.heap.size 63 m (fun j => if j = k then .pointer (some ⟨wr.heap.size, 0, none⟩) else if j < k then .pointer (some ⟨p j, 0, none⟩) else .pointer none) := by
    subst hW6
    exact ((I.row.set k (.pointer (some ⟨wr.heap.size, 0, none⟩))).alloc _).drew
  have hblk : ∀ b, b < w.heap.size → W6.drew.heap[b]? = wr.heap[b]? := fun b hb => by
    subst hW6
    show ((wr.setCell ⟨w.heap.size, k, none⟩ (.pointer (some ⟨wr.heap.size, 0, none⟩))).alloc _).heap[b]? = _
    rw [Below.heap_alloc _ _ _ (by rw [hsz]; omega), Below.heap_setCell _ _ _ _ (by simp only []; omega)]
  have c6 : ∀ b o, b < w.heap.size → W6.cell? ⟨b, o, none⟩ = wr.cell? ⟨b, o, none⟩ := fun b o hb => World.cell?_of_block (w := wr) (a := ⟨b, o, none⟩) (hblk b hb)
  have c1 : ∀ b o, b < w.heap.size → w1.cell? ⟨b, o, none⟩ = wr.cell? ⟨b, o, none⟩ := fun b o hb => World.cell?_of_block (w := wr) (a := ⟨b, o, none⟩) ((hgr.block b (by rw [hsz2]; omega) (by intro e; injection e with e; omega)).trans (hblk b hb))
  have r6 := hrow.cell hlt
  have r1 := (hrow.of_block (hgr.block w.heap.size (by rw [hsz2]; omega) (by intro e; injection e with e; omega))).cell hlt
  simp only [if_true] at r6 r1
  exact ⟨w1, hrun, hown, hgr, by rw [c6 _ _ hwb]; exact d1, by rw [c6 _ _ rbl]; exact a2, by rw [c6 _ _ rbl]; exact a3, r6, by rw [c1 _ _ hwb]; exact d1, by rw [c1 _ _ rbl]; exact a2, by rw [c1 _ _ rbl]; exact a3, r1⟩

theorem lookup_eq {W : World} {b n : Nat} {D : DataW Unit} {ty ag : ByteArray} {q : Option Nat} (hown : W.ownsMap Trym.prog 53 ptrElem b n D) (ht : ty.size ≤ maxLen) (hg : ag.size ≤ maxLen) (hat : D.atKey (keyL ty ag) .nil = ptrD q) :
    (Instr.lookup 67 (.map (some b)) (.agg #[.string ty, .string ag]) false).run Trym.prog W = .ok (ptrV q) W := by
  obtain ⟨v, ps, hrun, hv⟩ := hown.lookup Trym.law53 Trym.underlying67 (Trym.zero63 W) (zd := .nil) (zp := []) rfl (keyL_eq ty ag ht hg)
  rw [hat] at hv
  have hv' := ptrElem_inv hv
  subst hv'
  exact hrun

/-- What the walk reads of lane j. -/
theorem lane_facts {w : World} {B n m : Nat} {S : Nat → Nat → Bool} {hd : Nat → Nat} {p : Nat → Nat} {D : DataW Unit} {k : Nat} {v : Nat → Value} {wr : World} (I : Win2 w B n m S hd p D k v wr) {j : Nat} (hj : j < m) (wa : World) (hg : wr.grownBy wa none) :
    ∃ a l c, v j = .slice a l c ∧ wa.cell? ⟨p j, 0, none⟩ = some (.slice a l c) ∧ wa.frozen? ⟨p j, 0, none⟩ = false ∧ wa.ownsRow B 3 1 (.slice a l c) (laneL S hd m j k).length (laneVals (laneL S hd m j k)) := by
  obtain ⟨a, l, c, hv, _, _⟩ := win2_ints I hj
  obtain ⟨_, h2, h3⟩ := I.lane j hj
  have hs := I.size
  have hb : wa.heap[p j]? = some (.cells #[v j, .int .i64 0, .int .i64 0, .bool false] 62) := by rw [hg.block _ (by omega) (by simp)]; exact h3
  refine ⟨a, l, c, hv, ?_, ?_, ?_⟩
  · simp [World.cell?, hb, hv]
  · simp [World.frozen?, hb]
  · rw [← hv]
    exact (I.own j hj).kept hg (by cases hv' : (v j).ownBlock <;> simp)

/-- Behind the append the lane's own cell is as it was. -/
theorem app_facts {W w1 : World} {B b L : Nat} {v : Value} {xs : List Value} {u : Value} (hown : W.ownsRow B 3 1 v L xs) (hg : W.grownBy w1 v.ownBlock) (hb : b < B) (hB : b < W.heap.size) (h0 : W.cell? ⟨b, 0, none⟩ = some u) (h1 : W.frozen? ⟨b, 0, none⟩ = false) :
    w1.cell? ⟨b, 0, none⟩ = some u ∧ w1.frozen? ⟨b, 0, none⟩ = false := by
  have hne : some b ≠ v.ownBlock := fun e => by have := (hown.lt b e.symm).1; omega
  exact ⟨by rw [hg.cell_far ⟨b, 0, none⟩ hB hne]; exact h0, by rw [hg.frozen_far ⟨b, 0, none⟩ hB hne]; exact h1⟩

set_option maxHeartbeats 8000000 in
theorem lanes32 (wb n m cn cm : Nat) (ra ha : Option Addr) (r : Nat → RowV) (hs : List Int) (w : World) (hn : n ≤ 4096) (hm : m ≤ 4096) (hsm : ∀ i, i < n → (r i).small) (hr : RowsAt w ra n r) (hh : IntsAt w ha m hs) (hin : InRange n m hs)
    (c1 : w.cell? ⟨wb, 1, none⟩ = some (.slice ra n cn)) (c2 : w.cell? ⟨wb, 2, none⟩ = some (.slice ha m cm)) (hwb : wb < w.heap.size) :
    Calls Trym.prog 32 #[.pointer (some ⟨wb, 0, none⟩)] w fun e w' => Out32 w n m r hs e w' := by
  have hmk := run_make_row' (P := Trym.prog) 59 63 (.pointer none) 8 Trym.underlying59 Trym.info63 rfl .i64 .i64 m (by omega) (by omega)
  have hmm := run_makeMap_hint
  obtain ⟨i0, hi0, hz0, hz1, hz2⟩ := info_parts Trym.info3
  have HZ : Hid (Trym.prog.info? 3 = some i0 ∧ i0.zero = some (.int .i64 0) ∧ i0.size = 1 ∧ i0.bytes = 8) := ⟨hi0, hz0, hz1, hz2⟩
  clear hi0 hz0 hz1 hz2
  have HR : Hid (RowsAt w ra n r) := hr
  have HH : Hid (IntsAt w ha m hs) := hh
  have HIN : Hid (InRange n m hs) := hin
  have HSM : Hid (∀ i, i < n → (r i).small) := hsm
  have HC : Hid (w.cell? ⟨wb, 1, none⟩ = some (.slice ra n cn) ∧ w.cell? ⟨wb, 2, none⟩ = some (.slice ha m cm) ∧ wb < w.heap.size) := ⟨c1, c2, hwb⟩
  clear hr hh hin hsm
  go_enter Trym.func32, Trym.ntmps32
  go_wp2
  go_loopw [27] (fun i wr => ∃ k : Nat, k ≤ m ∧ i = .int .i64 k ∧ ∃ p D, Win1 w m r (headOf hs) k p D wr) (fun i _ => m - (intOf i).toNat)
  case atStart => exact ⟨0, Nat.zero_le _, rfl, fun _ => 0, _, win1_start w m r _ _⟩
  case round =>
    obtain ⟨k, hk, rfl, p, D, hI⟩ := hrel
    have HI : Hid (Win1 w m r (headOf hs) k p D wr) := hI
    clear hmk hmm c1 c2
    by_cases hlt : k < m
    · obtain ⟨hz, h0 | ⟨hb, hoff, rfl, hbl, hbc⟩⟩ := HH.out
      · omega
      obtain ⟨q0, q1⟩ := HIN.out k hlt
      obtain h0 | ⟨rb, roff, rfl, rbl, rc⟩ := HR.out
      · omega
      obtain ⟨q, hq⟩ : ∃ q : Nat, hs.getD k 0 = (q : Int) := ⟨(hs.getD k 0).toNat, by omega⟩
      have hqn : q < n := by omega
      have hqh : headOf hs k = q := by unfold headOf; omega
      have hh0 : wr.cell? ⟨hb, hoff + k, none⟩ = some (.int .i64 (q : Int)) := by rw [hI.bel.cell (p := ⟨hb, hoff + k, none⟩) hbl, hbc k hlt, hq]
      obtain ⟨-, -, a2, a3, -⟩ := (rc q hqn).below hI.bel rbl
      have hsm := HSM.out q hqn
      have HQ : Hid (headOf hs k = q ∧ (r q).small) := ⟨hqh, hsm⟩
      have d1 : wr.cell? ⟨wb, 1, none⟩ = some (.slice (some ⟨rb, roff, none⟩) n cn) := by rw [hI.bel.cell (p := ⟨wb, 1, none⟩) hwb]; exact HC.out.1
      have d2 : wr.cell? ⟨wb, 2, none⟩ = some (.slice (some ⟨hb, hoff, none⟩) m cm) := by rw [hI.bel.cell (p := ⟨wb, 2, none⟩) hwb]; exact HC.out.2.1
      have g0 := hI.row.cell hlt
      have f0 := hI.row.frozen k
      rw [if_neg (Nat.lt_irrefl _)] at g0
      have gl := hI.row.lt
      have gml := hI.map.lt
      have hws := hI.bel.size
      generalize hty : (r q).ty = ty at a2
      generalize hag : (r q).ag = ag at a3
      have HT : Hid ((r q).ty = ty ∧ (r q).ag = ag) := ⟨hty, hag⟩
      clear hz hbc rc hq q0 q1 hqh hsm hty hag hI
      go_wp2
      obtain ⟨W6, hW6⟩ : ∃ W6 : World, W6 = (wr.setCell ⟨w.heap.size, k, none⟩ (.pointer (some ⟨wr.heap.size, 0, none⟩))).alloc (.cells #[.slice none 0 0, .int .i64 0, .int .i64 0, .bool false] 62) := ⟨_, rfl⟩
      rw [← hW6]
      obtain ⟨w1, hrun, hown1, hg1, s1, s2, s3, s4, t1, t2, t3, t4⟩ : ∃ w1, (Instr.mapUpdate 67 (.map (some (w.heap.size + 1))) (.agg #[.string ty, .string ag]) (.pointer (some ⟨wr.heap.size, 0, none⟩))).run Trym.prog W6.drew = .ok () w1 ∧
          w1.ownsMap Trym.prog 53 ptrElem (w.heap.size + 1) (k + 1) (D.put (keyL ty ag) (ptrD (some wr.heap.size))) ∧ W6.drew.grownBy w1 (some (w.heap.size + 1)) ∧
          W6.cell? ⟨wb, 1, none⟩ = some (.slice (some ⟨rb, roff, none⟩) n cn) ∧ W6.cell? ⟨rb, roff + q * 5 + 2, none⟩ = some (.string ty) ∧ W6.cell? ⟨rb, roff + q * 5 + 3, none⟩ = some (.string ag) ∧ W6.cell? ⟨w.heap.size, k, none⟩ = some (.pointer (some ⟨wr.heap.size, 0, none⟩)) ∧
          w1.cell? ⟨wb, 1, none⟩ = some (.slice (some ⟨rb, roff, none⟩) n cn) ∧ w1.cell? ⟨rb, roff + q * 5 + 2, none⟩ = some (.string ty) ∧ w1.cell? ⟨rb, roff + q * 5 + 3, none⟩ = some (.string ag) ∧ w1.cell? ⟨w.heap.size, k, none⟩ = some (.pointer (some ⟨wr.heap.size, 0, none⟩)) :=
        region7 HI.out hlt hwb rbl (by have := HQ.out.2.1; rw [HT.out.1] at this; exact this) (by have := HQ.out.2.2; rw [HT.out.2] at this; exact this) hm d1 a2 a3 hW6
      have HW : Hid (W6 = (wr.setCell ⟨w.heap.size, k, none⟩ (.pointer (some ⟨wr.heap.size, 0, none⟩))).alloc (.cells #[.slice none 0 0, .int .i64 0, .int .i64 0, .bool false] 62)) := hW6
      clear hW6 d1 d2 a2 a3 hh0 g0 f0
      have HO : Hid (w1.ownsMap Trym.prog 53 ptrElem (w.heap.size + 1) (k + 1) (D.put (keyL ty ag) (ptrD (some wr.heap.size))) ∧ W6.drew.grownBy w1 (some (w.heap.size + 1))) := ⟨hown1, hg1⟩
      clear hown1 hg1
      have hk0 : (0 : Int) ≤ (k : Int) := by omega
      have hk1 : (k : Int) < (m : Int) := by omega
      have hk2 : (0 : Int) ≤ (q : Int) := by omega
      have hk3 : (q : Int) < (n : Int) := by omega
      go_region_held3 (fun w' => w'.cell? ⟨wb, 1, none⟩ = some (.slice (some ⟨rb, roff, none⟩) n cn) ∧ w'.cell? ⟨rb, roff + q * 5 + 2, none⟩ = some (.string ty) ∧ w'.cell? ⟨rb, roff + q * 5 + 3, none⟩ = some (.string ag) ∧ w'.cell? ⟨w.heap.size, k, none⟩ = some (.pointer (some ⟨wr.heap.size, 0, none⟩)))
        (((try dsimp only); (repeat' apply And.intro)) <;> (first | assumption | (go_keep; done)))
        (fail)
      have HS : Hid (∃ p D, Win1 w m r (headOf hs) (k + 1) p D w1) := by
        refine ⟨_, _, win1_step HI.out hlt (by rw [HQ.out.1]; exact HQ.out.2) (w1 := w1) ?_ ?_⟩
        · rw [HQ.out.1]; unfold keyR; rw [HT.out.1, HT.out.2]; exact HO.out.1
        · have h := HO.out.2
          rw [HW.out] at h
          exact ⟨h.os, h.tape, h.output, h.size, h.block⟩
      clear hrun s1 s2 s3 s4 t1 t2 t3 t4
      go_wp2
      go_roundw
      case rel =>
        obtain ⟨p', D', h⟩ := HS.out
        exact ⟨k + 1, by omega, by go_num, p', D', h⟩
      case measure => simp [intOf]; omega
    · obtain rfl : k = m := by omega
      have d1 : wr.cell? ⟨wb, 1, none⟩ = some (.slice ra n cn) := by rw [hI.bel.cell (p := ⟨wb, 1, none⟩) hwb]; exact HC.out.1
      have HAT : Hid (∀ x : RowV, x.small → D.atKey (keyR x) .nil = ptrD ((lastOf (fun t => sameA (r (headOf hs t)) x) k).map p)) := hI.at_
      have HAS : Hid (∀ i j, i < j → j < k → p i < p j) := hI.asc
      have H2 : Hid (Win2 w wr.heap.size n k (sameR r) (headOf hs) p D 0 (fun _ => .slice none 0 0) wr) := win2_start hI
      clear hI HI HH HIN
      obtain ⟨wo, rfl⟩ : ∃ wo : World, wo = wr := ⟨_, rfl⟩
      generalize hBB : wo.heap.size = B at H2
      clear hBB
      go_wp2
      go_loopw [56] (fun i wr => ∃ (c : Nat) (v : Nat → Value), c ≤ n ∧ i = .int .i64 c ∧ Win2 w B n k (sameR r) (headOf hs) p D c v wr) (fun i _ => n - (intOf i).toNat)
      case atStart => exact ⟨0, _, Nat.zero_le _, rfl, H2.out⟩
      case round =>
        obtain ⟨c, v, hc, rfl, hI⟩ := hrel
        have HI : Hid (Win2 w B n k (sameR r) (headOf hs) p D c v wr) := hI
        by_cases hcn : c < n
        · obtain h0 | ⟨rb, roff, rfl, rbl, rc⟩ := HR.out
          · omega
          obtain ⟨a0, a1, a2, a3, a4⟩ := (rc c hcn).below hI.bel rbl
          have hsm := HSM.out c hcn
          have hws := hI.bel.size
          have hBs := hI.size
          have hat := HAT.out (r c) hsm
          unfold keyR at hat
          generalize hrk : r c = rk at a0 a1 a2 a3 a4 hsm hat
          have HRK : Hid (r c = rk) := hrk
          clear hrk rc
          obtain ⟨id, ps, ty, ag, du⟩ := rk
          simp only at a0 a1 a2 a3 a4 hat
          obtain ⟨ht, hg⟩ := hsm
          simp only at ht hg
          have HAT2 : Hid (D.atKey (keyL ty ag) .nil = ptrD ((lastOf (fun t => sameA (r (headOf hs t)) ⟨id, ps, ty, ag, du⟩) k).map p)) := hat
          have HTG : Hid (ty.size ≤ maxLen ∧ ag.size ≤ maxLen) := ⟨ht, hg⟩
          clear hI hat ht hg d1
          have hmapA : (wr.alloc (.cells #[.string id, .int .i64 ps, .string ty, .string ag, .bool du] 55)).ownsMap Trym.prog 53 ptrElem (w.heap.size + 1) k D := HI.out.map.alloc _
          cases hh : lastOf (fun t => sameA (r (headOf hs t)) ⟨id, ps, ty, ag, du⟩) k with
          | none =>
            have hlook : (Instr.lookup 67 (.map (some (w.heap.size + 1))) (.agg #[.string ty, .string ag]) false).run Trym.prog (wr.alloc (.cells #[.string id, .int .i64 ps, .string ty, .string ag, .bool du] 55)) = .ok (.pointer none) (wr.alloc (.cells #[.string id, .int .i64 ps, .string ty, .string ag, .bool du] 55)) :=
              lookup_eq (q := none) hmapA HTG.out.1 HTG.out.2 (by rw [HAT2.out, hh]; rfl)
            have HS : Hid (Win2 w B n k (sameR r) (headOf hs) p D (c + 1) v (wr.alloc (.cells #[.string id, .int .i64 ps, .string ty, .string ag, .bool du] 55))) :=
              win2_miss HI.out (World.grownBy_alloc _ _ _) (by unfold homeOf sameR; rw [HRK.out]; exact hh)
            clear hmapA hh
            go_wp2
            go_roundw
            case rel => exact ⟨c + 1, v, by omega, by go_num, HS.out⟩
            case measure => simp [intOf]; omega
          | some j =>
            have hlook : (Instr.lookup 67 (.map (some (w.heap.size + 1))) (.agg #[.string ty, .string ag]) false).run Trym.prog (wr.alloc (.cells #[.string id, .int .i64 ps, .string ty, .string ag, .bool du] 55)) = .ok (.pointer (some ⟨p j, 0, none⟩)) (wr.alloc (.cells #[.string id, .int .i64 ps, .string ty, .string ag, .bool du] 55)) :=
              lookup_eq (q := some (p j)) hmapA HTG.out.1 HTG.out.2 (by rw [HAT2.out, hh]; rfl)
            have hjk := (lastOf_some.1 hh).1
            have HH2 : Hid (homeOf (sameR r) (headOf hs) k c = some j) := by unfold homeOf sameR; rw [HRK.out]; exact hh
            obtain ⟨va, vl, vc, hv, hx0, hx1, hx2⟩ := lane_facts HI.out hjk (wr.alloc (.cells #[.string id, .int .i64 ps, .string ty, .string ag, .bool du] 55)) (World.grownBy_alloc _ _ _)
            have HV : Hid (v j = .slice va vl vc) := hv
            obtain ⟨pj1, pj2, -⟩ := HI.out.lane j hjk
            have hgr2 : wr.grownBy ((wr.alloc (.cells #[.string id, .int .i64 ps, .string ty, .string ag, .bool du] 55)).alloc (.cells #[.int .i64 (c : Int)] 3)) none := (World.grownBy_alloc _ _ _).trans (World.grownBy_alloc _ _ _)
            obtain ⟨va', vl', vc', hv', hw0, hw1, hw2⟩ := lane_facts HI.out hjk _ hgr2
            have hvv : Value.slice va' vl' vc' = .slice va vl vc := by rw [← hv', HV.out]
            injection hvv with e1 e2 e3
            subst e1 e2 e3
            have hnews := World.news_of_block (cs := #[.int .i64 (c : Int)]) (t := 3) (fr := (0, 0)) (Go.Deep.blk_alloc_new (wr.alloc (.cells #[.string id, .int .i64 ps, .string ty, .string ag, .bool du] 55)) (.cells #[.int .i64 (c : Int)] 3))
            rw [Go.Deep.nblk_alloc] at hnews
            have HNW : Hid (∀ i u, [Value.int .i64 (c : Int)][i]? = some u → ((wr.alloc (.cells #[.string id, .int .i64 ps, .string ty, .string ag, .bool du] 55)).alloc (.cells #[.int .i64 (c : Int)] 3)).cell? ((⟨wr.heap.size + 1, 0, none⟩ : Addr).add i) = some u) := hnews
            have HGR : Hid (wr.grownBy ((wr.alloc (.cells #[.string id, .int .i64 ps, .string ty, .string ag, .bool du] 55)).alloc (.cells #[.int .i64 (c : Int)] 3)) none) := hgr2
            have HX2 : Hid (((wr.alloc (.cells #[.string id, .int .i64 ps, .string ty, .string ag, .bool du] 55)).alloc (.cells #[.int .i64 (c : Int)] 3)).ownsRow B 3 1 (.slice va' vl' vc') (laneL (sameR r) (headOf hs) k j c).length (laneVals (laneL (sameR r) (headOf hs) k j c))) := hw2
            have hlen := laneL_len (sameR r) (headOf hs) k j c
            have HW0 : Hid (((wr.alloc (.cells #[.string id, .int .i64 ps, .string ty, .string ag, .bool du] 55)).alloc (.cells #[.int .i64 (c : Int)] 3)).cell? ⟨p j, 0, none⟩ = some (.slice va' vl' vc') ∧ ((wr.alloc (.cells #[.string id, .int .i64 ps, .string ty, .string ag, .bool du] 55)).alloc (.cells #[.int .i64 (c : Int)] 3)).frozen? ⟨p j, 0, none⟩ = false) := ⟨hw0, hw1⟩
            clear hmapA hh hv hv' hnews hgr2 hw0 hw1 hw2 hx2
            generalize hpj : p j = pj at hlook hx0 hx1 pj1 pj2 HW0
            have HPJ : Hid (p j = pj) := hpj
            clear hpj
            go_wp2_with (at_builtin; refine wpList_append_lies _ rfl _ _ 23 rfl B 3 i0 (.int .i64 0) 1 8 Trym.underlying23 HZ.out.1 HZ.out.2.1 HZ.out.2.2.1 HZ.out.2.2.2 rfl (by omega) (.slice va' vl' vc') (laneL (sameR r) (headOf hs) k j c).length (laneVals (laneL (sameR r) (headOf hs) k j c)) rfl HX2.out ⟨wr.heap.size + 1, 0, none⟩ 1 1 [.int .i64 (c : Int)] rfl rfl HNW.out (ints_oneCell .i64 [(c : Int)]) (by omega) (by unfold maxLen; omega) (by omega) (by simp; omega) (wr.heap.size + 2) (by simp) ?_; intro g cap w1 hown1 hgrow hat1 hlt1; have hy := app_facts HX2.out hgrow pj2 (by simp; omega) HW0.out.1 HW0.out.2; obtain ⟨hy0, hy1⟩ := hy)
            have HS : Hid (Win2 w B n k (sameR r) (headOf hs) p D (c + 1) _ _) := win2_hit HI.out HAS.out HGR.out hjk HH2.out (g := g) (cap := cap) (w1 := w1) hown1 (by rw [HV.out]; exact hgrow) (by rw [HV.out]; simpa using hat1)
            rw [HPJ.out] at HS
            clear hy0 hy1 hown1 hgrow hat1 hlt1
            go_roundw
            case rel => exact ⟨c + 1, _, by omega, by go_num, HS.out⟩
            case measure => simp [intOf]; omega
        · have hcc : c = n := by omega
          clear hI
          go_wp2
          go_ret
          have h := HI.out
          rw [hcc] at h
          exact ⟨rfl, B, p, D, v, h⟩
#print axioms lanes32
end Go.Proofs.Qxb6601498aMods

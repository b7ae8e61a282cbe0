/-
  The law FnGoingExact: the statement, out of the walk. The frame is the one that the kit's skeleton tool writes for slices of integers, turned to a slice of lanes.
-/
import Derived.Test.Qxb6601498aModsRows
import Derived.Test.Qxb6601498aModsGoingLaw
import Derived.WalkKit
import Derived.ProofKit
import Derived.OpenShut
import Derived.ChangeOld
import Derived.Below
import Derived.Deep.Slices
import Derived.Lib.SmallJoins
namespace Go.Proofs.Qxb6601498aMods.fnGoingExact
open Go.ChangeShapes Go.WideShapes Go.ChangeAt Go.RowKit
set_option linter.unusedVariables false

theorem own : ownKnob Trym.prog.godebug = none := by kernel_rfl
theorem laidOut : laidOutB Trym.prog = true := by kernel_rfl
theorem cells3 : Trym.prog.cellsOf 3 = 1 := by kernel_rfl
theorem cells4 : Trym.prog.cellsOf 4 = 1 := by kernel_rfl
theorem cells23 : Trym.prog.cellsOf 23 = 1 := by kernel_rfl
theorem cells43 : Trym.prog.cellsOf 43 = 4 := by kernel_rfl

theorem cells4_form {cs : List Value} (h : cs.length = 4) : ∃ v0 v1 v2 v3, cs = [v0, v1, v2, v3] := by
  match cs, h with
  | [v0, v1, v2, v3], _ => exact ⟨v0, v1, v2, v3, rfl⟩

section
variable {H : Type} {enc : TypeId × Value → H} {w : World}

/-- A slice of ints, read, holds ints. -/
theorem ints_of_trod {fuel : Nat} {v : Value} {x : DataW H × List MemPlace} (h : DataW.trod enc Trym.prog w 0 (fun _ => true) true fuel 23 [v] = some x) :
    ∃ (a : Option Addr) (l c : Nat) (zs : List Int), v = .slice a l c ∧ l ≤ maxLen ∧ IntsAt w a l zs := by
  rcases open_ints Trym.underlying23 Trym.underlying3 cells3 h with ⟨hcs, _⟩ | ⟨x, l, c, zs, hcs, _, hl, hm, hz, _, hcell, hwz⟩
  · refine ⟨none, 0, 0, [], by simpa using hcs, Nat.zero_le _, rfl, .inl rfl⟩
  · refine ⟨some x, l, c, zs.take l, by simpa using hcs, Nat.le_trans hl hm, ?_, ?_⟩
    · rw [List.length_take, hz]; simp; omega
    · by_cases h0 : l = 0
      · exact .inl h0
      · right
        simp only [if_true] at hz
        obtain ⟨b, off, spot⟩ := x
        have hspot : spot = none := by simpa [Addr.add] using World.cell?_spot (hcell 0 (by omega))
        subst hspot
        have hc0 : ∀ j, j < zs.length → w.cell? ⟨b, off + j, none⟩ = some (.int .i64 (zs.getD j 0)) := fun j hj => by rw [← add_plain]; exact hcell j hj
        refine ⟨b, off, rfl, World.block_lt_of_cell? _ _ (hc0 0 (by omega)), fun j hj => ?_⟩
        rw [hc0 j (by omega), Lib.getD_take _ _ _ hj]

/-- One lane, read. -/
theorem lane_of_trod {fuel : Nat} {cs : List Value} {x : DataW H × List MemPlace} (h : DataW.trod enc Trym.prog w 0 (fun _ => true) true fuel 43 cs = some x) :
    ∃ f : LaneV, cs = [.slice f.a f.l f.c, .int .i64 f.nx, .int .i64 f.tk, .bool f.dn] ∧ f.l ≤ maxLen ∧ IntsAt w f.a f.l f.zs := by
  obtain ⟨y0, y1, y2, y3, n, _, hlen, h0, h1, h2, h3⟩ := Go.Joins.trod_struct4 Trym.underlying43 h
  rw [cells43] at hlen
  obtain ⟨v0, v1, v2, v3, rfl⟩ := cells4_form hlen
  simp only [cells3, cells4, cells23] at h0 h1 h2 h3
  obtain ⟨a, l, c, zs, rfl, hl, hz⟩ := ints_of_trod (v := v0) h0
  obtain ⟨nx, e1, _, _⟩ := DataW.trod_int Trym.underlying3 h1
  obtain ⟨tk, e2, _, _⟩ := DataW.trod_int Trym.underlying3 h2
  obtain ⟨dn, e3, _⟩ := DataW.trod_bool Trym.underlying4 h3
  simp at e1 e2 e3
  subst e1 e2 e3
  exact ⟨⟨a, l, c, zs, nx, tk, dn⟩, rfl, hl, hz⟩

theorem lanes_of_trod {fuel : Nat} {a : Option Addr} {n c : Nat} {x : DataW H × List MemPlace} (h : DataW.trod enc Trym.prog w 0 (fun _ => true) true fuel 38 [.slice a n c] = some x) :
    n ≤ maxLen ∧ ∃ f, LanesAt w a n f := by
  have hinh : Inhabited LaneV := ⟨⟨none, 0, 0, [], 0, 0, false⟩⟩
  rcases Go.Deep.open_slice Trym.underlying38 h with ⟨hcs, _⟩ | ⟨x, len, cap, m, k, D, Pl, hcs, _, hl, hm, hmm, _, hx⟩
  · simp at hcs
    obtain ⟨rfl, rfl, rfl⟩ := hcs
    exact ⟨Nat.zero_le _, fun _ => ⟨none, 0, 0, [], 0, 0, false⟩, .inl rfl⟩
  · simp at hcs
    obtain ⟨rfl, rfl, rfl⟩ := hcs
    refine ⟨Nat.le_trans hl hm, ?_⟩
    by_cases h0 : n = 0
    · exact ⟨fun _ => ⟨none, 0, 0, [], 0, 0, false⟩, .inl h0⟩
    simp only [if_true] at hmm
    rw [cells43] at hx
    have hone : ∀ i, i < n → ∃ f : LaneV, w.cell? ((x.add (i * 4)).add 0) = some (.slice f.a f.l f.c) ∧ w.cell? ((x.add (i * 4)).add 1) = some (.int .i64 f.nx) ∧ w.cell? ((x.add (i * 4)).add 2) = some (.int .i64 f.tk) ∧ w.cell? ((x.add (i * 4)).add 3) = some (.bool f.dn) ∧ f.l ≤ maxLen ∧ IntsAt w f.a f.l f.zs := fun i hi => by
      obtain ⟨cs', h1, h2⟩ := hx i (by omega)
      obtain ⟨f, rfl, hf1, hf2⟩ := lane_of_trod h2
      obtain ⟨_, _, hc⟩ := World.cells?_some h1
      exact ⟨f, by simpa using hc 0 (by omega), by simpa using hc 1 (by omega), by simpa using hc 2 (by omega), by simpa using hc 3 (by omega), hf1, hf2⟩
    obtain ⟨f, hf⟩ := Go.Deep.choose_lt hone
    obtain ⟨b, off, spot⟩ := x
    have hspot : spot = none := by
      have := World.cell?_spot (hf 0 (by omega)).1
      simpa [Addr.add] using this
    subst hspot
    have hf' : ∀ i, i < n → w.cell? ⟨b, off + i * 4, none⟩ = some (.slice (f i).a (f i).l (f i).c) ∧ w.cell? ⟨b, off + i * 4 + 1, none⟩ = some (.int .i64 (f i).nx) ∧ w.cell? ⟨b, off + i * 4 + 2, none⟩ = some (.int .i64 (f i).tk) ∧ w.cell? ⟨b, off + i * 4 + 3, none⟩ = some (.bool (f i).dn) ∧ (f i).l ≤ maxLen ∧ IntsAt w (f i).a (f i).l (f i).zs := fun i hi => by
      have := hf i hi
      simpa only [add_plain, Nat.add_zero] using this
    exact ⟨f, .inr ⟨b, off, rfl, World.block_lt_of_cell? _ _ (hf' 0 (by omega)).1, hf'⟩⟩
end

set_option maxRecDepth 100000 in
theorem lifted (os : Os) (started : os.Started) (H : Type) (enc : TypeId × Value → H) :
    ReturnsInHanded {} Trym.checked os 5 .any (Rows.fnGoingExactSpec.pre6 enc Trym.prog Trym.f5 Rows.fnGoingExactRow.domain false) (Rows.fnGoingExactSpec.post enc Trym.prog Trym.f5 false true false false) := by
  refine returnsInHanded_of_change (C := Trym.checked) own started (by kernel_rfl) Trym.func5
    (ChangeSpec.witness6 (enc := enc) (C := Trym.checked) false ⟨#[], #[.slice none 0 0], []⟩ 8 (by kernel_rfl) (by kernel_rfl) (by kernel_rfl) (by kernel_rfl)) ?_
  intro W base args ds gs before hval0 hW hcnd _
  have hval : ∀ (j : Nat) t v, Trym.f5.params[j]? = some t → args[j]? = some v → Value.okWide Trym.prog W .any base t v := hval0
  have hW' := hW
  obtain ⟨p, q, hA0, hV, rfl, hfz, hnd⟩ := hW
  have hA : DataW.TrodAll enc Trym.prog W 0 (fun _ => true) true Trym.f5.params.toList args.toList ds p := hA0
  rw [Trym.params5] at hA hval
  obtain ⟨v0, vs0, d0, ds0, p0, q0, hargs, rfl, rfl, h0, r0⟩ := trodAll_cons hA
  obtain ⟨rfl, rfl, rfl⟩ := trodAll_nil r0
  obtain rfl : args = #[v0] := by cases args; simp_all
  obtain ⟨rfl, rfl⟩ := trodVars_none hV
  obtain ⟨a0, len0, cap0, rfl⟩ := okWide_slice Trym.underlying38 (hval 0 38 v0 rfl rfl)
  have k0 := h0
  have lt0 : ∀ x ∈ p0, x.block < W.heap.size := by obtain ⟨m, hm⟩ := k0; exact DataW.trod_lt m _ _ _ hm
  obtain ⟨hn0, f, w0⟩ : len0 ≤ maxLen ∧ ∃ f, LanesAt W a0 len0 f := by
    obtain ⟨fuel, hf⟩ := h0
    exact lanes_of_trod (by simpa [Value.cells] using hf)
  clear hA0 hval0
  refine (goingExact_walk a0 len0 cap0 f W hn0 w0).mono fun e W' ⟨he, bel⟩ => ?_
  subst he
  exact ⟨_, rfl, _, _, _, [], _, [], hW', trodAll_mk1 (shut_bool Trym.underlying4 _), (trodAll_cons_mk (Below.trod laidOut (by kernel_rfl) (of_decide_eq_true (by kernel_rfl)) k0 bel lt0) trodAll_mk0), rfl, bel.frame _, fun h => by cases h⟩

theorem over : Rows.fnGoingExactRow.holds Trym.pinned (OpenSpec.ofChange Rows.fnGoingExactSpec) :=
  OpenClaim.holds_of_wide 5 Trym.f5 rfl rfl rfl rfl rfl rfl rfl ⟨rfl, rfl, rfl, rfl, rfl⟩ rfl rfl rfl rfl rfl (by kernel_rfl) Trym.func5 (by kernel_rfl)
    (of_decide_eq_true (by kernel_rfl)) (by unfold Func.isWrapper; first | (rw [if_pos (by decide +kernel)]; kernel_rfl) | (rw [if_neg (by decide +kernel)]; exact ⟨rfl, rfl⟩))
    (fun os started H enc _ => lifted os started H enc)

/-- The statement. -/
theorem proved : Rows.FnGoingExactSaid := over
#print axioms proved
end Go.Proofs.Qxb6601498aMods.fnGoingExact

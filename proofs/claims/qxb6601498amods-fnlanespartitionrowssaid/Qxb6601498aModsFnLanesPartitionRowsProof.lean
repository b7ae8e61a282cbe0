/-
  The law FnLanesPartitionRows: the statement, out of the walk. The frame is the one that the kit's skeleton tool writes for slices of integers, turned to this function's four parameters.
-/
import Derived.Test.Qxb6601498aModsRows
import Derived.Test.Qxb6601498aModsPart
import Derived.Test.Qxb6601498aModsOpenRows
import Derived.WalkKit
import Derived.ProofKit
import Derived.OpenShut
import Derived.ChangeOld
import Derived.Below
namespace Go.Proofs.Qxb6601498aMods.fnLanesPartitionRows
open Go.ChangeShapes Go.WideShapes Go.ChangeAt Go.RowKit
set_option linter.unusedVariables false

set_option maxRecDepth 100000 in
theorem lifted (os : Os) (started : os.Started) (H : Type) (enc : TypeId × Value → H) :
    ReturnsInHanded {} Trym.checked os 4 .any (Rows.fnLanesPartitionRowsSpec.pre6 enc Trym.prog Trym.f4 Rows.fnLanesPartitionRowsRow.domain false) (Rows.fnLanesPartitionRowsSpec.post enc Trym.prog Trym.f4 false true false false) := by
  refine returnsInHanded_of_change (C := Trym.checked) openRows.own started (by kernel_rfl) Trym.func4
    (ChangeSpec.witness6 (enc := enc) (C := Trym.checked) false ⟨#[], #[.int .i64 0, .slice none 0 0, .slice none 0 0, .slice none 0 0], []⟩ 8 (by kernel_rfl) (by kernel_rfl) (by kernel_rfl) (by kernel_rfl)) ?_
  intro W base args ds gs before hval0 hW hcnd _
  have hval : ∀ (j : Nat) t v, Trym.f4.params[j]? = some t → args[j]? = some v → Value.okWide Trym.prog W .any base t v := hval0
  have hW' := hW
  obtain ⟨p, q, hA0, hV, rfl, hfz, hnd⟩ := hW
  have hA : DataW.TrodAll enc Trym.prog W 0 (fun _ => true) true Trym.f4.params.toList args.toList ds p := hA0
  rw [Trym.params4] at hA hval
  obtain ⟨v0, vs0, d0, ds0, p0, q0, hargs, rfl, rfl, h0, r0⟩ := trodAll_cons hA
  obtain ⟨v1, vs1, d1, ds1, p1, q1, rfl, rfl, rfl, h1, r1⟩ := trodAll_cons r0
  obtain ⟨v2, vs2, d2, ds2, p2, q2, rfl, rfl, rfl, h2, r2⟩ := trodAll_cons r1
  obtain ⟨v3, vs3, d3, ds3, p3, q3, rfl, rfl, rfl, h3, r3⟩ := trodAll_cons r2
  obtain ⟨rfl, rfl, rfl⟩ := trodAll_nil r3
  obtain rfl : args = #[v0, v1, v2, v3] := by cases args; simp_all
  obtain ⟨rfl, rfl⟩ := trodVars_none hV
  have k0 := h0
  have lt0 : ∀ x ∈ p0, x.block < W.heap.size := by obtain ⟨m, hm⟩ := k0; exact DataW.trod_lt m _ _ _ hm
  have k1 := h1
  have lt1 : ∀ x ∈ p1, x.block < W.heap.size := by obtain ⟨m, hm⟩ := k1; exact DataW.trod_lt m _ _ _ hm
  have k2 := h2
  have lt2 : ∀ x ∈ p2, x.block < W.heap.size := by obtain ⟨m, hm⟩ := k2; exact DataW.trod_lt m _ _ _ hm
  have k3 := h3
  have lt3 : ∀ x ∈ p3, x.block < W.heap.size := by obtain ⟨m, hm⟩ := k3; exact DataW.trod_lt m _ _ _ hm
  obtain ⟨after, rfl⟩ : ∃ after : Int, v0 = .int .i64 after := by
    obtain ⟨x, hx, _⟩ := open_int Trym.underlying2 (hval 0 2 v0 rfl rfl) h0
    exact ⟨x, hx⟩
  obtain ⟨a1, len1, cap1, rfl⟩ := okWide_slice Trym.underlying22 (hval 1 22 v1 rfl rfl)
  obtain ⟨a2, len2, cap2, rfl⟩ := okWide_slice Trym.underlying23 (hval 2 23 v2 rfl rfl)
  obtain ⟨a3, len3, cap3, rfl⟩ := okWide_slice Trym.underlying24 (hval 3 24 v3 rfl rfl)
  obtain ⟨n1, r, w1, s1⟩ : len1 ≤ maxLen ∧ ∃ r : Nat → RowV, RowsAt W a1 len1 r ∧ ∀ i, i < len1 → (r i).id.size ≤ maxLen ∧ (r i).ty.size ≤ maxLen ∧ (r i).ag.size ≤ maxLen := by
    obtain ⟨fuel, hf⟩ := h1
    exact openRows.rows_of_trod (by simpa [Value.cells] using hf)
  obtain ⟨n2, hs, w2⟩ : len2 ≤ maxLen ∧ ∃ zs, IntsAt W a2 len2 zs := by
    obtain ⟨fuel, hf⟩ := h2
    exact openRows.ints_of_trod Trym.underlying23 Trym.underlying3 openRows.cells3 (by simpa [Value.cells] using hf)
  obtain ⟨n3, zs, w3⟩ : len3 ≤ maxLen ∧ ∃ zs, IntsAt W a3 len3 zs := by
    obtain ⟨fuel, hf⟩ := h3
    exact openRows.ints_of_trod Trym.underlying24 Trym.underlying2 openRows.cells2 (by simpa [Value.cells] using hf)
  clear hA0 hval0
  refine (lanesPart_walk after a1 len1 cap1 a2 len2 cap2 a3 len3 cap3 r hs zs W n1 n2 n3 s1 w1 w2 w3).mono fun e W' ⟨he, bel⟩ => ?_
  subst he
  exact ⟨_, rfl, _, _, _, [], _, [], hW', trodAll_mk1 (shut_bool Trym.underlying4 _), (trodAll_cons_mk (Below.trod openRows.laidOut (by kernel_rfl) (of_decide_eq_true (by kernel_rfl)) k0 bel lt0) (trodAll_cons_mk (Below.trod openRows.laidOut (by kernel_rfl) (of_decide_eq_true (by kernel_rfl)) k1 bel lt1) (trodAll_cons_mk (Below.trod openRows.laidOut (by kernel_rfl) (of_decide_eq_true (by kernel_rfl)) k2 bel lt2) (trodAll_cons_mk (Below.trod openRows.laidOut (by kernel_rfl) (of_decide_eq_true (by kernel_rfl)) k3 bel lt3) trodAll_mk0)))), rfl, bel.frame _, fun h => by cases h⟩

theorem over : Rows.fnLanesPartitionRowsRow.holds Trym.pinned (OpenSpec.ofChange Rows.fnLanesPartitionRowsSpec) :=
  OpenClaim.holds_of_wide 4 Trym.f4 rfl rfl rfl rfl rfl rfl rfl ⟨rfl, rfl, rfl, rfl, rfl⟩ rfl rfl rfl rfl rfl (by kernel_rfl) Trym.func4 (by kernel_rfl)
    (of_decide_eq_true (by kernel_rfl)) (by unfold Func.isWrapper; first | (rw [if_pos (by decide +kernel)]; kernel_rfl) | (rw [if_neg (by decide +kernel)]; exact ⟨rfl, rfl⟩))
    (fun os started H enc _ => lifted os started H enc)

/-- The statement. -/
theorem proved : Rows.FnLanesPartitionRowsSaid := over
#print axioms proved
end Go.Proofs.Qxb6601498aMods.fnLanesPartitionRows

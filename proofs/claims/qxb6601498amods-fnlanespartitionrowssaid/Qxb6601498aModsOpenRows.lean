/-
  A []RelayB1Row, a []int and a []int64 among the arguments, opened.
-/
import Derived.Test.Qxb6601498aModsRow
import Derived.WalkKit
import Derived.ProofKit
import Derived.OpenShut
import Derived.ChangeOld
import Derived.Below
import Derived.Deep.Slices
import Derived.Lib.SmallJoins
namespace Go.Proofs.Qxb6601498aMods.openRows
open Go.ChangeShapes Go.WideShapes Go.ChangeAt Go.RowKit
set_option linter.unusedVariables false

theorem own : ownKnob Trym.prog.godebug = none := by kernel_rfl
theorem laidOut : laidOutB Trym.prog = true := by kernel_rfl
theorem cells2 : Trym.prog.cellsOf 2 = 1 := by kernel_rfl
theorem cells3 : Trym.prog.cellsOf 3 = 1 := by kernel_rfl
theorem cells4 : Trym.prog.cellsOf 4 = 1 := by kernel_rfl
theorem cells9 : Trym.prog.cellsOf 9 = 1 := by kernel_rfl
theorem cells36 : Trym.prog.cellsOf 36 = 5 := by kernel_rfl

theorem cells5_form {cs : List Value} (h : cs.length = 5) : ∃ v0 v1 v2 v3 v4, cs = [v0, v1, v2, v3, v4] := by
  match cs, h with
  | [v0, v1, v2, v3, v4], _ => exact ⟨v0, v1, v2, v3, v4, rfl⟩

section
variable {H : Type} {enc : TypeId × Value → H} {w : World}

/-- A slice of one-cell integers, read, holds ints. -/
theorem ints_of_trod {t e : TypeId} (ht : Trym.prog.underlying t = some (.slice e)) (he : Trym.prog.underlying e = some (.int .i64)) (hc : Trym.prog.cellsOf e = 1) {fuel : Nat} {a : Option Addr} {l c : Nat} {x : DataW H × List MemPlace} (h : DataW.trod enc Trym.prog w 0 (fun _ => true) true fuel t [.slice a l c] = some x) :
    l ≤ maxLen ∧ ∃ zs, IntsAt w a l zs := by
  rcases open_ints ht he hc h with ⟨hcs, _⟩ | ⟨x, l', c', zs, hcs, _, hl, hm, hz, _, hcell, hwz⟩
  · simp at hcs
    obtain ⟨rfl, rfl, rfl⟩ := hcs
    exact ⟨Nat.zero_le _, [], rfl, .inl rfl⟩
  · simp at hcs
    obtain ⟨rfl, rfl, rfl⟩ := hcs
    refine ⟨Nat.le_trans hl hm, zs.take l, ?_, ?_⟩
    · rw [List.length_take, hz]; simp; omega
    · by_cases h0 : l = 0
      · exact .inl h0
      · right
        simp only [if_true] at hz
        obtain ⟨b, off, spot⟩ := x
        have hspot : spot = none := by simpa [Addr.add] using World.cell?_spot (hcell 0 (by omega))
        subst hspot
        have hc0 : ∀ j, j < zs.length → w.cell? ⟨b, off + j, none⟩ = some (.int .i64 (zs.getD j 0)) := fun j hj => by rw [← add_plain]; exact hcell j hj
        refine ⟨b, off, rfl, World.block_lt_of_cell? _ _ (hc0 0 (by omega)), fun j hj => ?_⟩
        rw [hc0 j (by omega), Lib.getD_take _ _ _ hj]

/-- One row, read. -/
theorem row_of_trod {fuel : Nat} {cs : List Value} {x : DataW H × List MemPlace} (h : DataW.trod enc Trym.prog w 0 (fun _ => true) true fuel 36 cs = some x) :
    ∃ r : RowV, cs = [.string r.id, .int .i64 r.ps, .string r.ty, .string r.ag, .bool r.du] ∧ r.id.size ≤ maxLen ∧ r.ty.size ≤ maxLen ∧ r.ag.size ≤ maxLen := by
  obtain ⟨xs, n, _, _, hlen, hxs, hf⟩ := DataW.trod_struct Trym.underlying36 h
  rw [cells36] at hlen
  obtain ⟨v0, v1, v2, v3, v4, rfl⟩ := cells5_form hlen
  have hx : xs.length = 5 := hxs
  obtain ⟨y0, y1, y2, y3, y4, rfl⟩ : ∃ y0 y1 y2 y3 y4, xs = [y0, y1, y2, y3, y4] := by
    match xs, hx with
    | [y0, y1, y2, y3, y4], _ => exact ⟨y0, y1, y2, y3, y4, rfl⟩
  have h0 : DataW.trod enc Trym.prog w 0 (fun _ => true) true n 9 (([v0, v1, v2, v3, v4].drop 0).take (Trym.prog.cellsOf 9)) = some y0 := hf 0 _ rfl
  have h1 : DataW.trod enc Trym.prog w 0 (fun _ => true) true n 2 (([v0, v1, v2, v3, v4].drop 1).take (Trym.prog.cellsOf 2)) = some y1 := hf 1 _ rfl
  have h2 : DataW.trod enc Trym.prog w 0 (fun _ => true) true n 9 (([v0, v1, v2, v3, v4].drop 2).take (Trym.prog.cellsOf 9)) = some y2 := hf 2 _ rfl
  have h3 : DataW.trod enc Trym.prog w 0 (fun _ => true) true n 9 (([v0, v1, v2, v3, v4].drop 3).take (Trym.prog.cellsOf 9)) = some y3 := hf 3 _ rfl
  have h4 : DataW.trod enc Trym.prog w 0 (fun _ => true) true n 4 (([v0, v1, v2, v3, v4].drop 4).take (Trym.prog.cellsOf 4)) = some y4 := hf 4 _ rfl
  simp only [cells2, cells4, cells9] at h0 h1 h2 h3 h4
  obtain ⟨id, e0, _, s0⟩ := DataW.trod_string Trym.underlying9 h0
  obtain ⟨ps, e1, _, _⟩ := DataW.trod_int Trym.underlying2 h1
  obtain ⟨ty, e2, _, s2⟩ := DataW.trod_string Trym.underlying9 h2
  obtain ⟨ag, e3, _, s3⟩ := DataW.trod_string Trym.underlying9 h3
  obtain ⟨du, e4, _⟩ := DataW.trod_bool Trym.underlying4 h4
  simp at e0 e1 e2 e3 e4
  subst e0 e1 e2 e3 e4
  exact ⟨⟨id, ps, ty, ag, du⟩, rfl, s0, s2, s3⟩

theorem rows_of_trod {fuel : Nat} {a : Option Addr} {n c : Nat} {x : DataW H × List MemPlace} (h : DataW.trod enc Trym.prog w 0 (fun _ => true) true fuel 22 [.slice a n c] = some x) :
    n ≤ maxLen ∧ ∃ r : Nat → RowV, RowsAt w a n r ∧ ∀ i, i < n → (r i).id.size ≤ maxLen ∧ (r i).ty.size ≤ maxLen ∧ (r i).ag.size ≤ maxLen := by
  have hinh : Inhabited RowV := ⟨⟨⟨#[]⟩, 0, ⟨#[]⟩, ⟨#[]⟩, false⟩⟩
  rcases Go.Deep.open_slice Trym.underlying22 h with ⟨hcs, _⟩ | ⟨x, len, cap, m, k, D, Pl, hcs, _, hl, hm, hmm, _, hx⟩
  · simp at hcs
    obtain ⟨rfl, rfl, rfl⟩ := hcs
    exact ⟨Nat.zero_le _, fun _ => ⟨⟨#[]⟩, 0, ⟨#[]⟩, ⟨#[]⟩, false⟩, .inl rfl, fun i hi => absurd hi (Nat.not_lt_zero _)⟩
  · simp at hcs
    obtain ⟨rfl, rfl, rfl⟩ := hcs
    refine ⟨Nat.le_trans hl hm, ?_⟩
    by_cases h0 : n = 0
    · exact ⟨fun _ => ⟨⟨#[]⟩, 0, ⟨#[]⟩, ⟨#[]⟩, false⟩, .inl h0, fun i hi => by omega⟩
    simp only [if_true] at hmm
    rw [cells36] at hx
    have hone : ∀ i, i < n → ∃ r : RowV, w.cell? ((x.add (i * 5)).add 0) = some (.string r.id) ∧ w.cell? ((x.add (i * 5)).add 1) = some (.int .i64 r.ps) ∧ w.cell? ((x.add (i * 5)).add 2) = some (.string r.ty) ∧ w.cell? ((x.add (i * 5)).add 3) = some (.string r.ag) ∧ w.cell? ((x.add (i * 5)).add 4) = some (.bool r.du) ∧ r.id.size ≤ maxLen ∧ r.ty.size ≤ maxLen ∧ r.ag.size ≤ maxLen := fun i hi => by
      obtain ⟨cs', h1, h2⟩ := hx i (by omega)
      obtain ⟨r, rfl, hr⟩ := row_of_trod h2
      obtain ⟨_, _, hc⟩ := World.cells?_some h1
      exact ⟨r, by simpa using hc 0 (by omega), by simpa using hc 1 (by omega), by simpa using hc 2 (by omega), by simpa using hc 3 (by omega), by simpa using hc 4 (by omega), hr⟩
    obtain ⟨r, hr⟩ := Go.Deep.choose_lt hone
    obtain ⟨b, off, spot⟩ := x
    have hspot : spot = none := by
      have := World.cell?_spot (hr 0 (by omega)).1
      simpa [Addr.add] using this
    subst hspot
    have hr' : ∀ i, i < n → RowCells w b (off + i * 5) (r i) := fun i hi => by
      obtain ⟨h0, h1, h2, h3, h4, _⟩ := hr i hi
      simp only [add_plain, Nat.add_zero] at h0 h1 h2 h3 h4
      exact ⟨h0, h1, h2, h3, h4⟩
    exact ⟨r, .inr ⟨b, off, rfl, World.block_lt_of_cell? _ _ (hr' 0 (by omega)).1, hr'⟩, fun i hi => (hr i hi).2.2.2.2.2⟩
end
end Go.Proofs.Qxb6601498aMods.openRows

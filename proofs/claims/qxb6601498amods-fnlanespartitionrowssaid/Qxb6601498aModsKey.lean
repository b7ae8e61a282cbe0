/-
  The map of window.lanes: its key (an aggregate: two strings), its elements (pointers to lanes), as a datum.
-/
import Derived.Test.Qxb6601498aModsRow2
import Derived.Maps.Own
import Derived.Maps.OwnOps
import Derived.Maps.OwnSet
import Derived.DeepKeys4
namespace Go.Proofs.Qxb6601498aMods
open Go.RowKit Go.Maps
set_option linter.unusedVariables false

theorem Trym.laidOut' : laidOutB Trym.prog = true := by kernel_rfl
theorem Trym.row53 : (53 : TypeId) < Trym.prog.types.size := of_decide_eq_true (by kernel_rfl)
theorem Trym.wide53 : (match Trym.prog.underlying 53 with | some (.array _ _) | some (.struct _) => true | _ => false) = true := by kernel_rfl
theorem Trym.law53 : Keyed Trym.prog 53 := Keyed.of_law (deep_law_laid Trym.laidOut' (m := 2) (by omega) Trym.row53 (by kernel_rfl) Trym.wide53)
theorem Trym.cells53 : Trym.prog.cellsOf 53 = 2 := by kernel_rfl
theorem Trym.cells9 : Trym.prog.cellsOf 9 = 1 := by kernel_rfl
theorem Trym.keyType53 : Trym.prog.keyType 53 = true := by kernel_rfl
theorem Trym.size89 : Trym.prog.types.size = 89 := by kernel_rfl
theorem Trym.zero63 (w : World) : (zeroValue 63).run Trym.prog w = .ok (.pointer none) w := by kernel_rfl

/-- An aggregate's value. -/
def aggVal (t g : ByteArray) : Value := .agg #[.string t, .string g]

theorem formed53 (c0 c1 : Value) : (Value.agg #[c0, c1]).formed Trym.prog 53 = true := by
  simp [Value.formed, Trym.underlying53, Trym.cells53]

theorem lits53 (t g : ByteArray) (ht : t.size ≤ maxLen) (hg : g.size ≤ maxLen) (k : Nat) : Trym.prog.keyLits (k + 2) 53 [.string t, .string g] = some [.string t.data.toList, .string g.data.toList] := by
  simp [Program.keyLits, Trym.underlying53, Trym.underlying9, Trym.cells53, Trym.cells9, ht, hg]

/-- What an aggregate reads as. -/
def keyL (t g : ByteArray) : Lit := .string (keyBytes [.string t.data.toList, .string g.data.toList])
theorem keyL_eq (t g : ByteArray) (ht : t.size ≤ maxLen) (hg : g.size ≤ maxLen) : keyOf Trym.prog 53 (.agg #[.string t, .string g]) = some (keyL t g) := by
  unfold keyOf
  rw [Trym.underlying53]
  simp only [Trym.keyType53, formed53, Bool.and_self, if_true]
  rw [Trym.size89]
  have h : (Value.agg #[.string t, .string g]).cells.toList = [.string t, .string g] := rfl
  rw [h, lits53 t g ht hg 88]
  rfl

theorem toList_inj (a b : ByteArray) : (a.toList == b.toList) = true ↔ a = b := by
  rw [beq_iff_eq, ByteArray.toList_eq, ByteArray.toList_eq]
  constructor
  · intro h
    cases a; cases b
    congr 1
    exact Array.toList_inj.1 h
  · intro h; rw [h]

/-- Are two rows of one aggregate? -/
def sameA (x y : RowV) : Bool := x.ty.toList == y.ty.toList && x.ag.toList == y.ag.toList
theorem sameA_iff (x y : RowV) : sameA x y = true ↔ x.ty = y.ty ∧ x.ag = y.ag := by
  unfold sameA
  rw [Bool.and_eq_true, toList_inj, toList_inj]

/-- Rows small enough to be keys. -/
def RowV.small (x : RowV) : Prop := x.ty.size ≤ maxLen ∧ x.ag.size ≤ maxLen
def keyR (x : RowV) : Lit := keyL x.ty x.ag
theorem keyR_eq {x : RowV} (h : x.small) : keyOf Trym.prog 53 (.agg #[.string x.ty, .string x.ag]) = some (keyR x) := keyL_eq _ _ h.1 h.2
theorem keyR_inj {x y : RowV} (hx : x.small) (hy : y.small) : keyR x = keyR y ↔ sameA x y = true := by
  rw [sameA_iff]
  constructor
  · intro h
    have h1 := keyR_eq hx
    have h2 := keyR_eq hy
    rw [← h] at h2
    have := Trym.law53.inj h1 h2
    simp at this
    exact this
  · rintro ⟨h1, h2⟩
    unfold keyR
    rw [h1, h2]
theorem keyR_isKey {x : RowV} (h : x.small) : WideAt.IsKeyLit (keyR x) := Trym.law53.key (keyR_eq h)

/-! The elements: a nil pointer, or a pointer to the head of a block. -/
def ptrElem (v : Value) : Option (DataW Unit × List MemPlace) :=
  match v with
  | .pointer none => some (.nil, [])
  | .pointer (some ⟨b, 0, none⟩) => some (.lit (.int .i64 b), [])
  | _ => none
/-- The datum of a lane's block, if any. -/
def ptrD : Option Nat → DataW Unit
  | none => .nil
  | some b => .lit (.int .i64 b)
def ptrV : Option Nat → Value
  | none => .pointer none
  | some b => .pointer (some ⟨b, 0, none⟩)
theorem ptrElem_mk (o : Option Nat) : ptrElem (ptrV o) = some (ptrD o, []) := by cases o <;> rfl
theorem ptrElem_inv {v : Value} {o : Option Nat} {ps : List MemPlace} (h : ptrElem v = some (ptrD o, ps)) : v = ptrV o := by
  unfold ptrElem at h
  split at h
  · cases o with
    | none => rfl
    | some b => simp [ptrD] at h
  · cases o with
    | none => simp [ptrD] at h
    | some b =>
      simp only [ptrD, Option.some.injEq, Prod.mk.injEq, DataW.lit.injEq, Lit.int.injEq, true_and] at h
      have e := Int.ofNat.inj h.1
      subst e
      rfl
  · cases h

/-- The look-up at the operation: the pointer that the datum says. -/
theorem wpList_lookup_ptr (w : World) {ops : Array Oper} {rest : List Oper} {o : Oper} {a : Act} {Q : Exit → Act → World → Prop}
    (hg : o.guard = none) (m x : Operand) (hop : o.op = Op.lookup 67 m x false) (b n : Nat) (D : DataW Unit)
    (hm : a.eval m = .map (some b)) (hown : w.ownsMap Trym.prog 53 ptrElem b n D) (key : Value) (kl : Lit) (hx : a.eval x = key) (hkey : keyOf Trym.prog 53 key = some kl) (q : Option Nat) (hat : D.atKey kl .nil = ptrD q)
    (hK : wpList Trym.prog ops Q rest (a.put o.dst (ptrV q)) w) :
    wpList Trym.prog ops Q (o :: rest) a w := by
  refine wpList_plain hg fun K' hK' => ?_
  obtain ⟨v, ps, hrun, hv⟩ := hown.lookup Trym.law53 Trym.underlying67 (Trym.zero63 w) (zd := .nil) (zp := []) rfl hkey
  rw [hat] at hv
  have hv' := ptrElem_inv hv
  subst hv'
  unfold Oper.wp
  simp [execOp, hop, hm, hx, hrun, Result.andThen]
  exact hK' _ _ hK
#print axioms wpList_lookup_ptr
end Go.Proofs.Qxb6601498aMods

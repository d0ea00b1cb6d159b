/-
  A ROW OF uint64 THAT THE CALL ITSELF MADE, told by a plain list of numbers; and a slice of integers that came in. Small laws, over the guide's 'ownsRow' and 'Below'.
-/
import Derived.Test.Qxb6601348aRows
import Derived.WalkKit
import Derived.ProofKit
import Derived.Below
namespace Go.Proofs.Qxb6601348a
open Go.RowKit

/-- WHAT THE WALK IS TOLD OF A SLICE OF INTEGERS THAT CAME IN (the shell's own definition). -/
def IsRow (k : IntKind) (w : World) (a : Option Addr) (len cap : Nat) (zs : List Int) : Prop :=
  (a = none ∧ len = 0 ∧ cap = 0 ∧ zs = []) ∨
  ∃ x, a = some x ∧ len ≤ cap ∧ cap ≤ maxLen ∧ zs.length = cap ∧ (∀ i, i < zs.length → w.cell? (x.add i) = some (.int k (zs.getD i 0))) ∧ ∀ n ∈ zs, (Lit.int k n).wf = true

/-- Block g is a row of n numbers of the call's own, the list L. -/
def Own (w : World) (g n : Nat) (L : List Int) : Prop := w.ownsRow g 29 1 (.slice (some ⟨g, 0, none⟩) n n) n (L.map (Value.int .u64))

theorem Own.len {w : World} {g n : Nat} {L : List Int} (h : Own w g n L) : L.length = n := by
  have := h.1
  simpa using this

theorem Own.lt {w : World} {g n : Nat} {L : List Int} (h : Own w g n L) : g < w.heap.size := (World.ownsRow.lt h g rfl).2

theorem Own.cell {w : World} {g n : Nat} {L : List Int} (h : Own w g n L) (j : Nat) (hj : j < n) : w.cell? ⟨g, j, none⟩ = some (.int .u64 (L.getD j 0)) := by
  have hl := h.len
  rw [World.ownsRow.cellAt h j (by omega)]
  simp [List.getElem?_eq_getElem (show j < L.length by omega)]

theorem Own.frozen {w : World} {g n : Nat} {L : List Int} (h : Own w g n L) (j : Nat) : w.frozen? ⟨g, j, none⟩ = false := World.ownsRow.frozenAt h j

theorem Own.store {w : World} {g n : Nat} {L : List Int} (h : Own w g n L) (j : Nat) (x : Int) : Own (w.setCell ⟨g, j, none⟩ (.int .u64 x)) g n (L.set j x) := by
  have := (World.ownsRow.stored h j (.int .u64 x)).1
  unfold Own
  rw [List.map_set]
  exact this

/-- What is owned stays owned in a world that turned nothing below a number past it. -/
theorem Own.later {w w' : World} {g n B : Nat} {L : List Int} (h : Own w g n L) (hb : Below B w w') (hg : g < B) : Own w' g n L := by
  obtain ⟨h1, h2⟩ := h
  refine ⟨h1, ?_⟩
  rcases h2 with h2 | ⟨g', cap, cur, hv, hgg, hh, r⟩
  · exact Or.inl h2
  · have hv' := hv
    simp only [Value.slice.injEq, Option.some.injEq, Addr.mk.injEq, and_true, true_and] at hv'
    refine Or.inr ⟨g', cap, cur, hv, hgg, ?_, r⟩
    rw [hb.block g' (by omega)]
    exact hh

theorem Own.alloc {w : World} {g n : Nat} {L : List Int} (h : Own w g n L) (o : Obj) : Own (w.alloc o) g n L := World.ownsRow.alloc h o

/-- Out of the law of 'make': n zeros. -/
theorem Own.made {w : World} {g n : Nat} (h : w.ownsRow g 29 1 (.slice (some ⟨g, 0, none⟩) n n) n (madeCells (Value.cells (.int .u64 0)) (n * 1)).toList) : Own w g n (List.replicate n 0) := by
  have e : (madeCells (Value.cells (.int .u64 0)) (n * 1)).toList = (List.replicate n (0 : Int)).map (Value.int .u64) := by
    rw [List.map_replicate, Nat.mul_one]
    exact toList_madeCells_one _ _
  rw [e] at h
  exact h

theorem Try.info29 : (Try.prog.info? 29).map (fun i => (i.zero, i.size, i.bytes)) = some (some (.int .u64 0), 1, 8) := by kernel_rfl
end Go.Proofs.Qxb6601348a

import Derived.Test.Qxb6616962aState
/-! ZZnewHoldback (15). -/
namespace Go.Proofs.Qxb6616962a
open Go.RowKit
set_option linter.unusedVariables false
set_option linter.unusedSimpArgs false
set_option maxRecDepth 8000

/-- The cells of a holdback (block sb) and of its stage (block st). -/
structure HB (w : World) (sb st : Nat) (sf : Int) (accV av vV jv rV : Value) : Prop where
  s0 : w.cell? ⟨sb, 0, none⟩ = some (.pointer (some ⟨st, 0, none⟩))
  s1 : w.cell? ⟨sb, 1, none⟩ = some accV
  s2 : w.cell? ⟨sb, 2, none⟩ = some av
  s4 : w.cell? ⟨sb, 4, none⟩ = some vV
  s5 : w.cell? ⟨sb, 5, none⟩ = some jv
  t0 : w.cell? ⟨st, 0, none⟩ = some (.int .i64 sf)
  t2 : w.cell? ⟨st, 2, none⟩ = some rV
  sF : ∀ j, w.frozen? ⟨sb, j, none⟩ = false
  tF : ∀ j, w.frozen? ⟨st, j, none⟩ = false
  ne : sb ≠ st

theorem HB.lt {w : World} {sb st : Nat} {sf : Int} {accV av vV jv rV : Value} (h : HB w sb st sf accV av vV jv rV) : sb < w.heap.size ∧ st < w.heap.size :=
  ⟨World.block_lt_of_cell? _ _ h.s0, World.block_lt_of_cell? _ _ h.t0⟩

theorem HB.of_blocks {w w' : World} {sb st : Nat} {sf : Int} {accV av vV jv rV : Value} (h : HB w sb st sf accV av vV jv rV) (e1 : w'.heap[sb]? = w.heap[sb]?) (e2 : w'.heap[st]? = w.heap[st]?) : HB w' sb st sf accV av vV jv rV := by
  refine ⟨?_, ?_, ?_, ?_, ?_, ?_, ?_, ?_, ?_, h.ne⟩
  · rw [World.cell?_of_block (w := w) e1]; exact h.s0
  · rw [World.cell?_of_block (w := w) e1]; exact h.s1
  · rw [World.cell?_of_block (w := w) e1]; exact h.s2
  · rw [World.cell?_of_block (w := w) e1]; exact h.s4
  · rw [World.cell?_of_block (w := w) e1]; exact h.s5
  · rw [World.cell?_of_block (w := w) e2]; exact h.t0
  · rw [World.cell?_of_block (w := w) e2]; exact h.t2
  · intro j; rw [World.frozen?_of_block (w := w) e1]; exact h.sF j
  · intro j; rw [World.frozen?_of_block (w := w) e2]; exact h.tF j

theorem HB.set1 {w : World} {sb st : Nat} {sf : Int} {accV av vV jv rV : Value} (h : HB w sb st sf accV av vV jv rV) (x : Value) : HB (w.setCell ⟨sb, 1, none⟩ x) sb st sf x av vV jv rV := by
  have hne := h.ne
  refine ⟨?_, World.cell?_setCell_same _ _ _ h.s1, ?_, ?_, ?_, ?_, ?_, ?_, ?_, h.ne⟩
  · rw [World.cell?_setCell_other _ _ _ _ (by simp)]; exact h.s0
  · rw [World.cell?_setCell_other _ _ _ _ (by simp)]; exact h.s2
  · rw [World.cell?_setCell_other _ _ _ _ (by simp)]; exact h.s4
  · rw [World.cell?_setCell_other _ _ _ _ (by simp)]; exact h.s5
  · rw [World.cell?_setCell_other _ _ _ _ (by simp [hne])]; exact h.t0
  · rw [World.cell?_setCell_other _ _ _ _ (by simp [hne])]; exact h.t2
  · intro j; rw [World.frozen?_setCell]; exact h.sF j
  · intro j; rw [World.frozen?_setCell]; exact h.tF j

theorem HB.set2 {w : World} {sb st : Nat} {sf : Int} {accV av vV jv rV : Value} (h : HB w sb st sf accV av vV jv rV) (x : Value) : HB (w.setCell ⟨sb, 2, none⟩ x) sb st sf accV x vV jv rV := by
  have hne := h.ne
  refine ⟨?_, ?_, World.cell?_setCell_same _ _ _ h.s2, ?_, ?_, ?_, ?_, ?_, ?_, h.ne⟩
  · rw [World.cell?_setCell_other _ _ _ _ (by simp)]; exact h.s0
  · rw [World.cell?_setCell_other _ _ _ _ (by simp)]; exact h.s1
  · rw [World.cell?_setCell_other _ _ _ _ (by simp)]; exact h.s4
  · rw [World.cell?_setCell_other _ _ _ _ (by simp)]; exact h.s5
  · rw [World.cell?_setCell_other _ _ _ _ (by simp [hne])]; exact h.t0
  · rw [World.cell?_setCell_other _ _ _ _ (by simp [hne])]; exact h.t2
  · intro j; rw [World.frozen?_setCell]; exact h.sF j
  · intro j; rw [World.frozen?_setCell]; exact h.tF j

theorem HB.set4 {w : World} {sb st : Nat} {sf : Int} {accV av vV jv rV : Value} (h : HB w sb st sf accV av vV jv rV) (x : Value) : HB (w.setCell ⟨sb, 4, none⟩ x) sb st sf accV av x jv rV := by
  have hne := h.ne
  refine ⟨?_, ?_, ?_, World.cell?_setCell_same _ _ _ h.s4, ?_, ?_, ?_, ?_, ?_, h.ne⟩
  · rw [World.cell?_setCell_other _ _ _ _ (by simp)]; exact h.s0
  · rw [World.cell?_setCell_other _ _ _ _ (by simp)]; exact h.s1
  · rw [World.cell?_setCell_other _ _ _ _ (by simp)]; exact h.s2
  · rw [World.cell?_setCell_other _ _ _ _ (by simp)]; exact h.s5
  · rw [World.cell?_setCell_other _ _ _ _ (by simp [hne])]; exact h.t0
  · rw [World.cell?_setCell_other _ _ _ _ (by simp [hne])]; exact h.t2
  · intro j; rw [World.frozen?_setCell]; exact h.sF j
  · intro j; rw [World.frozen?_setCell]; exact h.tF j

theorem HB.set5 {w : World} {sb st : Nat} {sf : Int} {accV av vV jv rV : Value} (h : HB w sb st sf accV av vV jv rV) (x : Value) : HB (w.setCell ⟨sb, 5, none⟩ x) sb st sf accV av vV x rV := by
  have hne := h.ne
  refine ⟨?_, ?_, ?_, ?_, World.cell?_setCell_same _ _ _ h.s5, ?_, ?_, ?_, ?_, h.ne⟩
  · rw [World.cell?_setCell_other _ _ _ _ (by simp)]; exact h.s0
  · rw [World.cell?_setCell_other _ _ _ _ (by simp)]; exact h.s1
  · rw [World.cell?_setCell_other _ _ _ _ (by simp)]; exact h.s2
  · rw [World.cell?_setCell_other _ _ _ _ (by simp)]; exact h.s4
  · rw [World.cell?_setCell_other _ _ _ _ (by simp [hne])]; exact h.t0
  · rw [World.cell?_setCell_other _ _ _ _ (by simp [hne])]; exact h.t2
  · intro j; rw [World.frozen?_setCell]; exact h.sF j
  · intro j; rw [World.frozen?_setCell]; exact h.tF j

theorem HB.setT2 {w : World} {sb st : Nat} {sf : Int} {accV av vV jv rV : Value} (h : HB w sb st sf accV av vV jv rV) (x : Value) : HB (w.setCell ⟨st, 2, none⟩ x) sb st sf accV av vV jv x := by
  have hne := h.ne.symm
  refine ⟨?_, ?_, ?_, ?_, ?_, ?_, World.cell?_setCell_same _ _ _ h.t2, ?_, ?_, h.ne⟩
  · rw [World.cell?_setCell_other _ _ _ _ (by simp [hne])]; exact h.s0
  · rw [World.cell?_setCell_other _ _ _ _ (by simp [hne])]; exact h.s1
  · rw [World.cell?_setCell_other _ _ _ _ (by simp [hne])]; exact h.s2
  · rw [World.cell?_setCell_other _ _ _ _ (by simp [hne])]; exact h.s4
  · rw [World.cell?_setCell_other _ _ _ _ (by simp [hne])]; exact h.s5
  · rw [World.cell?_setCell_other _ _ _ _ (by simp)]; exact h.t0
  · intro j; rw [World.frozen?_setCell]; exact h.sF j
  · intro j; rw [World.frozen?_setCell]; exact h.tF j

end Go.Proofs.Qxb6616962a

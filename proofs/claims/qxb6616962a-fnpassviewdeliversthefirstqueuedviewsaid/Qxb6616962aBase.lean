import Derived.Test.Qxb6616962aRows
import Derived.WalkKit
import Derived.WalkSpells
import Derived.WalkLawsBesides
import Derived.Laws.CopyOwn
import Derived.Lib.SliceRun
import Derived.Deep.RegionLawGrows
/-! Rows of values, whatever their element's type; slices that come in; what a walk turns. -/
namespace Go.Proofs.Qxb6616962a
open Go.RowKit
set_option linter.unusedVariables false
set_option linter.unusedSimpArgs false
set_option maxRecDepth 8000

/-- Block g is a row of cap elements of sz cells each, none frozen, the first cells vs. -/
def RowV (w : World) (g : Nat) (t : TypeId) (sz cap : Nat) (vs : List Value) : Prop :=
  ∃ cur : Array Value, w.heap[g]? = some (.cells cur t (0, 0)) ∧ vs.length ≤ cap * sz ∧ cap ≤ maxLen ∧ cur.size = cap * sz ∧ cur.toList.take vs.length = vs

theorem RowV.lt {w : World} {g : Nat} {t : TypeId} {sz cap : Nat} {vs : List Value} (h : RowV w g t sz cap vs) : g < w.heap.size := by
  obtain ⟨cur, hg, _⟩ := h
  exact (Array.getElem?_eq_some_iff.1 hg).1

theorem RowV.cap_le {w : World} {g : Nat} {t : TypeId} {sz cap : Nat} {vs : List Value} (h : RowV w g t sz cap vs) : vs.length ≤ cap * sz ∧ cap ≤ maxLen := by
  obtain ⟨cur, hg, h1, h2, _⟩ := h
  exact ⟨h1, h2⟩

theorem RowV.cell {w : World} {g : Nat} {t : TypeId} {sz cap : Nat} {vs : List Value} (h : RowV w g t sz cap vs) {j : Nat} {x : Value} (hj : vs[j]? = some x) : w.cell? ⟨g, j, none⟩ = some x := by
  obtain ⟨cur, hg, _, _, _, ht⟩ := h
  have hl : j < vs.length := (List.getElem?_eq_some_iff.1 hj).1
  have h1 : (cur.toList.take vs.length)[j]? = some x := by rw [ht, hj]
  rw [List.getElem?_take_of_lt hl] at h1
  simp only [World.cell?, hg]
  simpa using h1

theorem RowV.frozen {w : World} {g : Nat} {t : TypeId} {sz cap : Nat} {vs : List Value} (h : RowV w g t sz cap vs) (j : Nat) : w.frozen? ⟨g, j, none⟩ = false := by
  obtain ⟨cur, hg, _⟩ := h
  simp [World.frozen?, hg]

theorem RowV.of_block {w w' : World} {g : Nat} {t : TypeId} {sz cap : Nat} {vs : List Value} (h : RowV w g t sz cap vs) (e : w'.heap[g]? = w.heap[g]?) : RowV w' g t sz cap vs := by
  obtain ⟨cur, hg, r⟩ := h
  exact ⟨cur, e.trans hg, r⟩

theorem RowV.set {w : World} {g : Nat} {t : TypeId} {sz cap : Nat} {vs : List Value} (h : RowV w g t sz cap vs) (i : Nat) (x : Value) (hi : i < vs.length) : RowV (w.setCell ⟨g, i, none⟩ x) g t sz cap (vs.set i x) := by
  obtain ⟨cur, hg, h1, h2, h3, h4⟩ := h
  refine ⟨cur.setIfInBounds i x, ?_, by simpa using h1, h2, by simpa using h3, ?_⟩
  · simp [World.setCell, Array.getElem?_modify, hg]
  · rw [List.length_set, Array.toList_setIfInBounds, List.take_set, h4]

theorem RowV.take {w : World} {g : Nat} {t : TypeId} {sz cap : Nat} {vs : List Value} (h : RowV w g t sz cap vs) (k : Nat) : RowV w g t sz cap (vs.take k) := by
  obtain ⟨cur, hg, h1, h2, h3, h4⟩ := h
  refine ⟨cur, hg, by simp; omega, h2, h3, ?_⟩
  rw [List.length_take, ← List.take_take, h4]

/-- Cells at an address. -/
def SrcV (w : World) (a : Addr) (vs : List Value) : Prop := ∀ j x, vs[j]? = some x → w.cell? (a.add j) = some x

theorem addr_add (g o j : Nat) : (⟨g, o, none⟩ : Addr).add j = ⟨g, o + j, none⟩ := by unfold Addr.add; split <;> simp_all

theorem RowV.src {w : World} {g : Nat} {t : TypeId} {sz cap : Nat} {vs : List Value} (h : RowV w g t sz cap vs) : SrcV w ⟨g, 0, none⟩ vs := by
  intro j x hj
  rw [addr_add, Nat.zero_add]
  exact h.cell hj

theorem SrcV.below {B : Nat} {w w' : World} {a : Addr} {vs : List Value} (h : SrcV w a vs) (hb : Below B w w') (hB : w.heap.size ≤ B) : SrcV w' a vs := by
  intro j x hj
  have h1 := h j x hj
  rw [hb.cell (Nat.lt_of_lt_of_le (World.block_lt_of_cell? _ _ h1) hB)]
  exact h1

/-- A slice of one-cell elements that is only read. -/
def InV (w : World) (v : Value) (vs : List Value) : Prop := (v = .slice none 0 0 ∧ vs = []) ∨ ∃ ad c, v = .slice (some ad) vs.length c ∧ vs.length ≤ c ∧ SrcV w ad vs

theorem InV.below {w w' : World} {v : Value} {vs : List Value} {B : Nat} (h : InV w v vs) (hb : Below B w w') (hB : w.heap.size ≤ B) : InV w' v vs := by
  obtain h | ⟨ad, c, rfl, h1, h2⟩ := h
  · exact Or.inl h
  · exact Or.inr ⟨ad, c, rfl, h1, h2.below hb hB⟩

/-- A slice that is nil or a whole row of the call's own. -/
def OwnV (w : World) (v : Value) (t : TypeId) (vs : List Value) : Prop := (v = .slice none 0 0 ∧ vs = []) ∨ ∃ g c, v = .slice (some ⟨g, 0, none⟩) vs.length c ∧ RowV w g t 1 c vs

/-- The block of a slice. -/
def blkOf : Value → Option Nat
  | .slice (some a) _ _ => some a.block
  | _ => none

theorem OwnV.inV {w : World} {v : Value} {t : TypeId} {vs : List Value} (h : OwnV w v t vs) : InV w v vs := by
  obtain h | ⟨g, c, rfl, hr⟩ := h
  · exact Or.inl h
  · exact Or.inr ⟨_, c, rfl, by have := hr.cap_le.1; omega, hr.src⟩

theorem OwnV.of_blocks {w w' : World} {v : Value} {t : TypeId} {vs : List Value} (h : OwnV w v t vs) (e : ∀ g, blkOf v = some g → w'.heap[g]? = w.heap[g]?) : OwnV w' v t vs := by
  obtain h | ⟨g, c, rfl, hr⟩ := h
  · exact Or.inl h
  · exact Or.inr ⟨g, c, rfl, hr.of_block (e g rfl)⟩

theorem OwnV.lt {w : World} {v : Value} {t : TypeId} {vs : List Value} (h : OwnV w v t vs) {g : Nat} (hg : blkOf v = some g) : g < w.heap.size := by
  obtain ⟨rfl, rfl⟩ | ⟨g', c, rfl, hr⟩ := h
  · cases hg
  · simp [blkOf] at hg; subst hg; exact hr.lt

theorem OwnV.len {w : World} {v : Value} {t : TypeId} {vs : List Value} (h : OwnV w v t vs) : ∃ a c, v = .slice a vs.length c ∧ vs.length ≤ c ∧ c ≤ maxLen := by
  obtain ⟨rfl, rfl⟩ | ⟨g, c, rfl, hr⟩ := h
  · exact ⟨none, 0, rfl, by simp, Nat.zero_le _⟩
  · exact ⟨_, c, rfl, by have := hr.cap_le.1; omega, hr.cap_le.2⟩

/-- What a walk has turned: the blocks that ex names, and new ones. -/
structure Chg (w w' : World) (ex : Nat → Prop) : Prop where
  os : w'.os = w.os
  tape : w'.tape = w.tape
  output : w'.output = w.output
  size : w.heap.size ≤ w'.heap.size
  block : ∀ k, k < w.heap.size → ¬ ex k → w'.heap[k]? = w.heap[k]?

theorem Chg.refl (w : World) (ex : Nat → Prop) : Chg w w ex := ⟨rfl, rfl, rfl, Nat.le_refl _, fun _ _ _ => rfl⟩
theorem Chg.trans {w w1 w2 : World} {ex : Nat → Prop} (h : Chg w w1 ex) (k : Chg w1 w2 ex) : Chg w w2 ex :=
  ⟨k.os.trans h.os, k.tape.trans h.tape, k.output.trans h.output, Nat.le_trans h.size k.size, fun j hj he => (k.block j (Nat.lt_of_lt_of_le hj h.size) he).trans (h.block j hj he)⟩
theorem Chg.below {w w' : World} {ex : Nat → Prop} (h : Below w.heap.size w w') : Chg w w' ex := ⟨h.os, h.tape, h.output, h.size, fun k hk _ => h.block k hk⟩
theorem Chg.grown {w w' : World} {ex : Nat → Prop} {row : Option Nat} (h : w.grownBy w' row) (hr : ∀ k, row = some k → ex k) : Chg w w' ex :=
  ⟨h.os, h.tape, h.output, h.size, fun k hk he => h.block k hk (fun e => he (hr k e.symm))⟩
theorem Chg.set {w : World} {ex : Nat → Prop} (a : Addr) (v : Value) (h : ex a.block) : Chg w (w.setCell a v) ex :=
  ⟨rfl, rfl, rfl, by simp [World.setCell], fun k hk he => Below.heap_setCell _ _ _ _ (fun e => he (e ▸ h))⟩
theorem Chg.toBelow {w w' : World} {ex : Nat → Prop} {B : Nat} (h : Chg w w' ex) (hB : B ≤ w.heap.size) (hx : ∀ k, ex k → B ≤ k) : Below B w w' :=
  ⟨h.os, h.tape, h.output, h.size, fun k hk => h.block k (by omega) (fun e => by have := hx k e; omega)⟩

end Go.Proofs.Qxb6616962a

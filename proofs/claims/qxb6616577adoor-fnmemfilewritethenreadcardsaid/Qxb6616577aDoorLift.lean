import Derived.Test.Qxb6616577aDoorPlain
import Derived.Test.Qxb6616577aDoorCards
import Derived.Test.Qxb6616577aDoorTie
import Derived.ProofKit
import Derived.ChangeSame
import Derived.ChangeVars
import Derived.ChangeSlices
import Derived.ChangeMaps5
import Derived.JoinedOf
import Derived.Carry
import Derived.RowKitTokens
import Derived.LaidLaws
import Derived.LaidHandle
import Derived.Stop.LaidErr
import Derived.SevenTiedAt
/-! What the rows of this seat share: the listed variables, a slice of bytes that comes in. -/
namespace Go.Proofs.Qxb6616577aDoor
open Go.ChangeShapes Go.WideShapes Go.ChangeAt Go.RowKit
open Go.ChangeMaps (open_string shut_string)
set_option linter.unusedVariables false
set_option linter.unusedSimpArgs false

theorem Tryd.own : ownKnob Tryd.prog.godebug = none := by kernel_rfl
theorem Tryd.laidOut : laidOutB Tryd.pinned.checked.prog = true := by kernel_rfl
theorem Tryd.cells5 : Tryd.prog.cellsOf 5 = 1 := by kernel_rfl
theorem Tryd.cells124 : Tryd.prog.cellsOf 124 = 1 := by kernel_rfl
theorem Tryd.cells9 : Tryd.prog.cellsOf 9 = 1 := by kernel_rfl
/-- The name in a listed datum. -/
def nmOf : DataW Unit → String
  | .iface n _ => n
  | _ => ""

theorem Tryd.row103 (u : TypeId) (h : Tryd.prog.typeName? 3 u = some (nmOf Rows.laid_io_EOF)) : u = 103 := by
  have key : ∀ x : String, x = nmOf Rows.laid_io_EOF → ((List.range Tryd.prog.types.size).all fun u => Tryd.prog.typeName? 3 u != some x || u == 103) = true := by
    intro x hx
    subst hx
    kernel_rfl
  exact typeName_ptr_named (nm := "errors.errorString") (key _ (by decide)) (by kernel_rfl) (by decide) u (h.trans (congrArg some (by decide)))

theorem Tryd.t0 : (Tryd.prog.globals[0]?).map (·.type) = some 25 := by kernel_rfl
theorem Tryd.t1 : (Tryd.prog.globals[1]?).map (·.type) = some 25 := by kernel_rfl
theorem Tryd.t2 : (Tryd.prog.globals[2]?).map (·.type) = some 25 := by kernel_rfl
theorem Tryd.t3 : (Tryd.prog.globals[3]?).map (·.type) = some 25 := by kernel_rfl

theorem globs_of_laid {W : World} (h : laidMetH Tryd.prog Rows.fnMemFileReadAtSplitRow.laid W) : Globs W := by
  have h0 : laidMet Tryd.prog Rows.fnMemFileReadAtSplitRow.laid W := h
  obtain ⟨a0, s0, v0, _⟩ := laid_sentinel (g := 0) h0 (by kernel_rfl) Tryd.t0 Tryd.underlying25 Tryd.row103 Tryd.underlying103 Tryd.underlying124 rfl rfl Tryd.underlying9 Tryd.cells124 Tryd.cells9
  have h1 := h0.tail
  obtain ⟨a3, s3, v3, _⟩ := laid_sentinel (g := 3) h1 (by kernel_rfl) Tryd.t3 Tryd.underlying25 Tryd.row103 Tryd.underlying103 Tryd.underlying124 rfl rfl Tryd.underlying9 Tryd.cells124 Tryd.cells9
  have h2 := h1.tail
  obtain ⟨a2, s2, v2, _⟩ := laid_sentinel (g := 2) h2 (by kernel_rfl) Tryd.t2 Tryd.underlying25 Tryd.row103 Tryd.underlying103 Tryd.underlying124 rfl rfl Tryd.underlying9 Tryd.cells124 Tryd.cells9
  have h3 := h2.tail
  obtain ⟨a1, s1, v1, _⟩ := laid_sentinel (g := 1) h3 (by kernel_rfl) Tryd.t1 Tryd.underlying25 Tryd.row103 Tryd.underlying103 Tryd.underlying124 rfl rfl Tryd.underlying9 Tryd.cells124 Tryd.cells9
  exact ⟨⟨a0, by simpa using World.var?_cell (g := 0) (by kernel_rfl) v0 0⟩, ⟨a1, by simpa using World.var?_cell (g := 1) (by kernel_rfl) v1 0⟩, ⟨a2, by simpa using World.var?_cell (g := 2) (by kernel_rfl) v2 0⟩, ⟨a3, by simpa using World.var?_cell (g := 3) (by kernel_rfl) v3 0⟩⟩

/-- A slice of bytes that comes in. -/
theorem open_bytes {H : Type} {enc : TypeId × Value → H} {W : World} {base : Nat} {sp : Nat → Bool} {held : Bool} {a : Option Addr} {len cap : Nat} {d : DataW H} {p : List MemPlace}
    (h : DataW.Trod enc Tryd.prog W base sp held 23 (.slice a len cap) d p) : ∃ X : List Int, len = X.length ∧ InAt W (.slice a len cap) X ∧ len ≤ cap ∧ cap ≤ maxLen := by
  obtain ⟨fuel, hf⟩ := h
  obtain ⟨e, _⟩ | ⟨ad, l, c, zs, e, _, hl, hc, hz, _, hcell, _⟩ := open_ints Tryd.underlying23 Tryd.underlying5 Tryd.cells5 hf
  · simp [Value.cells] at e
    obtain ⟨rfl, rfl, rfl⟩ := e
    exact ⟨[], rfl, Or.inl ⟨rfl, rfl⟩, Nat.le_refl _, Nat.zero_le _⟩
  · simp [Value.cells] at e
    obtain ⟨rfl, rfl, rfl⟩ := e
    have hzl : len ≤ zs.length := by rw [hz]; split <;> omega
    refine ⟨zs.take len, by simp; omega, Or.inr ⟨ad, cap, by congr 1; simp; omega, by simp; omega, ?_⟩, hl, hc⟩
    intro j x hj
    rw [List.getElem?_take] at hj
    split at hj
    · have hjl : j < zs.length := by omega
      rw [hcell j hjl]
      rw [List.getD_eq_getElem?_getD, hj]
      rfl
    · cases hj

theorem i64_bounds {o : Int} (h : (Lit.int .i64 o).wf = true) : -9223372036854775808 ≤ o ∧ o ≤ 9223372036854775807 := by
  simp [Lit.wf, IntKind.min, IntKind.max, IntKind.signed, IntKind.bits] at h
  omega

theorem tcons {H : Type} {enc : TypeId × Value → H} {P : Program} {w : World} {base : Nat} {spare : Nat → Bool} {held : Bool} {t : TypeId} {ts : List TypeId} {v : Value} {vs : List Value} {d : DataW H} {ds : List (DataW H)} {p p' : List MemPlace}
    (h : DataW.Trod enc P w base spare held t v d p) (hs : DataW.TrodAll enc P w base spare held ts vs ds p') : DataW.TrodAll enc P w base spare held (t :: ts) (v :: vs) (d :: ds) (p ++ p') := ⟨p, p', h, hs, rfl⟩

end Go.Proofs.Qxb6616577aDoor

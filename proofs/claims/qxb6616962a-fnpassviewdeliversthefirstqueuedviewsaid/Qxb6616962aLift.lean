import Derived.Test.Qxb6616962aClone2
import Derived.ProofKit
import Derived.ChangeSame
import Derived.ChangeVars
import Derived.ChangeSlices
import Derived.JoinedOf
import Derived.Carry
import Derived.RowKitTokens
import Derived.Deep.Matrix
import Derived.Deep.Grids
/-! Slices that come in. -/
namespace Go.Proofs.Qxb6616962a
open Go.ChangeShapes Go.WideShapes Go.ChangeAt Go.RowKit Go.Deep
set_option linter.unusedVariables false
set_option linter.unusedSimpArgs false

theorem Try.own : ownKnob Try.prog.godebug = none := by kernel_rfl
theorem Try.laidOut : laidOutB Try.pinned.checked.prog = true := by kernel_rfl
theorem Try.cells3 : Try.prog.cellsOf 3 = 1 := by kernel_rfl
theorem Try.cells24 : Try.prog.cellsOf 24 = 1 := by kernel_rfl
theorem Try.cells32 : Try.prog.cellsOf 32 = 1 := by kernel_rfl
theorem Try.cells4 : Try.prog.cellsOf 4 = 1 := by kernel_rfl

theorem open_intsV {H : Type} {enc : TypeId × Value → H} {W : World} {base : Nat} {sp : Nat → Bool} {held : Bool} {a : Option Addr} {len cap : Nat} {d : DataW H} {p : List MemPlace} {t e : TypeId} {k : IntKind} (ht : Try.prog.underlying t = some (.slice e)) (he : Try.prog.underlying e = some (.int k)) (hc : Try.prog.cellsOf e = 1)
    (h : DataW.Trod enc Try.prog W base sp held t (.slice a len cap) d p) : ∃ X : List Int, len = X.length ∧ InV W (.slice a len cap) (X.map (Value.int k)) ∧ len ≤ maxLen := by
  obtain ⟨fuel, hf⟩ := h
  obtain ⟨e, _⟩ | ⟨ad, l, c, zs, e, _, hl, hc, hz, _, hcell, _⟩ := open_ints ht he hc hf
  · simp [Value.cells] at e
    obtain ⟨rfl, rfl, rfl⟩ := e
    exact ⟨[], rfl, Or.inl ⟨rfl, rfl⟩, Nat.zero_le _⟩
  · simp [Value.cells] at e
    obtain ⟨rfl, rfl, rfl⟩ := e
    have hzl : len ≤ zs.length := by rw [hz]; split <;> omega
    refine ⟨zs.take len, by rw [List.length_take, Nat.min_eq_left hzl], Or.inr ⟨ad, cap, by rw [List.length_map, List.length_take, Nat.min_eq_left hzl], by rw [List.length_map, List.length_take, Nat.min_eq_left hzl]; exact hl, ?_⟩, Nat.le_trans hl hc⟩
    intro j x hj
    rw [List.getElem?_map, List.getElem?_take] at hj
    split at hj
    · have hjl : j < zs.length := by omega
      rw [hcell j hjl]
      rw [List.getElem?_eq_getElem hjl] at hj
      simp at hj
      subst hj
      rw [List.getD_eq_getElem?_getD, List.getElem?_eq_getElem hjl]
      rfl
    · cases hj

theorem open_boolsV {H : Type} {enc : TypeId × Value → H} {W : World} {base : Nat} {held : Bool} {a : Option Addr} {len cap : Nat} {d : DataW H} {p : List MemPlace}
    (h : DataW.Trod enc Try.prog W base (fun _ => true) held 37 (.slice a len cap) d p) : ∃ X : List Bool, len = X.length ∧ InV W (.slice a len cap) (X.map Value.bool) ∧ len ≤ maxLen := by
  obtain ⟨fuel, hf⟩ := h
  obtain ⟨e, _⟩ | ⟨ad, l, c, B, e, _, hl, hc, _, hcell⟩ := open_bools Try.underlying37 Try.underlying4 Try.cells4 hf
  · simp [Value.cells] at e
    obtain ⟨rfl, rfl, rfl⟩ := e
    exact ⟨[], rfl, Or.inl ⟨rfl, rfl⟩, Nat.zero_le _⟩
  · simp [Value.cells] at e
    obtain ⟨rfl, rfl, rfl⟩ := e
    refine ⟨(List.range len).map B, by simp, Or.inr ⟨ad, cap, by simp, by simpa using hl, ?_⟩, Nat.le_trans hl hc⟩
    intro j x hj
    by_cases hjl : j < len
    · rw [hcell j (by omega)]
      simp [hjl] at hj
      rw [hj]
    · simp [hjl] at hj

/-- A slice of slices of uint64 that comes in. -/
theorem open_rowsV {H : Type} {enc : TypeId × Value → H} {W : World} {base : Nat} {held : Bool} {a : Option Addr} {len cap : Nat} {d : DataW H} {p : List MemPlace}
    (h : DataW.Trod enc Try.prog W base (fun _ => true) held 36 (.slice a len cap) d p) : ∃ X : List (Value × List Value), len = X.length ∧ InVV W (.slice a len cap) X ∧ len ≤ maxLen ∧ (∀ x ∈ X, x.2.length ≤ maxLen) ∧ ∀ x ∈ X, ∃ us : List Int, x.2 = us.map (Value.int .u64) := by
  obtain ⟨fuel, hf⟩ := h
  obtain ⟨e, _⟩ | ⟨ad, l, c, A, L, C, Z, e, _, hl, hc, _, hrow⟩ := open_int_rows Try.underlying36 Try.underlying24 Try.underlying32 Try.cells24 Try.cells32 hf
  · simp [Value.cells] at e
    obtain ⟨rfl, rfl, rfl⟩ := e
    exact ⟨[], rfl, ⟨Or.inl ⟨rfl, rfl⟩, fun x hx => by cases hx⟩, Nat.zero_le _, (fun x hx => by cases hx), fun x hx => by cases hx⟩
  · simp [Value.cells] at e
    obtain ⟨rfl, rfl, rfl⟩ := e
    have each : ∀ r, r < len → InV W (.slice (A r) (L r) (C r)) (((Z r).take (L r)).map (Value.int .u64)) ∧ ((Z r).take (L r)).length ≤ maxLen := by
      intro r hr
      obtain ⟨h1, h2, h3, h4, h5, h6, h7⟩ := hrow r (by omega)
      have hlz : ((Z r).take (L r)).length = L r := by simp; omega
      refine ⟨?_, by rw [hlz]; exact Nat.le_trans h2 h3⟩
      cases hA : A r with
      | none =>
        have hC := h6 hA
        have hL : L r = 0 := by omega
        rw [hC, hL]
        exact Or.inl ⟨rfl, by simp⟩
      | some a' =>
        obtain ⟨_, hcell⟩ := h7 a' hA
        refine Or.inr ⟨a', C r, by rw [List.length_map, hlz], by rw [List.length_map, hlz]; exact h2, ?_⟩
        intro j x hj
        rw [List.getElem?_map, List.getElem?_take] at hj
        split at hj
        · rename_i hjl
          have hjz : j < (Z r).length := by omega
          rw [hcell j (by omega)]
          rw [List.getElem?_eq_getElem hjz] at hj
          simp at hj
          subst hj
          rw [List.getD_eq_getElem?_getD, List.getElem?_eq_getElem hjz]
          rfl
        · cases hj
    have hmem : ∀ x ∈ (List.range len).map (fun r => ((.slice (A r) (L r) (C r) : Value), ((Z r).take (L r)).map (Value.int .u64))), ∃ r, r < len ∧ x = ((.slice (A r) (L r) (C r) : Value), ((Z r).take (L r)).map (Value.int .u64)) := by
      intro x hx
      obtain ⟨r, hr, rfl⟩ := List.mem_map.1 hx
      exact ⟨r, List.mem_range.1 hr, rfl⟩
    refine ⟨(List.range len).map (fun r => ((.slice (A r) (L r) (C r) : Value), ((Z r).take (L r)).map (Value.int .u64))), by simp, ⟨Or.inr ⟨ad, cap, by simp, by simpa using hl, ?_⟩, ?_⟩, Nat.le_trans hl hc, ?_, ?_⟩
    · intro j x hj
      by_cases hjl : j < len
      · rw [(hrow j (by omega)).1]
        simp [hjl] at hj
        rw [hj]
      · simp [hjl] at hj
    · intro x hx
      obtain ⟨r, hr, rfl⟩ := hmem x hx
      refine ⟨(each r hr).1, fun u hu => ?_⟩
      obtain ⟨n, _, rfl⟩ := List.mem_map.1 hu
      rfl
    · intro x hx
      obtain ⟨r, hr, rfl⟩ := hmem x hx
      rw [List.length_map]
      exact (each r hr).2
    · intro x hx
      obtain ⟨r, hr, rfl⟩ := hmem x hx
      exact ⟨_, rfl⟩

theorem i64_bounds {o : Int} (h : (Lit.int .i64 o).wf = true) : -9223372036854775808 ≤ o ∧ o ≤ 9223372036854775807 := by
  simp [Lit.wf, IntKind.min, IntKind.max, IntKind.signed, IntKind.bits] at h
  omega

theorem tcons {H : Type} {enc : TypeId × Value → H} {P : Program} {w : World} {base : Nat} {spare : Nat → Bool} {held : Bool} {t : TypeId} {ts : List TypeId} {v : Value} {vs : List Value} {d : DataW H} {ds : List (DataW H)} {p p' : List MemPlace}
    (h : DataW.Trod enc P w base spare held t v d p) (hs : DataW.TrodAll enc P w base spare held ts vs ds p') : DataW.TrodAll enc P w base spare held (t :: ts) (v :: vs) (d :: ds) (p ++ p') := ⟨p, p', h, hs, rfl⟩

end Go.Proofs.Qxb6616962a

import Derived.Test.Qxb6616962aNew1
/-! ZZnewHoldback (15): its first loop. -/
namespace Go.Proofs.Qxb6616962a
open Go.RowKit
set_option linter.unusedVariables false
set_option linter.unusedSimpArgs false
set_option maxRecDepth 8000

/-- The accounts hold the given slices, each with cuts of its length. -/
def AccOK (cs : List Value) (accs : List (Value × Value)) : Prop := ∀ (j : Nat) (p : Value × Value), accs[j]? = some p → cs[j]? = some p.1 ∧ ∃ va m g, p.1 = .slice va m m ∧ p.2 = .slice (some ⟨g, 0, none⟩) m m

/-- The views as the three slices say. -/
def ViewsOK (ps : List Int) (bs : List Bool) (vs : List (Int × Value × Bool)) : Prop := ∀ (j : Nat) (x : Int × Value × Bool), vs[j]? = some x → ps[j]? = some x.1 ∧ bs[j]? = some x.2.2 ∧ ∃ g, x.2.1 = .pointer (some ⟨g, 0, none⟩)

theorem InV.at {w : World} {a : Option Addr} {n c : Nat} {vs : List Value} {k : Nat} {x : Value} (h : InV w (.slice a n c) vs) (hx : vs[k]? = some x) : ∃ ad, a = some ad ∧ w.cell? (ad.add k) = some x ∧ n = vs.length ∧ n ≤ c := by
  obtain ⟨e, e2⟩ | ⟨ad, c', e, hc, h2⟩ := h
  · rw [e2] at hx; cases hx
  · simp at e
    obtain ⟨rfl, rfl, rfl⟩ := e
    exact ⟨ad, rfl, h2 k x hx, rfl, hc⟩

/-- What stands in a round of the second loop, w1 the world where it began. -/
structure R2 (w1 wr : World) (sb st : Nat) (sf : Int) (accV av : Value) (ps : List Int) (bs : List Bool) (k : Nat) (vV : Value) (vs : List (Int × Value × Bool)) : Prop where
  len : vs.length = k
  own : wr.ownsRow w1.heap.size 87 3 vV k (vs.flatMap viewC)
  ok : ViewsOK ps bs vs
  hb : HB wr sb st sf accV av vV (.pointer none) (.slice none 0 0)
  chg : Chg w1 wr (fun q => q = sb)

/-- make([]heldCut, m) in whatever world. -/
theorem run_mk57 (m : Nat) (hm : m ≤ 1048576) (w : World) : (Instr.makeSlice 57 (.int .i64 (m : Int)) (.int .i64 (m : Int))).run Try.prog w = .ok (.slice (some ⟨w.heap.size, 0, none⟩) m m) (w.alloc (.cells (madeCells (Value.agg #[.int .u64 0, .bool false, .bool false]).cells (m * 3)) 128)) := by
  obtain ⟨i0, hi, hz0, hz1, hz2⟩ := info_parts Try.info128
  have h := run_make (P := Try.prog) w 57 128 i0 _ Try.underlying57 hi hz0 .i64 .i64 (m : Int) (m : Int) (by omega) (Int.le_refl _) (by rw [hz2]; omega) (by omega)
  rw [hz1] at h
  simpa using h

theorem blk2 (wr : World) (A B : Obj) (q : Nat) (hq : q < wr.heap.size) : ((wr.alloc A).alloc B).heap[q]? = wr.heap[q]? := by
  rw [Below.heap_alloc _ _ _ (by simp; omega)]
  exact Below.heap_alloc wr A q hq

/-- What stands in a round of the first loop. -/
structure R1 (w wr : World) (sf : Int) (av : Value) (cs : List Value) (k : Nat) (accV : Value) (accs : List (Value × Value)) : Prop where
  len : accs.length = k
  own : wr.ownsRow (w.heap.size + 2) 83 4 accV k (accs.flatMap accC)
  ok : AccOK cs accs
  hb : HB wr (w.heap.size + 1) w.heap.size sf accV av (.slice none 0 0) (.pointer none) (.slice none 0 0)
  below : Below w.heap.size w wr
  size : w.heap.size + 2 ≤ wr.heap.size

theorem R1.next {w wr w4 : World} {sf : Int} {av accV : Value} {cs : List Value} {k m gv cv : Nat} {va : Option Addr} {accs : List (Value × Value)} (h : R1 w wr sf av cs k accV accs) (hv : cs[k]? = some (.slice va m m)) (hsz : w.heap.size + 2 ≤ wr.heap.size)
    (GB : ∀ q, q < wr.heap.size → some q ≠ accV.ownBlock → w4.heap[q]? = wr.heap[q]?) (GS : w4.os = wr.os ∧ w4.tape = wr.tape ∧ w4.output = wr.output ∧ wr.heap.size ≤ w4.heap.size)
    (O4 : w4.ownsRow (w.heap.size + 2) 83 4 (.slice (some ⟨gv, 0, none⟩) (k + 1) cv) (k + 1) (accs.flatMap accC ++ [.slice va m m, .slice (some ⟨wr.heap.size, 0, none⟩) m m, .bool false, .bool false])) (hsb : some (w.heap.size + 1) ≠ accV.ownBlock) (hst : some w.heap.size ≠ accV.ownBlock) :
    R1 w (w4.setCell ⟨w.heap.size + 1, 1, none⟩ (.slice (some ⟨gv, 0, none⟩) (k + 1) cv)) sf av cs (k + 1) (.slice (some ⟨gv, 0, none⟩) (k + 1) cv) (accs ++ [(.slice va m m, .slice (some ⟨wr.heap.size, 0, none⟩) m m)]) := by
  have hgv := (O4.lt gv rfl).1
  refine ⟨by simp [h.len], ?_, ?_, ?_, ?_, ?_⟩
  · rw [List.flatMap_append]
    have hg : w4.grownBy (w4.setCell ⟨w.heap.size + 1, 1, none⟩ (.slice (some ⟨gv, 0, none⟩) (k + 1) cv)) (some (w.heap.size + 1)) :=
      ⟨rfl, rfl, rfl, by simp [World.setCell], fun q hq hne => Below.heap_setCell _ _ _ _ (fun e => hne (by rw [e]))⟩
    exact O4.kept hg (Or.inr (by show some gv ≠ some (w.heap.size + 1); simp; omega))
  · intro j p hj
    by_cases hjk : j < accs.length
    · rw [List.getElem?_append_left hjk] at hj
      exact h.ok j p hj
    · have hjl : j < (accs ++ [(Value.slice va m m, Value.slice (some ⟨wr.heap.size, 0, none⟩) m m)]).length := (List.getElem?_eq_some_iff.1 hj).1
      simp at hjl
      obtain rfl : j = accs.length := by omega
      rw [List.getElem?_append_right (Nat.le_refl _)] at hj
      simp at hj
      subst hj
      exact ⟨by rw [h.len]; exact hv, va, m, wr.heap.size, rfl, rfl⟩
  · exact (h.hb.of_blocks (GB _ (by omega) hsb) (GB _ (by omega) hst)).set1 _
  · refine (Below.trans h.below ⟨GS.1, GS.2.1, GS.2.2.1, GS.2.2.2, fun q hq => GB q (by have := h.below.size; omega) (fun e => by have := (h.own.lt _ e.symm).1; omega)⟩).setCell (by show w.heap.size ≤ w.heap.size + 1; omega) _
  · have := GS.2.2.2
    simp [World.setCell]
    omega

/-- The n-th tail of a body. -/
def tailN : Nat → Code → Code
  | 0, c => c
  | n + 1, .seq _ b => tailN n b
  | _ + 1, c => c

theorem own_of {w w' : World} {base : Nat} {e : TypeId} {sz : Nat} {v : Value} {n : Nat} {xs : List Value} (h : w.ownsRow base e sz v n xs) (hb : ∀ g, v.ownBlock = some g → w'.heap[g]? = w.heap[g]?) : w'.ownsRow base e sz v n xs := by
  refine ⟨h.1, ?_⟩
  rcases h.2 with hn | ⟨g, cap, cur, rfl, h1, hgg, rest⟩
  · exact .inl hn
  · exact .inr ⟨g, cap, cur, rfl, h1, (hb g rfl).trans hgg, rest⟩

theorem R2.next {w1 wx w4 : World} {sb st : Nat} {sf p u : Int} {b : Bool} {av accV vV : Value} {ps : List Int} {bs : List Bool} {k gv cv : Nat} {vs : List (Int × Value × Bool)} (h : R2 w1 wx sb st sf accV av ps bs k vV vs) (hp : ps[k]? = some p) (hb : bs[k]? = some b) (hsb1 : sb < w1.heap.size) (hst1 : st < w1.heap.size)
    (GB : ∀ q, q < wx.heap.size → some q ≠ vV.ownBlock → w4.heap[q]? = wx.heap[q]?) (GS : w4.os = wx.os ∧ w4.tape = wx.tape ∧ w4.output = wx.output ∧ wx.heap.size ≤ w4.heap.size)
    (O4 : w4.ownsRow w1.heap.size 87 3 (.slice (some ⟨gv, 0, none⟩) (k + 1) cv) (k + 1) (vs.flatMap viewC ++ [.int .i64 p, .pointer (some ⟨wx.heap.size, 0, none⟩), .bool b])) :
    R2 w1 (w4.setCell ⟨sb, 4, none⟩ (.slice (some ⟨gv, 0, none⟩) (k + 1) cv)) sb st sf accV av ps bs (k + 1) (.slice (some ⟨gv, 0, none⟩) (k + 1) cv) (vs ++ [(p, .pointer (some ⟨wx.heap.size, 0, none⟩), b)]) := by
  have hgv := (O4.lt gv rfl).1
  have hsz := h.chg.size
  have hne : ∀ q, q < w1.heap.size → some q ≠ vV.ownBlock := fun q hq e => by have := (h.own.lt _ e.symm).1; omega
  refine ⟨by simp [h.len], ?_, ?_, ?_, ?_⟩
  · rw [List.flatMap_append]
    refine own_of O4 ?_
    intro g hg
    cases hg
    exact Below.heap_setCell _ _ _ _ (by show gv ≠ sb; omega)
  · intro j x hj
    by_cases hjk : j < vs.length
    · rw [List.getElem?_append_left hjk] at hj
      exact h.ok j x hj
    · have hjl : j < (vs ++ [(p, Value.pointer (some ⟨wx.heap.size, 0, none⟩), b)]).length := (List.getElem?_eq_some_iff.1 hj).1
      simp at hjl
      obtain rfl : j = vs.length := by omega
      rw [List.getElem?_append_right (Nat.le_refl _)] at hj
      simp at hj
      subst hj
      exact ⟨by rw [h.len]; exact hp, by rw [h.len]; exact hb, wx.heap.size, rfl⟩
  · exact (h.hb.of_blocks (GB _ (by omega) (hne _ hsb1)) (GB _ (by omega) (hne _ hst1))).set4 _
  · refine ⟨GS.1.trans h.chg.os, GS.2.1.trans h.chg.tape, GS.2.2.1.trans h.chg.output, ?_, ?_⟩
    · have := GS.2.2.2
      simp [World.setCell]
      omega
    · intro q hq hne2
      rw [Below.heap_setCell _ _ _ _ (by show q ≠ sb; exact hne2), GB q (by omega) (hne q hq)]
      exact h.chg.block q hq hne2

/-- What ZZnewHoldback has made. -/
structure NewSt (w w' : World) (sf : Int) (cs : List Value) (ps : List Int) (bs : List Bool) (av : Value) (j : Bool) (v7 v8 : Value) (accV vV jv : Value) (accs : List (Value × Value)) (vs : List (Int × Value × Bool)) (B1 B2 : Nat) : Prop where
  hb : HB w' (w.heap.size + 1) w.heap.size sf accV av vV jv (.slice none 0 0)
  acc : w'.ownsRow (w.heap.size + 2) 83 4 accV accs.length (accs.flatMap accC)
  accB : ∀ g, accV.ownBlock = some g → g < B1
  accOK : AccOK cs accs
  accL : accs.length = cs.length
  vws : w'.ownsRow B1 87 3 vV vs.length (vs.flatMap viewC)
  vB : ∀ g, vV.ownBlock = some g → g < B2
  vOK : ViewsOK ps bs vs
  vL : vs.length = ps.length
  jn : (j = false ∧ jv = .pointer none) ∨ (j = true ∧ ∃ gj, jv = .pointer (some ⟨gj, 0, none⟩) ∧ B2 ≤ gj ∧ w'.cell? ⟨gj, 7, none⟩ = some v7 ∧ w'.cell? ⟨gj, 10, none⟩ = some v8)
  b1 : w.heap.size + 2 ≤ B1
  b2 : B1 ≤ B2
  below : Below w.heap.size w w'

def NewPost (w : World) (sf : Int) (cs : List Value) (ps : List Int) (bs : List Bool) (av : Value) (j : Bool) (v7 v8 : Value) (e : Ending) (w' : World) : Prop :=
  ∃ (accV vV jv : Value) (accs : List (Value × Value)) (vs : List (Int × Value × Bool)) (B1 B2 : Nat), e = .returned (.pointer (some ⟨w.heap.size + 1, 0, none⟩)) ∧ NewSt w w' sf cs ps bs av j v7 v8 accV vV jv accs vs B1 B2

/-- The two loops' ends, and what the last statement turns. -/
theorem NewSt.mk' {w w1 wx w' : World} {sf : Int} {cs : List Value} {ps : List Int} {bs : List Bool} {av accV vV jv v7 v8 : Value} {j : Bool} {accs : List (Value × Value)} {vs : List (Int × Value × Bool)}
    (h1 : R1 w w1 sf av cs cs.length accV accs) (h2 : R2 w1 wx (w.heap.size + 1) w.heap.size sf accV av ps bs ps.length vV vs) (hb : HB w' (w.heap.size + 1) w.heap.size sf accV av vV jv (.slice none 0 0)) (hc : Chg wx w' (fun q => q = w.heap.size + 1))
    (jn : (j = false ∧ jv = .pointer none) ∨ (j = true ∧ ∃ gj, jv = .pointer (some ⟨gj, 0, none⟩) ∧ wx.heap.size ≤ gj ∧ w'.cell? ⟨gj, 7, none⟩ = some v7 ∧ w'.cell? ⟨gj, 10, none⟩ = some v8)) :
    NewSt w w' sf cs ps bs av j v7 v8 accV vV jv accs vs w1.heap.size wx.heap.size := by
  have s1 := h1.size
  have s2 := h2.chg.size
  refine ⟨hb, ?_, ?_, h1.ok, h1.len, ?_, ?_, h2.ok, h2.len, jn, s1, s2, ?_⟩
  · rw [h1.len]
    refine own_of h1.own ?_
    intro g hg
    have := h1.own.lt g hg
    rw [hc.block g (by omega) (by omega), h2.chg.block g (by omega) (by omega)]
  · intro g hg
    exact (h1.own.lt g hg).2
  · rw [h2.len]
    refine own_of h2.own ?_
    intro g hg
    have := h2.own.lt g hg
    rw [hc.block g (by omega) (by omega)]
  · intro g hg
    exact (h2.own.lt g hg).2
  · exact (h1.below.trans ((h2.chg.toBelow (by omega) (fun k hk => by omega)))).trans (hc.toBelow (by omega) (fun k hk => by omega))

end Go.Proofs.Qxb6616962a

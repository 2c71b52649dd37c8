import Derived.Test.Qxb6616962aSt
/-! passView (35): its last two statements. -/
namespace Go.Proofs.Qxb6616962a
open Go.RowKit
set_option linter.unusedVariables false
set_option linter.unusedSimpArgs false
set_option maxRecDepth 8000

theorem St.passed {w : World} {N sb st : Nat} {oa ob : Option Nat} {gv : Nat} {sf : Int} {accV actV jv rV : Value} {accs : List (Value × Value)} {act : List Int} {x : Int × Value × Bool} {vs : List (Int × Value × Bool)} {rs : List (Int × Value × Value)} {o c : Nat} (a b d : Value) (o' : Nat)
    (h : St w N sb st oa ob gv sf accV actV (.slice (some ⟨gv, o, none⟩) (vs.length + 1) c) jv rV accs act (x :: vs) rs) (hsrc : SrcV w ⟨gv, o, none⟩ ((x :: vs).flatMap viewC)) (hc : vs.length + 1 ≤ c) (ho : o' = o + 3 ∨ (o' = o ∧ c = 1)) :
    St ((((w.setCell ⟨gv, o, none⟩ a).setCell ⟨gv, o + 1, none⟩ b).setCell ⟨gv, o + 2, none⟩ d).setCell ⟨sb, 4, none⟩ (.slice (some ⟨gv, o', none⟩) vs.length (c - 1))) N sb st oa ob gv sf accV actV (.slice (some ⟨gv, o', none⟩) vs.length (c - 1)) jv rV accs act vs rs ∧ Chg w ((((w.setCell ⟨gv, o, none⟩ a).setCell ⟨gv, o + 1, none⟩ b).setCell ⟨gv, o + 2, none⟩ d).setCell ⟨sb, 4, none⟩ (.slice (some ⟨gv, o', none⟩) vs.length (c - 1))) (fun q => q = sb ∨ q = gv) := by
  have l := h.lay
  have hb1 : ∀ q, q ≠ gv → (((w.setCell ⟨gv, o, none⟩ a).setCell ⟨gv, o + 1, none⟩ b).setCell ⟨gv, o + 2, none⟩ d).heap[q]? = w.heap[q]? := by
    intro q hq
    rw [Below.heap_setCell _ _ _ _ hq, Below.heap_setCell _ _ _ _ hq, Below.heap_setCell _ _ _ _ hq]
  have hchg : Chg w ((((w.setCell ⟨gv, o, none⟩ a).setCell ⟨gv, o + 1, none⟩ b).setCell ⟨gv, o + 2, none⟩ d).setCell ⟨sb, 4, none⟩ (.slice (some ⟨gv, o', none⟩) vs.length (c - 1))) (fun q => q = sb ∨ q = gv) :=
    (((Chg.set ⟨gv, o, none⟩ _ (Or.inr rfl)).trans (Chg.set ⟨gv, o + 1, none⟩ _ (Or.inr rfl))).trans (Chg.set ⟨gv, o + 2, none⟩ _ (Or.inr rfl))).trans (Chg.set ⟨sb, 4, none⟩ _ (Or.inl rfl))
  have hbl : ∀ q, q ≠ sb → q ≠ gv → ((((w.setCell ⟨gv, o, none⟩ a).setCell ⟨gv, o + 1, none⟩ b).setCell ⟨gv, o + 2, none⟩ d).setCell ⟨sb, 4, none⟩ (.slice (some ⟨gv, o', none⟩) vs.length (c - 1))).heap[q]? = w.heap[q]? := by
    intro q h1 h2
    rw [Below.heap_setCell _ _ _ _ h1]
    exact hb1 q h2
  obtain ⟨o1, c1, e1, v1, v2, v3, v4⟩ := h.vws
  refine ⟨⟨l, ?_, ?_, h.accB, h.acc.of_blocks ?_, h.actB, h.act.of_blocks ?_, ⟨o', c - 1, rfl, by omega, ?_, ?_, ?_⟩, own_of h.rdy ?_⟩, hchg⟩
  · exact Nat.le_trans h.size hchg.size
  · exact (h.hb.of_blocks (hb1 _ (Ne.symm l.n2)) (hb1 _ (Ne.symm l.n3))).set4 _
  · intro g hg
    rw [h.accB] at hg
    exact hbl g (fun e => l.a1 (by rw [hg, e])) (fun e => l.a3 (by rw [hg, e]))
  · intro g hg
    rw [h.actB] at hg
    exact hbl g (fun e => l.b1 (by rw [hg, e])) (fun e => l.b3 (by rw [hg, e]))
  · simp at e1
    have := e1.2
    omega
  · intro j
    simp only [World.frozen?_setCell]
    exact v3 j
  · rcases ho with rfl | ⟨rfl, rfl⟩
    · intro j y hj
      have h3 : (viewC x).length = 3 := rfl
      have := hsrc (3 + j) y (by rw [List.flatMap_cons, List.getElem?_append_right (by rw [h3]; omega), h3]; simpa using hj)
      rw [addr_add] at this ⊢
      rw [World.cell?_setCell_other _ _ _ _ (by simp; intro e; exact absurd e.symm l.n2), World.cell?_setCell_other _ _ _ _ (by simp <;> omega), World.cell?_setCell_other _ _ _ _ (by simp <;> omega), World.cell?_setCell_other _ _ _ _ (by simp <;> omega)]
      rw [Nat.add_assoc]
      exact this
    · intro j y hj
      have : vs = [] := List.eq_nil_of_length_eq_zero (by omega)
      rw [this] at hj
      cases hj
  · intro g hg
    have := (h.rdy.lt g hg).1
    exact hbl g (by have := l.sbN; omega) (by have := l.gvN; omega)

set_option maxHeartbeats 4000000 in
theorem pass_t5 (w : World) (N sb st : Nat) (oa ob : Option Nat) (gv : Nat) (sf : Int) (accV actV vV jv rV : Value) (accs : List (Value × Value)) (act : List Int) (x : Int × Value × Bool) (vs : List (Int × Value × Bool)) (rs : List (Int × Value × Value)) (u1 u2 u3 u4 u5 u6 u7 u8 u9 u10 u11 u12 u13 u14 u15 u16 u17 u18 u19 u20 u21 u22 u23 u24 u25 u26 u27 u28 u29 u30 u31 u32 u33 u34 u35 u36 u37 u38 u39 u40 u41 u42 u43 u44 u45 u46 u47 u48 u49 u50 u51 u52 u53 u54 u55 u56 u57 u58 u59 u60 u61 u62 u63 u64 u65 u66 u67 u68 u69 u70 u71 u72 u73 u74 u75 u76 u77 u78 u79 u80 u81 u82 u83 u84 u85 u86 u87 u88 u89 u90 u91 u92 u93 u94 u95 u96 u97 u98 u99 u100 u101 u102 u103 u104 u105 u106 u107 u108 u109 u110 u111 u112 u113 u114 u115 u116 u117 u118 u119 u120 u121 u122 u123 u124 u125 u126 u127 u128 u129 u130 u131 u132 u133 u134 : Value)
    (HS : Hid (St w N sb st oa ob gv sf accV actV vV jv rV accs act (x :: vs) rs)) (R : Ending → World → Prop) (hR : Hid (∀ vV' w', St w' N sb st oa ob gv sf accV actV vV' jv rV accs act vs rs → Chg w w' (fun q => q = sb ∨ q = gv) → R (.returned (.tuple #[])) w')) (T : Code) (hT : T = tailN 5 (Try.f35.body.getD .skip)) :
    Code.wp Try.prog T (bodyPost Try.prog Try.f35 R) ⟨#[.pointer (some ⟨sb, 0, none⟩), u1, u2, u3, u4, u5, u6, u7, u8, u9, u10, u11, u12, u13, u14, u15, u16, u17, u18, u19, u20, u21, u22, u23, u24, u25, u26, u27, u28, u29, u30, u31, u32, u33, u34, u35, u36, u37, u38, u39, u40, u41, u42, u43, u44, u45, u46, u47, u48, u49, u50, u51, u52, u53, u54, u55, u56, u57, u58, u59, u60, u61, u62, u63, u64, u65, u66, u67, u68, u69, u70, u71, u72, u73, u74, u75, u76, u77, u78, u79, u80, u81, u82, u83, u84, u85, u86, u87, u88, u89, u90, u91, u92, u93, u94, u95, u96, u97, u98, u99, u100, u101, u102, u103, u104, u105, u106, u107, u108, u109, u110, u111, u112, u113, u114, u115, u116, u117, u118, u119, u120, u121, u122, u123, u124, u125, u126, u127, u128, u129, u130, u131, u132, u133, u134], []⟩ w := by
  dsimp only [Try.f35, Option.getD_some, tailN] at hT
  subst hT
  dsimp only
  obtain ⟨o, c, rfl, v1, v2, v3, v4⟩ := HS.out.vws
  have V4 : Hid (SrcV w ⟨gv, o, none⟩ ((x :: vs).flatMap viewC)) := v4
  have c0 : w.cell? ⟨gv, o, none⟩ = some (.int .i64 x.1) := by have := v4 0 _ rfl; rwa [addr_add] at this
  have c1 : w.cell? ⟨gv, o + 1, none⟩ = some x.2.1 := by have := v4 1 _ rfl; rwa [addr_add] at this
  have c2 : w.cell? ⟨gv, o + 2, none⟩ = some (.bool x.2.2) := by have := v4 2 _ rfl; rwa [addr_add] at this
  have f0 := v3 o
  have f1 := v3 (o + 1)
  have f2 := v3 (o + 2)
  have s4 := HS.out.hb.s4
  have sF := HS.out.hb.sF 4
  have hne : ¬ gv = sb := HS.out.lay.n2
  have hne' : ¬ sb = gv := fun e => hne e.symm
  have hl : (x :: vs).length = vs.length + 1 := rfl
  rw [hl] at s4 v1
  have HSS : Hid (St w N sb st oa ob gv sf accV actV (.slice (some ⟨gv, o, none⟩) (vs.length + 1) c) jv rV accs act (x :: vs) rs) := HS.out
  have V1 : Hid (vs.length + 1 ≤ c) := v1
  have hpos : (0 : Int) < (vs.length : Int) + 1 := by omega
  have hp1 : (1 : Int) ≤ (vs.length : Int) + 1 := by omega
  have hc1 : (1 : Int) ≤ (c : Int) := by omega
  clear v4 v3 hl HS
  by_cases hc : c = 1
  · obtain rfl : vs = [] := List.eq_nil_of_length_eq_zero (by omega)
    have ho := (St.passed (.int .i64 0) (.pointer none) (.bool false) o HSS.out V4.out V1.out (Or.inr ⟨rfl, hc⟩))
    have HO : Hid _ := ho
    clear ho
    subst hc
    go_wp2
    refine bodyPost_end (results_none rfl _ _ _) rfl ?_
    exact hR.out _ _ HO.out.1 HO.out.2
  · have HO := (St.passed (.int .i64 0) (.pointer none) (.bool false) (o + 3) HSS.out V4.out V1.out (Or.inl rfl))
    have HO' : Hid _ := HO
    clear HO
    go_wp2
    refine bodyPost_end (results_none rfl _ _ _) rfl ?_
    exact hR.out _ _ HO'.out.1 HO'.out.2

end Go.Proofs.Qxb6616962a

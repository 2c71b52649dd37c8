import Derived.Test.Qxb6616962aLaw4
import Derived.Test.Qxb6616962aLift
/-! FnPassViewDeliversTheFirstQueuedView, for every input. -/
namespace Go.Proofs.Qxb6616962a
open Go.ChangeShapes Go.WideShapes Go.ChangeAt Go.RowKit
set_option linter.unusedVariables false
set_option linter.unusedSimpArgs false

set_option maxRecDepth 100000 in
set_option maxHeartbeats 1000000 in
theorem delivers_lifted (os : Os) (started : os.Started) (H : Type) (enc : TypeId × Value → H) :
    ReturnsInHanded {} Try.checked os 4 .any (Rows.fnPassViewDeliversTheFirstQueuedViewSpec.pre6 enc Try.prog Try.f4 Rows.fnPassViewDeliversTheFirstQueuedViewRow.domain false) (Rows.fnPassViewDeliversTheFirstQueuedViewSpec.post enc Try.prog Try.f4 false true false false) := by
  refine returnsInHanded_of_change (C := Try.checked) Try.own started (by kernel_rfl) Try.func4
    (ChangeSpec.witness6 (enc := enc) (C := Try.checked) false ⟨#[], #[.int .i64 0, .slice none 0 0, .slice none 0 0, .slice none 0 0, .slice none 0 0, .slice none 0 0, .bool false, .slice none 0 0, .slice none 0 0], []⟩ 8 (by kernel_rfl) (by kernel_rfl) (by kernel_rfl) (by kernel_rfl)) ?_
  intro W base args ds gs before hval0 hW hcnd _
  have hval : ∀ (j : Nat) t v, Try.f4.params[j]? = some t → args[j]? = some v → Value.okWide Try.prog W .any base t v := hval0
  have hW' := hW
  obtain ⟨p, q, hA0, hV, rfl, hfz, hnd⟩ := hW
  have hA : DataW.TrodAll enc Try.prog W 0 (fun _ => true) true Try.f4.params.toList args.toList ds p := hA0
  rw [Try.params4] at hA hval
  obtain ⟨v0, vs0, d0, ds0, p0, q0, hargs, rfl, rfl, h0, r0⟩ := trodAll_cons hA
  obtain ⟨v1, vs1, d1, ds1, p1, q1, rfl, rfl, rfl, h1, r1⟩ := trodAll_cons r0
  obtain ⟨v2, vs2, d2, ds2, p2, q2, rfl, rfl, rfl, h2, r2⟩ := trodAll_cons r1
  obtain ⟨v3, vs3, d3, ds3, p3, q3, rfl, rfl, rfl, h3, r3⟩ := trodAll_cons r2
  obtain ⟨v4, vs4, d4, ds4, p4, q4, rfl, rfl, rfl, h4, r4⟩ := trodAll_cons r3
  obtain ⟨v5, vs5, d5, ds5, p5, q5, rfl, rfl, rfl, h5, r5⟩ := trodAll_cons r4
  obtain ⟨v6, vs6, d6, ds6, p6, q6, rfl, rfl, rfl, h6, r6⟩ := trodAll_cons r5
  obtain ⟨v7, vs7, d7, ds7, p7, q7, rfl, rfl, rfl, h7, r7⟩ := trodAll_cons r6
  obtain ⟨v8, vs8, d8, ds8, p8, q8, rfl, rfl, rfl, h8, r8⟩ := trodAll_cons r7
  obtain ⟨rfl, rfl, rfl⟩ := trodAll_nil r8
  obtain rfl : args = #[v0, v1, v2, v3, v4, v5, v6, v7, v8] := by
    cases args; simpa using hargs
  obtain ⟨rfl, rfl⟩ := trodVars_none hV
  obtain ⟨sf, rfl, rfl, rfl, wsf⟩ := open_int Try.underlying3 (hval 0 3 v0 rfl rfl) h0
  obtain ⟨a1, l1, c1, rfl⟩ := okWide_slice Try.underlying36 (hval 1 36 v1 rfl rfl)
  obtain ⟨a2, l2, c2, rfl⟩ := okWide_slice Try.underlying23 (hval 2 23 v2 rfl rfl)
  obtain ⟨a3, l3, c3, rfl⟩ := okWide_slice Try.underlying23 (hval 3 23 v3 rfl rfl)
  obtain ⟨a4, l4, c4, rfl⟩ := okWide_slice Try.underlying24 (hval 4 24 v4 rfl rfl)
  obtain ⟨a5, l5, c5, rfl⟩ := okWide_slice Try.underlying37 (hval 5 37 v5 rfl rfl)
  obtain ⟨j, rfl, rfl, rfl⟩ := open_bool Try.underlying4 (hval 6 4 v6 rfl rfl) h6
  obtain ⟨a7, l7, c7, rfl⟩ := okWide_slice Try.underlying23 (hval 7 23 v7 rfl rfl)
  obtain ⟨a8, l8, c8, rfl⟩ := okWide_slice Try.underlying24 (hval 8 24 v8 rfl rfl)
  obtain ⟨X1, rfl, i1, m1, n1, u1⟩ := open_rowsV h1
  obtain ⟨X2, rfl, i2, m2⟩ := open_intsV Try.underlying23 Try.underlying3 Try.cells3 h2
  obtain ⟨X3, rfl, i3, m3⟩ := open_intsV Try.underlying23 Try.underlying3 Try.cells3 h3
  obtain ⟨X4, rfl, i4, m4⟩ := open_intsV Try.underlying24 Try.underlying32 Try.cells32 h4
  obtain ⟨X5, rfl, i5, m5⟩ := open_boolsV h5
  obtain ⟨X7, rfl, i7, m7⟩ := open_intsV Try.underlying23 Try.underlying3 Try.cells3 h7
  obtain ⟨X8, rfl, i8, m8⟩ := open_intsV Try.underlying24 Try.underlying32 Try.cells32 h8
  clear hA0 hval0
  simp only [List.append_nil] at hW'
  have hlt : ∀ x ∈ [] ++ (p1 ++ (p2 ++ (p3 ++ (p4 ++ (p5 ++ ([] ++ (p7 ++ (p8 ++ [])))))))), x.block < W.heap.size := fun x hx => by
    have := hW'.lt x
    simp at this hx ⊢
    exact this hx
  refine (law4 sf a1 a2 a3 a4 a5 a7 a8 c1 c2 c3 c4 c5 c7 c8 j X1 X2 X3 X4 X7 X8 X5 W i1 i2 i3 i4 i5 i7 i8 n1 u1 m1 m2 m3 m4 m5 m7 m8 (i64_bounds wsf)).mono fun e W' ⟨he, hnx⟩ => ?_
  subst he
  refine ⟨_, rfl, _, _, _, [], [] ++ (p1 ++ (p2 ++ (p3 ++ (p4 ++ (p5 ++ ([] ++ (p7 ++ (p8 ++ [])))))))), [], hW', ?_, ?_, rfl, hnx.frame _, fun h => by cases h⟩
  · exact trodAll_mk1 (shut_bool Try.underlying4 true)
  · exact tcons (shut_int Try.underlying3 wsf) (tcons (Below.trod Try.laidOut (by kernel_rfl) (of_decide_eq_true (by kernel_rfl)) h1 hnx (fun x hx => hlt x (by simp [hx]))) (tcons (Below.trod Try.laidOut (by kernel_rfl) (of_decide_eq_true (by kernel_rfl)) h2 hnx (fun x hx => hlt x (by simp [hx]))) (tcons (Below.trod Try.laidOut (by kernel_rfl) (of_decide_eq_true (by kernel_rfl)) h3 hnx (fun x hx => hlt x (by simp [hx]))) (tcons (Below.trod Try.laidOut (by kernel_rfl) (of_decide_eq_true (by kernel_rfl)) h4 hnx (fun x hx => hlt x (by simp [hx]))) (tcons (Below.trod Try.laidOut (by kernel_rfl) (of_decide_eq_true (by kernel_rfl)) h5 hnx (fun x hx => hlt x (by simp [hx]))) (tcons (shut_bool Try.underlying4 j) (tcons (Below.trod Try.laidOut (by kernel_rfl) (of_decide_eq_true (by kernel_rfl)) h7 hnx (fun x hx => hlt x (by simp [hx]))) (tcons (Below.trod Try.laidOut (by kernel_rfl) (of_decide_eq_true (by kernel_rfl)) h8 hnx (fun x hx => hlt x (by simp [hx]))) rfl))))))))

theorem delivers : Rows.FnPassViewDeliversTheFirstQueuedViewSaid :=
  OpenClaim.holds_of_wide 4 Try.f4 rfl rfl rfl rfl rfl rfl rfl ⟨rfl, rfl, rfl, rfl, rfl⟩ rfl rfl rfl rfl rfl (by kernel_rfl) Try.func4 (by kernel_rfl)
    (of_decide_eq_true (by kernel_rfl)) (by unfold Func.isWrapper; rw [if_neg (of_decide_eq_false (by kernel_rfl))]; exact ⟨rfl, rfl⟩)
    (fun os started H enc _ => delivers_lifted os started H enc)

end Go.Proofs.Qxb6616962a

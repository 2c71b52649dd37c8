import Derived.Test.Qxb6616577aDoorLawB
import Derived.Test.Qxb6616577aDoorLift
/-! The tied card of FnMemFileWriteThenRead. -/
namespace Go.Proofs.Qxb6616577aDoor
open Go.ChangeShapes Go.WideShapes Go.ChangeAt Go.RowKit
open Go.ChangeMaps (open_string shut_string)
set_option linter.unusedVariables false
set_option linter.unusedSimpArgs false

/-- A world, one variable's cell laid. -/
def layCellB (w : World) (g : Nat) (v : Value) : World :=
  { w with heap := w.heap.modify g fun
      | .cells _ t frozen => .cells #[v] t frozen
      | o => o }

set_option maxRecDepth 100000 in
theorem witnessB (os : Os) (H : Type) (enc : TypeId × Value → H) :
    ∃ (w : World) (tape : Tape) (i : Input), w.os = os ∧ (w.forCall tape i).Shaped Tryd.checked.prog ∧ i.vars = [] ∧ Input.okWide Tryd.checked.prog (w.forCall tape i) .any w.heap.size 5 i ∧
      ((Rows.fnMemFileWriteThenReadSpec.pre enc Tryd.checked.prog Tryd.f5 [] false (w.forCall tape i).memory i.args ∧ laidMetH Tryd.prog Rows.fnMemFileWriteThenReadRow.laid (w.forCall tape i).memory) ∧ sizedMet enc Tryd.checked.prog Tryd.f5 (OpenSpec.ofChange Rows.fnMemFileWriteThenReadSpec) false (w.forCall tape i).memory i.args) ∧ ({ modest := false } : Assume).holds Tryd.checked.prog (lone (Frame.enter Tryd.checked.prog 5 i.args .normal) [] (w.forCall tape i)) :=
  ChangeSpec.witness_at (enc := enc) (C := Tryd.checked) (os := os) (X := fun w _ => laidMetH Tryd.prog Rows.fnMemFileWriteThenReadRow.laid w) false
    (layCellB (layCellB (layCellB (layCellB (World.holding Tryd.prog os ⟨#[.cells #[.string ⟨#[69, 79, 70]⟩] 124, .cells #[.string ⟨#[105, 110, 118, 97, 108, 105, 100, 32, 97, 114, 103, 117, 109, 101, 110, 116]⟩] 124, .cells #[.string ⟨#[112, 101, 114, 109, 105, 115, 115, 105, 111, 110, 32, 100, 101, 110, 105, 101, 100]⟩] 124, .cells #[.string ⟨#[102, 105, 108, 101, 32, 97, 108, 114, 101, 97, 100, 121, 32, 99, 108, 111, 115, 101, 100]⟩] 124], #[], []⟩)
      0 (.iface 103 (.pointer (some ⟨(World.holding Tryd.prog default ⟨#[], #[], []⟩).heap.size, 0, none⟩))))
      3 (.iface 103 (.pointer (some ⟨(World.holding Tryd.prog default ⟨#[], #[], []⟩).heap.size + 1, 0, none⟩))))
      2 (.iface 103 (.pointer (some ⟨(World.holding Tryd.prog default ⟨#[], #[], []⟩).heap.size + 2, 0, none⟩))))
      1 (.iface 103 (.pointer (some ⟨(World.holding Tryd.prog default ⟨#[], #[], []⟩).heap.size + 3, 0, none⟩))))
    #[.string ⟨#[]⟩, .slice none 0 0, .bool false, .bool false, .bool false, .slice none 0 0, .int .i64 0] 8 rfl (by kernel_rfl) (by kernel_rfl) (by kernel_rfl) (by kernel_rfl) (by kernel_rfl)
    (laidMet_of_run' 8 (by kernel_rfl) (by kernel_rfl))

set_option maxRecDepth 100000 in
set_option maxHeartbeats 1000000 in
theorem wtr_lifted (os : Os) (started : os.Started) (H : Type) (enc : TypeId × Value → H) :
    ReturnsInHanded {} Tryd.checked os 5 .any (fun w args => (Rows.fnMemFileWriteThenReadSpec.pre enc Tryd.prog Tryd.f5 [] false w args ∧ laidMetH Tryd.prog Rows.fnMemFileWriteThenReadRow.laid w) ∧ sizedMet enc Tryd.prog Tryd.f5 (OpenSpec.ofChange Rows.fnMemFileWriteThenReadSpec) false w args)
      (Rows.fnMemFileWriteThenReadSpec.post enc Tryd.prog Tryd.f5 false true false false) := by
  refine returnsInHanded_of_change_and (C := Tryd.checked) (X := fun w _ => laidMetH Tryd.prog Rows.fnMemFileWriteThenReadRow.laid w) (fun _ _ _ hh h => h.of_heap hh) Tryd.own started (by kernel_rfl) Tryd.func5
    (witnessB os H enc) ?_
  intro W base args ds gs before hval0 hW _ _ hL _
  have hval : ∀ (j : Nat) t v, Tryd.f5.params[j]? = some t → args[j]? = some v → Value.okWide Tryd.prog W .any base t v := hval0
  have hW' := hW
  obtain ⟨p, q, hA0, hV, rfl, _, _⟩ := hW
  have hA : DataW.TrodAll enc Tryd.prog W 0 (fun _ => true) true Tryd.f5.params.toList args.toList ds p := hA0
  rw [Tryd.params5] at hA hval
  obtain ⟨v0, vs0, d0, ds0, p0, q0, hargs, rfl, rfl, h0, r0⟩ := trodAll_cons hA
  obtain ⟨v1, vs1, d1, ds1, p1, q1, rfl, rfl, rfl, h1, r1⟩ := trodAll_cons r0
  obtain ⟨v2, vs2, d2, ds2, p2, q2, rfl, rfl, rfl, h2, r2⟩ := trodAll_cons r1
  obtain ⟨v3, vs3, d3, ds3, p3, q3, rfl, rfl, rfl, h3, r3⟩ := trodAll_cons r2
  obtain ⟨v4, vs4, d4, ds4, p4, q4, rfl, rfl, rfl, h4, r4⟩ := trodAll_cons r3
  obtain ⟨v5, vs5, d5, ds5, p5, q5, rfl, rfl, rfl, h5, r5⟩ := trodAll_cons r4
  obtain ⟨v6, vs6, d6, ds6, p6, q6, rfl, rfl, rfl, h6, r6⟩ := trodAll_cons r5
  obtain ⟨rfl, rfl, rfl⟩ := trodAll_nil r6
  obtain rfl : args = #[v0, v1, v2, v3, v4, v5, v6] := by
    cases args; simpa using hargs
  obtain ⟨rfl, rfl⟩ := trodVars_none hV
  obtain ⟨nm, rfl, rfl, rfl, wn⟩ := open_string Tryd.underlying9 (hval 0 9 v0 rfl rfl) h0
  obtain ⟨a1, l1, c1, rfl⟩ := okWide_slice Tryd.underlying23 (hval 1 23 v1 rfl rfl)
  obtain ⟨b2, rfl, rfl, rfl⟩ := open_bool Tryd.underlying4 (hval 2 4 v2 rfl rfl) h2
  obtain ⟨b3, rfl, rfl, rfl⟩ := open_bool Tryd.underlying4 (hval 3 4 v3 rfl rfl) h3
  obtain ⟨b4, rfl, rfl, rfl⟩ := open_bool Tryd.underlying4 (hval 4 4 v4 rfl rfl) h4
  obtain ⟨a5, l5, c5, rfl⟩ := okWide_slice Tryd.underlying23 (hval 5 23 v5 rfl rfl)
  obtain ⟨off, rfl, rfl, rfl, wo⟩ := open_int Tryd.underlying2 (hval 6 2 v6 rfl rfl) h6
  obtain ⟨D, rfl, i1, lc1, mc1⟩ := open_bytes h1
  obtain ⟨P, rfl, i5, lc5, mc5⟩ := open_bytes h5
  clear hA0 hval0
  simp only [List.append_nil] at hW'
  have hlt : ∀ x ∈ [] ++ (p1 ++ ([] ++ ([] ++ ([] ++ (p5 ++ ([] ++ [])))))), x.block < W.heap.size := fun x hx => by
    have := hW'.lt x
    simp at this hx ⊢
    exact this hx
  have wc := i64_bounds wo
  refine (lawB_any nm a1 a5 c1 c5 D P b2 b3 b4 off W (globs_of_laid hL) i1 i5 ⟨lc1, mc1⟩ ⟨lc5, mc5⟩ wn wc.1 wc.2).mono fun e W' ⟨he, hnx⟩ => ?_
  subst he
  refine ⟨_, rfl, _, _, _, [], [] ++ (p1 ++ ([] ++ ([] ++ ([] ++ (p5 ++ ([] ++ [])))))), [], hW', ?_, ?_, rfl, hnx.frame _, fun h => by cases h⟩
  · exact trodAll_mk1 (shut_bool Tryd.underlying4 true)
  · exact tcons (shut_string Tryd.underlying9 wn) (tcons (Below.trod Tryd.laidOut (by kernel_rfl) (of_decide_eq_true (by kernel_rfl)) h1 hnx (fun x hx => hlt x (by simp [hx]))) (tcons (shut_bool Tryd.underlying4 b2) (tcons (shut_bool Tryd.underlying4 b3) (tcons (shut_bool Tryd.underlying4 b4)
      (tcons (Below.trod Tryd.laidOut (by kernel_rfl) (of_decide_eq_true (by kernel_rfl)) h5 hnx (fun x hx => hlt x (by simp [hx]))) (tcons (shut_int Tryd.underlying2 wo) rfl))))))

theorem wtr_row : Rows.FnMemFileWriteThenReadSaid :=
  OpenClaim.holds_of_wide 5 Tryd.f5 rfl rfl rfl rfl rfl rfl rfl ⟨rfl, rfl, rfl, rfl, rfl⟩ rfl rfl rfl rfl rfl (by kernel_rfl) Tryd.func5 (by kernel_rfl)
    (of_decide_eq_true (by kernel_rfl)) (by unfold Func.isWrapper; rw [if_neg (of_decide_eq_false (by kernel_rfl))]; exact ⟨rfl, rfl⟩)
    (fun os started H enc _ => wtr_lifted os started H enc)

theorem wtr_card : Rows.FnMemFileWriteThenReadCardSaid :=
  Claim7.holds_tied_plain_at .later [] [.sentinel, .called, .called, .wider] true _ false
    wtr_row (fun _ h => by cases h) (by kernel_rfl) (fun _ h => by cases h) fnMemFileWriteThenRead_row_tie rfl ⟨rfl, rfl⟩ (by kernel_rfl) rfl
    (fun f fn hf hfn => by
      obtain rfl : f = 5 := Option.some.inj ((show Tryd.pinned.checked.prog.funcNamed Rows.fnMemFileWriteThenReadRow.func = some 5 by kernel_rfl).symm.trans hf) |>.symm
      obtain rfl : fn = Tryd.f5 := (Option.some.inj (Tryd.func5.symm.trans hfn)).symm
      exact ⟨by kernel_rfl, fun j t ht => by
        rw [Tryd.params5] at ht
        have hm : t ∈ [9, 23, 4, 4, 4, 23, 2] := List.mem_of_getElem? (by simpa using ht)
        have hall : ([9, 23, 4, 4, 4, 23, 2].all fun t => !Tryd.pinned.checked.prog.wantsStandIn t) = true := by kernel_rfl
        have := List.all_eq_true.1 hall t hm
        simpa using this⟩)
    (by kernel_rfl)

end Go.Proofs.Qxb6616577aDoor

import Derived.Test.Qxb6616962aNew1
import Derived.Deep.RegionHeld3
/-! A region that draws its order, and whose last store writes a cell that a load of it reads: what is asked of the world hangs on what has come up. -/
namespace Go.Proofs.Qxb6616962a
open Go.RowKit
set_option linter.unusedVariables false
set_option linter.unusedSimpArgs false
set_option maxRecDepth 8000

section
variable {P : Program} {ops : Array Oper} {Q : Exit → Act → World → Prop} {md : Region.Mode}

/-- S1 always, and C as long as number m has not come up. -/
def Ph (S1 C : World → Prop) (m : Nat) (l : Array Bool) (w : World) : Prop := S1 w ∧ (l.getD m true = false → C w)

/-- Whatever order is picked from here on, what is asked of the world being asked behind each step. -/
def AnyL (P : Program) (md : Region.Mode) (ops : Array Oper) (Q : Exit → Act → World → Prop) (S1 C : World → Prop) (m : Nat) : Nat → Array Bool → Act → World → Prop
  | 0, l, a, w => Region.ready md ops l = [] ∧ Q .normal a w
  | f + 1, l, a, w => (Region.ready md ops l = [] → Q .normal a w) ∧ ∀ i ∈ Region.ready md ops l, wpOp P ops Q i (fun a' w' => Ph S1 C m (l.setIfInBounds i true) w' ∧ AnyL P md ops Q S1 C m f (l.setIfInBounds i true) a' w') a w

variable {S1 C : World → Prop} {m : Nat}

theorem AnyL.any : ∀ (f : Nat) (l : Array Bool) (a : Act) (w : World), AnyL P md ops Q S1 C m f l a w → wpAny P md ops Q f l a w
  | 0, _, _, _, h => h
  | f + 1, _, _, _, h => ⟨h.1, fun i hi => wpOp_mono (fun a' w' h' => AnyL.any f _ a' w' h'.2) (h.2 i hi)⟩

/-- Number i may be taken first: G tells of the lists in which it has not come up. -/
theorem AnyL.first {S0 : World → Prop} {G : Array Bool → Prop} {i : Nat} {oi : Oper} {v : Value} (hi : ops[i]? = some oi) (him : i ≠ m) (hs : Region.noSelect ops = true)
    (hQ : ∀ c a w, Q (.panic c) (a.put oi.dst v) w → Q (.panic c) a w)
    (hG : ∀ l j, G l → j ∈ Region.ready md ops l → i ∈ Region.ready md ops l → j ≠ i → G (l.setIfInBounds j true))
    (hGS : ∀ l w, G l → Ph S1 C m (l.setIfInBounds i true) w → S0 w) :
    ∀ (f : Nat) (l : Array Bool) (a : Act) (w : World), G l →
      (∀ j oj, ops[j]? = some oj → j ≠ i → l.getD j true = false → (∀ e ∈ oj.after, Region.binds md e = true → e.on ≠ i) → oi.apart ops oj = true) →
      i ∈ Region.ready md ops l → YieldsIf P ops S0 oi v a → Ph S1 C m (l.setIfInBounds i true) w →
      AnyL P md ops Q S1 C m f (l.setIfInBounds i true) (a.put oi.dst v) w → AnyL P md ops Q S1 C m (f + 1) l a w := by
  have hsel := Region.noSelect_spec hs
  intro f
  induction f with
  | zero =>
    intro l a w hg _ hr hy hS H
    refine ⟨fun h => absurd hr (by rw [h]; exact List.not_mem_nil), fun j hj => ?_⟩
    by_cases hji : j = i
    · subst hji
      exact hy.wpOp hi (hGS l w hg hS) ⟨hS, H⟩
    · exact absurd (ready_mono hj hji) (by rw [H.1]; exact List.not_mem_nil)
  | succ f ih =>
    intro l a w hg hfree hr hy hS H
    refine ⟨fun h => absurd hr (by rw [h]; exact List.not_mem_nil), fun j hj => ?_⟩
    by_cases hji : j = i
    · subst hji
      exact hy.wpOp hi (hGS l w hg hS) ⟨hS, H⟩
    · obtain ⟨hjun, oj, hoj, hall⟩ := mem_ready.1 hj
      have h0 := (mem_ready.1 hr).1
      have hnot : ∀ e ∈ oj.after, Region.binds md e = true → e.on ≠ i := by
        intro e he hb heq
        have h1 := hall e he hb
        rw [heq] at h1
        by_cases hlt : i < l.size
        · simp [hlt] at h0 h1
          rw [h0] at h1
          cases h1
        · simp [Array.getElem?_eq_none (Nat.le_of_not_lt hlt)] at h1
      have hfree' : ∀ k ok, ops[k]? = some ok → k ≠ i → (l.setIfInBounds j true).getD k true = false → (∀ e ∈ ok.after, Region.binds md e = true → e.on ≠ i) → oi.apart ops ok = true := by
        intro k ok hk hki hun hno
        refine hfree k ok hk hki ?_ hno
        by_cases hjk : j = k
        · exact hjk ▸ hjun
        · rwa [getD_set_ne true hjk] at hun
      have hcomm : (l.setIfInBounds j true).setIfInBounds i true = (l.setIfInBounds i true).setIfInBounds j true := Array.setIfInBounds_comm _ _ hji
      refine wpOp_mono (fun a' w' h3 => ?_) (wpOp_putIf hoj (hfree j oj hoj hji hjun hnot) (fun cs b => hsel i oi cs b hi) (fun cs b => hsel j oj cs b hoj) hQ hy (H.2 j (ready_mono hj hji)))
      obtain ⟨hy', hS', hA'⟩ := h3
      have hS2 : Ph S1 C m (l.setIfInBounds j true) w' := by
        refine ⟨hS'.1, fun hm => hS'.2 ?_⟩
        rw [← hcomm, getD_set_ne true him]
        exact hm
      exact ⟨hS2, ih _ a' w' (hG l j hg hj hr hji) hfree' (ready_mono hr (Ne.symm hji)) hy' (by rw [hcomm]; exact hS') (by rw [hcomm]; exact hA')⟩

theorem Ph.put {l : Array Bool} {w : World} {i : Nat} (him : i ≠ m) (h1 : S1 w) (hC : l.getD m true = true ∨ C w) : Ph S1 C m (l.setIfInBounds i true) w := by
  refine ⟨h1, fun hm => ?_⟩
  rw [getD_set_ne true him] at hm
  rcases hC with h | h
  · rw [h] at hm; cases hm
  · exact h

theorem AnyL.takeA {i : Nat} {oi : Oper} {v : Value} {f : Nat} {l : Array Bool} {a : Act} {w : World} (hi : ops.toList[i]? = some oi) (hs : Region.noSelect ops = true) (hf : Region.free md ops l i = true) (hr : (Region.ready md ops l).contains i = true)
    (hQ : ∀ c a w, Q (.panic c) (a.put oi.dst v) w → Q (.panic c) a w) (him : (i == m) = false) (hy : YieldsIf P ops S1 oi v a) (h1 : S1 w) (hC : l.getD m true = true ∨ C w)
    (h : AnyL P md ops Q S1 C m f (l.setIfInBounds i true) (a.put oi.dst v) w) : AnyL P md ops Q S1 C m (f + 1) l a w := by
  have hi' : ops[i]? = some oi := by simpa using hi
  have hne : i ≠ m := by simpa using him
  exact AnyL.first (S0 := S1) (G := fun _ => True) hi' hne hs hQ (fun _ _ _ _ _ _ => trivial) (fun _ _ _ h => h.1) f l a w trivial (Region.free_spec hi' hf) (by simpa using hr) hy (Ph.put hne h1 hC) h

theorem AnyL.takeB {i : Nat} {oi : Oper} {v : Value} {f : Nat} {l : Array Bool} {a : Act} {w : World} (hi : ops.toList[i]? = some oi) (hs : Region.noSelect ops = true) (hf : Region.free md ops l i = true) (hr : (Region.ready md ops l).contains i = true)
    (hQ : ∀ c a w, Q (.panic c) (a.put oi.dst v) w → Q (.panic c) a w) (him : (i == m) = false) (hw : (ops.toList[m]?.map (fun o => o.after.toList.any (fun e => Region.binds md e && e.on == i))) = some true) (hun : l.getD m true = false) (hy : YieldsIf P ops (fun w => S1 w ∧ C w) oi v a) (h1 : S1 w) (hC : C w)
    (h : AnyL P md ops Q S1 C m f (l.setIfInBounds i true) (a.put oi.dst v) w) : AnyL P md ops Q S1 C m (f + 1) l a w := by
  have hi' : ops[i]? = some oi := by simpa using hi
  have hne : i ≠ m := by simpa using him
  refine AnyL.first (S0 := fun w => S1 w ∧ C w) (G := fun l => l.getD m true = false) hi' hne hs hQ ?_ ?_ f l a w hun (Region.free_spec hi' hf) (by simpa using hr) hy (Ph.put hne h1 (Or.inr hC)) h
  · intro l j hg hj hir hji
    by_cases hjm : j = m
    · exfalso
      subst hjm
      obtain ⟨_, oj, hoj, hall⟩ := mem_ready.1 hj
      have hoj' : ops.toList[j]? = some oj := by simpa using hoj
      rw [hoj'] at hw
      simp only [Option.map_some, Option.some.injEq, List.any_eq_true] at hw
      obtain ⟨e, he, hb⟩ := hw
      simp at hb
      have h2 := hall e (by simpa using he) hb.1
      have h3 := (mem_ready.1 hir).1
      rw [hb.2] at h2
      by_cases hlt : i < l.size
      · simp [hlt] at h2 h3
        rw [h3] at h2
        cases h2
      · simp [Array.getElem?_eq_none (Nat.le_of_not_lt hlt)] at h2
    · rw [getD_set_ne true hjm]
      exact hg
  · intro l w hg hP
    exact ⟨hP.1, hP.2 (by rw [getD_set_ne true hne]; exact hg)⟩

theorem AnyL.one {i : Nat} {o : Oper} {f : Nat} {l : Array Bool} {a : Act} {w : World} (hr : Region.ready md ops l = [i]) (ho : ops.toList[i]? = some o)
    (h : ∀ K' : Act → World → Prop, Shut (∀ a w, S1 w → ((l.setIfInBounds i true).getD m true = true ∨ C w) → AnyL P md ops Q S1 C m f (l.setIfInBounds i true) a w → K' a w) → if Region.wanted o (yielded ops a.tmps) = true then Oper.wp P o a w K' Q else K' (a.put o.dst undef) w) : AnyL P md ops Q S1 C m (f + 1) l a w := by
  refine ⟨fun h0 => absurd (hr ▸ h0) (by simp), fun j hj => ?_⟩
  rw [hr] at hj
  obtain rfl : j = i := by simpa using hj
  refine wpOp_step (by simpa using ho) (fun K' hK => h K' (fun a w h1 hC hA => hK a w ⟨⟨h1, fun hm => ?_⟩, hA⟩))
  rcases hC with h | h
  · rw [h] at hm; cases hm
  · exact h

theorem AnyL.done {l : Array Bool} {a : Act} {w : World} (hr : Region.ready md ops l = []) (h : Q .normal a w) : ∀ f, AnyL P md ops Q S1 C m f l a w
  | 0 => ⟨hr, h⟩
  | _ + 1 => ⟨fun _ => h, by rw [hr]; simp⟩

theorem AnyL.start {id : Nat} {a : Act} {w : World} (S1 C : World → Prop) (m : Nat) (hm : P.follows .mixedOrders = true)
    (h : AnyL P .any ops Q S1 C m ops.size (Array.replicate ops.size false) a w.drew) : (Code.region id ops true).wp P Q a w :=
  wp_region_any hm (AnyL.any _ _ _ _ h)

end

end Go.Proofs.Qxb6616962a

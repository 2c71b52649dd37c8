import Derived.Test.Qxb6616962aBase
/-! The clones of slices (10, 11, 17). -/
namespace Go.Proofs.Qxb6616962a
open Go.RowKit
set_option linter.unusedVariables false
set_option linter.unusedSimpArgs false
set_option maxRecDepth 8000

/-- How a clone ends. -/
def CloneV (t : TypeId) (a : Option Addr) (vs : List Value) (w : World) (e : Ending) (w' : World) : Prop :=
  ∃ va, e = .returned (.slice va vs.length vs.length) ∧ va.isNone = a.isNone ∧ OwnV w' (.slice va vs.length vs.length) t vs ∧ Below w.heap.size w w' ∧ (∀ g, blkOf (.slice va vs.length vs.length) = some g → g = w.heap.size)

theorem made_row {w w1 : World} {e : TypeId} {n : Nat} {xs : List Value} (h : w1.ownsRow w.heap.size e 1 (.slice (some ⟨w.heap.size, 0, none⟩) n n) n xs) (hg : w.grownBy w1 none) :
    ∃ cur : Array Value, Hid (w1.heap[w.heap.size]? = some (.cells cur e (0, 0))) ∧ cur.size = n ∧ Hid (Below w.heap.size w w1) := by
  obtain ⟨_, ⟨h0, _⟩ | ⟨g, cap, cur, e2, _, hb, _, _, hs, _⟩⟩ := h
  · cases h0
  · simp at e2
    obtain ⟨rfl, rfl⟩ := e2
    exact ⟨cur, hb, by simpa using hs, ⟨hg.os, hg.tape, hg.output, hg.size, fun k hk => hg.block k hk (by simp)⟩⟩

theorem row_copied {w1 : World} {g : Nat} {e : TypeId} {cur A : Array Value} {vs : List Value} (hb : w1.heap[g]? = some (.cells cur e (0, 0))) (hA : A.toList = vs) (hm : vs.length ≤ maxLen) :
    RowV (w1.setRow g A) g e 1 vs.length vs := by
  refine ⟨A, setRow_heap w1 g cur _ e _ hb, by omega, hm, ?_, ?_⟩
  · rw [← hA]; simp
  · rw [hA]; simp

theorem Try.info3' : (Try.prog.info? 3).map (fun i => (i.zero, i.size, i.bytes)) = some (some (.int .i64 0), 1, 8) := by kernel_rfl

theorem cloneI_nil (w : World) : Calls Try.prog 10 #[.slice none 0 0] w (CloneV 3 none [] w) := by
  have qT : ∀ (w : World) (a : Option Addr) (n c n' c' : Nat), (binOp .eql 23 (.slice a n c) (.slice none n' c')).run Try.prog w = .ok (.bool a.isNone) w := fun w a n c n' c' => Lib.run_eql_slice_nil w _ _ a n c n' c' Try.underlying23
  go_enter Try.func10, Try.ntmps10
  go_wp2
  go_ret
  exact ⟨none, rfl, rfl, Or.inl ⟨rfl, rfl⟩, Below.refl _ _, by simp [blkOf]⟩

set_option maxHeartbeats 1000000 in
theorem cloneI_row (ad : Addr) (c : Nat) (vs : List Value) (w : World) (hs : SrcV w ad vs) (h1 : ∀ v ∈ vs, v.oneCell' = true) (hlen : vs.length ≤ 1048576) (hc : vs.length ≤ c) :
    Calls Try.prog 10 #[.slice (some ad) vs.length c] w (CloneV 3 (some ad) vs w) := by
  have qT : ∀ (w : World) (a : Option Addr) (n c n' c' : Nat), (binOp .eql 23 (.slice a n c) (.slice none n' c')).run Try.prog w = .ok (.bool a.isNone) w := fun w a n c n' c' => Lib.run_eql_slice_nil w _ _ a n c n' c' Try.underlying23
  have HS : Hid (SrcV w ad vs) := hs
  have H1 : Hid (∀ v ∈ vs, v.oneCell' = true) := h1
  clear hs h1
  obtain ⟨i0, hi, hz0, hz1, hz2⟩ := info_parts Try.info3'
  have hsz : (Try.prog.info? 3).map (·.size) = some 1 := by kernel_rfl
  go_enter Try.func10, Try.ntmps10
  go_wp2_with (first | (at_make; refine wpList_make_full _ rfl _ _ 23 rfl w.heap.size 3 i0 (.int .i64 0) 1 Try.underlying23 hi hz0 hz1 .i64 .i64 _ _ vs.length rfl rfl rfl rfl (by rw [hz2]; omega) (by unfold maxLen; omega) (Nat.le_refl _) ?_; intro w1 hown hg1; obtain ⟨cur, hcur, hcl, B1⟩ := made_row hown hg1; clear hown hg1) | ((with_reducible show wpList _ _ _ (Oper.mk (some 11) _ _ _ _ _ :: _) _ _); refine wpList_copy_own rfl _ _ 23 23 rfl 3 Try.underlying23 hsz w.heap.size 0 vs.length vs.length ad vs.length c rfl rfl cur 3 hcur.out vs (by simp) (fun j v hj => HS.out.below B1.out (Nat.le_refl _) j v hj) (by omega) H1.out ?_))
  go_ret
  refine ⟨some ⟨w.heap.size, 0, none⟩, rfl, rfl, Or.inr ⟨_, _, rfl, ?_⟩, ?_, by intro g hg; simp [blkOf] at hg; exact hg.symm⟩
  · exact row_copied hcur.out (by simp [hcl]) (by unfold maxLen; omega)
  · exact below_setRow B1.out (Nat.le_refl _) _

theorem cloneI_any (a : Option Addr) (n c : Nat) (vs : List Value) (w : World) (hn : n = vs.length) (h : InV w (.slice a n c) vs) (h1 : ∀ v ∈ vs, v.oneCell' = true) (hlen : vs.length ≤ 1048576) :
    Calls Try.prog 10 #[.slice a n c] w (CloneV 3 a vs w) := by
  subst hn
  obtain ⟨e, rfl⟩ | ⟨ad, c', e, hc, h2⟩ := h
  · simp at e
    obtain ⟨rfl, rfl⟩ := e
    exact cloneI_nil w
  · simp at e
    obtain ⟨rfl, rfl⟩ := e
    exact cloneI_row ad c vs w h2 h1 hlen hc

theorem Try.info32' : (Try.prog.info? 32).map (fun i => (i.zero, i.size, i.bytes)) = some (some (.int .u64 0), 1, 8) := by kernel_rfl

theorem cloneU_nil (w : World) : Calls Try.prog 11 #[.slice none 0 0] w (CloneV 32 none [] w) := by
  have qT : ∀ (w : World) (a : Option Addr) (n c n' c' : Nat), (binOp .eql 24 (.slice a n c) (.slice none n' c')).run Try.prog w = .ok (.bool a.isNone) w := fun w a n c n' c' => Lib.run_eql_slice_nil w _ _ a n c n' c' Try.underlying24
  go_enter Try.func11, Try.ntmps11
  go_wp2
  go_ret
  exact ⟨none, rfl, rfl, Or.inl ⟨rfl, rfl⟩, Below.refl _ _, by simp [blkOf]⟩

set_option maxHeartbeats 1000000 in
theorem cloneU_row (ad : Addr) (c : Nat) (vs : List Value) (w : World) (hs : SrcV w ad vs) (h1 : ∀ v ∈ vs, v.oneCell' = true) (hlen : vs.length ≤ 1048576) (hc : vs.length ≤ c) :
    Calls Try.prog 11 #[.slice (some ad) vs.length c] w (CloneV 32 (some ad) vs w) := by
  have qT : ∀ (w : World) (a : Option Addr) (n c n' c' : Nat), (binOp .eql 24 (.slice a n c) (.slice none n' c')).run Try.prog w = .ok (.bool a.isNone) w := fun w a n c n' c' => Lib.run_eql_slice_nil w _ _ a n c n' c' Try.underlying24
  have HS : Hid (SrcV w ad vs) := hs
  have H1 : Hid (∀ v ∈ vs, v.oneCell' = true) := h1
  clear hs h1
  obtain ⟨i0, hi, hz0, hz1, hz2⟩ := info_parts Try.info32'
  have hsz : (Try.prog.info? 32).map (·.size) = some 1 := by kernel_rfl
  go_enter Try.func11, Try.ntmps11
  go_wp2_with (first | (at_make; refine wpList_make_full _ rfl _ _ 24 rfl w.heap.size 32 i0 (.int .u64 0) 1 Try.underlying24 hi hz0 hz1 .i64 .i64 _ _ vs.length rfl rfl rfl rfl (by rw [hz2]; omega) (by unfold maxLen; omega) (Nat.le_refl _) ?_; intro w1 hown hg1; obtain ⟨cur, hcur, hcl, B1⟩ := made_row hown hg1; clear hown hg1) | ((with_reducible show wpList _ _ _ (Oper.mk (some 11) _ _ _ _ _ :: _) _ _); refine wpList_copy_own rfl _ _ 24 24 rfl 32 Try.underlying24 hsz w.heap.size 0 vs.length vs.length ad vs.length c rfl rfl cur 32 hcur.out vs (by simp) (fun j v hj => HS.out.below B1.out (Nat.le_refl _) j v hj) (by omega) H1.out ?_))
  go_ret
  refine ⟨some ⟨w.heap.size, 0, none⟩, rfl, rfl, Or.inr ⟨_, _, rfl, ?_⟩, ?_, by intro g hg; simp [blkOf] at hg; exact hg.symm⟩
  · exact row_copied hcur.out (by simp [hcl]) (by unfold maxLen; omega)
  · exact below_setRow B1.out (Nat.le_refl _) _

theorem cloneU_any (a : Option Addr) (n c : Nat) (vs : List Value) (w : World) (hn : n = vs.length) (h : InV w (.slice a n c) vs) (h1 : ∀ v ∈ vs, v.oneCell' = true) (hlen : vs.length ≤ 1048576) :
    Calls Try.prog 11 #[.slice a n c] w (CloneV 32 a vs w) := by
  subst hn
  obtain ⟨e, rfl⟩ | ⟨ad, c', e, hc, h2⟩ := h
  · simp at e
    obtain ⟨rfl, rfl⟩ := e
    exact cloneU_nil w
  · simp at e
    obtain ⟨rfl, rfl⟩ := e
    exact cloneU_row ad c vs w h2 h1 hlen hc

theorem Try.info4' : (Try.prog.info? 4).map (fun i => (i.zero, i.size, i.bytes)) = some (some (.bool false), 1, 1) := by kernel_rfl

theorem cloneB_nil (w : World) : Calls Try.prog 17 #[.slice none 0 0] w (CloneV 4 none [] w) := by
  have qT : ∀ (w : World) (a : Option Addr) (n c n' c' : Nat), (binOp .eql 37 (.slice a n c) (.slice none n' c')).run Try.prog w = .ok (.bool a.isNone) w := fun w a n c n' c' => Lib.run_eql_slice_nil w _ _ a n c n' c' Try.underlying37
  go_enter Try.func17, Try.ntmps17
  go_wp2
  go_ret
  exact ⟨none, rfl, rfl, Or.inl ⟨rfl, rfl⟩, Below.refl _ _, by simp [blkOf]⟩

set_option maxHeartbeats 1000000 in
theorem cloneB_row (ad : Addr) (c : Nat) (vs : List Value) (w : World) (hs : SrcV w ad vs) (h1 : ∀ v ∈ vs, v.oneCell' = true) (hlen : vs.length ≤ 1048576) (hc : vs.length ≤ c) :
    Calls Try.prog 17 #[.slice (some ad) vs.length c] w (CloneV 4 (some ad) vs w) := by
  have qT : ∀ (w : World) (a : Option Addr) (n c n' c' : Nat), (binOp .eql 37 (.slice a n c) (.slice none n' c')).run Try.prog w = .ok (.bool a.isNone) w := fun w a n c n' c' => Lib.run_eql_slice_nil w _ _ a n c n' c' Try.underlying37
  have HS : Hid (SrcV w ad vs) := hs
  have H1 : Hid (∀ v ∈ vs, v.oneCell' = true) := h1
  clear hs h1
  obtain ⟨i0, hi, hz0, hz1, hz2⟩ := info_parts Try.info4'
  have hsz : (Try.prog.info? 4).map (·.size) = some 1 := by kernel_rfl
  go_enter Try.func17, Try.ntmps17
  go_wp2_with (first | (at_make; refine wpList_make_full _ rfl _ _ 37 rfl w.heap.size 4 i0 (.bool false) 1 Try.underlying37 hi hz0 hz1 .i64 .i64 _ _ vs.length rfl rfl rfl rfl (by rw [hz2]; omega) (by unfold maxLen; omega) (Nat.le_refl _) ?_; intro w1 hown hg1; obtain ⟨cur, hcur, hcl, B1⟩ := made_row hown hg1; clear hown hg1) | ((with_reducible show wpList _ _ _ (Oper.mk (some 11) _ _ _ _ _ :: _) _ _); refine wpList_copy_own rfl _ _ 37 37 rfl 4 Try.underlying37 hsz w.heap.size 0 vs.length vs.length ad vs.length c rfl rfl cur 4 hcur.out vs (by simp) (fun j v hj => HS.out.below B1.out (Nat.le_refl _) j v hj) (by omega) H1.out ?_))
  go_ret
  refine ⟨some ⟨w.heap.size, 0, none⟩, rfl, rfl, Or.inr ⟨_, _, rfl, ?_⟩, ?_, by intro g hg; simp [blkOf] at hg; exact hg.symm⟩
  · exact row_copied hcur.out (by simp [hcl]) (by unfold maxLen; omega)
  · exact below_setRow B1.out (Nat.le_refl _) _

theorem cloneB_any (a : Option Addr) (n c : Nat) (vs : List Value) (w : World) (hn : n = vs.length) (h : InV w (.slice a n c) vs) (h1 : ∀ v ∈ vs, v.oneCell' = true) (hlen : vs.length ≤ 1048576) :
    Calls Try.prog 17 #[.slice a n c] w (CloneV 4 a vs w) := by
  subst hn
  obtain ⟨e, rfl⟩ | ⟨ad, c', e, hc, h2⟩ := h
  · simp at e
    obtain ⟨rfl, rfl⟩ := e
    exact cloneB_nil w
  · simp at e
    obtain ⟨rfl, rfl⟩ := e
    exact cloneB_row ad c vs w h2 h1 hlen hc

end Go.Proofs.Qxb6616962a

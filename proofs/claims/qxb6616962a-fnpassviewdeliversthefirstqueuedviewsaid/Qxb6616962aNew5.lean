import Derived.Test.Qxb6616962aNew4
/-! ZZnewHoldback (15). -/
namespace Go.Proofs.Qxb6616962a
open Go.RowKit
set_option linter.unusedVariables false
set_option linter.unusedSimpArgs false
set_option maxRecDepth 8000

set_option maxHeartbeats 4000000 in
theorem new15 (sf : Int) (aA a2 a3 a4 a5 a7 a8 : Option Addr) (n2 c2 n3 c3 n4 c4 n5 c5 n7 c7 n8 c8 : Nat) (j : Bool) (cs : List Value) (w : World)
    (ps : List Int) (us : List Int) (bs : List Bool) (h3 : InV w (.slice a3 n3 c3) (ps.map (Value.int .i64))) (h4 : InV w (.slice a4 n4 c4) (us.map (Value.int .u64))) (h5 : InV w (.slice a5 n5 c5) (bs.map Value.bool)) (l3 : n3 = ps.length) (l4 : us.length = ps.length) (l5 : bs.length = ps.length) (hps : ps.length ≤ 131072)
    (hA : OwnV w (.slice aA cs.length cs.length) 24 cs) (hcs : ∀ (i : Nat) (v : Value), cs[i]? = some v → ∃ va m, v = .slice va m m ∧ m ≤ 131072) (hlen : cs.length ≤ 65536) :
    Calls Try.prog 15 #[.int .i64 sf, .slice aA cs.length cs.length, .slice a2 n2 c2, .slice a3 n3 c3, .slice a4 n4 c4, .slice a5 n5 c5, .bool j, .slice a7 n7 c7, .slice a8 n8 c8] w (NewPost w sf cs ps bs (.slice a2 n2 c2) j (.slice a7 n7 c7) (.slice a8 n8 c8)) := by
  have HA : Hid (OwnV w (.slice aA cs.length cs.length) 24 cs) := hA
  have HCS : Hid (∀ (i : Nat) (v : Value), cs[i]? = some v → ∃ va m, v = .slice va m m ∧ m ≤ 131072) := hcs
  have H3 : Hid (InV w (.slice a3 n3 c3) (ps.map (Value.int .i64))) := h3
  have H4 : Hid (InV w (.slice a4 n4 c4) (us.map (Value.int .u64))) := h4
  have H5 : Hid (InV w (.slice a5 n5 c5) (bs.map Value.bool)) := h5
  have L4 : Hid (us.length = ps.length) := l4
  have L5 : Hid (bs.length = ps.length) := l5
  subst l3
  clear hA hcs h3 h4 h5 l4 l5
  obtain ⟨i0, hi, hz0, hz1, hz2⟩ := info_parts Try.info83
  go_enter Try.func15, Try.ntmps15
  go_wp2_with fail
  rename (∀ (a : Act) (w1 : World), Code.wp Try.prog (tailN 4 (Try.f15.body.getD .skip)) (bodyPost Try.prog Try.f15 (NewPost w sf cs ps bs (.slice a2 n2 c2) j (.slice a7 n7 c7) (.slice a8 n8 c8))) a w1 → _) => hK
  have HK : Hid _ := hK
  clear hK
  go_loopw [37] (fun i wr => ∃ (k : Nat) (accV : Value) (accs : List (Value × Value)), k ≤ cs.length ∧ i = .int .i64 k ∧ R1 w wr sf (.slice a2 n2 c2) cs k accV accs) (fun i _ => cs.length - (intOf i).toNat)
  case atStart =>
    refine ⟨0, .slice none 0 0, [], Nat.zero_le _, rfl, rfl, World.ownsRow_nil _ _ _ _, (fun j p hj => by cases hj), ?_, ?_, ?_⟩
    · refine ⟨?_, ?_, ?_, ?_, ?_, ?_, ?_, ?_, ?_, ?_⟩
      all_goals (try intro j)
      all_goals (first | (simp; done) | (go_simp; done) | omega)
    · first
        | exact ((Below.refl _ w).alloc (Nat.le_refl _) _).alloc (by simp) _
        | exact (((Below.refl _ w).alloc (Nat.le_refl _) _).alloc (by simp) _).setCell (by simp) _
    · simp
  case round =>
    obtain ⟨k, accV, accs, hk, rfl, hr⟩ := hrel
    have HR : Hid (R1 w wr sf (.slice a2 n2 c2) cs k accV accs) := hr
    have h1 := hr.hb.s1
    have hF1 := hr.hb.sF 1
    have hsz := hr.size
    by_cases hlt : k < cs.length
    · obtain ⟨v, hv⟩ : ∃ v, cs[k]? = some v := ⟨_, List.getElem?_eq_getElem hlt⟩
      obtain ⟨va, m, rfl, hm⟩ := HCS.out k v hv
      have HV : Hid (cs[k]? = some (.slice va m m)) := hv
      have hltI : (k : Int) < (cs.length : Int) := by omega
      obtain ⟨gA, rfl, HRA⟩ : ∃ gA, aA = some ⟨gA, 0, none⟩ ∧ Hid (RowV w gA 24 1 cs.length cs) := by
        obtain ⟨_, e⟩ | ⟨g, c, e, hrow⟩ := HA.out
        · rw [e] at hlt; simp at hlt
        · simp at e
          obtain ⟨rfl, rfl⟩ := e
          exact ⟨g, rfl, hrow⟩
      have cx : wr.cell? ⟨gA, k, none⟩ = some (.slice va m m) := by rw [hr.below.cell (p := ⟨gA, k, none⟩) HRA.out.lt]; exact HRA.out.cell hv
      have hsb : Hid (some (w.heap.size + 1) ≠ accV.ownBlock) := fun e => by have := (hr.own.lt _ e.symm).1; omega
      have hst : Hid (some w.heap.size ≠ accV.ownBlock) := fun e => by have := (hr.own.lt _ e.symm).1; omega
      have hmk := run_mk57 m (by omega)
      obtain ⟨A, hA⟩ : ∃ A, A = Obj.cells (madeCells (Value.agg #[.int .u64 0, .bool false, .bool false]).cells (m * 3)) 128 := ⟨_, rfl⟩
      rw [← hA] at hmk
      have HAA : Hid (A = Obj.cells (madeCells (Value.agg #[.int .u64 0, .bool false, .bool false]).cells (m * 3)) 128) := hA
      clear hA hr hv
      have hne1 : ¬ w.heap.size + 1 = wr.heap.size := by omega
      have hne2 : ¬ w.heap.size = wr.heap.size := by omega
      have hlt3 : w.heap.size + 1 < wr.heap.size := by omega
      have hcA : (wr.alloc A).cell? ⟨w.heap.size + 1, 1, none⟩ = some accV := (World.cell?_of_block (w := wr) (a := ⟨w.heap.size + 1, 1, none⟩) (Below.heap_alloc wr A _ hlt3)).trans h1
      have hcB : ∀ B : Obj, ((wr.alloc A).alloc B).cell? ⟨w.heap.size + 1, 1, none⟩ = some accV := fun B => (World.cell?_of_block (w := wr) (a := ⟨w.heap.size + 1, 1, none⟩) (blk2 wr A B _ hlt3)).trans h1
      have hown2 : Hid (((wr.drew.alloc A).alloc (Obj.cells #[.slice va m m, .slice (some ⟨wr.heap.size, 0, none⟩) m m, .bool false, .bool false] 83)).ownsRow (w.heap.size + 2) 83 4 accV k (accs.flatMap accC)) := by
        have g1 : wr.grownBy ((wr.drew.alloc A).alloc (Obj.cells #[.slice va m m, .slice (some ⟨wr.heap.size, 0, none⟩) m m, .bool false, .bool false] 83)) none :=
          ⟨rfl, rfl, rfl, by simp; omega, fun q hq _ => by rw [Below.heap_alloc _ _ _ (by simp; omega)]; exact Below.heap_alloc wr.drew A q hq⟩
        refine HR.out.own.kept g1 ?_
        cases hb : accV.ownBlock with
        | none => exact Or.inl rfl
        | some b => exact Or.inr (by simp)
      go_wp2_with fail
      go_region_law (refine step_app rfl (.tmp 45) (.tmp 51) 78 rfl (w.heap.size + 2) 83 i0 _ 4 56 Try.underlying78 hi hz0 hz1 hz2 rfl (by decide) accV k (accs.flatMap accC) (by simp [Act.eval, Act.put]) hown2.out ⟨wr.heap.size + 1, 0, none⟩ 1 1 [.slice va m m, .slice (some ⟨wr.heap.size, 0, none⟩) m m, .bool false, .bool false] (by simp [Act.eval, Act.put]) rfl (fun j u hj => by rcases j with _ | _ | _ | _ | j <;> simp at hj <;> subst hj <;> simp [Addr.add]) (by simp [Value.oneCell']) (by unfold maxLen; omega) (by omega) (by simp; omega) ?_; intro v' w4 own4 grow4; obtain ⟨gv, cv, rfl⟩ := own_form own4 (by omega); have GB : Hid (∀ q, q < wr.heap.size → some q ≠ accV.ownBlock → w4.heap[q]? = wr.heap[q]?) := (fun q hq hne => (grow4.block q (by simp; omega) hne).trans (blk2 wr A _ q hq)); have GS : Hid (w4.os = wr.os ∧ w4.tape = wr.tape ∧ w4.output = wr.output ∧ wr.heap.size ≤ w4.heap.size) := ⟨grow4.os, grow4.tape, grow4.output, by have := grow4.size; simp at this; omega⟩; have O4 : Hid (w4.ownsRow (w.heap.size + 2) 83 4 (.slice (some ⟨gv, 0, none⟩) (k + 1) cv) (k + 1) (accs.flatMap accC ++ [.slice va m m, .slice (some ⟨wr.heap.size, 0, none⟩) m m, .bool false, .bool false])) := own4; have eb := GB.out (w.heap.size + 1) (by omega) hsb.out; have q1 : w4.cell? ⟨w.heap.size + 1, 1, none⟩ = some accV := (World.cell?_of_block (w := wr) (a := ⟨w.heap.size + 1, 1, none⟩) eb).trans h1; have qF : w4.frozen? ⟨w.heap.size + 1, 1, none⟩ = false := (World.frozen?_of_block (w := wr) (a := ⟨w.heap.size + 1, 1, none⟩) eb).trans hF1; clear own4 grow4 eb)
      all_goals
        go_wp2
        go_roundw
        case rel =>
          refine ⟨k + 1, .slice (some ⟨gv, 0, none⟩) (k + 1) cv, accs ++ [(.slice va m m, .slice (some ⟨wr.heap.size, 0, none⟩) m m)], by omega, by go_num, ?_⟩
          exact R1.next HR.out HV.out hsz GB.out GS.out O4.out hsb.out hst.out
        case measure => simp [intOf]; omega
    · have hltI : ¬ (k : Int) < (cs.length : Int) := by omega
      clear hr h1 hF1
      obtain rfl : k = cs.length := by omega
      go_wp2_with fail
      refine HK.out _ _ ?_
      exact new_tail4 sf a3 a4 a5 a7 a8 c3 n4 c4 n5 c5 n7 c7 n8 c8 j cs ps us bs (.slice a2 n2 c2) accV accs w wr _ _ _ _ _ _ _ _ _ _ _ _ _ _ _ _ _ _ _ _ _ _ _ _ _ _ _ _ _ _ _ _ _ _ _ _ _ _ _ _ _ _ _ _ _ _ _ _ _ _ _ _ _ _ _ _ _ _ _ _ _ _ _ _ _ _ _ _ _ _ _ _ _ _ _ _ _ _ _ _ _ _ _ _ _ _ _ _ H3 H4 H5 L4 L5 hps HR _ rfl

end Go.Proofs.Qxb6616962a

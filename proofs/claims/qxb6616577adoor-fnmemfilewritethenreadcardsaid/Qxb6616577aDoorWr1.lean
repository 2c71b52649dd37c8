import Derived.Test.Qxb6616577aDoorRead2
import Derived.Lib.AppendZerosOnto
import Derived.Deep.RegionLawGrows
/-! resize (43), apply (30). -/
namespace Go.Proofs.Qxb6616577aDoor
open Go.RowKit Go.MuLone
set_option linter.unusedVariables false
set_option linter.unusedSimpArgs false
set_option maxRecDepth 8000

/-- How resize ends, where it grows. -/
def ResizePost (D : List Int) (n : Nat) (w : World) (e : Ending) (w' : World) : Prop :=
  ∃ c, e = .returned (.slice (some ⟨w.heap.size, 0, none⟩) n c) ∧ RowB w' w.heap.size c (D ++ List.replicate (n - D.length) 0) ∧ Below w.heap.size w w'

theorem zeroCells_u8 (n : Nat) : (Builtin.zeroCells (Value.int .u8 0).cells n).toList = List.replicate n (Value.int .u8 0) := by
  apply List.ext_getElem
  · simp [Builtin.zeroCells, Value.cells]
  · intro i h1 h2
    simp [Builtin.zeroCells, Value.cells, Nat.mod_one]

theorem run_resize (va : Option Addr) (D : List Int) (k : Nat) (w : World) (hd : DataAt w (.slice va D.length D.length) D) (hk : 0 < k) (hl : D.length + k ≤ 1000000) :
    ∃ c w', (Builtin.append_ #[23, 2] 23 #[.slice va D.length D.length, .int .i64 (k : Int)]).run Tryd.prog w = .ok (.slice (some ⟨w.heap.size, 0, none⟩) (D.length + k) c) w' ∧
      RowB w' w.heap.size c (D ++ List.replicate k 0) ∧ Below w.heap.size w w' := by
  obtain ⟨i0, hi, hz0, hz1, hz2⟩ := info_parts Tryd.info5
  have hold : (Builtin.firstCells i0.size D.length (.slice va D.length D.length)).run Tryd.prog w.drew = .ok (D.map (Value.int .u8)).toArray w.drew := by
    obtain ⟨e, rfl⟩ | ⟨gd, cd, e, hr⟩ := hd
    · rw [e]; exact run_firstCells_none _ _ _ _ _
    · simp at e
      rw [e.1, hz1]
      refine run_firstCells_some _ 1 D.length _ _ _ _ (by simp) (fun j v hj => ?_)
      rw [List.getElem?_map] at hj
      obtain ⟨z, hz, rfl⟩ := Option.map_eq_some_iff.1 hj
      exact hr.src j z hz
  have hcap : Builtin.nextslicecap (D.length + k) D.length * i0.bytes ≤ 281474976710656 := growslice_fits (by omega) (by rw [hz2]; omega)
  have hrun := Lib.run_append_grow_zeros (P := Tryd.prog) w 23 2 23 5 i0 (.int .u8 0) .i64 .i64 Tryd.underlying23 Tryd.underlying2 hi hz0 va D.length D.length (D.map (Value.int .u8)) hold k hk (by rw [hz1]; omega) (by omega) (by omega) (by rw [hz2]; omega) hcap
  refine ⟨_, _, hrun, ?_, ?_⟩
  · refine ⟨_, heap_alloc_new w.drew _, ?_, ?_, ?_, ?_⟩
    · simp; exact grownCap_ge _ _ _ _
    · exact grownCap_le_maxLen _ _ _ _ (by unfold maxLen; omega)
    · have := grownCap_ge w (D.length + k) D.length 5
      simp [size_zeroCells, Value.cells]
      omega
    · have hl2 : (D ++ List.replicate k (0 : Int)).length = D.length + k := by simp
      rw [hl2, Array.toList_append, Array.toList_append, zeroCells_u8, List.toList_toArray]
      rw [List.take_left' (by simp)]
      simp
  · exact ((Below.refl _ w).drew).alloc (Nat.le_refl _) _

set_option maxHeartbeats 1000000 in
theorem resize_any (va : Option Addr) (D : List Int) (n : Nat) (w : World) (hd : DataAt w (.slice va D.length D.length) D) (hn : D.length < n) (hl : n ≤ 1000000) :
    Calls Tryd.prog 43 #[.slice va D.length D.length, .int .i64 (n : Int)] w (ResizePost D n w) := by
  obtain ⟨c, w', hrun, hr, hb⟩ := run_resize va D (n - D.length) w hd (by omega) (by omega)
  have ek : ((n - D.length : Nat) : Int) = (n : Int) - (D.length : Int) := by omega
  rw [ek] at hrun
  have el : D.length + (n - D.length) = n := by omega
  rw [el] at hrun
  have HP : Hid (ResizePost D n w (.returned (.slice (some ⟨w.heap.size, 0, none⟩) n c)) w') := ⟨c, rfl, hr, hb⟩
  have HR : Hid ((Builtin.append_ #[23, 2] 23 #[.slice va D.length D.length, .int .i64 ((n : Int) - (D.length : Int))]).run Tryd.prog w = .ok (.slice (some ⟨w.heap.size, 0, none⟩) n c) w') := hrun
  have e1 : decide ((n : Int) ≤ (D.length : Int)) = false := by simp; omega
  clear hd hr hb hrun ek el
  go_enter Tryd.func43, Tryd.ntmps43
  go_wp2_with (at_builtin; refine Lib.wpList_append_run _ rfl _ _ 23 2 rfl _ _ rfl rfl _ _ HR.out ?_)
  go_ret
  exact HP.out

/-- What a write leaves. -/
def wrD (D Q : List Int) (o : Nat) : List Int := spl (D ++ List.replicate (o + Q.length - D.length) 0) o Q

/-- 'copy' in a region that draws. -/
theorem step_copyB {ops : Array Oper} {o : Oper} {a : Act} {w : World} {K : Act → World → Prop} {Q : Exit → Act → World → Prop} {E : Prop} (hgd : o.guard = none) (d s : Operand)
    (ho : o.op = .call { callee := .builtin .copy, args := #[d, s], argTypes := #[23, 23] })
    (g cap : Nat) (bs : List Int) (hrow : RowB w g cap bs) (off dLen dCap : Nat) (ad : Addr) (sLen sCap : Nat) (hd : a.eval d = .slice (some ⟨g, off, none⟩) dLen dCap) (hs : a.eval s = .slice (some ad) sLen sCap)
    (ns : List Int) (hn : ns.length = min sLen dLen) (hsrc : SrcB w ad ns) (hfit : off + ns.length ≤ bs.length)
    (h : ∀ w', RowB w' g cap (spl bs off ns) → w.grownBy w' (some g) → w'.heap.size = w.heap.size → K (a.put o.dst (.int .i64 (ns.length : Int))) w') :
    if Region.wanted o (yielded ops a.tmps) = true then Oper.wp Tryd.prog o a w K Q else E := by
  have hw : Region.wanted o (yielded ops a.tmps) = true := by simp [Region.wanted, hgd]
  rw [if_pos hw]
  have hsz : (Tryd.prog.info? 5).map (·.size) = some 1 := by kernel_rfl
  obtain ⟨cur, hg, h1, h2, h3, h4⟩ := hrow
  have hrun := run_copy_row (P := Tryd.prog) w 23 23 o.type 5 g off dLen dCap ad sLen sCap cur 5 (ns.map (Value.int .u8)) Tryd.underlying23 hsz hg (by simpa using hn) (fun j v hj => by
      rw [List.getElem?_map] at hj
      obtain ⟨z, hz, rfl⟩ := Option.map_eq_some_iff.1 hj
      exact hsrc j z hz) (by simp; omega) (fun v hv => by
      obtain ⟨z, _, rfl⟩ := List.mem_map.1 hv
      rfl)
  have hall : ∃ W', (Builtin.copy_ #[23, 23] o.type #[.slice (some ⟨g, off, none⟩) dLen dCap, .slice (some ad) sLen sCap]).run Tryd.prog w = .ok (.int .i64 (ns.length : Int)) W' ∧ RowB W' g cap (spl bs off ns) ∧ w.grownBy W' (some g) ∧ W'.heap.size = w.heap.size := by
    refine ⟨w.setRow g (cur.toList.take off ++ ns.map (Value.int .u8) ++ cur.toList.drop (off + (ns.map (Value.int .u8)).length)).toArray, by rw [hrun]; simp [goInt], ?_, ⟨rfl, rfl, rfl, by simp [World.setRow], fun k hk hne => setRow_other w g k _ (fun e => hne (by rw [e]))⟩, by simp [World.setRow]⟩
    refine ⟨_, setRow_heap w g cur _ 5 _ hg, ?_, h2, ?_, ?_⟩
    · rw [spl_length bs off ns hfit]; exact h1
    · simp; omega
    · rw [spl_length bs off ns hfit]
      have hl : (bs.map (Value.int .u8)).length = bs.length := by simp
      have hcur : cur.toList = bs.map (Value.int .u8) ++ cur.toList.drop bs.length := by rw [← h4, List.take_append_drop]
      rw [hcur]
      have ht := take_splice (bs.map (Value.int .u8)) (cur.toList.drop bs.length) (ns.map (Value.int .u8)) off (by simpa using hfit)
      rw [hl] at ht
      rw [List.append_assoc, ht]
      simp only [spl, List.map_append, List.map_take, List.map_drop, List.length_map]
  obtain ⟨W', hr, k1, k2, k3⟩ := hall
  unfold Oper.wp
  simp [execOp, ho, resolve, invoke, builtin, hd, hs, hr, Result.andThen]
  exact h W' k1 k2 k3

/-- How apply ends. -/
def ApplyPost (dv : Value) (D Q : List Int) (o : Nat) (w : World) (e : Ending) (w' : World) : Prop :=
  ∃ g c n, n = (wrD D Q o).length ∧ e = .returned (.slice (some ⟨g, 0, none⟩) n c) ∧ RowB w' g c (wrD D Q o) ∧ (w.heap.size ≤ g ∨ rowOf dv = some g) ∧ w.grownBy w' (rowOf dv)

set_option maxHeartbeats 2000000 in
theorem apply_any (va : Option Addr) (D Q : List Int) (o gq cq : Nat) (w : World) (hd : DataAt w (.slice va D.length D.length) D) (hq : RowB w gq cq Q) (hne : ∀ g, rowOf (.slice va D.length D.length) = some g → gq ≠ g)
    (hQ : 0 < Q.length) (hDl : D.length ≤ 65536) (hQl : Q.length ≤ 65536) (ho : o ≤ 65536) :
    Calls Tryd.prog 30 #[.agg #[.int .i64 (o : Int), .slice (some ⟨gq, 0, none⟩) Q.length cq, .bool false], .slice va D.length D.length] w (ApplyPost (.slice va D.length D.length) D Q o w) := by
  have lq := hq.len
  unfold maxLen at lq
  have HQ : Hid (RowB w gq cq Q) := hq
  have HD : Hid (DataAt w (.slice va D.length D.length) D) := hd
  have HN : Hid (∀ g, rowOf (.slice va D.length D.length) = some g → gq ≠ g) := hne
  clear hd hq hne
  obtain ⟨w1, hw1⟩ : ∃ w1, Hid (w1 = w.alloc (Obj.cells #[.int .i64 (o : Int), .slice (some ⟨gq, 0, none⟩) Q.length cq, .bool false] 71)) := ⟨_, rfl⟩
  have B1 : Hid (Below w.heap.size w w1) := by rw [hw1.out]; exact (Below.refl _ w).alloc (Nat.le_refl _) _
  have z1 : w1.heap.size = w.heap.size + 1 := by rw [hw1.out]; simp
  have k0 : w1.cell? ⟨w.heap.size, 0, none⟩ = some (.int .i64 (o : Int)) := by rw [hw1.out]; simp
  have k1 : w1.cell? ⟨w.heap.size, 1, none⟩ = some (.slice (some ⟨gq, 0, none⟩) Q.length cq) := by rw [hw1.out]; simp
  have HQ1 : Hid (RowB w1 gq cq Q) := HQ.out.later B1.out HQ.out.lt
  have HD1 : Hid (DataAt w1 (.slice va D.length D.length) D) := HD.out.of_blocks (fun g hg => B1.out.block g (HD.out.lt hg))
  by_cases hg : D.length < o + Q.length
  · have hgI : decide ((D.length : Int) < (o : Int) + (Q.length : Int)) = true := by simp; omega
    have hres := resize_any va D (o + Q.length) w1 HD1.out hg (by omega)
    rw [Int.natCast_add] at hres
    have HRES : Hid (Calls Tryd.prog 43 #[.slice va D.length D.length, .int .i64 ((o : Int) + (Q.length : Int))] w1 (ResizePost D (o + Q.length) w1)) := hres
    clear hres
    go_enter Tryd.func30, Tryd.ntmps30
    go_wp2_with fail
    rw [← hw1.out]
    refine HRES.out.mono ?_
    rintro e w2 ⟨c, rfl, r2, b2⟩
    have e2 : rowOf (.slice va D.length D.length) = rowOf (.slice va D.length D.length) := rfl
    have j0 : w2.cell? ⟨w.heap.size, 0, none⟩ = some (.int .i64 (o : Int)) := by rw [b2.cell (by show w.heap.size < _; omega)]; exact k0
    have j1 : w2.cell? ⟨w.heap.size, 1, none⟩ = some (.slice (some ⟨gq, 0, none⟩) Q.length cq) := by rw [b2.cell (by show w.heap.size < _; omega)]; exact k1
    have HQ2 : Hid (RowB w2 gq cq Q) := HQ1.out.later b2 HQ1.out.lt
    obtain ⟨E, hE⟩ : ∃ E : List Int, Hid (E = D ++ List.replicate (o + Q.length - D.length) 0) := ⟨D ++ List.replicate (o + Q.length - D.length) 0, rfl⟩
    rw [← hE.out] at r2
    rw [z1] at r2
    have HR2 : Hid (RowB w2 (w.heap.size + 1) c E) := r2
    have hEl : E.length = o + Q.length := by rw [hE.out]; simp; omega
    have lc := r2.len
    unfold maxLen at lc
    have B2 : Hid (Below w.heap.size w w2) := B1.out.trans (b2.mono (by omega))
    have hle : (o : Int) ≤ (o : Int) + (Q.length : Int) := by omega
    have hco : ¬ c = o := by omega
    clear r2 b2 e2
    go_wp2_with fail
    go_region_law (refine step_copyB rfl (.tmp 28) (.tmp 30) rfl (w.heap.size + 1) c E (HR2.out.of_block rfl) o Q.length (c - o) ⟨gq, 0, none⟩ Q.length cq (by simp [Act.eval, Act.put]) (by simp [Act.eval, Act.put]) Q (by simp) (fun j x hj => HQ2.out.src j x hj) (by omega) ?_; intro w3 r3 g3 s3; have R3 : Hid (RowB w3 (w.heap.size + 1) c (spl E o Q)) := r3; have G3 : Hid (w2.grownBy w3 (some (w.heap.size + 1))) := ⟨g3.os, g3.tape, g3.output, g3.size, g3.block⟩; clear r3 g3 s3)
    all_goals
      go_wp2
      go_ret
      refine ⟨w.heap.size + 1, c, o + Q.length, ?_, rfl, ?_, Or.inl (by omega), ?_⟩
      · rw [wrD, ← hE.out, spl_length _ _ _ (by omega), hEl]
      · rw [wrD, ← hE.out]; exact R3.out
      · refine ⟨G3.out.os.trans B2.out.os, G3.out.tape.trans B2.out.tape, G3.out.output.trans B2.out.output, Nat.le_trans B2.out.size G3.out.size, fun k hk _ => ?_⟩
        rw [G3.out.block k (Nat.lt_of_lt_of_le hk B2.out.size) (by simp; omega)]
        exact B2.out.block k hk
  · have hgI : decide ((D.length : Int) < (o : Int) + (Q.length : Int)) = false := by simp; omega
    have hle : (o : Int) ≤ (D.length : Int) := by omega
    have hco : ¬ D.length = o := by omega
    obtain ⟨gd, rfl, HRD, hgq⟩ : ∃ gd, va = some ⟨gd, 0, none⟩ ∧ Hid (RowB w1 gd D.length D) ∧ Hid (gq ≠ gd) := by
      obtain ⟨_, rfl⟩ | ⟨gd, cd, e, hr⟩ := HD1.out
      · exfalso; apply hg; simp only [List.length_nil]; omega
      · simp at e
        obtain ⟨rfl, rfl⟩ := e
        exact ⟨gd, rfl, hr, HN.out gd rfl⟩
    have hmin : Hid (Q.length = min Q.length (D.length - o)) := by rw [Hid]; omega
    go_enter Tryd.func30, Tryd.ntmps30
    go_wp2_with fail
    rw [← hw1.out]
    go_region_law (refine step_copyB rfl (.tmp 28) (.tmp 30) rfl gd D.length D (HRD.out.of_block rfl) o (D.length - o) (D.length - o) ⟨gq, 0, none⟩ Q.length cq (by simp [Act.eval, Act.put]) (by simp [Act.eval, Act.put]) Q hmin.out (fun j x hj => HQ1.out.src j x hj) (by omega) ?_; intro w3 r3 g3 s3; have R3 : Hid (RowB w3 gd D.length (spl D o Q)) := r3; have G3 : Hid (w1.grownBy w3 (some gd)) := ⟨g3.os, g3.tape, g3.output, g3.size, g3.block⟩; clear r3 g3 s3)
    all_goals
      go_wp2
      go_ret
      have ew : wrD D Q o = spl D o Q := by
        have : o + Q.length - D.length = 0 := by omega
        rw [wrD, this]; simp
      refine ⟨gd, D.length, D.length, ?_, rfl, ?_, Or.inr rfl, ?_⟩
      · rw [ew, spl_length _ _ _ (by omega)]
      · rw [ew]; exact R3.out
      · refine ⟨G3.out.os.trans B1.out.os, G3.out.tape.trans B1.out.tape, G3.out.output.trans B1.out.output, Nat.le_trans B1.out.size G3.out.size, fun k hk hk2 => ?_⟩
        rw [G3.out.block k (Nat.lt_of_lt_of_le hk B1.out.size) hk2]
        exact B1.out.block k hk

end Go.Proofs.Qxb6616577aDoor

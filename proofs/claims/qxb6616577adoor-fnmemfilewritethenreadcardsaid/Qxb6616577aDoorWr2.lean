import Derived.Test.Qxb6616577aDoorWr1
import Derived.Deep.DeepCutAuto
/-! change (25). -/
namespace Go.Proofs.Qxb6616577aDoor
open Go.RowKit Go.MuLone
set_option linter.unusedVariables false
set_option linter.unusedSimpArgs false
set_option maxRecDepth 8000

/-- What a walk has turned: the blocks that ex names, and new ones. -/
structure Chg (w w' : World) (ex : Nat → Prop) : Prop where
  os : w'.os = w.os
  tape : w'.tape = w.tape
  output : w'.output = w.output
  size : w.heap.size ≤ w'.heap.size
  block : ∀ k, k < w.heap.size → ¬ ex k → w'.heap[k]? = w.heap[k]?

theorem Chg.refl (w : World) (ex : Nat → Prop) : Chg w w ex := ⟨rfl, rfl, rfl, Nat.le_refl _, fun _ _ _ => rfl⟩
theorem Chg.trans {w w1 w2 : World} {ex : Nat → Prop} (h : Chg w w1 ex) (k : Chg w1 w2 ex) : Chg w w2 ex :=
  ⟨k.os.trans h.os, k.tape.trans h.tape, k.output.trans h.output, Nat.le_trans h.size k.size, fun j hj he => (k.block j (Nat.lt_of_lt_of_le hj h.size) he).trans (h.block j hj he)⟩
theorem Chg.below {w w' : World} {ex : Nat → Prop} (h : Below w.heap.size w w') : Chg w w' ex := ⟨h.os, h.tape, h.output, h.size, fun k hk _ => h.block k hk⟩
theorem Chg.grown {w w' : World} {ex : Nat → Prop} {row : Option Nat} (h : w.grownBy w' row) (hr : ∀ k, row = some k → ex k) : Chg w w' ex :=
  ⟨h.os, h.tape, h.output, h.size, fun k hk he => h.block k hk (fun e => he (hr k e.symm))⟩
theorem Chg.set {w : World} {ex : Nat → Prop} (a : Addr) (v : Value) (h : ex a.block) : Chg w (w.setCell a v) ex :=
  ⟨rfl, rfl, rfl, by rw [size_setCell]; exact Nat.le_refl _, fun k hk he => Below.heap_setCell _ _ _ _ (fun e => he (e ▸ h))⟩
theorem Chg.drew {w w' : World} {ex : Nat → Prop} (h : Chg w w' ex) : Chg w w'.drew ex := ⟨h.os, h.tape, h.output, h.size, h.block⟩
theorem Chg.toBelow {w w' : World} {ex : Nat → Prop} {B : Nat} (h : Chg w w' ex) (hB : B ≤ w.heap.size) (hx : ∀ k, ex k → B ≤ k) : Below B w w' :=
  ⟨h.os, h.tape, h.output, h.size, fun k hk => h.block k (by omega) (fun e => by have := hx k e; omega)⟩

theorem Tryd.info71 : (Tryd.prog.info? 71).map (fun i => (i.zero, i.size, i.bytes)) = some (some (.agg #[.int .i64 0, .slice none 0 0, .bool false]), 3, 40) := by kernel_rfl

theorem own_some {w : World} {base : Nat} {v : Value} {n : Nat} {vs : List Value} (h : w.ownsRow base 71 3 v n vs) (hn : 0 < n) : ∃ g cap, v = .slice (some ⟨g, 0, none⟩) n cap := by
  obtain ⟨_, ⟨_, h0⟩ | ⟨g, cap, cur, e, _⟩⟩ := h
  · omega
  · exact ⟨g, cap, e⟩

theorem grow_blocks {w w4 : World} {ob : Obj} (h : (w.drew.alloc ob).grownBy w4 none) (k : Nat) (hk : k < w.heap.size) : w4.heap[k]? = w.heap[k]? :=
  (h.block k (by have e : (w.drew.alloc ob).heap.size = w.heap.size + 1 := by simp
                 rw [e]; omega) (by simp)).trans (Below.heap_alloc w.drew ob k hk)

theorem Chg.grow {w w4 : World} {ob : Obj} {ex : Nat → Prop} (h : (w.drew.alloc ob).grownBy w4 none) : Chg w w4 ex :=
  ⟨h.os, h.tape, h.output, by have e : (w.drew.alloc ob).heap.size = w.heap.size + 1 := by simp
                              have := h.size
                              omega, fun k hk _ => grow_blocks h k hk⟩

/-- What change leaves. -/
def ChangePost (bn : Nat) (dv : Value) (D Q : List Int) (o : Nat) (w : World) (e : Ending) (w' : World) : Prop :=
  (∃ v, e = .returned v) ∧ (∃ g c n, n = (wrD D Q o).length ∧ w'.cell? ⟨bn, 1, none⟩ = some (.slice (some ⟨g, 0, none⟩) n c) ∧ RowB w' g c (wrD D Q o) ∧ (w.heap.size ≤ g ∨ rowOf dv = some g)) ∧ Chg w w' (fun k => k = bn ∨ rowOf dv = some k)

set_option maxHeartbeats 4000000 in
theorem change_any (bn : Nat) (va : Option Addr) (D Q : List Int) (o gq cq : Nat) (w : World) (hd : DataAt w (.slice va D.length D.length) D) (hq : RowB w gq cq Q) (hne : ∀ g, rowOf (.slice va D.length D.length) = some g → gq ≠ g ∧ g ≠ bn)
    (hqb : gq ≠ bn) (n1 : w.cell? ⟨bn, 1, none⟩ = some (.slice va D.length D.length)) (n3 : w.cell? ⟨bn, 3, none⟩ = some (.slice none 0 0)) (n4 : w.cell? ⟨bn, 4, none⟩ = some (.int .i64 0)) (nF : ∀ j, w.frozen? ⟨bn, j, none⟩ = false)
    (hQ : 0 < Q.length) (hDl : D.length ≤ 65536) (hQl : Q.length ≤ 65536) (ho : o ≤ 65536) :
    Calls Tryd.prog 25 #[.pointer (some ⟨bn, 0, none⟩), .agg #[.int .i64 (o : Int), .slice (some ⟨gq, 0, none⟩) Q.length cq, .bool false]] w (ChangePost bn (.slice va D.length D.length) D Q o w) := by
  obtain ⟨w1, hw1⟩ : ∃ w1, Hid (w1 = w.alloc (Obj.cells #[.int .i64 (o : Int), .slice (some ⟨gq, 0, none⟩) Q.length cq, .bool false] 71)) := ⟨_, rfl⟩
  have hbn : bn < w.heap.size := World.block_lt_of_cell? _ _ n1
  have B1 : Hid (Below w.heap.size w w1) := by rw [hw1.out]; exact (Below.refl _ w).alloc (Nat.le_refl _) _
  have z1 : Hid (w1.heap.size = w.heap.size + 1) := by rw [hw1.out]; simp [Hid]
  have k0 : w1.cell? ⟨w.heap.size, 0, none⟩ = some (.int .i64 (o : Int)) := by rw [hw1.out]; simp
  have k1 : w1.cell? ⟨w.heap.size, 1, none⟩ = some (.slice (some ⟨gq, 0, none⟩) Q.length cq) := by rw [hw1.out]; simp
  have k2 : w1.cell? ⟨w.heap.size, 2, none⟩ = some (.bool false) := by rw [hw1.out]; simp
  have m1 : w1.cell? ⟨bn, 1, none⟩ = some (.slice va D.length D.length) := by rw [B1.out.cell (p := ⟨bn, 1, none⟩) hbn]; exact n1
  have m3 : w1.cell? ⟨bn, 3, none⟩ = some (.slice none 0 0) := by rw [B1.out.cell (p := ⟨bn, 3, none⟩) hbn]; exact n3
  have m4 : w1.cell? ⟨bn, 4, none⟩ = some (.int .i64 0) := by rw [B1.out.cell (p := ⟨bn, 4, none⟩) hbn]; exact n4
  have mF : ∀ j, w1.frozen? ⟨bn, j, none⟩ = false := fun j => by rw [B1.out.frozen (p := ⟨bn, j, none⟩) hbn]; exact nF j
  have HQ1 : Hid (RowB w1 gq cq Q) := hq.later B1.out hq.lt
  have HD1 : Hid (DataAt w1 (.slice va D.length D.length) D) := hd.of_blocks (fun g hg => B1.out.block g (hd.lt hg))
  have HNE : Hid (∀ g, rowOf (.slice va D.length D.length) = some g → gq ≠ g ∧ g ≠ bn) := hne
  have hgq : gq < w.heap.size := hq.lt
  have HDl : Hid (∀ g, rowOf (.slice va D.length D.length) = some g → g < w.heap.size) := fun g hg => hd.lt hg
  clear hd hq hne n1 n3 n4 nF
  go_enter Tryd.func25, Tryd.ntmps25
  go_upto_region 1 with fail
  rw [← hw1.out]
  go_cut [3] (fun v wx => v = .pointer (some ⟨w.heap.size, 0, none⟩) ∧ ∃ g c n w2, n = (wrD D Q o).length ∧ RowB w2 g c (wrD D Q o) ∧ (w1.heap.size ≤ g ∨ rowOf (.slice va D.length D.length) = some g) ∧ w1.grownBy w2 (rowOf (.slice va D.length D.length)) ∧ wx = w2.setCell ⟨bn, 1, none⟩ (.slice (some ⟨g, 0, none⟩) n c))
  case first =>
    have HDd : Hid (DataAt w1.drew (.slice va D.length D.length) D) := HD1.out.of_blocks (fun _ _ => rfl)
    have HQd : Hid (RowB w1.drew gq cq Q) := HQ1.out.of_block rfl
    have hap := apply_any va D Q o gq cq w1.drew HDd.out HQd.out (fun g hg => (HNE.out g hg).1) hQ hDl hQl ho
    have HAP : Hid (Calls Tryd.prog 30 #[.agg #[.int .i64 (o : Int), .slice (some ⟨gq, 0, none⟩) Q.length cq, .bool false], .slice va D.length D.length] w1.drew (ApplyPost (.slice va D.length D.length) D Q o w1.drew)) := hap
    have hbnr : Hid (some bn ≠ rowOf (.slice va D.length D.length)) := fun e => (HNE.out bn e.symm).2 rfl
    have hbn1 : Hid (bn < w1.heap.size) := Nat.lt_of_lt_of_le hbn B1.out.size
    clear hap
    go_region_with (go_at_call 30; refine HAP.out.mono ?_; rintro e w2 ⟨g, c, n, hn, rfl, r2, hg2, g2⟩; have q1 : w2.cell? ⟨bn, 1, none⟩ = some (.slice va D.length D.length) := (World.cell?_of_block (w := w1.drew) (a := ⟨bn, 1, none⟩) (g2.block bn hbn1.out hbnr.out)).trans m1; have qF : w2.frozen? ⟨bn, 1, none⟩ = false := (World.frozen?_of_block (w := w1.drew) (a := ⟨bn, 1, none⟩) (g2.block bn hbn1.out hbnr.out)).trans (mF 1); have HH : Hid (n = (wrD D Q o).length ∧ RowB w2 g c (wrD D Q o) ∧ (w1.heap.size ≤ g ∨ rowOf (.slice va D.length D.length) = some g) ∧ w1.grownBy w2 (rowOf (.slice va D.length D.length))) := ⟨hn, r2, hg2, ⟨g2.os, g2.tape, g2.output, g2.size, g2.block⟩⟩; clear hn r2 hg2 g2)
    all_goals
      go_wp2
      go_meet
      exact ⟨rfl, _, _, _, _, HH.out.1, HH.out.2.1, HH.out.2.2.1, HH.out.2.2.2, rfl⟩
  case rest =>
    obtain ⟨e3, g, c, n, w2, hn, r2, hg2, g2, hw3⟩ := hcut
    subst e3
    have hbnr : some bn ≠ rowOf (.slice va D.length D.length) := fun e => (HNE.out bn e.symm).2 rfl
    have hsr : some w.heap.size ≠ rowOf (.slice va D.length D.length) := fun e => by have := HDl.out _ e.symm; omega
    have hbn1 : bn < w1.heap.size := Nat.lt_of_lt_of_le hbn B1.out.size
    have hs1 : w.heap.size < w1.heap.size := by rw [z1.out]; omega
    have eb := g2.block bn hbn1 hbnr
    have es := g2.block w.heap.size hs1 hsr
    have u1 : w2.cell? ⟨bn, 1, none⟩ = some (.slice va D.length D.length) := (World.cell?_of_block (w := w1) (a := ⟨bn, 1, none⟩) eb).trans m1
    have t1 : wc.cell? ⟨bn, 1, none⟩ = some (.slice (some ⟨g, 0, none⟩) n c) := by rw [hw3]; exact World.cell?_setCell_same _ _ _ u1
    have t3 : wc.cell? ⟨bn, 3, none⟩ = some (.slice none 0 0) := by rw [hw3, World.cell?_setCell_other _ _ _ _ (by simp), World.cell?_of_block (w := w1) (a := ⟨bn, 3, none⟩) eb]; exact m3
    have t4 : wc.cell? ⟨bn, 4, none⟩ = some (.int .i64 0) := by rw [hw3, World.cell?_setCell_other _ _ _ _ (by simp), World.cell?_of_block (w := w1) (a := ⟨bn, 4, none⟩) eb]; exact m4
    have tF : ∀ j, wc.frozen? ⟨bn, j, none⟩ = false := fun j => by rw [hw3, World.frozen?_setCell, World.frozen?_of_block (w := w1) (a := ⟨bn, j, none⟩) eb]; exact mF j
    have hsb : ¬ bn = w.heap.size := by omega
    have j0 : wc.cell? ⟨w.heap.size, 0, none⟩ = some (.int .i64 (o : Int)) := by rw [hw3, World.cell?_setCell_other _ _ _ _ (by simp [hsb]), World.cell?_of_block (w := w1) (a := ⟨w.heap.size, 0, none⟩) es]; exact k0
    have j1 : wc.cell? ⟨w.heap.size, 1, none⟩ = some (.slice (some ⟨gq, 0, none⟩) Q.length cq) := by rw [hw3, World.cell?_setCell_other _ _ _ _ (by simp [hsb]), World.cell?_of_block (w := w1) (a := ⟨w.heap.size, 1, none⟩) es]; exact k1
    have j2 : wc.cell? ⟨w.heap.size, 2, none⟩ = some (.bool false) := by rw [hw3, World.cell?_setCell_other _ _ _ _ (by simp [hsb]), World.cell?_of_block (w := w1) (a := ⟨w.heap.size, 2, none⟩) es]; exact k2
    have hgb : g ≠ bn := by
      rcases hg2 with h | h
      · omega
      · exact (HNE.out g h).2
    have R3 : Hid (RowB wc g c (wrD D Q o)) := by rw [hw3]; exact r2.of_block (Below.heap_setCell _ _ _ _ hgb)
    have C3 : Hid (Chg w wc (fun k => k = bn ∨ rowOf (.slice va D.length D.length) = some k)) := by
      rw [hw3]
      exact ((Chg.below B1.out).trans (Chg.grown g2 (fun k e => Or.inr e))).trans (Chg.set _ _ (Or.inl rfl))
    have HN : Hid (n = (wrD D Q o).length) := hn
    have HG : Hid (w.heap.size ≤ g ∨ rowOf (.slice va D.length D.length) = some g) := by
      rcases hg2 with h | h
      · exact Or.inl (by rw [z1.out] at h; omega)
      · exact Or.inr h
    have hbn3 : Hid (bn < wc.heap.size) := Nat.lt_of_lt_of_le hbn C3.out.size
    have hs3 : Hid (w.heap.size < wc.heap.size) := World.block_lt_of_cell? _ _ j0
    have hg3 : Hid (g < wc.heap.size) := R3.out.lt
    obtain ⟨w3, ew3⟩ : ∃ w3, w3 = wc := ⟨_, rfl⟩
    subst ew3
    clear hw3 hn hg2 g2 eb es u1 r2 hbnr hsr hbn1 hs1 k0 k1 k2 m1 m3 m4 mF HQ1 HD1 B1 z1 hw1
    go_upto_region 2 with fail
    go_cut [3] (fun v wx => v = .pointer (some ⟨w.heap.size, 0, none⟩) ∧ wx.cell? ⟨bn, 1, none⟩ = some (.slice (some ⟨g, 0, none⟩) n c) ∧ wx.cell? ⟨bn, 4, none⟩ = some (.int .i64 0) ∧ wx.frozen? ⟨bn, 4, none⟩ = false ∧ wx.cell? ⟨w.heap.size, 1, none⟩ = some (.slice (some ⟨gq, 0, none⟩) Q.length cq) ∧ RowB wx g c (wrD D Q o) ∧ Chg w wx (fun k => k = bn ∨ rowOf (.slice va D.length D.length) = some k))
    case first =>
      obtain ⟨i0, hi, hz0, hz1, hz2⟩ := info_parts Tryd.info71
      have hb3 : bn < w3.heap.size := hbn3.out
      have hs3' : w.heap.size < w3.heap.size := hs3.out
      have hb3n : ¬ bn = w3.heap.size := by omega
      have hs3n : ¬ w.heap.size = w3.heap.size := by omega
      go_region_law (refine step_append_grows rfl (.tmp 17) (.tmp 19) 59 rfl 71 i0 _ 3 40 Tryd.underlying59 hi hz0 hz1 hz2 rfl (by decide) none 0 0 [] (by simp [Act.eval, Act.put]) (by simp) rfl (by simp) ⟨w3.heap.size, 0, none⟩ 1 1 [.int .i64 (o : Int), .slice (some ⟨gq, 0, none⟩) Q.length cq, .bool false] (by simp [Act.eval, Act.put]) rfl (fun j u hj => by rcases j with _ | _ | _ | j <;> simp at hj <;> subst hj <;> simp [Addr.add]) (by simp [Value.oneCell']) (by omega) (by unfold maxLen; omega) (by omega) ?_; intro v' w4 hown hgrow; obtain ⟨gp, cp, rfl⟩ := own_some hown (by omega); have eb := grow_blocks hgrow bn hbn3.out; have q3 : w4.cell? ⟨bn, 3, none⟩ = some (.slice none 0 0) := (World.cell?_of_block (w := w3) (a := ⟨bn, 3, none⟩) eb).trans t3; have qF : w4.frozen? ⟨bn, 3, none⟩ = false := (World.frozen?_of_block (w := w3) (a := ⟨bn, 3, none⟩) eb).trans (tF 3); have HW : Hid (∀ k, k < w3.heap.size → w4.heap[k]? = w3.heap[k]?) := grow_blocks hgrow; have CW : Hid (Chg w3 w4 (fun k => k = bn ∨ rowOf (.slice va D.length D.length) = some k)) := Chg.grow hgrow; clear hown hgrow eb)
      all_goals
        go_wp2
        go_meet
        have eb := HW.out bn hbn3.out
        have es := HW.out w.heap.size hs3.out
        refine ⟨rfl, ?_, ?_, ?_, ?_, ?_, ?_⟩
        · rw [World.cell?_setCell_other _ _ _ _ (by simp), World.cell?_of_block (w := w3) (a := ⟨bn, 1, none⟩) eb]; exact t1
        · rw [World.cell?_setCell_other _ _ _ _ (by simp), World.cell?_of_block (w := w3) (a := ⟨bn, 4, none⟩) eb]; exact t4
        · rw [World.frozen?_setCell, World.frozen?_of_block (w := w3) (a := ⟨bn, 4, none⟩) eb]; exact tF 4
        · rw [World.cell?_setCell_other _ _ _ _ (by simp), World.cell?_of_block (w := w3) (a := ⟨w.heap.size, 1, none⟩) es]; exact j1
        · refine (R3.out.of_block (w' := _) ?_)
          rw [Below.heap_setCell _ _ _ _ hgb]; exact HW.out g hg3.out
        · exact (C3.out.trans CW.out).trans (Chg.set _ _ (Or.inl rfl))
    case rest =>
      obtain ⟨e3, s1, s4, sF, sb, r4, c4⟩ := hcut
      subst e3
      have R4 : Hid (RowB wc g c (wrD D Q o)) := r4
      have C4 : Hid (Chg w wc (fun k => k = bn ∨ rowOf (.slice va D.length D.length) = some k)) := c4
      have S1 : Hid (wc.cell? ⟨bn, 1, none⟩ = some (.slice (some ⟨g, 0, none⟩) n c)) := s1
      clear s1 r4 c4 R3 C3 j0 j1 j2 t1 t3 t4 tF hbn3 hs3 hg3
      go_wp2_with fail
      go_region
      all_goals
        go_wp2
        refine bodyPost_ret (results_none rfl _ _ _) rfl ?_
        refine ⟨⟨_, rfl⟩, ⟨g, c, n, HN.out, ?_, ?_, HG.out⟩, ?_⟩
        · exact (World.cell?_setCell_other _ _ _ _ (by simp)).trans S1.out
        · exact R4.out.of_block (Below.heap_setCell _ _ _ _ hgb)
        · exact C4.out.trans ((Chg.refl _ _).drew.trans (Chg.set _ _ (Or.inl rfl)))

end Go.Proofs.Qxb6616577aDoor

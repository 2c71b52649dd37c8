import Derived.Test.Qxb6616577aDoorWr2
/-! WriteAt (19), ZZwriteAt (14). -/
namespace Go.Proofs.Qxb6616577aDoor
open Go.RowKit Go.MuLone
set_option linter.unusedVariables false
set_option linter.unusedSimpArgs false
set_option maxRecDepth 8000

/-- What a write leaves, nothing written too. -/
def wrQ (D Q : List Int) (o : Nat) : List Int := if Q = [] then D else wrD D Q o

/-- A call of a Go function in a region that draws. -/
theorem step_call {ops : Array Oper} {o : Oper} {a : Act} {w : World} {K : Act → World → Prop} {Q : Exit → Act → World → Prop} {E : Prop} (hgd : o.guard = none) (F : FuncId) (args : Array Value)
    (hrun : (execOp a.eval o).run Tryd.prog w = .ok (.enter F args) w) (Post : Ending → World → Prop) (hc : Calls Tryd.prog F args w Post) (h : ∀ e w', Post e w' → ∃ v, e = .returned v ∧ K (a.put o.dst v) w') :
    if Region.wanted o (yielded ops a.tmps) = true then Oper.wp Tryd.prog o a w K Q else E := by
  have hw : Region.wanted o (yielded ops a.tmps) = true := by simp [Region.wanted, hgd]
  rw [if_pos hw]
  unfold Oper.wp
  rw [hrun, Oper.upon_enter]
  refine hc.mono (fun e w' hp => ?_)
  obtain ⟨v, rfl, hk⟩ := h e w' hp
  exact hk

/-- Lock, a change elsewhere, unlock. -/
theorem lock_chg (w w2 : World) (bm : Nat) (ex : Nat → Prop) (hc : w.cell? ⟨bm, 0, none⟩ = some (.int .i32 0)) (hf : w.frozen? ⟨bm, 0, none⟩ = false) (hg : Chg (w.setCell ⟨bm, 0, none⟩ (.int .i32 1)) w2 ex) (hne : ¬ ex bm) :
    Chg w (w2.setCell ⟨bm, 0, none⟩ (.int .i32 0)) ex ∧ (w2.setCell ⟨bm, 0, none⟩ (.int .i32 0)).heap[bm]? = w.heap[bm]? ∧ w2.cell? ⟨bm, 0, none⟩ = some (.int .i32 1) ∧ w2.frozen? ⟨bm, 0, none⟩ = false := by
  have hlt : bm < w.heap.size := World.block_lt_of_cell? _ _ hc
  have e := hg.block bm (by rw [size_setCell]; exact hlt) hne
  have eb : (w2.setCell ⟨bm, 0, none⟩ (.int .i32 0)).heap[bm]? = w.heap[bm]? := turn_back w w2 ⟨bm, 0, none⟩ (.int .i32 0) (.int .i32 1) hc e
  refine ⟨⟨hg.os, hg.tape, hg.output, by rw [size_setCell]; have := hg.size; rw [size_setCell] at this; exact this, fun k hk hkr => ?_⟩, eb, ?_, ?_⟩
  · by_cases e1 : k = bm
    · rw [e1]; exact eb
    · rw [Below.heap_setCell _ _ _ _ e1, hg.block k (by rw [size_setCell]; exact hk) hkr, Below.heap_setCell _ _ _ _ e1]
  · rw [World.cell?_of_block (w := w.setCell ⟨bm, 0, none⟩ (.int .i32 1)) (a := ⟨bm, 0, none⟩) e]
    exact World.cell?_setCell_same _ _ _ hc
  · rw [World.frozen?_of_block (w := w.setCell ⟨bm, 0, none⟩ (.int .i32 1)) (a := ⟨bm, 0, none⟩) e]
    simp [hf]

/-- How WriteAt ends where it writes. -/
def WritePost (bm bn bf : Nat) (name : ByteArray) (dv : Value) (D Q : List Int) (o : Nat) (w : World) (e : Ending) (w' : World) : Prop :=
  e = .returned (.tuple #[.int .i64 (Q.length : Int), .nilIface]) ∧ (∃ va c, FileR w' bm bn bf name true true false (.slice va (wrQ D Q o).length c) ∧ DataAt w' (.slice va (wrQ D Q o).length c) (wrQ D Q o) ∧
    (∀ g, rowOf (.slice va (wrQ D Q o).length c) = some g → w.heap.size ≤ g ∨ rowOf dv = some g)) ∧ Chg w w' (fun k => k = bn ∨ rowOf dv = some k)

/-- .. and where it's refused. -/
def RefusePost (w : World) (e : Ending) (w' : World) : Prop := (∃ t a, e = .returned (.tuple #[.int .i64 0, .iface t (.pointer (some a))])) ∧ w.grownBy w' none

set_option maxHeartbeats 2000000 in
theorem write_neg (bm bn bf : Nat) (name : ByteArray) (dv : Value) (pv : Value) (off : Int) (w : World) (hG : Globs w) (hf : FileAt w bm bn bf name true true false dv) (n5 : 4 ≤ bm) (ho : off < 0) (pa : Option Addr) (pn pc : Nat) (hpv : pv = .slice pa pn pc) :
    Calls Tryd.prog 19 #[.pointer (some ⟨bf, 0, none⟩), pv, .int .i64 off] w (RefusePost w) := by
  subst hpv
  have c0 := hf.lock
  have f0 := hf.lockF
  have k0 := hf.fm
  have k4 := hf.fw
  have nmf := hf.mf
  have hGB : Hid (Globs (w.setCell ⟨bm, 0, none⟩ (.int .i32 1))) := hG.of_blocks (fun k hk => Below.heap_setCell _ _ _ _ (by show k ≠ bm; omega))
  have fn1 : Hid ((w.setCell ⟨bm, 0, none⟩ (.int .i32 1)).cell? ⟨bf, 1, none⟩ = some (.string name)) := (World.cell?_setCell_other w ⟨bm, 0, none⟩ ⟨bf, 1, none⟩ _ (by simp [nmf])).trans hf.fname
  have fc1 : Hid ((w.setCell ⟨bm, 0, none⟩ (.int .i32 1)).cell? ⟨bf, 5, none⟩ = some (.bool false)) := (World.cell?_setCell_other w ⟨bm, 0, none⟩ ⟨bf, 5, none⟩ _ (by simp [nmf])).trans hf.fc
  have HC : Hid (w.cell? ⟨bm, 0, none⟩ = some (.int .i32 0)) := c0
  clear hG hf
  go_enter_defers Tryd.func19, Tryd.ntmps19
  go_wp2_with (go_at_call 22; refine (lock_free Tryd.muLib ⟨bm, 0, none⟩ _ c0 f0).mono ?_; rintro e w' ⟨rfl, rfl⟩)
  refine (check_any _ true off bm bn bf name true true false .nilIface _ hGB.out fn1.out fc1.out).mono ?_
  rintro e w2 (⟨hok, rfl, rfl⟩ | ⟨hok, ⟨p, rfl⟩, hb⟩)
  · exfalso
    simp [okC] at hok
    omega
  · have HB : Hid ((w.setCell ⟨bm, 0, none⟩ (.int .i32 1)).grownBy w2 none) := grown_of_below hb _
    have hl := lock_in w w2 bm _ c0 f0 HB.out (by simp)
    clear hb hok
    go_wp2
    refine leaves_cons (f := 23) (args := #[.pointer (some ⟨bm, 0, none⟩)]) (by simp) (by simp [go_sem]) ?_
    refine (unlock_deferred Tryd.muLib ⟨bm, 0, none⟩ .returning _ hl.1 hl.2).mono ?_
    rintro e u' w'' ⟨rfl, rfl, rfl⟩
    refine ⟨_, results_tmp2 rfl _ _ _, ?_⟩
    exact ⟨⟨72, p, rfl⟩, lock_round w w2 bm _ HC.out HB.out (by simp)⟩

theorem setLock_block (w : World) (bm k : Nat) (v : Value) (h : k ≠ bm) : (w.setCell ⟨bm, 0, none⟩ v).heap[k]? = w.heap[k]? := Below.heap_setCell _ _ _ _ h

/-- The file behind the unlock. -/
theorem FileAt.turned {w w' : World} {bm bn bf : Nat} {name : ByteArray} {dv dv' : Value} (h : FileAt w bm bn bf name true true false dv) (e1 : w'.heap[bm]? = w.heap[bm]?) (e3 : w'.heap[bf]? = w.heap[bf]?) (hd : w'.cell? ⟨bn, 1, none⟩ = some dv') :
    FileR w' bm bn bf name true true false dv' := by
  refine ⟨?_, ?_, ?_, ?_, ?_, ?_, ?_, ?_, ?_, hd, h.mn, h.mf, h.nf⟩
  · rw [World.cell?_of_block (w := w) e1]; exact h.lock
  · rw [World.frozen?_of_block (w := w) e1]; exact h.lockF
  · rw [World.cell?_of_block (w := w) e1]; exact h.werr
  · rw [World.cell?_of_block (w := w) e3]; exact h.fm
  · rw [World.cell?_of_block (w := w) e3]; exact h.fname
  · rw [World.cell?_of_block (w := w) e3]; exact h.fnode
  · rw [World.cell?_of_block (w := w) e3]; exact h.fr
  · rw [World.cell?_of_block (w := w) e3]; exact h.fw
  · rw [World.cell?_of_block (w := w) e3]; exact h.fc

theorem wp_calm {P : Program} {s : Code} {K : Act → World → Prop} {Q' : Exit → Act → World → Prop} {a : Act} {w : World} (h : s.wp P (Exit.then K (fun _ _ _ => False)) a w) : s.wp P (Exit.then K Q') a w :=
  Code.wp_mono (fun e a w hq => by cases e with
    | normal => exact hq
    | _ => exact False.elim hq) h

theorem own_row {w : World} {base : Nat} {v : Value} {Q : List Int} (h : w.ownsRow base 5 1 v (0 + Q.length) ([] ++ Q.map (Value.int .u8))) (hQ : 0 < Q.length) : ∃ g cap, v = .slice (some ⟨g, 0, none⟩) Q.length cap ∧ base ≤ g ∧ RowB w g cap Q := by
  rw [Nat.zero_add, List.nil_append] at h
  refine RowB.of_owns h (fun e => ?_)
  obtain ⟨_, ⟨_, h0⟩ | ⟨g, cap, cur, e2, _⟩⟩ := h
  · omega
  · rw [e] at e2; cases e2

set_option maxHeartbeats 4000000 in
theorem write_pos (bm bn bf : Nat) (name : ByteArray) (va : Option Addr) (D : List Int) (pa : Option Addr) (cp : Nat) (Q : List Int) (o : Nat) (w : World) (hG : Globs w) (hf : FileAt w bm bn bf name true true false (.slice va D.length D.length))
    (hd : DataAt w (.slice va D.length D.length) D) (hp : DataAt w (.slice pa Q.length cp) Q) (n5 : 4 ≤ bm) (n1 : ∀ a, pa = some a → a.block ≠ bm) (n2 : ∀ g, rowOf (.slice va D.length D.length) = some g → g ≠ bm ∧ g ≠ bn ∧ g ≠ bf)
    (hDl : D.length ≤ 65536) (hQl : Q.length ≤ 65536) (ho : o ≤ 65536) :
    Calls Tryd.prog 19 #[.pointer (some ⟨bf, 0, none⟩), .slice pa Q.length cp, .int .i64 (o : Int)] w (WritePost bm bn bf name (.slice va D.length D.length) D Q o w) := by
  have c0 := hf.lock
  have f0 := hf.lockF
  have k0 := hf.fm
  have k2 := hf.fnode
  have k4 := hf.fw
  have k5 := hf.werr
  have nmf := hf.mf
  have nmn := hf.mn
  have nnf := hf.nf
  have HF : Hid (FileAt w bm bn bf name true true false (.slice va D.length D.length)) := hf
  have hGB : Hid (Globs (w.setCell ⟨bm, 0, none⟩ (.int .i32 1))) := hG.of_blocks (fun k hk => Below.heap_setCell _ _ _ _ (by show k ≠ bm; omega))
  have fn1 : Hid ((w.setCell ⟨bm, 0, none⟩ (.int .i32 1)).cell? ⟨bf, 1, none⟩ = some (.string name)) := (World.cell?_setCell_other w ⟨bm, 0, none⟩ ⟨bf, 1, none⟩ _ (by simp [nmf])).trans hf.fname
  have fc1 : Hid ((w.setCell ⟨bm, 0, none⟩ (.int .i32 1)).cell? ⟨bf, 5, none⟩ = some (.bool false)) := (World.cell?_setCell_other w ⟨bm, 0, none⟩ ⟨bf, 5, none⟩ _ (by simp [nmf])).trans hf.fc
  have HC : Hid (w.cell? ⟨bm, 0, none⟩ = some (.int .i32 0)) := c0
  have HZ : Hid (w.frozen? ⟨bm, 0, none⟩ = false) := f0
  have HD : Hid (DataAt w (.slice va D.length D.length) D) := hd
  have HP : Hid (DataAt w (.slice pa Q.length cp) Q) := hp
  have HN2 : Hid (∀ g, rowOf (.slice va D.length D.length) = some g → g ≠ bm ∧ g ≠ bn ∧ g ≠ bf) := n2
  have HN1 : Hid (∀ a, pa = some a → a.block ≠ bm) := n1
  have hlts := hf.lt
  have lq : Q.length ≤ cp := by
    obtain ⟨_, _, e, h⟩ := hp.len
    simp at e
    omega
  clear hG hf hd hp n2 n1
  go_enter_defers Tryd.func19, Tryd.ntmps19
  go_wp2_with (go_at_call 22; refine (lock_free Tryd.muLib ⟨bm, 0, none⟩ _ c0 f0).mono ?_; rintro e w' ⟨rfl, rfl⟩)
  refine (check_any _ true (o : Int) bm bn bf name true true false .nilIface _ hGB.out fn1.out fc1.out).mono ?_
  rintro e w2 (⟨hok, rfl, rfl⟩ | ⟨hok, ⟨p, rfl⟩, hb⟩)
  · clear hok
    go_wp2_with fail
    go_quiet (fail)
    obtain ⟨w2, hw2⟩ : ∃ w2, Hid (w2 = (w.setCell ⟨bm, 0, none⟩ (.int .i32 1)).drewN nq) := ⟨_, rfl⟩
    have C2 : Hid (Chg (w.setCell ⟨bm, 0, none⟩ (.int .i32 1)) w2 (fun k => k = bn ∨ rowOf (.slice va D.length D.length) = some k)) := by
      rw [hw2.out]; exact ⟨rfl, rfl, rfl, Nat.le_refl _, fun _ _ _ => rfl⟩
    have E2 : Hid (∀ k, k ≠ bm → w2.heap[k]? = w.heap[k]?) := by
      rw [hw2.out]; exact fun k hk => setLock_block w bm k _ hk
    have S2 : Hid (w2.heap.size = w.heap.size) := by rw [hw2.out, Hid]; show (w.setCell ⟨bm, 0, none⟩ (.int .i32 1)).heap.size = _; rw [size_setCell]
    rw [← hw2.out]
    clear hw2
    by_cases hQ : 0 < Q.length
    · have hQI : decide ((0 : Int) < (Q.length : Int)) = true := by simp; omega
      obtain ⟨gp, rfl, HRP⟩ : ∃ gp, pa = some ⟨gp, 0, none⟩ ∧ Hid (RowB w gp cp Q) := by
        obtain ⟨_, rfl⟩ | ⟨gp, cp', e, hr⟩ := HP.out
        · simp at hQ
        · simp at e
          obtain ⟨rfl, rfl⟩ := e
          exact ⟨gp, rfl, hr⟩
      have hgpm : gp ≠ bm := HN1.out _ rfl
      have HRP2 : Hid (RowB w2 gp cp Q) := HRP.out.of_block (E2.out gp hgpm)
      have p0 : w2.cell? ⟨bf, 0, none⟩ = some (.pointer (some ⟨bm, 0, none⟩)) := (World.cell?_of_block (w := w) (a := ⟨bf, 0, none⟩) (E2.out bf (Ne.symm nmf))).trans k0
      have p2 : w2.cell? ⟨bf, 2, none⟩ = some (.pointer (some ⟨bn, 0, none⟩)) := (World.cell?_of_block (w := w) (a := ⟨bf, 2, none⟩) (E2.out bf (Ne.symm nmf))).trans k2
      have hle : (Q.length : Int) ≤ (cp : Int) := by omega
      have hqI : (0 : Int) ≤ (Q.length : Int) := by omega
      have hbm2 : Hid (bm < w2.heap.size ∧ bn < w2.heap.size ∧ bf < w2.heap.size) := by rw [S2.out]; exact hlts
      have HD2 : Hid (DataAt w2 (.slice va D.length D.length) D) := HD.out.of_blocks (fun g hg => E2.out g (HN2.out g hg).1)
      obtain ⟨i0, hi, hz0, hz1, hz2⟩ := info_parts Tryd.info5
      go_wp2_with fail
      refine wp_calm ?_
      go_region_law (first
        | (refine step_append_grows rfl (.const (.slice none 0 0)) (.tmp 69) 23 rfl 5 i0 (.int .u8 0) 1 1 Tryd.underlying23 hi hz0 hz1 hz2 rfl (by decide) none 0 0 [] rfl (by simp) rfl (by simp) ⟨gp, 0, none⟩ Q.length cp (Q.map (Value.int .u8)) (by simp [Act.eval, Act.put]) (by simp) (fun j u hj => by rw [List.getElem?_map] at hj; obtain ⟨z, hz, rfl⟩ := Option.map_eq_some_iff.1 hj; exact HRP2.out.src j z hz) (fun u hu => by obtain ⟨z, _, rfl⟩ := List.mem_map.1 hu; rfl) (by omega) (by unfold maxLen; omega) (by omega) ?_
           intro v' w3 hown hgrow
           obtain ⟨gq, cq, rfl, hgq, hrq⟩ := own_row hown hQ
           have HW : Hid (∀ k, k < w2.heap.size → w3.heap[k]? = w2.heap[k]?) := fun k hk => hgrow.block k hk (by simp)
           have q2 : w3.cell? ⟨bf, 2, none⟩ = some (.pointer (some ⟨bn, 0, none⟩)) := (World.cell?_of_block (w := w2) (a := ⟨bf, 2, none⟩) (HW.out bf hbm2.out.2.2)).trans p2
           have CW : Hid (Chg w2 w3 (fun k => k = bn ∨ rowOf (.slice va D.length D.length) = some k)) := ⟨hgrow.os, hgrow.tape, hgrow.output, hgrow.size, fun k hk _ => HW.out k hk⟩
           have eb : w3.heap[bn]? = w.heap[bn]? := (HW.out bn hbm2.out.2.1).trans (E2.out bn (Ne.symm nmn))
           have HCH : Hid (Calls Tryd.prog 25 #[.pointer (some ⟨bn, 0, none⟩), .agg #[.int .i64 (o : Int), .slice (some ⟨gq, 0, none⟩) Q.length cq, .bool false]] w3 (ChangePost bn (.slice va D.length D.length) D Q o w3)) :=
             change_any bn va D Q o gq cq w3 (HD2.out.of_blocks (fun g hg => HW.out g (HD2.out.lt hg))) hrq (fun g hg => ⟨fun e => by have h1 := HD2.out.lt hg; have h2 : w2.heap.size ≤ gq := hgq; omega, (HN2.out g hg).2.1⟩) (fun e => by have h1 := hbm2.out.2.1; have h2 : w2.heap.size ≤ gq := hgq; omega)
               ((World.cell?_of_block (w := w) (a := ⟨bn, 1, none⟩) eb).trans HF.out.nd) ((World.cell?_of_block (w := w) (a := ⟨bn, 3, none⟩) eb).trans HF.out.np) ((World.cell?_of_block (w := w) (a := ⟨bn, 4, none⟩) eb).trans HF.out.nu) (fun j => (World.frozen?_of_block (w := w) (a := ⟨bn, j, none⟩) eb).trans (HF.out.nF j)) hQ hDl hQl ho
           clear hown hgrow hrq eb hgq)
        | (refine step_call rfl 25 #[.pointer (some ⟨bn, 0, none⟩), .agg #[.int .i64 (o : Int), .slice (some ⟨gq, 0, none⟩) Q.length cq, .bool false]] (by simp [execOp, resolve, invoke, Act.eval, Act.put, go_sem]) _ HCH.out ?_
           rintro e w4 ⟨⟨v, rfl⟩, hnode, hchg⟩
           refine ⟨v, rfl, ?_⟩
           have H4 : Hid (Chg (w.setCell ⟨bm, 0, none⟩ (.int .i32 1)) w4 (fun k => k = bn ∨ rowOf (.slice va D.length D.length) = some k)) := (C2.out.trans CW.out).trans hchg
           have N4 : Hid (∃ g c n, n = (wrD D Q o).length ∧ w4.cell? ⟨bn, 1, none⟩ = some (.slice (some ⟨g, 0, none⟩) n c) ∧ RowB w4 g c (wrD D Q o) ∧ (w.heap.size ≤ g ∨ rowOf (.slice va D.length D.length) = some g)) := by
             obtain ⟨g, c, n, a1, a2, a3, a4⟩ := hnode
             refine ⟨g, c, n, a1, a2, a3, ?_⟩
             rcases a4 with h | h
             · left
               have := CW.out.size
               have h2 := S2.out
               omega
             · exact Or.inr h
           clear hnode hchg))
      all_goals
        go_wp2
        have hl := lock_chg w w4 bm _ c0 f0 H4.out (fun h => by rcases h with h | h; exact nmn h; exact (HN2.out _ h).1 rfl)
        refine leaves_cons (f := 23) (args := #[.pointer (some ⟨bm, 0, none⟩)]) (by simp) (by simp [go_sem]) ?_
        refine (unlock_deferred Tryd.muLib ⟨bm, 0, none⟩ .returning _ hl.2.2.1 hl.2.2.2).mono ?_
        rintro e u' w'' ⟨rfl, rfl, rfl⟩
        refine ⟨_, results_tmp2 rfl _ _ _, rfl, ?_, hl.1⟩
        obtain ⟨g, c, n, hn, hcell, hrow, hgg⟩ := N4.out
        have hbq : wrQ D Q o = wrD D Q o := if_neg (fun e => by rw [e] at hQ; simp at hQ)
        have hgm : g ≠ bm := by
          rcases hgg with h | h
          · omega
          · exact (HN2.out g h).1
        refine ⟨some ⟨g, 0, none⟩, c, HF.out.turned hl.2.1 (hl.1.block bf hlts.2.2 (fun h => by rcases h with h | h; exact nnf h.symm; exact (HN2.out _ h).2.2 rfl)) ?_, Or.inr ⟨g, c, rfl, ?_⟩, fun g' hg' => ?_⟩
        · rw [hbq, ← hn, World.cell?_setCell_other _ _ _ _ (by simp [nmn])]; exact hcell
        · rw [hbq]; exact hrow.of_block (Below.heap_setCell _ _ _ _ hgm)
        · simp [rowOf] at hg'; subst hg'; exact hgg
    · obtain rfl : Q = [] := List.eq_nil_of_length_eq_zero (by omega)
      go_wp2
      have hl := lock_chg w w2 bm _ c0 f0 C2.out (fun h => by rcases h with h | h; exact nmn h; exact (HN2.out _ h).1 rfl)
      refine leaves_cons (f := 23) (args := #[.pointer (some ⟨bm, 0, none⟩)]) (by simp) (by simp [go_sem]) ?_
      refine (unlock_deferred Tryd.muLib ⟨bm, 0, none⟩ .returning _ hl.2.2.1 hl.2.2.2).mono ?_
      rintro e u' w'' ⟨rfl, rfl, rfl⟩
      refine ⟨_, results_tmp2 rfl _ _ _, rfl, ?_, hl.1⟩
      have hbq : wrQ D [] o = D := if_pos rfl
      rw [hbq]
      have eb : (w2.setCell ⟨bm, 0, none⟩ (.int .i32 0)).heap[bn]? = w.heap[bn]? := by rw [setLock_block _ _ _ _ (Ne.symm nmn)]; exact E2.out bn (Ne.symm nmn)
      refine ⟨va, D.length, HF.out.turned hl.2.1 (hl.1.block bf hlts.2.2 (fun h => by rcases h with h | h; exact nnf h.symm; exact (HN2.out _ h).2.2 rfl)) ?_, ?_, fun g' hg' => Or.inr hg'⟩
      · rw [World.cell?_of_block (w := w) (a := ⟨bn, 1, none⟩) eb]; exact HF.out.nd
      · exact HD.out.of_blocks (fun g hg => by rw [setLock_block _ _ _ _ (HN2.out g hg).1]; exact E2.out g (HN2.out g hg).1)
  · exfalso
    simp [okC] at hok

/-- ZZwriteAt. -/
theorem zzwrite_neg (bm bn bf : Nat) (name : ByteArray) (dv : Value) (off : Int) (w : World) (hG : Globs w) (hf : FileAt w bm bn bf name true true false dv) (n5 : 4 ≤ bm) (ho : off < 0) (pa : Option Addr) (pn pc : Nat) :
    Calls Tryd.prog 14 #[.pointer (some ⟨bf, 0, none⟩), .slice pa pn pc, .int .i64 off] w (RefusePost w) := by
  have h := write_neg bm bn bf name dv (.slice pa pn pc) off w hG hf n5 ho pa pn pc rfl
  clear hG hf n5
  go_enter Tryd.func14, Tryd.ntmps14
  go_wp2_with fail
  refine h.mono ?_
  rintro e w' ⟨⟨t, a, rfl⟩, hg⟩
  have HG : Hid (w.grownBy w' none) := hg
  clear hg
  go_wp2
  go_ret2
  exact ⟨⟨t, a, rfl⟩, HG.out⟩

theorem zzwrite_pos (bm bn bf : Nat) (name : ByteArray) (va : Option Addr) (D : List Int) (pa : Option Addr) (cp : Nat) (Q : List Int) (o : Nat) (w : World) (hG : Globs w) (hf : FileAt w bm bn bf name true true false (.slice va D.length D.length))
    (hd : DataAt w (.slice va D.length D.length) D) (hp : DataAt w (.slice pa Q.length cp) Q) (n5 : 4 ≤ bm) (n1 : ∀ a, pa = some a → a.block ≠ bm) (n2 : ∀ g, rowOf (.slice va D.length D.length) = some g → g ≠ bm ∧ g ≠ bn ∧ g ≠ bf)
    (hDl : D.length ≤ 65536) (hQl : Q.length ≤ 65536) (ho : o ≤ 65536) :
    Calls Tryd.prog 14 #[.pointer (some ⟨bf, 0, none⟩), .slice pa Q.length cp, .int .i64 (o : Int)] w (WritePost bm bn bf name (.slice va D.length D.length) D Q o w) := by
  have h := write_pos bm bn bf name va D pa cp Q o w hG hf hd hp n5 n1 n2 hDl hQl ho
  clear hG hf hd hp n5 n1 n2
  go_enter Tryd.func14, Tryd.ntmps14
  go_wp2_with fail
  refine h.mono ?_
  rintro e w' ⟨rfl, h1, h2⟩
  have HP : Hid (WritePost bm bn bf name (.slice va D.length D.length) D Q o w (.returned (.tuple #[.int .i64 (Q.length : Int), .nilIface])) w') := ⟨rfl, h1, h2⟩
  clear h1 h2
  go_wp2
  go_ret2
  exact HP.out

end Go.Proofs.Qxb6616577aDoor

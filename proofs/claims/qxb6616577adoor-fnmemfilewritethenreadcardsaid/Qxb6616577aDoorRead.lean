import Derived.Test.Qxb6616577aDoorFile
/-! ReadAt (18), ZZreadAt (12). -/
namespace Go.Proofs.Qxb6616577aDoor
open Go.RowKit Go.MuLone
set_option linter.unusedVariables false
set_option linter.unusedSimpArgs false

theorem grown_refl (w : World) (row : Option Nat) : w.grownBy w row := ⟨rfl, rfl, rfl, Nat.le_refl _, fun _ _ _ => rfl⟩
theorem grown_drewN {w w1 : World} {row : Option Nat} (h : w.grownBy w1 row) (n : Nat) : w.grownBy (w1.drewN n) row := ⟨h.os, h.tape, h.output, h.size, h.block⟩
theorem grown_of_below {w w1 : World} (h : Below w.heap.size w w1) (row : Option Nat) : w.grownBy w1 row := ⟨h.os, h.tape, h.output, h.size, fun k hk _ => h.block k hk⟩
theorem grown_but {w w1 : World} (h : w.grownBy w1 none) (row : Option Nat) : w.grownBy w1 row := ⟨h.os, h.tape, h.output, h.size, fun k hk _ => h.block k hk (by simp)⟩
theorem grown_trans {w w1 w2 : World} {row : Option Nat} (h : w.grownBy w1 row) (h2 : w1.grownBy w2 row) : w.grownBy w2 row :=
  ⟨h2.os.trans h.os, h2.tape.trans h.tape, h2.output.trans h.output, Nat.le_trans h.size h2.size, fun k hk hne => (h2.block k (Nat.lt_of_lt_of_le hk h.size) hne).trans (h.block k hk hne)⟩

theorem size_setCell (w : World) (a : Addr) (v : Value) : (w.setCell a v).heap.size = w.heap.size := by simp [World.setCell]

/-- Lock, work elsewhere, unlock. -/
theorem lock_round (w w2 : World) (bm : Nat) (row : Option Nat) (hc : w.cell? ⟨bm, 0, none⟩ = some (.int .i32 0)) (hg : (w.setCell ⟨bm, 0, none⟩ (.int .i32 1)).grownBy w2 row) (hne : some bm ≠ row) :
    w.grownBy (w2.setCell ⟨bm, 0, none⟩ (.int .i32 0)) row := by
  have hlt := World.block_lt_of_cell? _ _ hc
  refine ⟨hg.os, hg.tape, hg.output, by rw [size_setCell]; have := hg.size; rw [size_setCell] at this; exact this, fun k hk hkr => ?_⟩
  by_cases e : k = bm
  · subst e
    exact turn_back w w2 ⟨k, 0, none⟩ (.int .i32 0) (.int .i32 1) hc (hg.block k (by rw [size_setCell]; exact hk) hne)
  · rw [Below.heap_setCell _ _ _ _ e, hg.block k (by rw [size_setCell]; exact hk) hkr, Below.heap_setCell _ _ _ _ e]

/-- The lock's cell, inside. -/
theorem lock_in (w w2 : World) (bm : Nat) (row : Option Nat) (hc : w.cell? ⟨bm, 0, none⟩ = some (.int .i32 0)) (hf : w.frozen? ⟨bm, 0, none⟩ = false) (hg : (w.setCell ⟨bm, 0, none⟩ (.int .i32 1)).grownBy w2 row) (hne : some bm ≠ row) :
    w2.cell? ⟨bm, 0, none⟩ = some (.int .i32 1) ∧ w2.frozen? ⟨bm, 0, none⟩ = false := by
  have hlt := World.block_lt_of_cell? _ _ hc
  have e := hg.block bm (by rw [size_setCell]; exact hlt) hne
  constructor
  · rw [World.cell?_of_block (w := w.setCell ⟨bm, 0, none⟩ (.int .i32 1)) (a := ⟨bm, 0, none⟩) e]
    exact World.cell?_setCell_same _ _ _ hc
  · rw [World.frozen?_of_block (w := w.setCell ⟨bm, 0, none⟩ (.int .i32 1)) (a := ⟨bm, 0, none⟩) e]
    simp [hf]

/-- The contents. -/
def DataAt (w : World) (dv : Value) (D : List Int) : Prop := (dv = .slice none 0 0 ∧ D = []) ∨ ∃ gd cd, dv = .slice (some ⟨gd, 0, none⟩) D.length cd ∧ RowB w gd cd D

/-- The block of a slice. -/
def rowOf : Value → Option Nat
  | .slice (some a) _ _ => some a.block
  | _ => none

/-- How many bytes are read; whether there's no error. -/
def rdN (ok : Bool) (d p : Nat) (off : Int) : Nat := if ok = true ∧ off < (d : Int) then min p (d - off.toNat) else 0
def rdOK (ok : Bool) (d p : Nat) (off : Int) : Bool := ok && decide (off < (d : Int)) && decide (rdN ok d p off = p)
def rdB (ok : Bool) (D P : List Int) (off : Int) : List Int := (D.drop off.toNat).take (rdN ok D.length P.length off) ++ P.drop (rdN ok D.length P.length off)

/-- How ReadAt ends. -/
def ReadPost (ok : Bool) (D P : List Int) (off : Int) (pv : Value) (w : World) (e : Ending) (w' : World) : Prop :=
  DataAt w' pv (rdB ok D P off) ∧ w.grownBy w' (rowOf pv) ∧
    ((rdOK ok D.length P.length off = true ∧ e = .returned (.tuple #[.int .i64 (rdN ok D.length P.length off), .nilIface])) ∨
     (rdOK ok D.length P.length off = false ∧ ∃ t a, e = .returned (.tuple #[.int .i64 (rdN ok D.length P.length off), .iface t (.pointer (some a))])))

theorem rd_not {D P : List Int} {off : Int} {ok : Bool} (h : ¬ (ok = true ∧ off < (D.length : Int))) : rdN ok D.length P.length off = 0 ∧ rdOK ok D.length P.length off = false ∧ rdB ok D P off = P := by
  have e : rdN ok D.length P.length off = 0 := by rw [rdN, if_neg h]
  refine ⟨e, ?_, by rw [rdB, e]; simp⟩
  rw [rdOK]
  cases ok
  · rfl
  · simp at h ⊢
    intro h'
    omega

/-- The post, where nothing's read. -/
theorem post_not {D P : List Int} {off : Int} {ok : Bool} {pv : Value} {w w' : World} {t : TypeId} {a : Addr} (h : ¬ (ok = true ∧ off < (D.length : Int))) (hd : DataAt w' pv P) (hg : w.grownBy w' (rowOf pv)) :
    ReadPost ok D P off pv w (.returned (.tuple #[.int .i64 0, .iface t (.pointer (some a))])) w' := by
  obtain ⟨h1, h2, h3⟩ := rd_not (P := P) h
  refine ⟨h3.symm ▸ hd, hg, Or.inr ⟨h2, t, a, by rw [h1]; rfl⟩⟩

theorem DataAt.grown {w w' : World} {v : Value} {D : List Int} {row : Option Nat} (h : DataAt w v D) (hg : w.grownBy w' row) (hne : ∀ g, rowOf v = some g → some g ≠ row) : DataAt w' v D := by
  obtain h | ⟨gd, cd, rfl, hr⟩ := h
  · exact Or.inl h
  · exact Or.inr ⟨gd, cd, rfl, hr.grown hg (hne gd rfl)⟩

theorem DataAt.of_blocks {w w' : World} {v : Value} {D : List Int} (h : DataAt w v D) (e : ∀ g, rowOf v = some g → w'.heap[g]? = w.heap[g]?) : DataAt w' v D := by
  obtain h | ⟨gd, cd, rfl, hr⟩ := h
  · exact Or.inl h
  · exact Or.inr ⟨gd, cd, rfl, hr.of_block (e gd rfl)⟩

theorem DataAt.len {w : World} {v : Value} {D : List Int} (h : DataAt w v D) : ∃ a c, v = .slice a D.length c ∧ D.length ≤ c := by
  obtain ⟨rfl, rfl⟩ | ⟨gd, cd, rfl, hr⟩ := h
  · exact ⟨none, 0, rfl, by simp⟩
  · exact ⟨_, cd, rfl, hr.len.1⟩

section
variable {ops : Array Oper} {rest : List Oper} {o : Oper} {a : Act} {Q : Exit → Act → World → Prop} (w : World)

/-- 'copy(d, s)', d nil or a whole row. -/
theorem wp_copyD (hgd : o.guard = none) (d s : Operand) (ho : o.op = .call { callee := .builtin .copy, args := #[d, s], argTypes := #[23, 23] })
    (pa : Option Addr) (cp : Nat) (P : List Int) (hd : a.eval d = .slice pa P.length cp) (hp : DataAt w (.slice pa P.length cp) P)
    (sp : Option Addr) (sLen sCap : Nat) (hs : a.eval s = .slice sp sLen sCap)
    (ns : List Int) (hn : ns.length = min sLen P.length) (hpos : 0 < ns.length → ∃ ad, sp = some ad ∧ SrcB w ad ns) (m : Nat) (hm : m = ns.length) (R : List Int) (hR : R = ns ++ P.drop ns.length)
    (h : ∀ w', DataAt w' (.slice pa P.length cp) R → w.grownBy w' (rowOf (.slice pa P.length cp)) → wpList Tryd.prog ops Q rest (a.put o.dst (.int .i64 (m : Int))) w') :
    wpList Tryd.prog ops Q (o :: rest) a w := by
  obtain ⟨e, rfl⟩ | ⟨gd, cd, e, hr⟩ := hp
  · have hsz : (Tryd.prog.info? 5).map (·.size) = some 1 := by kernel_rfl
    have h0 : ns = [] := List.eq_nil_of_length_eq_zero (by simpa using hn)
    subst h0 hm hR
    refine wpList_copy_nothing hgd d s 23 23 ho 5 Tryd.underlying23 hsz pa sp 0 cp sLen sCap hd hs (by simp) ?_
    exact h w (Or.inl ⟨e, rfl⟩) (grown_refl _ _)
  · simp at e
    obtain ⟨rfl, rfl⟩ := e
    subst hR
    refine wp_copy w hgd d s ho _ sp _ _ _ _ hd hs gd cp P hr 0 ns hn (fun hp0 => ⟨rfl, hpos hp0⟩) (by omega) m hm (fun w' h1 h2 _ => h w' (Or.inr ⟨gd, cp, ?_, ?_⟩) h2)
    · congr 1; simp; omega
    · have e2 : spl P 0 ns = ns ++ P.drop ns.length := by simp [spl]
      rw [← e2]; exact h1
end

/-- The post, where something's read. -/
theorem rd_yes {D P : List Int} {k : Nat} {ok : Bool} (h : ok = true) (hk : k < D.length) (ns : List Int) (hns : ns = (D.drop k).take P.length) : rdN ok D.length P.length k = ns.length ∧ rdOK ok D.length P.length k = decide (ns.length = P.length) ∧ rdB ok D P k = ns ++ P.drop ns.length := by
  have e : rdN ok D.length P.length k = ns.length := by
    rw [rdN, if_pos ⟨h, by omega⟩, hns]
    simp
  refine ⟨e, ?_, ?_⟩
  · rw [rdOK, e, h]
    simp
    intro _
    exact hk
  · rw [rdB, e]
    subst hns
    congr 1
    simp

set_option maxRecDepth 8000 in
set_option maxHeartbeats 2000000 in
theorem read_row (bm bn bf : Nat) (name : ByteArray) (r wr cl : Bool) (dv : Value) (D : List Int) (pa : Option Addr) (cp : Nat) (P : List Int) (off : Int) (w : World)
    (hG : Globs w) (hf : FileAt w bm bn bf name r wr cl dv) (hd : DataAt w dv D) (hp : DataAt w (.slice pa P.length cp) P) (n1 : ∀ a, pa = some a → a.block ≠ bm ∧ 4 ≤ a.block) (n5 : 4 ≤ bm)
    (hDl : D.length ≤ 1000000) (hPl : P.length ≤ 1000000) (hapart : ∀ gd, rowOf dv = some gd → some gd ≠ rowOf (.slice pa P.length cp) ∧ gd ≠ bm) :
    Calls Tryd.prog 18 #[.pointer (some ⟨bf, 0, none⟩), .slice pa P.length cp, .int .i64 off] w (ReadPost (okC cl r off) D P off (.slice pa P.length cp) w) := by
  have HG : Hid (Globs w) := hG
  have HP : Hid (DataAt w (.slice pa P.length cp) P) := hp
  have c0 := hf.lock
  have f0 := hf.lockF
  have k0 := hf.fm
  have k2 := hf.fnode
  have k3 := hf.fr
  have nmf := hf.mf
  have nmn := hf.mn
  have nnf := hf.nf
  have hGB : Hid (Globs (w.setCell ⟨bm, 0, none⟩ (.int .i32 1))) := hG.of_blocks (fun k hk => Below.heap_setCell _ _ _ _ (by show k ≠ bm; omega))
  have fn1 : Hid ((w.setCell ⟨bm, 0, none⟩ (.int .i32 1)).cell? ⟨bf, 1, none⟩ = some (.string name)) := (World.cell?_setCell_other w ⟨bm, 0, none⟩ ⟨bf, 1, none⟩ _ (by simp [nmf])).trans hf.fname
  have fc1 : Hid ((w.setCell ⟨bm, 0, none⟩ (.int .i32 1)).cell? ⟨bf, 5, none⟩ = some (.bool cl)) := (World.cell?_setCell_other w ⟨bm, 0, none⟩ ⟨bf, 5, none⟩ _ (by simp [nmf])).trans hf.fc
  have HC : Hid (w.cell? ⟨bm, 0, none⟩ = some (.int .i32 0)) := c0
  have HZ : Hid (w.frozen? ⟨bm, 0, none⟩ = false) := f0
  have nmp : Hid (some bm ≠ rowOf (.slice pa P.length cp)) := by
    cases pa with
    | none => simp [rowOf, Hid]
    | some a => simp [rowOf, Hid]; intro e; exact (n1 a rfl).1 e.symm
  have HD : Hid (DataAt (w.setCell ⟨bm, 0, none⟩ (.int .i32 1)) dv D) := hd.of_blocks (fun g hg => Below.heap_setCell _ _ _ _ (hapart g hg).2)
  have HP1 : Hid (DataAt (w.setCell ⟨bm, 0, none⟩ (.int .i32 1)) (.slice pa P.length cp) P) := hp.of_blocks (fun g hg => Below.heap_setCell _ _ _ _ (by
    cases pa with
    | none => cases hg
    | some a => simp [rowOf] at hg; subst hg; exact (n1 a rfl).1))
  have HAP : Hid (∀ gd, rowOf dv = some gd → some gd ≠ rowOf (.slice pa P.length cp) ∧ gd ≠ bm) := hapart
  have knd := hf.nd
  have n0 : Hid (some 0 ≠ rowOf (.slice pa P.length cp)) := by
    cases pa with
    | none => simp [rowOf, Hid]
    | some a => have := (n1 a rfl).2; simp [rowOf, Hid]; omega
  obtain ⟨da, dc, rfl, hdc⟩ := hd.len
  obtain ⟨a0, hg0⟩ := hGB.out.g0
  clear hG hf hp hd hapart n1
  go_enter_defers Tryd.func18, Tryd.ntmps18
  go_wp2_with (go_at_call 22; refine (lock_free Tryd.muLib ⟨bm, 0, none⟩ _ c0 f0).mono ?_; rintro e w' ⟨rfl, rfl⟩)
  refine (check_any _ r off bm bn bf name r wr cl .nilIface _ hGB.out fn1.out fc1.out).mono ?_
  rintro e w2 (⟨hok, rfl, rfl⟩ | ⟨hok, ⟨p, rfl⟩, hb⟩)
  · have hoff : 0 ≤ off := by
      unfold okC at hok
      simp at hok
      exact hok.2
    obtain ⟨k, rfl⟩ := Int.eq_ofNat_of_zero_le hoff
    by_cases ho : (k : Int) < (D.length : Int)
    · have e1 : decide ((D.length : Int) ≤ (k : Int)) = false := by simp; omega
      obtain ⟨gd, cd, rfl, rfl, hrd⟩ : ∃ gd cd, da = some ⟨gd, 0, none⟩ ∧ dc = cd ∧ Hid (RowB (w.setCell ⟨bm, 0, none⟩ (.int .i32 1)) gd cd D) := by
        obtain ⟨h, rfl⟩ | ⟨gd, cd, h, hr⟩ := HD.out
        · simp at ho; omega
        · simp at h; exact ⟨gd, cd, h.1, h.2, hr⟩
      have hk : k < D.length := by omega
      have HS : Hid (SrcB (w.setCell ⟨bm, 0, none⟩ (.int .i32 1)) ⟨gd, k, none⟩ ((D.drop k).take P.length)) := by
        refine SrcB.take ?_ _
        intro j x hj
        rw [List.getElem?_drop] at hj
        have e : (⟨gd, k, none⟩ : Addr).add j = ⟨gd, k + j, none⟩ := by unfold Addr.add; split <;> simp_all
        rw [e]
        exact hrd.out.cell hj
      obtain ⟨ns, hns⟩ : ∃ ns, Hid (ns = (D.drop k).take P.length) := ⟨_, rfl⟩
      obtain ⟨m, hm⟩ : ∃ m, Hid (m = ns.length) := ⟨_, rfl⟩
      obtain ⟨R, hR⟩ : ∃ R, Hid (R = ns ++ P.drop ns.length) := ⟨_, rfl⟩
      have hln : ns.length = min (D.length - k) P.length := by rw [hns.out, List.length_take, List.length_drop]; omega
      have hln : Hid _ := hln
      have HY := rd_yes (P := P) hok hk _ hns.out
      rw [← hR.out, ← hm.out] at HY
      have HY : Hid _ := HY
      rw [← hns.out] at HS
      clear hok
      have hmP : m ≤ P.length := by rw [hm.out, hln.out]; omega
      go_wp2_with ((with_reducible show wpList _ _ _ (Oper.mk (some 54) _ _ _ _ _ :: _) _ _); refine wp_copyD _ rfl _ _ rfl pa cp P rfl HP1.out (some ⟨gd, k, none⟩) (D.length - k) (dc - k) rfl ns hln.out (fun _ => ⟨_, rfl, HS.out⟩) m hm.out R hR.out ?_)
      intro w3 hd3 hg3
      have HG3 : Hid ((w.setCell ⟨bm, 0, none⟩ (.int .i32 1)).grownBy w3 (rowOf (.slice pa P.length cp))) := hg3
      have HD3 : Hid (DataAt w3 (.slice pa P.length cp) R) := hd3
      have g03 : w3.cell? ⟨0, 0, none⟩ = some (.iface 103 (.pointer (some a0))) := by
        rw [World.cell?_of_block (hg3.block 0 (World.block_lt_of_cell? _ _ hg0) n0.out)]
        exact hg0
      clear hd3 hg3
      by_cases hc : m = P.length
      · have e2 : decide ((m : Int) < (P.length : Int)) = false := by simp; omega
        go_wp2
        have hl := lock_in w w3 bm _ c0 f0 HG3.out nmp.out
        refine leaves_cons (f := 23) (args := #[.pointer (some ⟨bm, 0, none⟩)]) (by simp) (by simp [go_sem]) ?_
        refine (unlock_deferred Tryd.muLib ⟨bm, 0, none⟩ .returning _ hl.1 hl.2).mono ?_
        rintro e u' w'' ⟨rfl, rfl, rfl⟩
        refine ⟨_, results_tmp2 rfl _ _ _, ?_⟩
        have hgr := lock_round w w3 bm _ HC.out HG3.out nmp.out
        refine ⟨HY.out.2.2.symm ▸ HD3.out.of_blocks (fun g hg => Below.heap_setCell _ _ _ _ (fun e => nmp.out (by rw [hg, e]))), hgr, Or.inl ⟨by rw [HY.out.2.1]; simpa using hc, ?_⟩⟩
        rw [HY.out.1]
        rfl
      · have e2 : decide ((m : Int) < (P.length : Int)) = true := by simp; omega
        go_wp2_with fail
        go_quiet (fail)
        have HG4 : Hid ((w.setCell ⟨bm, 0, none⟩ (.int .i32 1)).grownBy (w3.drewN nq) (rowOf (.slice pa P.length cp))) := grown_drewN HG3.out _
        have HD4 : Hid (DataAt (w3.drewN nq) (.slice pa P.length cp) R) := HD3.out.of_blocks (fun _ _ => rfl)
        generalize w3.drewN nq = w4 at *
        go_wp2
        have hl := lock_in w w4 bm _ c0 f0 HG4.out nmp.out
        refine leaves_cons (f := 23) (args := #[.pointer (some ⟨bm, 0, none⟩)]) (by simp) (by simp [go_sem]) ?_
        refine (unlock_deferred Tryd.muLib ⟨bm, 0, none⟩ .returning _ hl.1 hl.2).mono ?_
        rintro e u' w'' ⟨rfl, rfl, rfl⟩
        refine ⟨_, results_tmp2 rfl _ _ _, ?_⟩
        have hgr := lock_round w w4 bm _ HC.out HG4.out nmp.out
        refine ⟨HY.out.2.2.symm ▸ HD4.out.of_blocks (fun g hg => Below.heap_setCell _ _ _ _ (fun e => nmp.out (by rw [hg, e]))), hgr, Or.inr ⟨by rw [HY.out.2.1]; simpa using hc, 103, a0, ?_⟩⟩
        rw [HY.out.1]
        rfl
    · have HR : Hid (¬ (okC cl r k = true ∧ (k : Int) < (D.length : Int))) := by simp [Hid]; intro _; omega
      have e1 : decide ((D.length : Int) ≤ (k : Int)) = true := by simp; omega
      clear hok
      go_wp2_with fail
      go_quiet (fail)
      have HB : Hid ((w.setCell ⟨bm, 0, none⟩ (.int .i32 1)).grownBy ((w.setCell ⟨bm, 0, none⟩ (.int .i32 1)).drewN nq) none) := grown_drewN (grown_refl _ _) _
      generalize (w.setCell ⟨bm, 0, none⟩ (.int .i32 1)).drewN nq = w2 at *
      have hl := lock_in w w2 bm _ c0 f0 HB.out (by simp)
      go_wp2
      refine leaves_cons (f := 23) (args := #[.pointer (some ⟨bm, 0, none⟩)]) (by simp) (by simp [go_sem]) ?_
      refine (unlock_deferred Tryd.muLib ⟨bm, 0, none⟩ .returning _ hl.1 hl.2).mono ?_
      rintro e u' w'' ⟨rfl, rfl, rfl⟩
      refine ⟨_, results_tmp2 rfl _ _ _, ?_⟩
      have hgr := lock_round w w2 bm _ HC.out HB.out (by simp)
      exact post_not HR.out (HP.out.grown hgr (by simp)) (grown_but hgr _)
  · have HR : Hid (¬ (okC cl r off = true ∧ off < (D.length : Int))) := by rw [hok]; simp [Hid]
    have HB : Hid ((w.setCell ⟨bm, 0, none⟩ (.int .i32 1)).grownBy w2 none) := grown_of_below hb _
    have hl := lock_in w w2 bm _ c0 f0 HB.out (by simp)
    clear hb hok
    go_wp2
    refine leaves_cons (f := 23) (args := #[.pointer (some ⟨bm, 0, none⟩)]) (by simp) (by simp [go_sem]) ?_
    refine (unlock_deferred Tryd.muLib ⟨bm, 0, none⟩ .returning _ hl.1 hl.2).mono ?_
    rintro e u' w'' ⟨rfl, rfl, rfl⟩
    refine ⟨_, results_tmp2 rfl _ _ _, ?_⟩
    have hgr := lock_round w w2 bm _ HC.out HB.out (by simp)
    exact post_not HR.out (HP.out.grown hgr (by simp)) (grown_but hgr _)

end Go.Proofs.Qxb6616577aDoor

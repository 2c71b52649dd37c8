import Derived.Test.Qxb6616577aDoorPlain
/-! A file whose node may have been written; reads of it; a clone's capacity. -/
namespace Go.Proofs.Qxb6616577aDoor
open Go.RowKit Go.MuLone
set_option linter.unusedVariables false
set_option linter.unusedSimpArgs false
set_option maxRecDepth 8000

/-- A file, whatever its node's pending changes. -/
structure FileR (w : World) (bm bn bf : Nat) (name : ByteArray) (r wr cl : Bool) (dv : Value) : Prop where
  lock : w.cell? ⟨bm, 0, none⟩ = some (.int .i32 0)
  lockF : w.frozen? ⟨bm, 0, none⟩ = false
  werr : w.cell? ⟨bm, 5, none⟩ = some .nilIface
  fm : w.cell? ⟨bf, 0, none⟩ = some (.pointer (some ⟨bm, 0, none⟩))
  fname : w.cell? ⟨bf, 1, none⟩ = some (.string name)
  fnode : w.cell? ⟨bf, 2, none⟩ = some (.pointer (some ⟨bn, 0, none⟩))
  fr : w.cell? ⟨bf, 3, none⟩ = some (.bool r)
  fw : w.cell? ⟨bf, 4, none⟩ = some (.bool wr)
  fc : w.cell? ⟨bf, 5, none⟩ = some (.bool cl)
  nd : w.cell? ⟨bn, 1, none⟩ = some dv
  mn : bm ≠ bn
  mf : bm ≠ bf
  nf : bn ≠ bf

theorem FileAt.toR {w : World} {bm bn bf : Nat} {name : ByteArray} {r wr cl : Bool} {dv : Value} (h : FileAt w bm bn bf name r wr cl dv) : FileR w bm bn bf name r wr cl dv :=
  ⟨h.lock, h.lockF, h.werr, h.fm, h.fname, h.fnode, h.fr, h.fw, h.fc, h.nd, h.mn, h.mf, h.nf⟩

theorem FileR.of_blocks {w w' : World} {bm bn bf : Nat} {name : ByteArray} {r wr cl : Bool} {dv : Value} (h : FileR w bm bn bf name r wr cl dv)
    (e1 : w'.heap[bm]? = w.heap[bm]?) (e2 : w'.heap[bn]? = w.heap[bn]?) (e3 : w'.heap[bf]? = w.heap[bf]?) : FileR w' bm bn bf name r wr cl dv := by
  refine ⟨?_, ?_, ?_, ?_, ?_, ?_, ?_, ?_, ?_, ?_, h.mn, h.mf, h.nf⟩
  · rw [World.cell?_of_block (w := w) e1]; exact h.lock
  · rw [World.frozen?_of_block (w := w) e1]; exact h.lockF
  · rw [World.cell?_of_block (w := w) e1]; exact h.werr
  · rw [World.cell?_of_block (w := w) e3]; exact h.fm
  · rw [World.cell?_of_block (w := w) e3]; exact h.fname
  · rw [World.cell?_of_block (w := w) e3]; exact h.fnode
  · rw [World.cell?_of_block (w := w) e3]; exact h.fr
  · rw [World.cell?_of_block (w := w) e3]; exact h.fw
  · rw [World.cell?_of_block (w := w) e3]; exact h.fc
  · rw [World.cell?_of_block (w := w) e2]; exact h.nd

theorem FileR.lt {w : World} {bm bn bf : Nat} {name : ByteArray} {r wr cl : Bool} {dv : Value} (h : FileR w bm bn bf name r wr cl dv) : bm < w.heap.size ∧ bn < w.heap.size ∧ bf < w.heap.size :=
  ⟨World.block_lt_of_cell? _ _ h.lock, World.block_lt_of_cell? _ _ h.nd, World.block_lt_of_cell? _ _ h.fm⟩

theorem FileR.grown {w w' : World} {bm bn bf : Nat} {name : ByteArray} {r wr cl : Bool} {dv v : Value} {lo hi : Nat} (h : FileR w bm bn bf name r wr cl dv)
    (hg : w.grownBy w' (rowOf v)) (hR : Rng v lo hi) (hb : (bm < lo ∨ hi ≤ bm) ∧ (bn < lo ∨ hi ≤ bn) ∧ (bf < lo ∨ hi ≤ bf)) : FileR w' bm bn bf name r wr cl dv := by
  obtain ⟨l1, l2, l3⟩ := h.lt
  refine h.of_blocks (hg.block bm l1 ?_) (hg.block bn l2 ?_) (hg.block bf l3 ?_) <;> (intro e; have := hR _ e.symm; omega)

set_option maxRecDepth 8000 in
set_option maxHeartbeats 2000000 in
theorem read2_row (bm bn bf : Nat) (name : ByteArray) (r wr cl : Bool) (dv : Value) (D : List Int) (pa : Option Addr) (cp : Nat) (P : List Int) (off : Int) (w : World)
    (hG : Globs w) (hf : FileR w bm bn bf name r wr cl dv) (hd : DataAt w dv D) (hp : DataAt w (.slice pa P.length cp) P) (n1 : ∀ a, pa = some a → a.block ≠ bm ∧ 4 ≤ a.block) (n5 : 4 ≤ bm)
    (hDl : D.length ≤ 1000000) (hPl : P.length ≤ 1000000) (hapart : ∀ gd, rowOf dv = some gd → some gd ≠ rowOf (.slice pa P.length cp) ∧ gd ≠ bm) :
    Calls Tryd.prog 18 #[.pointer (some ⟨bf, 0, none⟩), .slice pa P.length cp, .int .i64 off] w (ReadPost (okC cl r off) D P off (.slice pa P.length cp) w) := by
  have HG : Hid (Globs w) := hG
  have HP : Hid (DataAt w (.slice pa P.length cp) P) := hp
  have c0 := hf.lock
  have f0 := hf.lockF
  have k0 := hf.fm
  have k2 := hf.fnode
  have k3 := hf.fr
  have nmf := hf.mf
  have nmn := hf.mn
  have nnf := hf.nf
  have hGB : Hid (Globs (w.setCell ⟨bm, 0, none⟩ (.int .i32 1))) := hG.of_blocks (fun k hk => Below.heap_setCell _ _ _ _ (by show k ≠ bm; omega))
  have fn1 : Hid ((w.setCell ⟨bm, 0, none⟩ (.int .i32 1)).cell? ⟨bf, 1, none⟩ = some (.string name)) := (World.cell?_setCell_other w ⟨bm, 0, none⟩ ⟨bf, 1, none⟩ _ (by simp [nmf])).trans hf.fname
  have fc1 : Hid ((w.setCell ⟨bm, 0, none⟩ (.int .i32 1)).cell? ⟨bf, 5, none⟩ = some (.bool cl)) := (World.cell?_setCell_other w ⟨bm, 0, none⟩ ⟨bf, 5, none⟩ _ (by simp [nmf])).trans hf.fc
  have HC : Hid (w.cell? ⟨bm, 0, none⟩ = some (.int .i32 0)) := c0
  have HZ : Hid (w.frozen? ⟨bm, 0, none⟩ = false) := f0
  have nmp : Hid (some bm ≠ rowOf (.slice pa P.length cp)) := by
    cases pa with
    | none => simp [rowOf, Hid]
    | some a => simp [rowOf, Hid]; intro e; exact (n1 a rfl).1 e.symm
  have HD : Hid (DataAt (w.setCell ⟨bm, 0, none⟩ (.int .i32 1)) dv D) := hd.of_blocks (fun g hg => Below.heap_setCell _ _ _ _ (hapart g hg).2)
  have HP1 : Hid (DataAt (w.setCell ⟨bm, 0, none⟩ (.int .i32 1)) (.slice pa P.length cp) P) := hp.of_blocks (fun g hg => Below.heap_setCell _ _ _ _ (by
    cases pa with
    | none => cases hg
    | some a => simp [rowOf] at hg; subst hg; exact (n1 a rfl).1))
  have HAP : Hid (∀ gd, rowOf dv = some gd → some gd ≠ rowOf (.slice pa P.length cp) ∧ gd ≠ bm) := hapart
  have knd := hf.nd
  have n0 : Hid (some 0 ≠ rowOf (.slice pa P.length cp)) := by
    cases pa with
    | none => simp [rowOf, Hid]
    | some a => have := (n1 a rfl).2; simp [rowOf, Hid]; omega
  obtain ⟨da, dc, rfl, hdc⟩ := hd.len
  obtain ⟨a0, hg0⟩ := hGB.out.g0
  clear hG hf hp hd hapart n1
  go_enter_defers Tryd.func18, Tryd.ntmps18
  go_wp2_with (go_at_call 22; refine (lock_free Tryd.muLib ⟨bm, 0, none⟩ _ c0 f0).mono ?_; rintro e w' ⟨rfl, rfl⟩)
  refine (check_any _ r off bm bn bf name r wr cl .nilIface _ hGB.out fn1.out fc1.out).mono ?_
  rintro e w2 (⟨hok, rfl, rfl⟩ | ⟨hok, ⟨p, rfl⟩, hb⟩)
  · have hoff : 0 ≤ off := by
      unfold okC at hok
      simp at hok
      exact hok.2
    obtain ⟨k, rfl⟩ := Int.eq_ofNat_of_zero_le hoff
    by_cases ho : (k : Int) < (D.length : Int)
    · have e1 : decide ((D.length : Int) ≤ (k : Int)) = false := by simp; omega
      obtain ⟨gd, cd, rfl, rfl, hrd⟩ : ∃ gd cd, da = some ⟨gd, 0, none⟩ ∧ dc = cd ∧ Hid (RowB (w.setCell ⟨bm, 0, none⟩ (.int .i32 1)) gd cd D) := by
        obtain ⟨h, rfl⟩ | ⟨gd, cd, h, hr⟩ := HD.out
        · simp at ho; omega
        · simp at h; exact ⟨gd, cd, h.1, h.2, hr⟩
      have hk : k < D.length := by omega
      have HS : Hid (SrcB (w.setCell ⟨bm, 0, none⟩ (.int .i32 1)) ⟨gd, k, none⟩ ((D.drop k).take P.length)) := by
        refine SrcB.take ?_ _
        intro j x hj
        rw [List.getElem?_drop] at hj
        have e : (⟨gd, k, none⟩ : Addr).add j = ⟨gd, k + j, none⟩ := by unfold Addr.add; split <;> simp_all
        rw [e]
        exact hrd.out.cell hj
      obtain ⟨ns, hns⟩ : ∃ ns, Hid (ns = (D.drop k).take P.length) := ⟨_, rfl⟩
      obtain ⟨m, hm⟩ : ∃ m, Hid (m = ns.length) := ⟨_, rfl⟩
      obtain ⟨R, hR⟩ : ∃ R, Hid (R = ns ++ P.drop ns.length) := ⟨_, rfl⟩
      have hln : ns.length = min (D.length - k) P.length := by rw [hns.out, List.length_take, List.length_drop]; omega
      have hln : Hid _ := hln
      have HY := rd_yes (P := P) hok hk _ hns.out
      rw [← hR.out, ← hm.out] at HY
      have HY : Hid _ := HY
      rw [← hns.out] at HS
      clear hok
      have hmP : m ≤ P.length := by rw [hm.out, hln.out]; omega
      go_wp2_with ((with_reducible show wpList _ _ _ (Oper.mk (some 54) _ _ _ _ _ :: _) _ _); refine wp_copyD _ rfl _ _ rfl pa cp P rfl HP1.out (some ⟨gd, k, none⟩) (D.length - k) (dc - k) rfl ns hln.out (fun _ => ⟨_, rfl, HS.out⟩) m hm.out R hR.out ?_)
      intro w3 hd3 hg3
      have HG3 : Hid ((w.setCell ⟨bm, 0, none⟩ (.int .i32 1)).grownBy w3 (rowOf (.slice pa P.length cp))) := hg3
      have HD3 : Hid (DataAt w3 (.slice pa P.length cp) R) := hd3
      have g03 : w3.cell? ⟨0, 0, none⟩ = some (.iface 103 (.pointer (some a0))) := by
        rw [World.cell?_of_block (hg3.block 0 (World.block_lt_of_cell? _ _ hg0) n0.out)]
        exact hg0
      clear hd3 hg3
      by_cases hc : m = P.length
      · have e2 : decide ((m : Int) < (P.length : Int)) = false := by simp; omega
        go_wp2
        have hl := lock_in w w3 bm _ c0 f0 HG3.out nmp.out
        refine leaves_cons (f := 23) (args := #[.pointer (some ⟨bm, 0, none⟩)]) (by simp) (by simp [go_sem]) ?_
        refine (unlock_deferred Tryd.muLib ⟨bm, 0, none⟩ .returning _ hl.1 hl.2).mono ?_
        rintro e u' w'' ⟨rfl, rfl, rfl⟩
        refine ⟨_, results_tmp2 rfl _ _ _, ?_⟩
        have hgr := lock_round w w3 bm _ HC.out HG3.out nmp.out
        refine ⟨HY.out.2.2.symm ▸ HD3.out.of_blocks (fun g hg => Below.heap_setCell _ _ _ _ (fun e => nmp.out (by rw [hg, e]))), hgr, Or.inl ⟨by rw [HY.out.2.1]; simpa using hc, ?_⟩⟩
        rw [HY.out.1]
        rfl
      · have e2 : decide ((m : Int) < (P.length : Int)) = true := by simp; omega
        go_wp2_with fail
        go_quiet (fail)
        have HG4 : Hid ((w.setCell ⟨bm, 0, none⟩ (.int .i32 1)).grownBy (w3.drewN nq) (rowOf (.slice pa P.length cp))) := grown_drewN HG3.out _
        have HD4 : Hid (DataAt (w3.drewN nq) (.slice pa P.length cp) R) := HD3.out.of_blocks (fun _ _ => rfl)
        generalize w3.drewN nq = w4 at *
        go_wp2
        have hl := lock_in w w4 bm _ c0 f0 HG4.out nmp.out
        refine leaves_cons (f := 23) (args := #[.pointer (some ⟨bm, 0, none⟩)]) (by simp) (by simp [go_sem]) ?_
        refine (unlock_deferred Tryd.muLib ⟨bm, 0, none⟩ .returning _ hl.1 hl.2).mono ?_
        rintro e u' w'' ⟨rfl, rfl, rfl⟩
        refine ⟨_, results_tmp2 rfl _ _ _, ?_⟩
        have hgr := lock_round w w4 bm _ HC.out HG4.out nmp.out
        refine ⟨HY.out.2.2.symm ▸ HD4.out.of_blocks (fun g hg => Below.heap_setCell _ _ _ _ (fun e => nmp.out (by rw [hg, e]))), hgr, Or.inr ⟨by rw [HY.out.2.1]; simpa using hc, 103, a0, ?_⟩⟩
        rw [HY.out.1]
        rfl
    · have HR : Hid (¬ (okC cl r k = true ∧ (k : Int) < (D.length : Int))) := by simp [Hid]; intro _; omega
      have e1 : decide ((D.length : Int) ≤ (k : Int)) = true := by simp; omega
      clear hok
      go_wp2_with fail
      go_quiet (fail)
      have HB : Hid ((w.setCell ⟨bm, 0, none⟩ (.int .i32 1)).grownBy ((w.setCell ⟨bm, 0, none⟩ (.int .i32 1)).drewN nq) none) := grown_drewN (grown_refl _ _) _
      generalize (w.setCell ⟨bm, 0, none⟩ (.int .i32 1)).drewN nq = w2 at *
      have hl := lock_in w w2 bm _ c0 f0 HB.out (by simp)
      go_wp2
      refine leaves_cons (f := 23) (args := #[.pointer (some ⟨bm, 0, none⟩)]) (by simp) (by simp [go_sem]) ?_
      refine (unlock_deferred Tryd.muLib ⟨bm, 0, none⟩ .returning _ hl.1 hl.2).mono ?_
      rintro e u' w'' ⟨rfl, rfl, rfl⟩
      refine ⟨_, results_tmp2 rfl _ _ _, ?_⟩
      have hgr := lock_round w w2 bm _ HC.out HB.out (by simp)
      exact post_not HR.out (HP.out.grown hgr (by simp)) (grown_but hgr _)
  · have HR : Hid (¬ (okC cl r off = true ∧ off < (D.length : Int))) := by rw [hok]; simp [Hid]
    have HB : Hid ((w.setCell ⟨bm, 0, none⟩ (.int .i32 1)).grownBy w2 none) := grown_of_below hb _
    have hl := lock_in w w2 bm _ c0 f0 HB.out (by simp)
    clear hb hok
    go_wp2
    refine leaves_cons (f := 23) (args := #[.pointer (some ⟨bm, 0, none⟩)]) (by simp) (by simp [go_sem]) ?_
    refine (unlock_deferred Tryd.muLib ⟨bm, 0, none⟩ .returning _ hl.1 hl.2).mono ?_
    rintro e u' w'' ⟨rfl, rfl, rfl⟩
    refine ⟨_, results_tmp2 rfl _ _ _, ?_⟩
    have hgr := lock_round w w2 bm _ HC.out HB.out (by simp)
    exact post_not HR.out (HP.out.grown hgr (by simp)) (grown_but hgr _)

/-- ZZreadAt. -/
theorem zzread2_row (bm bn bf : Nat) (name : ByteArray) (r wr cl : Bool) (dv : Value) (D : List Int) (pa : Option Addr) (cp : Nat) (P : List Int) (off : Int) (w : World)
    (hG : Globs w) (hf : FileR w bm bn bf name r wr cl dv) (hd : DataAt w dv D) (hp : DataAt w (.slice pa P.length cp) P) (n1 : ∀ a, pa = some a → a.block ≠ bm ∧ 4 ≤ a.block) (n5 : 4 ≤ bm)
    (hDl : D.length ≤ 1000000) (hPl : P.length ≤ 1000000) (hapart : ∀ gd, rowOf dv = some gd → some gd ≠ rowOf (.slice pa P.length cp) ∧ gd ≠ bm) :
    Calls Tryd.prog 12 #[.pointer (some ⟨bf, 0, none⟩), .slice pa P.length cp, .int .i64 off] w (ReadPost (okC cl r off) D P off (.slice pa P.length cp) w) := by
  have h := read2_row bm bn bf name r wr cl dv D pa cp P off w hG hf hd hp n1 n5 hDl hPl hapart
  clear hG hf hd hp n1 n5 hapart
  go_enter Tryd.func12, Tryd.ntmps12
  go_wp2_with fail
  refine h.mono ?_
  rintro e w' ⟨h1, h2, (⟨h3, rfl⟩ | ⟨h3, t, a, rfl⟩)⟩
  · have H1 : Hid _ := h1
    have H2 : Hid _ := h2
    have H3 : Hid _ := h3
    clear h1 h2 h3
    go_wp2
    go_ret2
    exact ⟨H1.out, H2.out, Or.inl ⟨H3.out, rfl⟩⟩
  · have H1 : Hid _ := h1
    have H2 : Hid _ := h2
    have H3 : Hid _ := h3
    clear h1 h2 h3
    go_wp2
    go_ret2
    exact ⟨H1.out, H2.out, Or.inr ⟨H3.out, t, a, rfl⟩⟩

/-- How zzCloneBytes ends, with the capacity. -/
def ClonePost2 (X : List Int) (w : World) (e : Ending) (w' : World) : Prop :=
  ∃ va, e = .returned (.slice va X.length X.length) ∧ DataAt w' (.slice va X.length X.length) X ∧ Below w.heap.size w w' ∧ (∀ g, rowOf (.slice va X.length X.length) = some g → g = w.heap.size)

theorem clone2_nil (w : World) : Calls Tryd.prog 10 #[.slice none 0 0] w (ClonePost2 [] w) := by
  have q23 : ∀ (w : World) (a : Option Addr) (n c n' c' : Nat), (binOp .eql 23 (.slice a n c) (.slice none n' c')).run Tryd.prog w = .ok (.bool a.isNone) w := fun w a n c n' c' => Lib.run_eql_slice_nil w _ _ a n c n' c' Tryd.underlying23
  go_enter Tryd.func10, Tryd.ntmps10
  go_wp2
  go_ret
  exact ⟨none, rfl, Or.inl ⟨rfl, rfl⟩, Below.refl _ _, by simp [rowOf]⟩

set_option maxHeartbeats 1000000 in
theorem clone2_row (ad : Addr) (c : Nat) (X : List Int) (w : World) (hs : SrcB w ad X) (hlen : X.length ≤ 1000000) (hc : X.length ≤ c) :
    Calls Tryd.prog 10 #[.slice (some ad) X.length c] w (ClonePost2 X w) := by
  have HS : Hid (SrcB w ad X) := hs
  clear hs
  have q23 : ∀ (w : World) (a : Option Addr) (n c n' c' : Nat), (binOp .eql 23 (.slice a n c) (.slice none n' c')).run Tryd.prog w = .ok (.bool a.isNone) w := fun w a n c n' c' => Lib.run_eql_slice_nil w _ _ a n c n' c' Tryd.underlying23
  go_enter Tryd.func10, Tryd.ntmps10
  go_wp2_with (at_make; refine wp_mk _ rfl _ _ rfl X.length rfl rfl hlen ?_; intro w1 hr1 hb1; have HR1 : Hid (RowB w1 w.heap.size X.length (List.replicate X.length 0)) := hr1; have HB1 : Hid (Below w.heap.size w w1) := hb1; clear hr1 hb1)
  go_loopw [4] (fun i wr => ∃ k : Nat, k ≤ X.length ∧ i = .int .i64 k ∧ RowB wr w.heap.size X.length (X.take k ++ List.replicate (X.length - k) 0) ∧ Below w.heap.size w wr) (fun i _ => X.length - (intOf i).toNat)
  case atStart => exact ⟨0, Nat.zero_le _, rfl, by simpa using HR1.out, HB1.out⟩
  case round =>
    obtain ⟨k, hk, rfl, hr, hb⟩ := hrel
    have HB : Hid (Below w.heap.size w wr) := hb
    have HR : Hid (RowB wr w.heap.size X.length (X.take k ++ List.replicate (X.length - k) 0)) := hr
    by_cases hlt : k < X.length
    · obtain ⟨x, hx⟩ : ∃ x, X[k]? = some x := ⟨_, List.getElem?_eq_getElem hlt⟩
      have HX : Hid (X[k]? = some x) := hx
      have hB : ad.block < w.heap.size := HS.out.lt (by omega)
      have cx := HS.out.below hb hB k x hx
      have hz : (X.take k ++ List.replicate (X.length - k) 0)[k]? = some (0 : Int) := by
        rw [List.getElem?_append_right (by simp; omega), List.getElem?_replicate, if_pos (by simp; omega)]
      have cz := hr.cell hz
      have fz := hr.frozen k
      have hltI : (k : Int) < (X.length : Int) := by omega
      clear hx hz hr hb
      go_wp2
      go_roundw
      case rel =>
        refine ⟨k + 1, by omega, by go_num, ?_, HB.out.setCell (Nat.le_refl _) _⟩
        rw [← fill_next HX.out]
        exact HR.out.set k x (by simp; omega)
      case measure => simp [intOf]; omega
    · have hltI : ¬ (k : Int) < (X.length : Int) := by omega
      have hke : k = X.length := by omega
      have HR2 : Hid (RowB wr w.heap.size X.length X) := by
        have := hr
        rw [hke] at this
        simpa [Hid] using this
      clear hr hb hke
      go_wp2
      go_ret
      exact ⟨some ⟨w.heap.size, 0, none⟩, rfl, Or.inr ⟨_, _, rfl, HR2.out⟩, HB.out, by intro g hg; simp [rowOf] at hg; exact hg.symm⟩

theorem clone2_any (a : Option Addr) (n c : Nat) (X : List Int) (w : World) (hn : n = X.length) (h : InAt w (.slice a n c) X) (hlen : X.length ≤ 1000000) :
    Calls Tryd.prog 10 #[.slice a n c] w (ClonePost2 X w) := by
  subst hn
  obtain ⟨e, rfl⟩ | ⟨ad, c', e, h1, h2⟩ := h
  · rw [e]; exact clone2_nil w
  · rw [e]
    simp at e
    exact clone2_row ad c' X w h2 hlen h1

end Go.Proofs.Qxb6616577aDoor

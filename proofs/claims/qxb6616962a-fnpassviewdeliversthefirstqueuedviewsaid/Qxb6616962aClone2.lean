import Derived.Test.Qxb6616962aClone
/-! zzCloneU64s (16). -/
namespace Go.Proofs.Qxb6616962a
open Go.RowKit
set_option linter.unusedVariables false
set_option linter.unusedSimpArgs false
set_option maxRecDepth 8000

/-- Whether a slice is nil. -/
def nilB : Value → Bool
  | .slice none _ _ => true
  | _ => false

/-- A slice of slices that comes in: of each its value and what it holds. -/
def InVV (w : World) (v : Value) (xs : List (Value × List Value)) : Prop := InV w v (xs.map (·.1)) ∧ ∀ x ∈ xs, InV w x.1 x.2 ∧ (∀ u ∈ x.2, u.oneCell' = true)

/-- A slice of the call's own that holds what another holds. -/
structure HoldOK (w : World) (v : Value) (x : Value × List Value) : Prop where
  form : ∃ va, v = .slice va x.2.length x.2.length
  own : OwnV w v 32 x.2
  nil : nilB v = nilB x.1

theorem HoldOK.of_blocks {w w' : World} {v : Value} {x : Value × List Value} (h : HoldOK w v x) (e : ∀ g, blkOf v = some g → w'.heap[g]? = w.heap[g]?) : HoldOK w' v x := ⟨h.form, h.own.of_blocks e, h.nil⟩

/-- Each of cs holds what its fellow of xs holds; the blocks lie at lo or later. -/
def HoldsOK (w : World) (lo : Nat) (cs : List Value) (xs : List (Value × List Value)) : Prop := ∀ (j : Nat) (v : Value), cs[j]? = some v → ∃ x, xs[j]? = some x ∧ HoldOK w v x ∧ ∀ g, blkOf v = some g → lo ≤ g

theorem HoldsOK.of_blocks {w w' : World} {lo : Nat} {cs : List Value} {xs : List (Value × List Value)} (h : HoldsOK w lo cs xs) (e : ∀ g, lo ≤ g → g < w.heap.size → w'.heap[g]? = w.heap[g]?) : HoldsOK w' lo cs xs := by
  intro j v hj
  obtain ⟨x, h1, h2, h3⟩ := h j v hj
  exact ⟨x, h1, h2.of_blocks (fun g hg => e g (h3 g hg) (h2.own.lt hg)), h3⟩

/-- How zzCloneU64s ends. -/
def CloneVV (xs : List (Value × List Value)) (w : World) (e : Ending) (w' : World) : Prop :=
  ∃ va cs, e = .returned (.slice va xs.length xs.length) ∧ cs.length = xs.length ∧ OwnV w' (.slice va xs.length xs.length) 24 cs ∧ HoldsOK w' (w.heap.size + 1) cs xs ∧ Below w.heap.size w w' ∧ (∀ g, blkOf (.slice va xs.length xs.length) = some g → g = w.heap.size)

theorem Try.info24' : (Try.prog.info? 24).map (fun i => (i.zero, i.size, i.bytes)) = some (some (.slice none 0 0), 1, 24) := by kernel_rfl

theorem cloneS_nil (w : World) : Calls Try.prog 16 #[.slice none 0 0] w (CloneVV [] w) := by
  have qT : ∀ (w : World) (a : Option Addr) (n c n' c' : Nat), (binOp .eql 36 (.slice a n c) (.slice none n' c')).run Try.prog w = .ok (.bool a.isNone) w := fun w a n c n' c' => Lib.run_eql_slice_nil w _ _ a n c n' c' Try.underlying36
  go_enter Try.func16, Try.ntmps16
  go_wp2
  go_ret
  exact ⟨none, [], rfl, rfl, Or.inl ⟨rfl, rfl⟩, (fun j v hj => by cases hj), Below.refl _ _, by simp [blkOf]⟩

theorem made_rowV {w w1 : World} {e : TypeId} {n : Nat} {z : Value} (hn : n ≤ maxLen) (hz : z.cells = #[z]) (h : w1.ownsRow w.heap.size e 1 (.slice (some ⟨w.heap.size, 0, none⟩) n n) n (madeCells z.cells (n * 1)).toList) (hg : w.grownBy w1 none) :
    Hid (RowV w1 w.heap.size e 1 n (List.replicate n z)) ∧ Hid (Below w.heap.size w w1) := by
  rw [hz, Nat.mul_one, toList_madeCells_one] at h
  obtain ⟨_, ⟨h0, _⟩ | ⟨g, cap, cur, e2, _, hb, h1, h2, hs, ht⟩⟩ := h
  · cases h0
  · simp at e2
    obtain ⟨rfl, rfl⟩ := e2
    exact ⟨⟨cur, hb, by simp, hn, by simpa using hs, by simpa using ht⟩, ⟨hg.os, hg.tape, hg.output, hg.size, fun k hk => hg.block k hk (by simp)⟩⟩

theorem fill_nextV {X Y : List Value} {n k : Nat} {z x : Value} (hX : X.length = k) (hk : k < n) : (X ++ List.replicate (n - k) z).set k x = (X ++ [x]) ++ List.replicate (n - (k + 1)) z := by
  have e : n - k = (n - (k + 1)) + 1 := by omega
  rw [e, List.replicate_succ, List.set_append_right _ _ (by omega)]
  simp [hX]

set_option maxHeartbeats 2000000 in
theorem cloneS_row (ad : Addr) (c : Nat) (xs : List (Value × List Value)) (w : World) (hs : SrcV w ad (xs.map (·.1))) (hx : ∀ x ∈ xs, InV w x.1 x.2 ∧ (∀ u ∈ x.2, u.oneCell' = true)) (hlen : xs.length ≤ 1048576) (hl2 : ∀ x ∈ xs, x.2.length ≤ 1048576) (hc : xs.length ≤ c) :
    Calls Try.prog 16 #[.slice (some ad) xs.length c] w (CloneVV xs w) := by
  have qT : ∀ (w : World) (a : Option Addr) (n c n' c' : Nat), (binOp .eql 36 (.slice a n c) (.slice none n' c')).run Try.prog w = .ok (.bool a.isNone) w := fun w a n c n' c' => Lib.run_eql_slice_nil w _ _ a n c n' c' Try.underlying36
  have HS : Hid (SrcV w ad (xs.map (·.1))) := hs
  have HX : Hid (∀ x ∈ xs, InV w x.1 x.2 ∧ (∀ u ∈ x.2, u.oneCell' = true)) := hx
  have HL : Hid (∀ x ∈ xs, x.2.length ≤ 1048576) := hl2
  clear hs hx hl2
  obtain ⟨i0, hi, hz0, hz1, hz2⟩ := info_parts Try.info24'
  go_enter Try.func16, Try.ntmps16
  go_wp2_with (at_make; refine wpList_make_full _ rfl _ _ 36 rfl w.heap.size 24 i0 (.slice none 0 0) 1 Try.underlying36 hi hz0 hz1 .i64 .i64 _ _ xs.length rfl rfl rfl rfl (by rw [hz2]; omega) (by unfold maxLen; omega) (Nat.le_refl _) ?_; intro w1 hown hg1; obtain ⟨R1, B1⟩ := made_rowV (by unfold maxLen; omega) rfl hown hg1; clear hown hg1)
  go_loopw [4] (fun i wr => ∃ (k : Nat) (done : List Value), k ≤ xs.length ∧ i = .int .i64 k ∧ done.length = k ∧ RowV wr w.heap.size 24 1 xs.length (done ++ List.replicate (xs.length - k) (.slice none 0 0)) ∧ HoldsOK wr (w.heap.size + 1) done xs ∧ Below w.heap.size w wr) (fun i _ => xs.length - (intOf i).toNat)
  case atStart => exact ⟨0, [], Nat.zero_le _, rfl, rfl, by simpa using R1.out, (fun j v hj => by cases hj), B1.out⟩
  case round =>
    obtain ⟨k, done, hk, rfl, hdl, hr, hok, hb⟩ := hrel
    have HR : Hid (RowV wr w.heap.size 24 1 xs.length (done ++ List.replicate (xs.length - k) (.slice none 0 0))) := hr
    have HO : Hid (HoldsOK wr (w.heap.size + 1) done xs) := hok
    have HB : Hid (Below w.heap.size w wr) := hb
    have HDL : Hid (done.length = k) := hdl
    by_cases hlt : k < xs.length
    · obtain ⟨x, hxk⟩ : ∃ x, xs[k]? = some x := ⟨_, List.getElem?_eq_getElem hlt⟩
      have hmem := List.mem_of_getElem? hxk
      have HXK : Hid (xs[k]? = some x) := hxk
      have cx : wr.cell? (ad.add k) = some x.1 := HS.out.below hb (Nat.le_refl _) k x.1 (by rw [List.getElem?_map, hxk]; rfl)
      have hin := (HX.out x hmem).1.below hb (Nat.le_refl _)
      have hltI : (k : Int) < (xs.length : Int) := by omega
      have hl := HL.out x hmem
      obtain ⟨av, cv, exv⟩ : ∃ av cv, x.1 = .slice av x.2.length cv := by
        obtain ⟨e, e2⟩ | ⟨a, c, e, _⟩ := hin
        · exact ⟨none, 0, by rw [e2]; exact e⟩
        · exact ⟨some a, c, e⟩
      rw [exv] at cx hin
      have hcl := cloneU_any av x.2.length cv x.2 wr rfl hin (HX.out x hmem).2 hl
      have HCL : Hid (Calls Try.prog 11 #[.slice av x.2.length cv] wr (CloneV 32 av x.2 wr)) := hcl
      have cz : wr.cell? ⟨w.heap.size, k, none⟩ = some (.slice none 0 0) := hr.cell (by rw [List.getElem?_append_right (by omega), List.getElem?_replicate, if_pos (by omega)])
      have hsz := hr.lt
      have HNB : Hid (nilB x.1 = av.isNone) := by rw [exv]; cases av <;> rfl
      clear hr hok hb hdl hcl hin hxk hmem exv
      go_wp2_with fail
      refine HCL.out.mono ?_
      rintro e w2 ⟨va, rfl, hnil, own2, b2, blk2⟩
      have HH : Hid (va.isNone = av.isNone ∧ OwnV w2 (.slice va x.2.length x.2.length) 32 x.2 ∧ Below wr.heap.size wr w2 ∧ (∀ g, blkOf (.slice va x.2.length x.2.length) = some g → g = wr.heap.size)) := ⟨hnil, own2, b2, blk2⟩
      have cz2 : w2.cell? ⟨w.heap.size, k, none⟩ = some (.slice none 0 0) := by rw [b2.cell (p := ⟨w.heap.size, k, none⟩) hsz]; exact cz
      have cf2 : w2.frozen? ⟨w.heap.size, k, none⟩ = false := by rw [b2.frozen (p := ⟨w.heap.size, k, none⟩) hsz]; exact HR.out.frozen k
      clear hnil own2 b2 blk2
      go_wp2
      go_roundw
      case rel =>
        obtain ⟨hnil, own2, b2, blk2⟩ := HH.out
        refine ⟨k + 1, done ++ [.slice va x.2.length x.2.length], by omega, by go_num, by simp [HDL.out], ?_, ?_, ?_⟩
        · rw [← fill_nextV (Y := []) HDL.out hlt]
          exact (HR.out.of_block (b2.block _ hsz)).set k _ (by simp [HDL.out]; omega)
        · intro j v hj
          by_cases hjk : j < k
          · rw [List.getElem?_append_left (by rw [HDL.out]; exact hjk)] at hj
            obtain ⟨y, hy1, hy2, hy3⟩ := HO.out j v hj
            refine ⟨y, hy1, hy2.of_blocks (fun g hg => ?_), hy3⟩
            rw [Below.heap_setCell _ _ _ _ (by show g ≠ w.heap.size; have := hy3 g hg; omega)]
            exact b2.block g (hy2.own.lt hg)
          · have hjl : j < (done ++ [Value.slice va x.2.length x.2.length]).length := (List.getElem?_eq_some_iff.1 hj).1
            simp [HDL.out] at hjl
            obtain rfl : j = k := by omega
            rw [List.getElem?_append_right (by rw [HDL.out]; exact Nat.le_refl _), HDL.out] at hj
            simp at hj
            subst hj
            refine ⟨x, HXK.out, ⟨⟨va, rfl⟩, own2.of_blocks (fun g hg => Below.heap_setCell _ _ _ _ (by have := blk2 g hg; show g ≠ w.heap.size; omega)), ?_⟩, fun g hg => by have := blk2 g hg; omega⟩
            rw [HNB.out, ← hnil]; cases va <;> rfl
        · exact (HB.out.trans (b2.mono HB.out.size)).setCell (Nat.le_refl _) _
      case measure => simp [intOf]; omega
    · have hltI : ¬ (k : Int) < (xs.length : Int) := by omega
      have hke : k = xs.length := by omega
      have HR2 : Hid (RowV wr w.heap.size 24 1 xs.length done) := by
        have := hr
        rw [hke] at this
        simpa [Hid] using this
      have HDX : Hid (done.length = xs.length) := by rw [HDL.out]; exact hke
      clear hr hok hb hdl hke
      go_wp2
      go_ret
      refine ⟨some ⟨w.heap.size, 0, none⟩, done, rfl, HDX.out, Or.inr ⟨w.heap.size, xs.length, by rw [HDX.out], HR2.out⟩, HO.out, HB.out, by intro g hg; simp [blkOf] at hg; exact hg.symm⟩

theorem cloneS_any (a : Option Addr) (n c : Nat) (xs : List (Value × List Value)) (w : World) (hn : n = xs.length) (h : InVV w (.slice a n c) xs) (hlen : xs.length ≤ 1048576) (hl2 : ∀ x ∈ xs, x.2.length ≤ 1048576) :
    Calls Try.prog 16 #[.slice a n c] w (CloneVV xs w) := by
  subst hn
  obtain ⟨⟨e, e2⟩ | ⟨ad, c', e, hc, h2⟩, hx⟩ := h
  · obtain rfl : xs = [] := by simpa using e2
    simp at e
    obtain ⟨rfl, rfl⟩ := e
    exact cloneS_nil w
  · simp at e hc
    obtain ⟨rfl, rfl⟩ := e
    exact cloneS_row ad c xs w h2 hx hlen hl2 hc

end Go.Proofs.Qxb6616962a

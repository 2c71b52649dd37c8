import Derived.Test.Qxb6616577aDoorRead
import Derived.Lib.SliceRun
/-! zzCloneBytes (10), ZZreadAt (12), the bound on the lengths (9). -/
namespace Go.Proofs.Qxb6616577aDoor
open Go.RowKit Go.MuLone
set_option linter.unusedVariables false
set_option linter.unusedSimpArgs false
set_option maxRecDepth 8000

section
variable {ops : Array Oper} {rest : List Oper} {o : Oper} {a : Act} {Q : Exit → Act → World → Prop} (w : World)

/-- 'make([]byte, n)'. -/
theorem wp_mk (hg : o.guard = none) (l c : Operand) (hop : o.op = Op.makeSlice 23 l c) (n : Nat) (hl : a.eval l = .int .i64 (n : Int)) (hc : a.eval c = .int .i64 (n : Int)) (hn : n ≤ 1000000)
    (hK : ∀ w', RowB w' w.heap.size n (List.replicate n 0) → Below w.heap.size w w' → wpList Tryd.prog ops Q rest (a.put o.dst (.slice (some ⟨w.heap.size, 0, none⟩) n n)) w') :
    wpList Tryd.prog ops Q (o :: rest) a w := by
  obtain ⟨i0, hi, hz0, hz1, hz2⟩ := info_parts Tryd.info5
  refine wpList_make_full w hg l c 23 hop w.heap.size 5 i0 (.int .u8 0) 1 Tryd.underlying23 hi hz0 hz1 .i64 .i64 _ _ n hl hc rfl rfl (by rw [hz2]; omega) (by unfold maxLen; omega) (Nat.le_refl _) ?_
  intro w' h1 h2
  refine hK w' ?_ ⟨h2.os, h2.tape, h2.output, h2.size, fun k hk => h2.block k hk (by simp)⟩
  have e : (madeCells (Value.int .u8 0).cells (n * 1)).toList = (List.replicate n (0 : Int)).map (Value.int .u8) := by
    rw [List.map_replicate, Nat.mul_one]
    exact toList_madeCells_one _ _
  rw [e] at h1
  obtain ⟨g, cap, hv, hb, hr⟩ := RowB.of_owns h1 (by simp)
  simp at hv
  obtain ⟨rfl, -, rfl⟩ := hv
  exact hr
end

/-- How zzCloneBytes ends. -/
def ClonePost (X : List Int) (w : World) (e : Ending) (w' : World) : Prop :=
  ∃ va vc, e = .returned (.slice va X.length vc) ∧ DataAt w' (.slice va X.length vc) X ∧ Below w.heap.size w w' ∧ (∀ g, rowOf (.slice va X.length vc) = some g → g = w.heap.size)

theorem clone_nil (w : World) : Calls Tryd.prog 10 #[.slice none 0 0] w (ClonePost [] w) := by
  have q23 : ∀ (w : World) (a : Option Addr) (n c n' c' : Nat), (binOp .eql 23 (.slice a n c) (.slice none n' c')).run Tryd.prog w = .ok (.bool a.isNone) w := fun w a n c n' c' => Lib.run_eql_slice_nil w _ _ a n c n' c' Tryd.underlying23
  go_enter Tryd.func10, Tryd.ntmps10
  go_wp2
  go_ret
  exact ⟨none, 0, rfl, Or.inl ⟨rfl, rfl⟩, Below.refl _ _, by simp [rowOf]⟩

theorem fill_next {X : List Int} {k : Nat} {x : Int} (hx : X[k]? = some x) : (X.take k ++ List.replicate (X.length - k) 0).set k x = X.take (k + 1) ++ List.replicate (X.length - (k + 1)) 0 := by
  have hk : k < X.length := (List.getElem?_eq_some_iff.1 hx).1
  have e : X.length - k = (X.length - (k + 1)) + 1 := by omega
  rw [e, List.replicate_succ, List.set_append_right _ _ (by simp; omega), List.take_add_one, hx]
  have : k - (X.take k).length = 0 := by simp; omega
  rw [this]
  simp

set_option maxHeartbeats 1000000 in
theorem clone_row (ad : Addr) (c : Nat) (X : List Int) (w : World) (hs : SrcB w ad X) (hlen : X.length ≤ 1000000) (hc : X.length ≤ c) :
    Calls Tryd.prog 10 #[.slice (some ad) X.length c] w (ClonePost X w) := by
  have HS : Hid (SrcB w ad X) := hs
  clear hs
  have q23 : ∀ (w : World) (a : Option Addr) (n c n' c' : Nat), (binOp .eql 23 (.slice a n c) (.slice none n' c')).run Tryd.prog w = .ok (.bool a.isNone) w := fun w a n c n' c' => Lib.run_eql_slice_nil w _ _ a n c n' c' Tryd.underlying23
  go_enter Tryd.func10, Tryd.ntmps10
  go_wp2_with (at_make; refine wp_mk _ rfl _ _ rfl X.length rfl rfl hlen ?_; intro w1 hr1 hb1; have HR1 : Hid (RowB w1 w.heap.size X.length (List.replicate X.length 0)) := hr1; have HB1 : Hid (Below w.heap.size w w1) := hb1; clear hr1 hb1)
  go_loopw [4] (fun i wr => ∃ k : Nat, k ≤ X.length ∧ i = .int .i64 k ∧ RowB wr w.heap.size X.length (X.take k ++ List.replicate (X.length - k) 0) ∧ Below w.heap.size w wr) (fun i _ => X.length - (intOf i).toNat)
  case atStart => exact ⟨0, Nat.zero_le _, rfl, by simpa using HR1.out, HB1.out⟩
  case round =>
    obtain ⟨k, hk, rfl, hr, hb⟩ := hrel
    have HB : Hid (Below w.heap.size w wr) := hb
    have HR : Hid (RowB wr w.heap.size X.length (X.take k ++ List.replicate (X.length - k) 0)) := hr
    by_cases hlt : k < X.length
    · obtain ⟨x, hx⟩ : ∃ x, X[k]? = some x := ⟨_, List.getElem?_eq_getElem hlt⟩
      have HX : Hid (X[k]? = some x) := hx
      have hB : ad.block < w.heap.size := HS.out.lt (by omega)
      have cx := HS.out.below hb hB k x hx
      have hz : (X.take k ++ List.replicate (X.length - k) 0)[k]? = some (0 : Int) := by
        rw [List.getElem?_append_right (by simp; omega), List.getElem?_replicate, if_pos (by simp; omega)]
      have cz := hr.cell hz
      have fz := hr.frozen k
      have hltI : (k : Int) < (X.length : Int) := by omega
      clear hx hz hr hb
      go_wp2
      go_roundw
      case rel =>
        refine ⟨k + 1, by omega, by go_num, ?_, HB.out.setCell (Nat.le_refl _) _⟩
        rw [← fill_next HX.out]
        exact HR.out.set k x (by simp; omega)
      case measure => simp [intOf]; omega
    · have hltI : ¬ (k : Int) < (X.length : Int) := by omega
      have hke : k = X.length := by omega
      have HR2 : Hid (RowB wr w.heap.size X.length X) := by
        have := hr
        rw [hke] at this
        simpa [Hid] using this
      clear hr hb hke
      go_wp2
      go_ret
      exact ⟨some ⟨w.heap.size, 0, none⟩, X.length, rfl, Or.inr ⟨_, _, rfl, HR2.out⟩, HB.out, by intro g hg; simp [rowOf] at hg; exact hg.symm⟩

/-- ZZreadAt. -/
theorem zzread_row (bm bn bf : Nat) (name : ByteArray) (r wr cl : Bool) (dv : Value) (D : List Int) (pa : Option Addr) (cp : Nat) (P : List Int) (off : Int) (w : World)
    (hG : Globs w) (hf : FileAt w bm bn bf name r wr cl dv) (hd : DataAt w dv D) (hp : DataAt w (.slice pa P.length cp) P) (n1 : ∀ a, pa = some a → a.block ≠ bm ∧ 4 ≤ a.block) (n5 : 4 ≤ bm)
    (hDl : D.length ≤ 1000000) (hPl : P.length ≤ 1000000) (hapart : ∀ gd, rowOf dv = some gd → some gd ≠ rowOf (.slice pa P.length cp) ∧ gd ≠ bm) :
    Calls Tryd.prog 12 #[.pointer (some ⟨bf, 0, none⟩), .slice pa P.length cp, .int .i64 off] w (ReadPost (okC cl r off) D P off (.slice pa P.length cp) w) := by
  have h := read_row bm bn bf name r wr cl dv D pa cp P off w hG hf hd hp n1 n5 hDl hPl hapart
  clear hG hf hd hp n1 n5 hapart
  go_enter Tryd.func12, Tryd.ntmps12
  go_wp2_with fail
  refine h.mono ?_
  rintro e w' ⟨h1, h2, (⟨h3, rfl⟩ | ⟨h3, t, a, rfl⟩)⟩
  · have H1 : Hid _ := h1
    have H2 : Hid _ := h2
    have H3 : Hid _ := h3
    clear h1 h2 h3
    go_wp2
    go_ret2
    exact ⟨H1.out, H2.out, Or.inl ⟨H3.out, rfl⟩⟩
  · have H1 : Hid _ := h1
    have H2 : Hid _ := h2
    have H3 : Hid _ := h3
    clear h1 h2 h3
    go_wp2
    go_ret2
    exact ⟨H1.out, H2.out, Or.inr ⟨H3.out, t, a, rfl⟩⟩

/-- The bound on the lengths. -/
theorem guard9 (nm : ByteArray) (da pa : Option Addr) (dn dc pn pc : Nat) (r wr cl : Bool) (k off : Int) (w : World) (hd : dn ≤ dc ∧ dc ≤ maxLen) (hp : pn ≤ pc ∧ pc ≤ maxLen) (hnm : nm.size ≤ maxLen) :
    Calls Tryd.prog 9 #[.string nm, .slice da dn dc, .bool r, .bool wr, .bool cl, .slice pa pn pc, .int .i64 k, .int .i64 off] w (fun e w' => e = .returned (.bool (decide (nm.size + dn + pn ≤ 1048576))) ∧ w = w') := by
  unfold maxLen at hd hp hnm
  by_cases h1 : nm.size ≤ 1048576
  · by_cases h2 : nm.size + dn ≤ 1048576
    · by_cases h3 : nm.size + dn + pn ≤ 1048576
      · have HO : Hid (decide (nm.size + dn + pn ≤ 1048576) = true) := by simp [Hid]; omega
        go_enter Tryd.func9, Tryd.ntmps9
        go_wp2
        go_ret
        exact ⟨by rw [HO.out]; rfl, rfl⟩
      · have HO : Hid (decide (nm.size + dn + pn ≤ 1048576) = false) := by simp [Hid]; omega
        by_cases h4 : pn ≤ 1048576
        · go_enter Tryd.func9, Tryd.ntmps9
          go_wp2
          go_ret
          exact ⟨by rw [HO.out]; rfl, rfl⟩
        · go_enter Tryd.func9, Tryd.ntmps9
          go_wp2
          go_ret
          exact ⟨by rw [HO.out]; rfl, rfl⟩
    · have HO : Hid (decide (nm.size + dn + pn ≤ 1048576) = false) := by simp [Hid]; omega
      by_cases h4 : dn ≤ 1048576
      · go_enter Tryd.func9, Tryd.ntmps9
        go_wp2
        go_ret
        exact ⟨by rw [HO.out]; rfl, rfl⟩
      · go_enter Tryd.func9, Tryd.ntmps9
        go_wp2
        go_ret
        exact ⟨by rw [HO.out]; rfl, rfl⟩
  · have HO : Hid (decide (nm.size + dn + pn ≤ 1048576) = false) := by simp [Hid]; omega
    go_enter Tryd.func9, Tryd.ntmps9
    go_wp2
    go_ret
    exact ⟨by rw [HO.out]; rfl, rfl⟩

end Go.Proofs.Qxb6616577aDoor

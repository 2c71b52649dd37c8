import Derived.Test.Qxb6616962aDel
/-! slices.DeleteFunc (36). -/
namespace Go.Proofs.Qxb6616962a
open Go.RowKit
set_option linter.unusedVariables false
set_option linter.unusedSimpArgs false
set_option maxRecDepth 8000

/-- The list without p. -/
def wo (p : Int) (xs : List Int) : List Int := xs.filter (fun x => !decide (x = p))

theorem wo_le (p : Int) (xs : List Int) : (wo p xs).length ≤ xs.length := List.length_filter_le _ _
theorem wo_none (p : Int) (xs : List Int) (h : p ∉ xs) : wo p xs = xs := by
  unfold wo
  rw [List.filter_eq_self]
  intro x hx
  simp
  intro e
  exact h (e ▸ hx)
theorem wo_take (p x : Int) (xs : List Int) (k : Nat) (hx : xs[k]? = some x) : wo p (xs.take (k + 1)) = if x = p then wo p (xs.take k) else wo p (xs.take k) ++ [x] := by
  unfold wo
  rw [List.take_add_one, hx]
  simp [List.filter_append]
  split <;> simp_all

theorem zero3 (w : World) : (zeroValue 3).run Try.prog w = .ok (.int .i64 0) w := by kernel_rfl

def DelPost (w : World) (actV : Value) (p : Int) (xs : List Int) (e : Ending) (w' : World) : Prop :=
  ∃ v', e = .returned v' ∧ OwnV w' v' 3 ((wo p xs).map (Value.int .i64)) ∧ blkOf v' = blkOf actV ∧ Chg w w' (fun q => blkOf actV = some q)

structure DR (w wr : World) (g c : Nat) (p : Int) (xs ys : List Int) (k : Nat) : Prop where
  row : RowV wr g 3 1 c (ys.map (Value.int .i64))
  len : ys.length = xs.length
  lt : (wo p (xs.take k)).length < k
  pre : ys.take (wo p (xs.take k)).length = wo p (xs.take k)
  post : ys.drop k = xs.drop k
  chg : Chg w wr (fun q => some g = some q)

theorem DR.skip {w wr : World} {g c : Nat} {p : Int} {xs ys : List Int} {k : Nat} (h : DR w wr g c p xs ys k) (hx : xs[k]? = some p) : DR w wr g c p xs ys (k + 1) := by
  have e := wo_take p p xs k hx
  rw [if_pos rfl] at e
  refine ⟨h.row, h.len, ?_, ?_, ?_, h.chg⟩
  · rw [e]; have := h.lt; omega
  · rw [e]; exact h.pre
  · have := congrArg (List.drop 1) h.post
    simpa [List.drop_drop, Nat.add_comm] using this

theorem DR.keep {w wr : World} {g c : Nat} {p x : Int} {xs ys : List Int} {k : Nat} (h : DR w wr g c p xs ys k) (hx : xs[k]? = some x) (hne : ¬ x = p) (hk : k < xs.length) : DR w (wr.setCell ⟨g, (wo p (xs.take k)).length, none⟩ (.int .i64 x)) g c p xs (ys.set (wo p (xs.take k)).length x) (k + 1) ∧ (wo p (xs.take (k + 1))).length = (wo p (xs.take k)).length + 1 := by
  have e := wo_take p x xs k hx
  rw [if_neg hne] at e
  have hl := h.lt
  have hlen := h.len
  refine ⟨⟨?_, by simpa using h.len, ?_, ?_, ?_, h.chg.trans (Chg.set _ _ rfl)⟩, by rw [e]; simp⟩
  · have := h.row.set (wo p (xs.take k)).length (.int .i64 x) (by simp; omega)
    rwa [← List.map_set] at this
  · rw [e]; simp; omega
  · rw [e]
    simp only [List.length_append, List.length_cons, List.length_nil]
    rw [List.take_add_one, List.take_set, h.pre, List.set_eq_of_length_le (Nat.le_refl _)]
    simp
    exact List.getElem?_set_self (by omega)
  · rw [List.drop_set_of_lt (by omega)]
    have := congrArg (List.drop 1) h.post
    simpa [List.drop_drop, Nat.add_comm] using this

set_option maxHeartbeats 4000000 in
theorem del36 (vb : Nat) (p : Int) (actV : Value) (xs : List Int) (w : World) (h : w.cell? ⟨vb, 0, none⟩ = some (.int .i64 p)) (hin : OwnV w actV 3 (xs.map (Value.int .i64))) (hl : xs.length ≤ 1048576) (hvb : blkOf actV ≠ some vb) : Calls Try.prog 36 #[actV, cloV vb] w (DelPost w actV p xs) := by
  obtain ⟨a, c, rfl, hlc, hcm⟩ := hin.len
  simp only [List.length_map] at hlc
  rw [List.length_map]
  rw [List.length_map] at hin hvb
  have HI : Hid (OwnV w (.slice a xs.length c) 3 (xs.map (Value.int .i64))) := hin
  clear hin
  have hidx := idx38 vb p a c xs w h HI.out.inV hl
  have HV : Hid (blkOf (.slice a xs.length c) ≠ some vb) := hvb
  clear hvb
  unfold maxLen at hcm
  unfold cloV at hidx ⊢
  go_enter Try.func36, Try.ntmps36
  go_wp2_with fail
  refine hidx.mono ?_
  rintro e w' ⟨rfl, ⟨rfl, hno⟩ | ⟨k0, rfl, hk0, hp0, hno0⟩⟩
  · have HNO : Hid (p ∉ xs) := hno
    clear hno
    go_wp2
    go_ret
    exact ⟨_, rfl, by rw [wo_none p xs HNO.out]; exact HI.out, rfl, Chg.refl _ _⟩
  · obtain ⟨g, rfl, HR⟩ : ∃ g, a = some ⟨g, 0, none⟩ ∧ Hid (RowV w' g 3 1 c (xs.map (Value.int .i64))) := by
      obtain ⟨e, e2⟩ | ⟨g, c', e, hr⟩ := HI.out
      · have : xs.length = 0 := by simpa using congrArg List.length e2
        omega
      · simp at e
        obtain ⟨rfl, rfl⟩ := e
        exact ⟨g, rfl, hr⟩
    have hgv : g ≠ vb := fun e => HV.out (by rw [e]; rfl)
    have HD0 : Hid (DR w' w' g c p xs xs (k0 + 1)) := by
      have e := wo_take p p xs k0 hp0
      rw [if_pos rfl, wo_none p _ hno0] at e
      refine ⟨HR.out, rfl, ?_, ?_, rfl, Chg.refl _ _⟩
      · rw [e]; simp; omega
      · rw [e]; simp
    have HE0 : Hid ((wo p (xs.take (k0 + 1))).length = k0) := by
      have e := wo_take p p xs k0 hp0
      rw [if_pos rfl, wo_none p _ hno0] at e
      rw [e, Hid]
      simp
      omega
    clear hp0 hno0
    have hk1 : ¬ ((k0 : Int) = -1) := by omega
    go_wp2_with fail
    go_loopw [5, 6] (fun i j wr => ∃ (k : Nat) (ys : List Int), k ≤ xs.length ∧ j = .int .i64 k ∧ i = .int .i64 ((wo p (xs.take k)).length : Int) ∧ DR w' wr g c p xs ys k) (fun _ j _ => xs.length - (intOf j).toNat)
    case atStart => exact ⟨k0 + 1, xs, by omega, by go_num, by rw [HE0.out], HD0.out⟩
    case round =>
      obtain ⟨k, ys, hk, rfl, rfl, hd⟩ := hrel
      have HD : Hid (DR w' wr g c p xs ys k) := hd
      have hil := hd.lt
      have hyl : Hid (ys.length = xs.length) := hd.len
      have hcv : wr.cell? ⟨vb, 0, none⟩ = some (.int .i64 p) := (World.cell?_of_block (w := w') (hd.chg.block _ (World.block_lt_of_cell? _ _ h) (by show ¬ some g = some vb; simpa using hgv))).trans h
      clear hd
      obtain ⟨i, hi⟩ : ∃ i, Hid (i = (wo p (xs.take k)).length) := ⟨_, rfl⟩
      rw [← hi.out] at hil ⊢
      by_cases hlt : k < xs.length
      · obtain ⟨x, hx⟩ : ∃ x, xs[k]? = some x := ⟨_, List.getElem?_eq_getElem hlt⟩
        have hltI : (k : Int) < (xs.length : Int) := by omega
        have hiI : (i : Int) < (xs.length : Int) := by omega
        have HX : Hid (xs[k]? = some x) := hx
        have cx : wr.cell? ⟨g, k, none⟩ = some (.int .i64 x) := by
          refine HD.out.row.cell ?_
          have e1 : (ys.drop k)[0]? = (xs.drop k)[0]? := by rw [HD.out.post]
          simp only [List.getElem?_drop, Nat.add_zero] at e1
          rw [List.getElem?_map, e1, hx]
          rfl
        have ci : ∃ y, wr.cell? ⟨g, i, none⟩ = some (.int .i64 y) := by
          have hlt2 : i < ys.length := by rw [hyl.out]; omega
          exact ⟨ys[i], HD.out.row.cell (by rw [List.getElem?_map, List.getElem?_eq_getElem hlt2]; rfl)⟩
        obtain ⟨y, ci⟩ := ci
        have cf := HD.out.row.frozen i
        clear hx
        go_wp2_with fail
        refine (clo37 vb x p _ hcv).mono ?_
        rintro e w2 ⟨rfl, rfl⟩
        by_cases hxp : x = p
        · have hd : decide (x = p) = true := by simpa using hxp
          rw [hd]
          go_wp2
          go_roundw
          case rel =>
            refine ⟨_, _, _, _, _, _, _, _, _, _, _, _, _, _, _, _, _, _, _, _, _, _, _, ?_, rfl⟩
            refine ⟨k + 1, ys, by omega, by go_num, ?_, HD.out.skip (by rw [HX.out, hxp])⟩
            rw [wo_take p x xs k HX.out, if_pos hxp, ← hi.out]
          case measure => simp [intOf]; omega
        · have hd : decide (x = p) = false := by simpa using hxp
          rw [hd]
          go_wp2
          go_roundw
          case rel =>
            obtain ⟨k1, k2⟩ := HD.out.keep HX.out hxp hlt
            rw [← hi.out] at k1 k2
            refine ⟨_, _, _, _, _, _, _, _, _, _, _, _, _, _, _, _, _, _, _, _, _, _, _, ?_, rfl⟩
            refine ⟨k + 1, ys.set i x, by omega, by go_num, ?_, k1⟩
            rw [k2]
            go_num
          case measure => simp [intOf]; omega
      · obtain rfl : k = xs.length := by omega
        have hltI : ¬ (xs.length : Int) < (xs.length : Int) := by omega
        have hcl : ∀ ty, (Builtin.clear_ #[23] ty #[.slice (some ⟨g, i, none⟩) (xs.length - i) (c - i)]).run Try.prog wr = .ok (.tuple #[]) (wr.setCells g i (List.replicate (xs.length - i) (.int .i64 0))) := by
          intro ty
          refine Lib.run_clear_slice wr 23 3 ty (.int .i64 0) Try.underlying23 (fun _ => ?_) rfl rfl g i _ _ (by omega) ?_ ?_
          · exact zero3 _
          · intro j hj
            have hlt2 : i + j < ys.length := by rw [hyl.out]; omega
            rw [HD.out.row.cell (x := .int .i64 ys[i + j]) (by rw [List.getElem?_map, List.getElem?_eq_getElem hlt2]; rfl)]
            rfl
          · intro j hj
            exact HD.out.row.frozen _
        have hne : ¬ c = i := by omega
        have b1 : (i : Int) ≤ (xs.length : Int) := by omega
        have b2 : (i : Int) ≤ (c : Int) := by omega
        go_wp2
        go_ret
        have e1 : xs.take xs.length = xs := List.take_of_length_le (Nat.le_refl _)
        have e2 : i = (wo p xs).length := by rw [hi.out, e1]
        have e3 : ys.take (wo p xs).length = wo p xs := by have := HD.out.pre; rwa [e1] at this
        refine ⟨_, rfl, Or.inr ⟨g, c, ?_, ?_⟩, rfl, HD.out.chg.trans (Chg.sets (by rfl) _ _ _)⟩
        · rw [e2]; simp
        · refine RowV.sets_beyond _ _ _ ?_ (by simp; omega)
          have := HD.out.row.take (wo p xs).length
          rwa [← List.map_take, e3] at this

end Go.Proofs.Qxb6616962a

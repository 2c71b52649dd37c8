import Derived.Test.Qxb6619061aFmtRow
/-! openElement (34), closeElement (36), appendElement (31), element (26). -/
namespace Go.Proofs.Qxb6619061aFmt
open Go.RowKit
set_option linter.unusedVariables false
set_option linter.unusedSimpArgs false

/-- How a call ends that hands back a new row of bytes. -/
def GivesB (bs : List Int) (w : World) (e : Ending) (w' : World) : Prop :=
  ∃ g cap, e = .returned (.slice (some ⟨g, 0, none⟩) bs.length cap) ∧ w.heap.size ≤ g ∧ RowB w' g cap bs ∧ Below w.heap.size w w'

def OpenPost (tag : Int) (w : World) (e : Ending) (w' : World) : Prop :=
  ∃ g cap, e = .returned (.tuple #[.slice (some ⟨g, 0, none⟩) 2 cap, .int .i64 2]) ∧ w.heap.size ≤ g ∧ RowB w' g cap [tag, 0] ∧ Below w.heap.size w w'

set_option maxHeartbeats 400000 in
theorem open_any (tag : Int) (w : World) : Calls Tryf.prog 34 #[.slice none 0 0, .int .u8 tag] w (OpenPost tag w) := by
  have r0 := RowB.lit w #[.int .u8 tag, .int .u8 0] [tag, 0] rfl (by simp [maxLen])
  have HS : Hid (SrcB (w.alloc (.cells #[.int .u8 tag, .int .u8 0] 5)) ⟨w.heap.size, 0, none⟩ [tag, 0]) := r0.src
  clear r0
  go_enter Tryf.func34, Tryf.ntmps34
  go_wp2_with (at_builtin; refine wp_app_nil _ rfl _ _ rfl w.heap.size rfl ⟨w.heap.size, 0, none⟩ 2 2 [tag, 0] rfl rfl (by simp) HS.out (by simp) (by simp) ?_)
  intro g cap w1 hg hrow hgr
  have HB : Hid (Below w.heap.size w w1) := ((Below.refl _ w).alloc (Nat.le_refl _) _).grown hgr (by simp) (fun k hk => by cases hk)
  have HR : Hid (RowB w1 g cap [tag, 0]) := hrow
  clear hgr hrow
  go_wp2
  go_ret2
  exact ⟨g, cap, rfl, hg, HR.out, HB.out⟩

set_option maxHeartbeats 400000 in
theorem close_any (g cap : Nat) (bs : List Int) (w : World) (hrow : RowB w g cap bs) (h2 : 2 ≤ bs.length) (h128 : bs.length - 2 < 128) :
    Calls Tryf.prog 36 #[.slice (some ⟨g, 0, none⟩) bs.length cap, .int .i64 2] w fun e w' => e = .returned (.slice (some ⟨g, 0, none⟩) bs.length cap) ∧ w.setCell ⟨g, 1, none⟩ (.int .u8 ((bs.length : Int) - 2)) = w' := by
  have hlt : (bs.length : Int) - 2 < 128 := by omega
  obtain ⟨x, hx⟩ : ∃ x, bs[1]? = some x := ⟨_, List.getElem?_eq_getElem (by omega)⟩
  have hc := hrow.cell hx
  have hf := hrow.frozen 1
  have hl := hrow.len
  unfold maxLen at hl
  have h1l : (1 : Int) < (bs.length : Int) := by omega
  clear hrow hx
  go_enter Tryf.func36, Tryf.ntmps36
  go_wp2
  go_ret
  exact ⟨rfl, rfl⟩

/-- The parts that are joined: each a slice of bytes that lies in memory. -/
def PartsAt (w : World) (pb : Nat) (ps : List (Value × List Int)) : Prop :=
  ∀ i v ns, ps[i]? = some (v, ns) → w.cell? ⟨pb, i, none⟩ = some v ∧ ∃ a c, v = .slice (some a) ns.length c ∧ a.block < w.heap.size ∧ SrcB w a ns

def joinP (ps : List (Value × List Int)) : List Int := (ps.map (·.2)).flatten

theorem joinP_next (ps : List (Value × List Int)) (k : Nat) (v : Value) (ns : List Int) (h : ps[k]? = some (v, ns)) : joinP (ps.take (k + 1)) = joinP (ps.take k) ++ ns := by
  rw [joinP, List.take_add_one, h]
  simp [joinP]

theorem joinP_le (ps : List (Value × List Int)) (k : Nat) : (joinP (ps.take k)).length ≤ (joinP ps).length := by
  have h : joinP ps = joinP (ps.take k) ++ joinP (ps.drop k) := by
    simp only [joinP, ← List.flatten_append, ← List.map_append, List.take_append_drop]
  rw [h, List.length_append]
  omega

/-- The element's bytes. -/
def elemB (tag : Int) (ns : List Int) : List Int := tag :: (ns.length : Int) :: ns

set_option maxHeartbeats 1000000 in
theorem appElem_some (tag : Int) (pb : Nat) (ps : List (Value × List Int)) (w : World) (hp : PartsAt w pb ps) (hlen : (joinP ps).length < 128) (hpl : ps.length ≤ 1000) :
    Calls Tryf.prog 31 #[.slice none 0 0, .int .u8 tag, .slice (some ⟨pb, 0, none⟩) ps.length ps.length] w (GivesB (elemB tag (joinP ps)) w) := by
  have HP : Hid (PartsAt w pb ps) := hp
  clear hp
  go_enter Tryf.func31, Tryf.ntmps31
  go_wp2_with fail
  refine (open_any tag _).mono ?_
  rintro e w1 ⟨g, cap, rfl, hg, hrow, hb⟩
  have HB : Hid (Below w.heap.size w w1) := hb
  have HR : Hid (RowB w1 g cap [tag, 0]) := hrow
  clear hb hrow
  go_wp2
  go_loopw [0, 18] (fun b i wr => ∃ (k g cap : Nat), k ≤ ps.length ∧ i = .int .i64 k ∧ b = .slice (some ⟨g, 0, none⟩) ([tag, 0] ++ joinP (ps.take k)).length cap ∧ w.heap.size ≤ g ∧ RowB wr g cap ([tag, 0] ++ joinP (ps.take k)) ∧ Below w.heap.size w wr) (fun _ i _ => ps.length - (intOf i).toNat)
  case atStart => exact ⟨0, g, cap, Nat.zero_le _, rfl, rfl, hg, HR.out, HB.out⟩
  case round =>
    clear HR HB hg
    obtain ⟨k, g, cap, hk, rfl, rfl, hg, hrow, hnx⟩ := hrel
    have hjl := joinP_le ps k
    by_cases hlt : k < ps.length
    · obtain ⟨⟨v, ns⟩, hvk⟩ : ∃ x, ps[k]? = some x := ⟨_, List.getElem?_eq_getElem hlt⟩
      obtain ⟨hcell0, a, c, rfl, hal, hsrc0⟩ := HP.out k v ns hvk
      have hcell := (hnx.cell (p := ⟨pb, k, none⟩) (World.block_lt_of_cell? _ _ hcell0)).trans hcell0
      have HS : Hid (SrcB wr a ns) := hsrc0.below hnx hal
      have HN : Hid (joinP (ps.take (k + 1)) = joinP (ps.take k) ++ ns) := joinP_next ps k _ ns hvk
      have hjl2 := joinP_le ps (k + 1)
      rw [HN.out, List.length_append] at hjl2
      have hltI : (k : Int) < (ps.length : Int) := by omega
      have HR : Hid (RowB wr g cap ([tag, 0] ++ joinP (ps.take k))) := hrow
      have HB : Hid (Below w.heap.size w wr) := hnx
      have hsz := hnx.size
      clear hcell0 hsrc0 hvk hrow hnx
      generalize hJ : joinP (ps.take k) = J at *
      go_wp2_with (at_builtin; refine wp_app _ rfl _ _ rfl w.heap.size g cap _ ([tag, 0] ++ J) rfl rfl HR.out hg a _ c ns rfl rfl HS.out (by simp; omega) hsz ?_)
      intro g' cap' w2 hg' hrow' hgr
      have HB2 : Hid (Below w.heap.size w w2) := HB.out.grown hgr hsz (fun j hj => by cases hj; exact hg)
      have HR2 : Hid (RowB w2 g' cap' ([tag, 0] ++ J ++ ns)) := hrow'
      clear hrow' hgr
      go_wp2
      go_roundw
      case rel => exact ⟨k + 1, g', cap', by omega, by go_num, by rw [HN.out]; simp, hg', by rw [HN.out, ← List.append_assoc]; exact HR2.out, HB2.out⟩
      case measure => simp [intOf]; omega
    · have hke : k = ps.length := by omega
      have hltI : ¬ (k : Int) < (ps.length : Int) := by omega
      have HJ : Hid (joinP (ps.take k) = joinP ps) := by rw [hke, List.take_length]; rfl
      have HR : Hid (RowB wr g cap ([tag, 0] ++ joinP (ps.take k))) := hrow
      have HB : Hid (Below w.heap.size w wr) := hnx
      clear hrow hnx hke
      generalize hJ : joinP (ps.take k) = J at *
      go_wp2_with fail
      refine (close_any g cap ([tag, 0] ++ J) wr HR.out (by simp) (by simp; omega)).mono ?_
      rintro e w2 ⟨rfl, rfl⟩
      go_wp2
      go_ret
      have hr2 := HR.out.set 1 (((([tag, 0] ++ J).length : Nat) : Int) - 2) (by simp)
      have e : ([tag, 0] ++ J).set 1 (((([tag, 0] ++ J).length : Nat) : Int) - 2) = elemB tag (joinP ps) := by
        rw [← HJ.out]
        simp [elemB]
        omega
      rw [e] at hr2
      refine ⟨g, cap, ?_, hg, hr2, HB.out.setCell hg _⟩
      rw [← HJ.out]
      simp [elemB]

end Go.Proofs.Qxb6619061aFmt

import Derived.Test.Qxb6616962aL00
/-! The law: passView drains the queue in order (5). -/
namespace Go.Proofs.Qxb6616962a
open Go.RowKit
set_option linter.unusedVariables false
set_option linter.unusedSimpArgs false
set_option maxRecDepth 8000

theorem run_mk37 (m : Nat) (hm : m ≤ 1048576) (w : World) : (Instr.makeSlice 37 (.int .i64 (m : Int)) (.int .i64 (m : Int))).run Try.prog w = .ok (.slice (some ⟨w.heap.size, 0, none⟩) m m) (w.alloc (.cells (madeCells (Value.bool false).cells (m * 1)) 4)) := by
  obtain ⟨i0, hi, hz0, hz1, hz2⟩ := info_parts Try.info4'
  have h := run_make (P := Try.prog) w 37 4 i0 _ Try.underlying37 hi hz0 .i64 .i64 (m : Int) (m : Int) (by omega) (Int.le_refl _) (by rw [hz2]; omega) (by omega)
  rw [hz1] at h
  simpa using h

theorem row_made4 (w : World) (n : Nat) (hn : n ≤ maxLen) : RowV (w.alloc (.cells (madeCells (Value.bool false).cells (n * 1)) 4)) w.heap.size 4 1 n (List.replicate n (.bool false)) := by
  have hl : (madeCells (Value.bool false).cells (n * 1)).toList = List.replicate n (.bool false) := by
    rw [show (Value.bool false).cells = #[.bool false] from rfl, Nat.mul_one, toList_madeCells_one]
  refine ⟨_, heap_alloc_new w _, by simp, hn, ?_, ?_⟩
  · rw [← Array.length_toList, hl]
    simp
  · rw [hl]
    simp

/-- What the rows of holds hold, whatever their length. -/
def HoldU (xs : List (Value × List Value)) : Prop := ∀ x ∈ xs, ∃ us : List Int, x.2 = us.map (Value.int .u64)

set_option maxHeartbeats 8000000 in
theorem law5 (sf : Int) (a1 a2 a3 a4 a5 a7 a8 : Option Addr) (c1 c2 c3 c4 c5 c7 c8 : Nat) (j : Bool) (xs : List (Value × List Value)) (acts ps us mem cuts : List Int) (bs : List Bool) (w : World)
    (I1 : InVV w (.slice a1 xs.length c1) xs) (I2 : InV w (.slice a2 acts.length c2) (acts.map (Value.int .i64))) (I3 : InV w (.slice a3 ps.length c3) (ps.map (Value.int .i64))) (I4 : InV w (.slice a4 us.length c4) (us.map (Value.int .u64))) (I5 : InV w (.slice a5 bs.length c5) (bs.map Value.bool)) (I7 : InV w (.slice a7 mem.length c7) (mem.map (Value.int .i64))) (I8 : InV w (.slice a8 cuts.length c8) (cuts.map (Value.int .u64)))
    (hx : ∀ x ∈ xs, x.2.length ≤ maxLen) (hU : HoldU xs) (hc1 : xs.length ≤ maxLen) (hc2 : acts.length ≤ maxLen) (hc3 : ps.length ≤ maxLen) (hc4 : us.length ≤ maxLen) (hc5 : bs.length ≤ maxLen) (hc7 : mem.length ≤ maxLen) (hc8 : cuts.length ≤ maxLen) (hsf : -9223372036854775808 ≤ sf ∧ sf ≤ 9223372036854775807) :
    Calls Try.prog 5 #[.int .i64 sf, .slice a1 xs.length c1, .slice a2 acts.length c2, .slice a3 ps.length c3, .slice a4 us.length c4, .slice a5 bs.length c5, .bool j, .slice a7 mem.length c7, .slice a8 cuts.length c8] w (TruePost w) := by
  have hg := guard33 sf a1 a2 a3 a4 a5 a7 a8 xs.length c1 acts.length c2 ps.length c3 us.length c4 bs.length c5 mem.length c7 cuts.length c8 j xs w rfl I1 hx hc1 hc2 hc3 hc4 hc5 hc7 hc8
  have ht := tooBig a1 a2 a3 a4 a5 a7 a8 xs.length c1 acts.length c2 ps.length c3 us.length c4 bs.length c5 mem.length c7 cuts.length c8 xs w rfl I1 hx hc1 hc2 hc3 hc4 hc5 hc7 hc8
  have J1 : Hid (InVV w (.slice a1 xs.length c1) xs) := I1
  have J2 : Hid (InV w (.slice a2 acts.length c2) (acts.map (Value.int .i64))) := I2
  have J3 : Hid (InV w (.slice a3 ps.length c3) (ps.map (Value.int .i64))) := I3
  have J4 : Hid (InV w (.slice a4 us.length c4) (us.map (Value.int .u64))) := I4
  have J5 : Hid (InV w (.slice a5 bs.length c5) (bs.map Value.bool)) := I5
  have J7 : Hid (InV w (.slice a7 mem.length c7) (mem.map (Value.int .i64))) := I7
  have J8 : Hid (InV w (.slice a8 cuts.length c8) (cuts.map (Value.int .u64))) := I8
  have HU : Hid (HoldU xs) := hU
  have HSF : Hid (-9223372036854775808 ≤ sf ∧ sf ≤ 9223372036854775807) := hsf
  clear I1 I2 I3 I4 I5 I7 I8 hU hx hsf hc1 hc2 hc3 hc4 hc5 hc7 hc8
  go_enter Try.func5, Try.ntmps5
  go_wp2_with fail
  refine hg.mono ?_
  rintro e w' ⟨⟨b, rfl⟩, rfl⟩
  clear hg
  cases b with
  | false =>
    go_wp2
    go_ret
    exact ⟨rfl, Below.refl _ _⟩
  | true =>
    go_wp2_with fail
    refine ht.mono ?_
    rintro e w' ⟨b, rfl, rfl, hbd⟩
    clear ht
    cases b with
    | true =>
      clear hbd
      go_wp2
      go_ret
      exact ⟨rfl, Below.refl _ _⟩
    | false =>
      obtain ⟨b1, b2, b3, b4, b5, b7, b8, bx⟩ := hbd rfl
      have BX : Hid (∀ x ∈ xs, x.2.length ≤ 131072) := bx
      clear hbd bx
      by_cases hp0 : ps.length = 0
      · have hp0I : (ps.length : Int) = 0 := by omega
        clear hp0
        go_wp2
        go_ret
        exact ⟨rfl, Below.refl _ _⟩
      · have hp0I : ¬ (ps.length : Int) = 0 := by omega
        have hp0b : ((ps.length : Int) == 0) = false := by simpa using hp0I
        by_cases hp1 : ps.length ≤ 4096
        · have hp1I : ¬ (4096 : Int) < (ps.length : Int) := by omega
          by_cases hul : us.length = ps.length
          · have HUL : Hid (us.length = ps.length) := hul
            by_cases hbl : bs.length = ps.length
            · have HBL : Hid (bs.length = ps.length) := hbl
              have hulI : (us.length : Int) = (ps.length : Int) := by omega
              have hblI : (bs.length : Int) = (ps.length : Int) := by omega
              have hmk := run_mk37 xs.length (by omega)
              obtain ⟨A, hA⟩ : ∃ A, A = madeCells (Value.bool false).cells (xs.length * 1) := ⟨_, rfl⟩
              rw [← hA] at hmk
              have HAA : Hid (A = madeCells (Value.bool false).cells (xs.length * 1)) := hA
              clear hul hbl hA
              go_upto_region 9 with fail
              rename (∀ (a : Act) (w1 : World), Code.wp Try.prog (tailN 7 (Try.f5.body.getD .skip)) (bodyPost Try.prog Try.f5 (TruePost w)) a w1 → _) => hK0
              have HK : Hid _ := hK0
              clear hK0
              go_wp2_with fail
              refine HK.out _ _ ?_
              have hrow : RowV (w.alloc (.cells A 4)) w.heap.size 4 1 xs.length (List.replicate xs.length (.bool false)) := by
                rw [HAA.out]
                exact row_made4 w xs.length (by unfold maxLen; omega)
              have hHI : HoldInts xs := fun x hx => by
                obtain ⟨us', e⟩ := HU.out x hx
                refine ⟨us', e, ?_⟩
                have := BX.out x hx
                rw [e, List.length_map] at this
                exact this
              exact law5_t7 w (w.alloc (.cells A 4)) w.heap.size sf j a1 a2 a3 a4 a5 a7 a8 c1 c2 c3 c4 c5 c7 c8 xs acts ps us mem cuts bs _ _ _ _ _ _ _ _ _ _ _ _ _ _ _ _ _ _ _ _ _ _ _ _ _ _ _ _ _ _ _ _ _ _ _ _ _ _ _ _ _ _ _ _ _ _ _ _ _ _ _ _ _ _ _ _ _ _ _ _ _ _ _ _ _ _ _ _ _ _ _ _ _ _ _ _ _ _ _ _ _ _ _ _ _ _ _ _ _ _ _ _ _ _ _ _ _ _ _ _ _ _ _ _ _ _ _ _ _ _ _ _ _ _ _ _ _ _ _ _ _ _ _ _ _ _ _ _ _ _ _ _ _ _ _ _ _ _ _ _ _ _ _ _ _ _ _ _ _ _ _ _ _ _ _ _ _ _ _ _ _ _ _ _ _ _ _ _ _ _ _ _ _ _ _ _ _ _ _ _ _ _ _ _ _ _ _ _ _ _ _ _ _ _ _ _ _ _ _ _ _ _ _ _ _ _ _ _ _ _ _ _ _ _ _ _ _ _ _ _ _ _ _ _ _ _ _ _ _ _ _ _ _ _ _ _ _ _ _ _ _ _ _ _ _ _ _ _ _ _ _ _ _ _ _ _ _ _ _ _ _ _ _ _ _ _ _ _ _ _ _ _ _ _ _ _ _ _ _ _ _ _ _ _ _ _ _ _ _ ((Below.refl _ w).alloc (Nat.le_refl _) _) J1 J2 J3 J4 J5 J7 J8 hrow (Nat.le_refl _) HUL HBL (by omega) hHI HSF.out b1 b2 b3 b4 b5 b7 b8 _ rfl
            · have hblI : ¬ (bs.length : Int) = (ps.length : Int) := by omega
              have hbb : ((bs.length : Int) != (ps.length : Int)) = true := by simpa using hblI
              have hulI : (us.length : Int) = (ps.length : Int) := by omega
              go_wp2
              go_ret
              exact ⟨rfl, Below.refl _ _⟩
          · have hulI : ¬ (us.length : Int) = (ps.length : Int) := by omega
            clear hul
            go_wp2
            go_ret
            exact ⟨rfl, Below.refl _ _⟩
        · have hp1I : (4096 : Int) < (ps.length : Int) := by omega
          go_wp2
          go_ret
          exact ⟨rfl, Below.refl _ _⟩

end Go.Proofs.Qxb6616962a

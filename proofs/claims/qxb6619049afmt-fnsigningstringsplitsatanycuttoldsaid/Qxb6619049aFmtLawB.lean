import Derived.Test.Qxb6619049aFmtWalkD
/-! The law FnSigningStringRefusesExactlyWhereANameHasNoValue (4), walked out of the contracts. -/
namespace Go.Proofs.Qxb6619049aFmt
open Go.RowKit Go.Extern.Stop Go.Stop Go.Extern
set_option linter.unusedVariables false
set_option linter.unusedSimpArgs false

/-- How a law ends: true, and old memory as it was. -/
def LawPost (w : World) (e : Ending) (w' : World) : Prop := e = .returned (.bool true) ∧ Below w.heap.size w w'

theorem names_take {w : World} {b o cap : Nat} {xs : List ByteArray} (h : CellsAt w b o xs) {k : Nat} (hk : k ≤ xs.length) : NamesAt w (.slice (some ⟨b, o, none⟩) k cap) (xs.take k) :=
  Or.inr ⟨b, o, cap, by rw [List.length_take, Nat.min_eq_left hk], h.take k⟩

set_option maxHeartbeats 1000000 in
theorem law4_some (hJ : JoinSaid) (F : Interp) (b o cap : Nat) (xs : List ByteArray) (am : Option Nat) (M : ByteArray → Option ByteArray) (n : Nat) (w : World)
    (hF : F.answers w.tape) (hx : CellsAt w b o xs) (hcap : xs.length ≤ cap) (hmx : cap ≤ maxLen) (hm : MapAt w am M n) :
    Calls Tryf.prog 4 #[.slice (some ⟨b, o, none⟩) xs.length cap, .map am] w (LawPost w) := by
  have hc := hm.here.count
  have hnm := hm.here.fits
  have HM : Hid (MapAt w am M n) := hm
  have HX : Hid (CellsAt w b o xs) := hx
  have HF : Hid (F.answers w.tape) := hF
  have HJ : Hid JoinSaid := hJ
  unfold maxLen at hmx hnm
  clear hm hx hF hJ
  by_cases hlen : xs.length ≤ 65536
  · by_cases hn : n ≤ 65536
    · have hl1 : ¬ (65536 : Int) < (xs.length : Int) := by omega
      have hl2 : ¬ (65536 : Int) < (n : Int) := by omega
      go_enter Tryf.func4, Tryf.ntmps4
      go_wp2_with fail
      refine (over_any b o cap xs am M n _ HX.out hlen HM.out hn).mono ?_
      rintro e w' ⟨t, q, rfl, hq, rfl⟩
      cases q with
      | true =>
        clear hq
        go_wp2
        go_ret
        exact ⟨rfl, Below.refl _ _⟩
      | false =>
        have hcost := hq rfl
        clear hq
        go_wp2_with fail
        refine (first_some b o cap xs am M n _ HX.out hlen HM.out).mono ?_
        rintro e w' ⟨rfl, ⟨hall, rfl⟩ | ⟨j, hj, rfl, h1, h2, h3⟩⟩
        · have HA : Hid (Plain.allHave M xs = true) := hall
          clear hall
          go_wp2_with fail
          refine (zz_any HJ.out F _ xs am M n _ HF.out (Or.inr ⟨b, o, cap, rfl, HX.out⟩) hlen HM.out hcost).mono ?_
          rintro e w1 ⟨hb1, ⟨_, rfl⟩ | ⟨hno, _⟩⟩
          · have HB1 : Hid (Below w.heap.size w w1) := hb1
            clear hb1
            go_wp2_with fail
            refine (len_some b o cap xs am M n _ (HX.out.later HB1.out) hlen (HM.out.later HB1.out) hcost).mono ?_
            rintro e w2 ⟨rfl, hb2⟩
            have HB2 : Hid (Below w.heap.size w w2) := HB1.out.trans (hb2.mono HB1.out.size)
            clear hb2
            go_wp2
            go_ret
            exact ⟨rfl, HB2.out⟩
          · rw [HA.out] at hno
            cases hno
        · have H1 : Hid (Plain.allHave M (xs.take j) = true) := h1
          have H2 : Hid (Plain.allHave M (xs.take (j + 1)) = false) := h2
          have H3 : Hid (Plain.allHave M xs = false) := h3
          clear h1 h2 h3
          have hj0 : ¬ (j : Int) < 0 := by omega
          go_wp2_with fail
          refine (zz_any HJ.out F _ xs am M n _ HF.out (Or.inr ⟨b, o, cap, rfl, HX.out⟩) hlen HM.out hcost).mono ?_
          rintro e w1 ⟨hb1, ⟨hno, _⟩ | ⟨_, p1, rfl⟩⟩
          · rw [H3.out] at hno
            cases hno
          have HB1 : Hid (Below w.heap.size w w1) := hb1
          clear hb1
          go_wp2_with fail
          refine (zz_any HJ.out F _ (xs.take j) am M n _ (by rw [HB1.out.tape]; exact HF.out) (names_take (HX.out.later HB1.out) (by omega)) (by rw [List.length_take]; omega) (HM.out.later HB1.out) (Nat.le_trans (Plain.cost_take_le M xs j) hcost)).mono ?_
          rintro e w2 ⟨hb2, ⟨_, rfl⟩ | ⟨hno, _⟩⟩
          case inr => rw [H1.out] at hno; cases hno
          have HB2 : Hid (Below w.heap.size w w2) := HB1.out.trans (hb2.mono HB1.out.size)
          clear hb2
          go_wp2_with fail
          refine (len_any _ (xs.take j) am M n _ (names_take (HX.out.later HB2.out) (by omega)) (by rw [List.length_take]; omega) (HM.out.later HB2.out) (Nat.le_trans (Plain.cost_take_le M xs j) hcost)).mono ?_
          rintro e w3 ⟨rfl, hb3⟩
          have HB3 : Hid (Below w.heap.size w w3) := HB2.out.trans (hb3.mono HB2.out.size)
          clear hb3
          go_wp2_with fail
          refine (zz_any HJ.out F _ (xs.take (j + 1)) am M n _ (by rw [HB3.out.tape]; exact HF.out) (names_take (HX.out.later HB3.out) (by omega)) (by rw [List.length_take]; omega) (HM.out.later HB3.out) (Nat.le_trans (Plain.cost_take_le M xs (j + 1)) hcost)).mono ?_
          rintro e w4 ⟨hb4, ⟨hno, _⟩ | ⟨_, p4, rfl⟩⟩
          · rw [H2.out] at hno; cases hno
          have HB4 : Hid (Below w.heap.size w w4) := HB3.out.trans (hb4.mono HB3.out.size)
          clear hb4
          go_wp2
          go_ret
          exact ⟨rfl, HB4.out⟩
    · have hl1 : ¬ (65536 : Int) < (xs.length : Int) := by omega
      have hl2 : (65536 : Int) < (n : Int) := by omega
      go_enter Tryf.func4, Tryf.ntmps4
      go_wp2
      go_ret
      exact ⟨rfl, Below.refl _ _⟩
  · have hl1 : (65536 : Int) < (xs.length : Int) := by omega
    go_enter Tryf.func4, Tryf.ntmps4
    go_wp2
    go_ret
    exact ⟨rfl, Below.refl _ _⟩

set_option maxHeartbeats 1000000 in
theorem law4_nil (a0 : Option Addr) (hJ : JoinSaid) (F : Interp) (am : Option Nat) (M : ByteArray → Option ByteArray) (n : Nat) (w : World)
    (hF : F.answers w.tape) (hm : MapAt w am M n) :
    Calls Tryf.prog 4 #[.slice a0 0 0, .map am] w (LawPost w) := by
  have hc := hm.here.count
  have hnm := hm.here.fits
  have HM : Hid (MapAt w am M n) := hm
  have HF : Hid (F.answers w.tape) := hF
  have HJ : Hid JoinSaid := hJ
  unfold maxLen at hnm
  clear hm hF hJ
  by_cases hn : n ≤ 65536
  · have hl2 : ¬ (65536 : Int) < (n : Int) := by omega
    go_enter Tryf.func4, Tryf.ntmps4
    go_wp2_with fail
    refine (over_nil a0 am M n _ HM.out hn).mono ?_
    rintro e w' ⟨t, q, rfl, hq, rfl⟩
    cases q with
    | true =>
      clear hq
      go_wp2
      go_ret
      exact ⟨rfl, Below.refl _ _⟩
    | false =>
      clear hq
      go_wp2_with fail
      refine (first_nil a0 am M _).mono ?_
      rintro e w' ⟨rfl, ⟨_, rfl⟩ | ⟨j, hj, _⟩⟩
      case inr => simp at hj
      go_wp2_with fail
      refine (zz_any HJ.out F _ [] am M n _ HF.out (Or.inl ⟨a0, rfl, rfl⟩) (by simp) HM.out (by simp [Plain.cost])).mono ?_
      rintro e w1 ⟨hb1, ⟨_, rfl⟩ | ⟨hno, _⟩⟩
      case inr => cases hno
      have HB1 : Hid (Below w.heap.size w w1) := hb1
      clear hb1
      go_wp2_with fail
      refine (len_nil a0 am M _).mono ?_
      rintro e w2 ⟨rfl, hb2⟩
      have HB2 : Hid (Below w.heap.size w w2) := HB1.out.trans (hb2.mono HB1.out.size)
      clear hb2
      go_wp2
      go_ret
      exact ⟨rfl, HB2.out⟩
  · have hl2 : (65536 : Int) < (n : Int) := by omega
    go_enter Tryf.func4, Tryf.ntmps4
    go_wp2
    go_ret
    exact ⟨rfl, Below.refl _ _⟩

end Go.Proofs.Qxb6619049aFmt

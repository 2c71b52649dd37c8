import Derived.Test.Qxb6619061aFmtLawA
/-! The guards' other ways; the law FnDSS1FacilityTellsNamesApart (4). -/
namespace Go.Proofs.Qxb6619061aFmt
open Go.RowKit Go.Extern.Stop Go.Stop Go.Extern
set_option linter.unusedVariables false
set_option linter.unusedSimpArgs false

set_option maxHeartbeats 400000 in
theorem law3_big (o : Int) (nm : ByteArray) (q : Bool) (w : World) (hnm : nm.size ≤ maxLen) (hbig : 65536 < nm.size) :
    Calls Tryf.prog 3 #[.int .u8 o, .string nm, .bool q] w (LawPost w) := by
  have hI : (65536 : Int) < (nm.size : Int) := by omega
  have hm := hnm
  unfold maxLen at hm
  cases hg : decide (nm.size ≤ 1048576) with
  | true =>
    go_enter Tryf.func3, Tryf.ntmps3
    go_wp2_with fail
    refine (guard9 o nm q _ hnm).mono ?_
    rintro e w' ⟨rfl, rfl⟩
    rw [hg]
    clear hg
    go_wp2
    go_ret
    exact ⟨rfl, Below.refl _ _⟩
  | false =>
    go_enter Tryf.func3, Tryf.ntmps3
    go_wp2_with fail
    refine (guard9 o nm q _ hnm).mono ?_
    rintro e w' ⟨rfl, rfl⟩
    rw [hg]
    clear hg
    go_wp2
    go_ret
    exact ⟨rfl, Below.refl _ _⟩

theorem law3_any (F : Interp) (o : Int) (nm : ByteArray) (q : Bool) (w : World) (hF : F.answers w.tape) (hn : nm.size ≤ maxLen) (ho : 0 ≤ o ∧ o ≤ 255) :
    Calls Tryf.prog 3 #[.int .u8 o, .string nm, .bool q] w (LawPost w) := by
  by_cases h : nm.size ≤ 65536
  · exact law3_some F o nm q w hF h ho
  · exact law3_big o nm q w hn (by omega)

/-! ### the second law -/

def fits2 (n1 n2 : ByteArray) : Bool := decide (n1.size + n2.size ≤ 1048576)

set_option maxHeartbeats 400000 in
theorem guard14 (o : Int) (n1 n2 : ByteArray) (q1 q2 : Bool) (w : World) (h1 : n1.size ≤ maxLen) (h2 : n2.size ≤ maxLen) :
    Calls Tryf.prog 14 #[.int .u8 o, .string n1, .string n2, .bool q1, .bool q2] w fun e w' => e = .returned (.bool (fits2 n1 n2)) ∧ w = w' := by
  unfold maxLen at h1 h2
  by_cases a1 : n1.size ≤ 1048576
  · have b1 : ¬ (1048576 : Int) < (n1.size : Int) := by omega
    by_cases a2 : n2.size ≤ 1048576
    · have b2 : ¬ (1048576 : Int) < (n2.size : Int) := by omega
      by_cases a3 : n1.size + n2.size ≤ 1048576
      · have b3 : ¬ (1048576 : Int) < (n1.size : Int) + (n2.size : Int) := by omega
        have HD : Hid (fits2 n1 n2 = true) := decide_eq_true a3
        go_enter Tryf.func14, Tryf.ntmps14
        go_wp2
        go_ret
        exact ⟨by rw [HD.out]; rfl, rfl⟩
      · have b3 : (1048576 : Int) < (n1.size : Int) + (n2.size : Int) := by omega
        have HD : Hid (fits2 n1 n2 = false) := decide_eq_false a3
        go_enter Tryf.func14, Tryf.ntmps14
        go_wp2
        go_ret
        exact ⟨by rw [HD.out]; rfl, rfl⟩
    · have b2 : (1048576 : Int) < (n2.size : Int) := by omega
      have HD : Hid (fits2 n1 n2 = false) := decide_eq_false (by omega)
      go_enter Tryf.func14, Tryf.ntmps14
      go_wp2
      go_ret
      exact ⟨by rw [HD.out]; rfl, rfl⟩
  · have b1 : (1048576 : Int) < (n1.size : Int) := by omega
    have HD : Hid (fits2 n1 n2 = false) := decide_eq_false (by omega)
    go_enter Tryf.func14, Tryf.ntmps14
    go_wp2
    go_ret
    exact ⟨by rw [HD.out]; rfl, rfl⟩

theorem shape_any (o : Int) (g cap : Nat) (nm : ByteArray) (w : World) (hrow : RowB w g cap (facB o nm)) :
    Calls Tryf.prog 11 #[.slice (some ⟨g, 0, none⟩) (facB o nm).length cap, .bool (shown o nm), .string nm] w fun e w' => e = .returned (.bool true) ∧ w = w' := by
  cases hs : shown o nm with
  | true =>
    have hOK : nameOK nm = true := by simp only [shown, Bool.and_eq_true] at hs; exact hs.2
    rw [fac_is_shown o nm hs] at hrow ⊢
    rw [show (wrapB (elemB 128 (bytesI nm))).length = 13 + nm.size from listN_length nm]
    exact shape_shown g cap nm w hOK hrow
  | false =>
    by_cases h2 : o = 2
    · subst h2
      exact shape_plain 135 (Or.inr rfl) g cap nm w hrow
    · rw [fac_else o nm hs h2] at hrow ⊢
      exact shape_plain 132 (Or.inl rfl) g cap nm w hrow

theorem fac_len (o : Int) (nm : ByteArray) : (facB o nm).length ≤ 28 := by
  cases hs : shown o nm with
  | true =>
    have hOK : nameOK nm = true := by simp only [shown, Bool.and_eq_true] at hs; exact hs.2
    have := okLen nm hOK
    rw [fac_is_shown o nm hs, show (wrapB (elemB 128 (bytesI nm))).length = 13 + nm.size from listN_length nm]
    omega
  | false =>
    by_cases h2 : o = 2
    · subst h2
      show listP.length ≤ 28
      decide
    · rw [fac_else o nm hs h2]
      show listU.length ≤ 28
      decide

theorem bytesI_inj {a b : ByteArray} (h : bytesI a = bytesI b) : a = b := by
  have := congrArg strOfNums h
  rwa [strOf_bytesI, strOf_bytesI] at this

theorem fac_neither (o : Int) (n1 n2 : ByteArray) (h1 : shown o n1 = false) (h2 : shown o n2 = false) : facB o n1 = facB o n2 := by
  by_cases e : o = 2
  · subst e; rfl
  · rw [fac_else o n1 h1 e, fac_else o n2 h2 e]

theorem fac_both (o : Int) (n1 n2 : ByteArray) (h1 : shown o n1 = true) (h2 : shown o n2 = true) : facB o n1 = facB o n2 ↔ n1 = n2 := by
  rw [fac_is_shown o n1 h1, fac_is_shown o n2 h2]
  constructor
  · intro h
    rw [wrap_shown, wrap_shown] at h
    have := List.append_inj_right h (by simp)
    exact bytesI_inj this
  · intro h; rw [h]

theorem fac_one (o : Int) (n1 n2 : ByteArray) (h1 : shown o n1 = true) (h2 : shown o n2 = false) : facB o n1 ≠ facB o n2 := by
  intro h
  have hOK : nameOK n1 = true := by simp only [shown, Bool.and_eq_true] at h1; exact h1.2
  have hl := okLen n1 hOK
  have ho : o = 1 := by simp only [shown, Bool.and_eq_true] at h1; simpa using h1.1
  have := congrArg List.length h
  rw [fac_is_shown o n1 h1, fac_else o n2 h2 (by omega), show (wrapB (elemB 128 (bytesI n1))).length = 13 + n1.size from listN_length n1, wrapU, show listU.length = 13 from rfl] at this
  omega

set_option maxHeartbeats 2000000 in
theorem law4_some (F : Interp) (o : Int) (n1 n2 : ByteArray) (q1 q2 : Bool) (w : World) (hF : F.answers w.tape) (hn1 : n1.size ≤ 65536) (hn2 : n2.size ≤ 65536) :
    Calls Tryf.prog 4 #[.int .u8 o, .string n1, .string n2, .bool q1, .bool q2] w (LawPost w) := by
  have hm1 : n1.size ≤ maxLen := by unfold maxLen; omega
  have hm2 : n2.size ≤ maxLen := by unfold maxLen; omega
  have HF : Hid (F.answers w.tape) := hF
  have hg : fits2 n1 n2 = true := decide_eq_true (by omega)
  have hI1 : ¬ (65536 : Int) < (n1.size : Int) := by omega
  have hI2 : ¬ (65536 : Int) < (n2.size : Int) := by omega
  clear hF
  go_enter Tryf.func4, Tryf.ntmps4
  go_wp2_with fail
  refine (guard14 o n1 n2 q1 q2 _ hm1 hm2).mono ?_
  rintro e w' ⟨rfl, rfl⟩
  rw [hg]
  clear hg
  go_wp2_with fail
  refine (fac_any F o n1 q1 _ HF.out hm1).mono ?_
  rintro e w1 ⟨ga, ca, rfl, hga, hrow1, hb1⟩
  have HB1 : Hid (Below w.heap.size w w1) := hb1
  have HA1 : Hid (RowB w1 ga ca (facB o n1)) := hrow1
  have z1 := hb1.size
  clear hb1 hrow1
  go_wp2_with fail
  refine (fac_any F o n2 q2 _ (by rw [HB1.out.tape]; exact HF.out) hm2).mono ?_
  rintro e w2 ⟨gb, cb, rfl, hgb, hrow2, hb2⟩
  have HB2 : Hid (Below w.heap.size w w2) := HB1.out.trans (hb2.mono z1)
  have HBr : Hid (RowB w2 gb cb (facB o n2)) := hrow2
  have HA2 : Hid (RowB w2 ga ca (facB o n1)) := HA1.out.later hb2 HA1.out.lt
  clear hb2 hrow2 HA1
  have hl1 := fac_len o n1
  have hl2 := fac_len o n2
  have HCE : Hid (Calls Tryf.prog 13 #[.slice (some ⟨ga, 0, none⟩) (facB o n1).length ca, .slice (some ⟨gb, 0, none⟩) (facB o n2).length cb] w2 (EqPost (facB o n1) (facB o n2) w2)) := beq_any ga ca gb cb _ _ w2 HA2.out HBr.out (by omega) (by omega)
  have HS1 : Hid (Calls Tryf.prog 11 #[.slice (some ⟨ga, 0, none⟩) (facB o n1).length ca, .bool (shown o n1), .string n1] w2 fun e w' => e = .returned (.bool true) ∧ w2 = w') := shape_any o ga ca n1 w2 HA2.out
  have HS2 : Hid (Calls Tryf.prog 11 #[.slice (some ⟨gb, 0, none⟩) (facB o n2).length cb, .bool (shown o n2), .string n2] w2 fun e w' => e = .returned (.bool true) ∧ w2 = w') := shape_any o gb cb n2 w2 HBr.out
  generalize hL1 : (facB o n1).length = L1 at *
  generalize hL2 : (facB o n2).length = L2 at *
  clear hL1 hL2
  go_wp2_with fail
  refine (shown_any o n1 _ hm1).mono ?_
  rintro e w' ⟨rfl, rfl⟩
  go_wp2_with fail
  refine (shown_any o n2 _ hm2).mono ?_
  rintro e w' ⟨rfl, rfl⟩
  cases hs1 : shown o n1 with
  | true =>
    rw [hs1] at HS1
    cases hs2 : shown o n2 with
    | true =>
      rw [hs2] at HS2
      by_cases he : n1 = n2
      · have hE : decide (facB o n1 = facB o n2) = true := decide_eq_true ((fac_both o n1 n2 hs1 hs2).2 he)
        have heB : (n1.toList == n2.toList) = true := by rw [he]; simp
        have HE : Hid (decide (facB o n1 = facB o n2) = true) := hE
        clear hE he hs1 hs2
        go_wp2_with fail
        refine HS1.out.mono ?_
        rintro e w' ⟨rfl, rfl⟩
        go_wp2_with fail
        refine HS2.out.mono ?_
        rintro e w' ⟨rfl, rfl⟩
        go_wp2_with fail
        refine HCE.out.mono ?_
        rintro e w5 ⟨rfl, hb5⟩
        have HB5 : Hid (Below w.heap.size w w5) := HB2.out.trans (hb5.mono HB2.out.size)
        clear hb5
        rw [HE.out]
        go_wp2
        go_ret
        exact ⟨rfl, HB5.out⟩
      · have hE : decide (facB o n1 = facB o n2) = false := decide_eq_false (fun h => he ((fac_both o n1 n2 hs1 hs2).1 h))
        have heB : (n1.toList == n2.toList) = false := by
          simp only [beq_eq_false_iff_ne, ne_eq]
          intro h
          exact he (by rw [Lib.toList_data, Lib.toList_data] at h; exact ByteArray.ext (Array.ext' h))
        have HE : Hid (decide (facB o n1 = facB o n2) = false) := hE
        clear hE he hs1 hs2
        go_wp2_with fail
        refine HS1.out.mono ?_
        rintro e w' ⟨rfl, rfl⟩
        go_wp2_with fail
        refine HS2.out.mono ?_
        rintro e w' ⟨rfl, rfl⟩
        go_wp2_with fail
        refine HCE.out.mono ?_
        rintro e w5 ⟨rfl, hb5⟩
        have HB5 : Hid (Below w.heap.size w w5) := HB2.out.trans (hb5.mono HB2.out.size)
        clear hb5
        rw [HE.out]
        go_wp2
        go_ret
        exact ⟨rfl, HB5.out⟩
    | false =>
      rw [hs2] at HS2
      have HE : Hid (decide (facB o n1 = facB o n2) = false) := decide_eq_false (fac_one o n1 n2 hs1 hs2)
      clear hs1 hs2
      go_wp2_with fail
      refine HS1.out.mono ?_
      rintro e w' ⟨rfl, rfl⟩
      go_wp2_with fail
      refine HS2.out.mono ?_
      rintro e w' ⟨rfl, rfl⟩
      go_wp2_with fail
      refine HCE.out.mono ?_
      rintro e w5 ⟨rfl, hb5⟩
      have HB5 : Hid (Below w.heap.size w w5) := HB2.out.trans (hb5.mono HB2.out.size)
      clear hb5
      rw [HE.out]
      go_wp2
      go_ret
      exact ⟨rfl, HB5.out⟩
  | false =>
    rw [hs1] at HS1
    cases hs2 : shown o n2 with
    | true =>
      rw [hs2] at HS2
      have HE : Hid (decide (facB o n1 = facB o n2) = false) := decide_eq_false (fun h => fac_one o n2 n1 hs2 hs1 h.symm)
      clear hs1 hs2
      go_wp2_with fail
      refine HS1.out.mono ?_
      rintro e w' ⟨rfl, rfl⟩
      go_wp2_with fail
      refine HS2.out.mono ?_
      rintro e w' ⟨rfl, rfl⟩
      go_wp2_with fail
      refine HCE.out.mono ?_
      rintro e w5 ⟨rfl, hb5⟩
      have HB5 : Hid (Below w.heap.size w w5) := HB2.out.trans (hb5.mono HB2.out.size)
      clear hb5
      rw [HE.out]
      go_wp2
      go_ret
      exact ⟨rfl, HB5.out⟩
    | false =>
      rw [hs2] at HS2
      have HE : Hid (decide (facB o n1 = facB o n2) = true) := decide_eq_true (fac_neither o n1 n2 hs1 hs2)
      clear hs1 hs2
      go_wp2_with fail
      refine HS1.out.mono ?_
      rintro e w' ⟨rfl, rfl⟩
      go_wp2_with fail
      refine HS2.out.mono ?_
      rintro e w' ⟨rfl, rfl⟩
      go_wp2_with fail
      refine HCE.out.mono ?_
      rintro e w5 ⟨rfl, hb5⟩
      have HB5 : Hid (Below w.heap.size w w5) := HB2.out.trans (hb5.mono HB2.out.size)
      clear hb5
      rw [HE.out]
      go_wp2
      go_ret
      exact ⟨rfl, HB5.out⟩

set_option maxHeartbeats 400000 in
theorem law4_big (o : Int) (n1 n2 : ByteArray) (q1 q2 : Bool) (w : World) (hm1 : n1.size ≤ maxLen) (hm2 : n2.size ≤ maxLen) (hbig : 65536 < n1.size ∨ 65536 < n2.size) :
    Calls Tryf.prog 4 #[.int .u8 o, .string n1, .string n2, .bool q1, .bool q2] w (LawPost w) := by
  have k1 := hm1
  have k2 := hm2
  unfold maxLen at k1 k2
  cases hg : fits2 n1 n2 with
  | true =>
    by_cases h1 : 65536 < n1.size
    · have hI : (65536 : Int) < (n1.size : Int) := by omega
      go_enter Tryf.func4, Tryf.ntmps4
      go_wp2_with fail
      refine (guard14 o n1 n2 q1 q2 _ hm1 hm2).mono ?_
      rintro e w' ⟨rfl, rfl⟩
      rw [hg]
      clear hg
      go_wp2
      go_ret
      exact ⟨rfl, Below.refl _ _⟩
    · have hI : ¬ (65536 : Int) < (n1.size : Int) := by omega
      have hI2 : (65536 : Int) < (n2.size : Int) := by omega
      go_enter Tryf.func4, Tryf.ntmps4
      go_wp2_with fail
      refine (guard14 o n1 n2 q1 q2 _ hm1 hm2).mono ?_
      rintro e w' ⟨rfl, rfl⟩
      rw [hg]
      clear hg
      go_wp2
      go_ret
      exact ⟨rfl, Below.refl _ _⟩
  | false =>
    go_enter Tryf.func4, Tryf.ntmps4
    go_wp2_with fail
    refine (guard14 o n1 n2 q1 q2 _ hm1 hm2).mono ?_
    rintro e w' ⟨rfl, rfl⟩
    rw [hg]
    clear hg
    go_wp2
    go_ret
    exact ⟨rfl, Below.refl _ _⟩

theorem law4_any (F : Interp) (o : Int) (n1 n2 : ByteArray) (q1 q2 : Bool) (w : World) (hF : F.answers w.tape) (hm1 : n1.size ≤ maxLen) (hm2 : n2.size ≤ maxLen) :
    Calls Tryf.prog 4 #[.int .u8 o, .string n1, .string n2, .bool q1, .bool q2] w (LawPost w) := by
  by_cases h1 : n1.size ≤ 65536
  · by_cases h2 : n2.size ≤ 65536
    · exact law4_some F o n1 n2 q1 q2 w hF h1 h2
    · exact law4_big o n1 n2 q1 q2 w hm1 hm2 (Or.inr (by omega))
  · exact law4_big o n1 n2 q1 q2 w hm1 hm2 (Or.inl (by omega))

end Go.Proofs.Qxb6619061aFmt

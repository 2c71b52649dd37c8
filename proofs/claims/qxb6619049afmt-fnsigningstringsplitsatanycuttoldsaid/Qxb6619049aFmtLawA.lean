import Derived.Test.Qxb6619049aFmtLawB
/-! The law FnSigningStringSplitsAtAnyCut (3), walked out of the contracts. -/
namespace Go.Proofs.Qxb6619049aFmt
open Go.RowKit Go.Extern.Stop Go.Stop Go.Extern
set_option linter.unusedVariables false
set_option linter.unusedSimpArgs false

theorem Plain.allHave_take (M : ByteArray → Option ByteArray) (xs : List ByteArray) (k : Nat) (h : Plain.allHave M xs = true) : Plain.allHave M (xs.take k) = true := by
  rw [Plain.allHave, List.all_eq_true] at h ⊢
  exact fun x hx => h x (List.mem_of_mem_take hx)
theorem Plain.allHave_drop (M : ByteArray → Option ByteArray) (xs : List ByteArray) (k : Nat) (h : Plain.allHave M xs = true) : Plain.allHave M (xs.drop k) = true := by
  rw [Plain.allHave, List.all_eq_true] at h ⊢
  exact fun x hx => h x (List.mem_of_mem_drop hx)
theorem Plain.allHave_both (M : ByteArray → Option ByteArray) (xs : List ByteArray) (k : Nat) (h1 : Plain.allHave M (xs.take k) = true) (h2 : Plain.allHave M (xs.drop k) = true) : Plain.allHave M xs = true := by
  rw [Plain.allHave] at h1 h2 ⊢
  rw [← List.take_append_drop k xs, List.all_append, h1, h2]
  rfl

theorem names_mk {w : World} {b o m c : Nat} {ys : List ByteArray} (h : CellsAt w b o ys) (hm : m = ys.length) : NamesAt w (.slice (some ⟨b, o, none⟩) m c) ys :=
  Or.inr ⟨b, o, c, by rw [hm], h⟩

theorem cost_one (M : ByteArray → Option ByteArray) (xs : List ByteArray) (k : Nat) (x : ByteArray) (h : xs[k]? = some x) : Plain.cost M [x] ≤ Plain.cost M xs := by
  have h1 := Plain.cost_take_succ M xs k x h
  have h2 := Plain.cost_take_le M xs (k + 1)
  simp only [Plain.cost]
  omega

theorem text_mid (M : ByteArray → Option ByteArray) (xs : List ByteArray) (k : Nat) (h0 : 0 < k) (hk : k < xs.length) : Plain.text M xs = Plain.text M (xs.take k) ++ [10] ++ Plain.text M (xs.drop k) := by
  rw [← Plain.text_append M (xs.take k) (xs.drop k) (List.ne_nil_of_length_pos (by rw [List.length_take]; omega)) (List.ne_nil_of_length_pos (by rw [List.length_drop]; omega)), List.take_append_drop]

theorem bytes_one (M : ByteArray → Option ByteArray) (x : ByteArray) : (⟨(Plain.text M [x]).toArray⟩ : ByteArray) = x ++ ⟨#[58, 32]⟩ ++ Plain.val M x := by
  apply ByteArray.ext
  apply Array.ext'
  rw [Plain.text_one, Plain.lineL]
  simp

theorem bytes_mid (M : ByteArray → Option ByteArray) (xs : List ByteArray) (k : Nat) (h0 : 0 < k) (hk : k < xs.length) :
    (⟨(Plain.text M xs).toArray⟩ : ByteArray) = ⟨(Plain.text M (xs.take k)).toArray⟩ ++ ⟨#[10]⟩ ++ ⟨(Plain.text M (xs.drop k)).toArray⟩ := by
  apply ByteArray.ext
  apply Array.ext'
  rw [text_mid M xs k h0 hk]
  simp

theorem names_empty {w : World} {b o m c : Nat} {ys : List ByteArray} (hm : m = 0) (hy : ys.length = 0) : NamesAt w (.slice (some ⟨b, o, none⟩) m c) ys :=
  Or.inr ⟨b, o, c, by rw [hm, hy], fun j x hj => by rw [List.length_eq_zero_iff.1 hy] at hj; simp at hj⟩

set_option maxHeartbeats 1000000 in
theorem law3_main (hJ : JoinSaid) (F : Interp) (b o cap : Nat) (xs : List ByteArray) (am : Option Nat) (M : ByteArray → Option ByteArray) (n k : Nat) (w : World)
    (hF : F.answers w.tape) (hx : CellsAt w b o xs) (hcap : xs.length ≤ cap) (hmx : cap ≤ maxLen) (hm : MapAt w am M n) (hlen : xs.length ≤ 65536) (hn : n ≤ 65536) (hk : k ≤ xs.length) (hkc : k < cap) :
    Calls Tryf.prog 3 #[.slice (some ⟨b, o, none⟩) xs.length cap, .map am, .int .i64 k] w (LawPost w) := by
  have hc := hm.here.count
  have hnm := hm.here.fits
  have HM : Hid (MapAt w am M n) := hm
  have HX : Hid (CellsAt w b o xs) := hx
  have HF : Hid (F.answers w.tape) := hF
  have HJ : Hid JoinSaid := hJ
  unfold maxLen at hmx hnm
  clear hm hx hF hJ
  have hl1 : ¬ (65536 : Int) < (xs.length : Int) := by omega
  have hl2 : ¬ (65536 : Int) < (n : Int) := by omega
  have hk1 : ¬ (k : Int) < 0 := by omega
  have hk2 : ¬ (xs.length : Int) < (k : Int) := by omega
  go_enter Tryf.func3, Tryf.ntmps3
  go_wp2_with fail
  refine (over_any b o cap xs am M n _ HX.out hlen HM.out hn).mono ?_
  rintro e w' ⟨t, q, rfl, hq, rfl⟩
  cases q with
  | true =>
    clear hq
    go_wp2
    go_ret
    exact ⟨rfl, Below.refl _ _⟩
  | false =>
    have hcost := hq rfl
    clear hq hc hnm
    go_wp2_with fail
    refine (zz_any HJ.out F _ xs am M n _ HF.out (Or.inr ⟨b, o, cap, rfl, HX.out⟩) hlen HM.out hcost).mono ?_
    rintro e w1 ⟨hb1, ⟨ha1, rfl⟩ | ⟨ha1, p1, rfl⟩⟩
    · have HB1 : Hid (Below w.heap.size w w1) := hb1
      have HA1 : Hid (Plain.allHave M xs = true) := ha1
      clear hb1 ha1
      go_wp2_with fail
      refine (zz_any HJ.out F _ (xs.take k) am M n _ (by rw [HB1.out.tape]; exact HF.out) (names_take (HX.out.later HB1.out) (by omega)) (by rw [List.length_take]; omega) (HM.out.later HB1.out) (Nat.le_trans (Plain.cost_take_le M xs k) hcost)).mono ?_
      rintro e w2 ⟨hb2, ⟨_, rfl⟩ | ⟨hno, _⟩⟩
      case inr => have := Plain.allHave_take M xs k HA1.out; rw [this] at hno; cases hno
      have HB2 : Hid (Below w.heap.size w w2) := HB1.out.trans (hb2.mono HB1.out.size)
      clear hb2
      go_wp2_with fail
      refine (zz_any HJ.out F _ (xs.drop k) am M n _ (by rw [HB2.out.tape]; exact HF.out) (names_mk ((HX.out.later HB2.out).drop k) (by simp)) (by rw [List.length_drop]; omega) (HM.out.later HB2.out) (Nat.le_trans (Plain.cost_drop_le M xs k) hcost)).mono ?_
      rintro e w3 ⟨hb3, ⟨_, rfl⟩ | ⟨hno, _⟩⟩
      case inr => have := Plain.allHave_drop M xs k HA1.out; rw [this] at hno; cases hno
      have HB3 : Hid (Below w.heap.size w w3) := HB2.out.trans (hb3.mono HB2.out.size)
      clear hb3
      by_cases hkl : k < xs.length
      · have hklI : (k : Int) < (xs.length : Int) := by omega
        go_wp2
        go_quiet (fail)
        have HB4 : Hid (Below w.heap.size w (w3.drewN nq)) := below_drewN HB3.out nq
        generalize w3.drewN nq = w4 at *
        by_cases hk0 : k = 0
        · have hk0B : ((k : Int) == 0) = true := by simp [hk0]
          have ht : Plain.text M (xs.drop k) = Plain.text M xs := by rw [hk0, List.drop_zero]
          clear hk0
          obtain ⟨x, hxk⟩ : ∃ x, xs[k]? = some x := ⟨_, List.getElem?_eq_getElem hkl⟩
          obtain ⟨hcell, hxs⟩ := HX.out.later HB4.out k x hxk
          have h2 := (HM.out w4 HB4.out).two x hxs
          have HC1 : Hid (Plain.cost M [x] ≤ 1048576) := Nat.le_trans (cost_one M xs k x hxk) hcost
          have hsx : x.size + (Plain.val M x).size ≤ 1048576 := by have := HC1.out; simp only [Plain.cost] at this; omega
          have HT1 : Hid ((⟨(Plain.text M [x]).toArray⟩ : ByteArray) = x ++ ⟨#[58, 32]⟩ ++ Plain.val M x) := bytes_one M x
          have HQ1 : Hid (Plain.allHave M [x] = Plain.has M x) := by simp [Plain.allHave, Hid]
          have HBB : Hid (Below w.heap.size w (w4.alloc (.cells #[.string x] 9))) := HB4.out.alloc HB4.out.size _
          have HN : Hid (NamesAt (w4.alloc (.cells #[.string x] 9)) (.slice (some ⟨w4.heap.size, 0, none⟩) 1 1) [x]) := names_mk (fun j y hj => by
            match j, hj with
            | 0, hj => simp at hj; subst hj; exact ⟨by simp, hxs⟩) rfl
          clear hxk
          go_wp2_with fail
          refine (zz_any HJ.out F _ [x] am M n _ (by rw [HBB.out.tape]; exact HF.out) HN.out (by simp) (HM.out.later HBB.out) HC1.out).mono ?_
          rintro e w5 ⟨hb5, ⟨h5, rfl⟩ | ⟨h5, p5, rfl⟩⟩
          · have HB5 : Hid (Below w.heap.size w w5) := HBB.out.trans (hb5.mono HBB.out.size)
            have hq : Plain.has M x = true := by rw [← HQ1.out]; exact h5
            rw [HT1.out]
            clear hb5 h5
            go_wp2
            go_ret
            exact ⟨rfl, HB5.out⟩
          · have HB5 : Hid (Below w.heap.size w w5) := HBB.out.trans (hb5.mono HBB.out.size)
            have hq : Plain.has M x = false := by rw [← HQ1.out]; exact h5
            clear hb5 h5
            go_wp2
            go_ret
            exact ⟨rfl, HB5.out⟩
        · have hk0B : ((k : Int) == 0) = false := by simp [hk0]
          have ht := bytes_mid M xs k (by omega) hkl
          have hz1 : (Plain.text M (xs.take k)).length ≤ 1048576 := Nat.le_trans (Plain.text_le M _) (Nat.le_trans (Plain.cost_take_le M xs k) hcost)
          have hz2 : (Plain.text M (xs.drop k)).length ≤ 1048576 := Nat.le_trans (Plain.text_le M _) (Nat.le_trans (Plain.cost_drop_le M xs k) hcost)
          clear hk0
          rw [ht]
          clear ht
          obtain ⟨x, hxk⟩ : ∃ x, xs[k]? = some x := ⟨_, List.getElem?_eq_getElem hkl⟩
          obtain ⟨hcell, hxs⟩ := HX.out.later HB4.out k x hxk
          have h2 := (HM.out w4 HB4.out).two x hxs
          have HC1 : Hid (Plain.cost M [x] ≤ 1048576) := Nat.le_trans (cost_one M xs k x hxk) hcost
          have hsx : x.size + (Plain.val M x).size ≤ 1048576 := by have := HC1.out; simp only [Plain.cost] at this; omega
          have HT1 : Hid ((⟨(Plain.text M [x]).toArray⟩ : ByteArray) = x ++ ⟨#[58, 32]⟩ ++ Plain.val M x) := bytes_one M x
          have HQ1 : Hid (Plain.allHave M [x] = Plain.has M x) := by simp [Plain.allHave, Hid]
          have HBB : Hid (Below w.heap.size w (w4.alloc (.cells #[.string x] 9))) := HB4.out.alloc HB4.out.size _
          have HN : Hid (NamesAt (w4.alloc (.cells #[.string x] 9)) (.slice (some ⟨w4.heap.size, 0, none⟩) 1 1) [x]) := names_mk (fun j y hj => by
            match j, hj with
            | 0, hj => simp at hj; subst hj; exact ⟨by simp, hxs⟩) rfl
          clear hxk
          go_wp2_with fail
          refine (zz_any HJ.out F _ [x] am M n _ (by rw [HBB.out.tape]; exact HF.out) HN.out (by simp) (HM.out.later HBB.out) HC1.out).mono ?_
          rintro e w5 ⟨hb5, ⟨h5, rfl⟩ | ⟨h5, p5, rfl⟩⟩
          · have HB5 : Hid (Below w.heap.size w w5) := HBB.out.trans (hb5.mono HBB.out.size)
            have hq : Plain.has M x = true := by rw [← HQ1.out]; exact h5
            rw [HT1.out]
            clear hb5 h5
            go_wp2
            go_ret
            exact ⟨rfl, HB5.out⟩
          · have HB5 : Hid (Below w.heap.size w w5) := HBB.out.trans (hb5.mono HBB.out.size)
            have hq : Plain.has M x = false := by rw [← HQ1.out]; exact h5
            clear hb5 h5
            go_wp2
            go_ret
            exact ⟨rfl, HB5.out⟩
      · have hklI : ¬ (k : Int) < (xs.length : Int) := by omega
        go_wp2
        go_quiet (fail)
        have HB4 : Hid (Below w.heap.size w (w3.drewN nq)) := below_drewN HB3.out nq
        generalize w3.drewN nq = w4 at *
        have hke : k = xs.length := by omega
        by_cases hk0 : k = 0
        · have hk0B : ((k : Int) == 0) = true := by simp [hk0]
          have ht : Plain.text M (xs.drop k) = Plain.text M xs := by rw [hk0, List.drop_zero]
          clear hk0 hke
          go_wp2
          go_ret
          exact ⟨rfl, HB4.out⟩
        · have hk0B : ((k : Int) == 0) = false := by simp [hk0]
          have ht : Plain.text M (xs.take k) = Plain.text M xs := by rw [hke, List.take_length]
          clear hk0 hke
          go_wp2
          go_ret
          exact ⟨rfl, HB4.out⟩
    · have HB1 : Hid (Below w.heap.size w w1) := hb1
      have HA1 : Hid (Plain.allHave M xs = false) := ha1
      clear hb1 ha1
      go_wp2_with fail
      refine (zz_any HJ.out F _ (xs.take k) am M n _ (by rw [HB1.out.tape]; exact HF.out) (names_take (HX.out.later HB1.out) (by omega)) (by rw [List.length_take]; omega) (HM.out.later HB1.out) (Nat.le_trans (Plain.cost_take_le M xs k) hcost)).mono ?_
      rintro e w2 ⟨hb2, ⟨ha2, rfl⟩ | ⟨_, p2, rfl⟩⟩
      · have HA2 : Hid (Plain.allHave M (xs.take k) = true) := ha2
        have HB2 : Hid (Below w.heap.size w w2) := HB1.out.trans (hb2.mono HB1.out.size)
        clear hb2 ha2
        go_wp2_with fail
        refine (zz_any HJ.out F _ (xs.drop k) am M n _ (by rw [HB2.out.tape]; exact HF.out) (names_mk ((HX.out.later HB2.out).drop k) (by simp)) (by rw [List.length_drop]; omega) (HM.out.later HB2.out) (Nat.le_trans (Plain.cost_drop_le M xs k) hcost)).mono ?_
        rintro e w3 ⟨hb3, ⟨hno, _⟩ | ⟨_, p3, rfl⟩⟩
        · have := Plain.allHave_both M xs k HA2.out hno; rw [HA1.out] at this; cases this
        have HB3 : Hid (Below w.heap.size w w3) := HB2.out.trans (hb3.mono HB2.out.size)
        clear hb3
        go_wp2
        go_quiet (fail)
        have HB4 : Hid (Below w.heap.size w (w3.drewN nq)) := below_drewN HB3.out nq
        generalize w3.drewN nq = w4 at *
        by_cases hkl : k < xs.length
        · have hklI : (k : Int) < (xs.length : Int) := by omega
          obtain ⟨x, hxk⟩ : ∃ x, xs[k]? = some x := ⟨_, List.getElem?_eq_getElem hkl⟩
          obtain ⟨hcell, hxs⟩ := HX.out.later HB4.out k x hxk
          have h2 := (HM.out w4 HB4.out).two x hxs
          have HC1 : Hid (Plain.cost M [x] ≤ 1048576) := Nat.le_trans (cost_one M xs k x hxk) hcost
          have hsx : x.size + (Plain.val M x).size ≤ 1048576 := by have := HC1.out; simp only [Plain.cost] at this; omega
          have HT1 : Hid ((⟨(Plain.text M [x]).toArray⟩ : ByteArray) = x ++ ⟨#[58, 32]⟩ ++ Plain.val M x) := bytes_one M x
          have HQ1 : Hid (Plain.allHave M [x] = Plain.has M x) := by simp [Plain.allHave, Hid]
          have HBB : Hid (Below w.heap.size w (w4.alloc (.cells #[.string x] 9))) := HB4.out.alloc HB4.out.size _
          have HN : Hid (NamesAt (w4.alloc (.cells #[.string x] 9)) (.slice (some ⟨w4.heap.size, 0, none⟩) 1 1) [x]) := names_mk (fun j y hj => by
            match j, hj with
            | 0, hj => simp at hj; subst hj; exact ⟨by simp, hxs⟩) rfl
          clear hxk
          go_wp2_with fail
          refine (zz_any HJ.out F _ [x] am M n _ (by rw [HBB.out.tape]; exact HF.out) HN.out (by simp) (HM.out.later HBB.out) HC1.out).mono ?_
          rintro e w5 ⟨hb5, ⟨h5, rfl⟩ | ⟨h5, p5, rfl⟩⟩
          · have HB5 : Hid (Below w.heap.size w w5) := HBB.out.trans (hb5.mono HBB.out.size)
            have hq : Plain.has M x = true := by rw [← HQ1.out]; exact h5
            rw [HT1.out]
            clear hb5 h5
            go_wp2
            go_ret
            exact ⟨rfl, HB5.out⟩
          · have HB5 : Hid (Below w.heap.size w w5) := HBB.out.trans (hb5.mono HBB.out.size)
            have hq : Plain.has M x = false := by rw [← HQ1.out]; exact h5
            clear hb5 h5
            go_wp2
            go_ret
            exact ⟨rfl, HB5.out⟩
        · have hklI : ¬ (k : Int) < (xs.length : Int) := by omega
          go_wp2
          go_ret
          exact ⟨rfl, HB4.out⟩
      · have HB2 : Hid (Below w.heap.size w w2) := HB1.out.trans (hb2.mono HB1.out.size)
        clear hb2
        go_wp2_with fail
        refine (zz_any HJ.out F _ (xs.drop k) am M n _ (by rw [HB2.out.tape]; exact HF.out) (names_mk ((HX.out.later HB2.out).drop k) (by simp)) (by rw [List.length_drop]; omega) (HM.out.later HB2.out) (Nat.le_trans (Plain.cost_drop_le M xs k) hcost)).mono ?_
        rintro e w3 ⟨hb3, ⟨_, rfl⟩ | ⟨_, p3, rfl⟩⟩
        · have HB3 : Hid (Below w.heap.size w w3) := HB2.out.trans (hb3.mono HB2.out.size)
          clear hb3
          go_wp2
          go_quiet (fail)
          have HB4 : Hid (Below w.heap.size w (w3.drewN nq)) := below_drewN HB3.out nq
          generalize w3.drewN nq = w4 at *
          by_cases hkl : k < xs.length
          · have hklI : (k : Int) < (xs.length : Int) := by omega
            obtain ⟨x, hxk⟩ : ∃ x, xs[k]? = some x := ⟨_, List.getElem?_eq_getElem hkl⟩
            obtain ⟨hcell, hxs⟩ := HX.out.later HB4.out k x hxk
            have h2 := (HM.out w4 HB4.out).two x hxs
            have HC1 : Hid (Plain.cost M [x] ≤ 1048576) := Nat.le_trans (cost_one M xs k x hxk) hcost
            have hsx : x.size + (Plain.val M x).size ≤ 1048576 := by have := HC1.out; simp only [Plain.cost] at this; omega
            have HT1 : Hid ((⟨(Plain.text M [x]).toArray⟩ : ByteArray) = x ++ ⟨#[58, 32]⟩ ++ Plain.val M x) := bytes_one M x
            have HQ1 : Hid (Plain.allHave M [x] = Plain.has M x) := by simp [Plain.allHave, Hid]
            have HBB : Hid (Below w.heap.size w (w4.alloc (.cells #[.string x] 9))) := HB4.out.alloc HB4.out.size _
            have HN : Hid (NamesAt (w4.alloc (.cells #[.string x] 9)) (.slice (some ⟨w4.heap.size, 0, none⟩) 1 1) [x]) := names_mk (fun j y hj => by
              match j, hj with
              | 0, hj => simp at hj; subst hj; exact ⟨by simp, hxs⟩) rfl
            clear hxk
            go_wp2_with fail
            refine (zz_any HJ.out F _ [x] am M n _ (by rw [HBB.out.tape]; exact HF.out) HN.out (by simp) (HM.out.later HBB.out) HC1.out).mono ?_
            rintro e w5 ⟨hb5, ⟨h5, rfl⟩ | ⟨h5, p5, rfl⟩⟩
            · have HB5 : Hid (Below w.heap.size w w5) := HBB.out.trans (hb5.mono HBB.out.size)
              have hq : Plain.has M x = true := by rw [← HQ1.out]; exact h5
              rw [HT1.out]
              clear hb5 h5
              go_wp2
              go_ret
              exact ⟨rfl, HB5.out⟩
            · have HB5 : Hid (Below w.heap.size w w5) := HBB.out.trans (hb5.mono HBB.out.size)
              have hq : Plain.has M x = false := by rw [← HQ1.out]; exact h5
              clear hb5 h5
              go_wp2
              go_ret
              exact ⟨rfl, HB5.out⟩
          · have hklI : ¬ (k : Int) < (xs.length : Int) := by omega
            go_wp2
            go_ret
            exact ⟨rfl, HB4.out⟩
        · have HB3 : Hid (Below w.heap.size w w3) := HB2.out.trans (hb3.mono HB2.out.size)
          clear hb3
          go_wp2
          go_quiet (fail)
          have HB4 : Hid (Below w.heap.size w (w3.drewN nq)) := below_drewN HB3.out nq
          generalize w3.drewN nq = w4 at *
          by_cases hkl : k < xs.length
          · have hklI : (k : Int) < (xs.length : Int) := by omega
            obtain ⟨x, hxk⟩ : ∃ x, xs[k]? = some x := ⟨_, List.getElem?_eq_getElem hkl⟩
            obtain ⟨hcell, hxs⟩ := HX.out.later HB4.out k x hxk
            have h2 := (HM.out w4 HB4.out).two x hxs
            have HC1 : Hid (Plain.cost M [x] ≤ 1048576) := Nat.le_trans (cost_one M xs k x hxk) hcost
            have hsx : x.size + (Plain.val M x).size ≤ 1048576 := by have := HC1.out; simp only [Plain.cost] at this; omega
            have HT1 : Hid ((⟨(Plain.text M [x]).toArray⟩ : ByteArray) = x ++ ⟨#[58, 32]⟩ ++ Plain.val M x) := bytes_one M x
            have HQ1 : Hid (Plain.allHave M [x] = Plain.has M x) := by simp [Plain.allHave, Hid]
            have HBB : Hid (Below w.heap.size w (w4.alloc (.cells #[.string x] 9))) := HB4.out.alloc HB4.out.size _
            have HN : Hid (NamesAt (w4.alloc (.cells #[.string x] 9)) (.slice (some ⟨w4.heap.size, 0, none⟩) 1 1) [x]) := names_mk (fun j y hj => by
              match j, hj with
              | 0, hj => simp at hj; subst hj; exact ⟨by simp, hxs⟩) rfl
            clear hxk
            go_wp2_with fail
            refine (zz_any HJ.out F _ [x] am M n _ (by rw [HBB.out.tape]; exact HF.out) HN.out (by simp) (HM.out.later HBB.out) HC1.out).mono ?_
            rintro e w5 ⟨hb5, ⟨h5, rfl⟩ | ⟨h5, p5, rfl⟩⟩
            · have HB5 : Hid (Below w.heap.size w w5) := HBB.out.trans (hb5.mono HBB.out.size)
              have hq : Plain.has M x = true := by rw [← HQ1.out]; exact h5
              rw [HT1.out]
              clear hb5 h5
              go_wp2
              go_ret
              exact ⟨rfl, HB5.out⟩
            · have HB5 : Hid (Below w.heap.size w w5) := HBB.out.trans (hb5.mono HBB.out.size)
              have hq : Plain.has M x = false := by rw [← HQ1.out]; exact h5
              clear hb5 h5
              go_wp2
              go_ret
              exact ⟨rfl, HB5.out⟩
          · have hklI : ¬ (k : Int) < (xs.length : Int) := by omega
            go_wp2
            go_ret
            exact ⟨rfl, HB4.out⟩

set_option maxHeartbeats 1000000 in
theorem law3_end (hJ : JoinSaid) (F : Interp) (b o : Nat) (xs : List ByteArray) (am : Option Nat) (M : ByteArray → Option ByteArray) (n k : Nat) (w : World)
    (hF : F.answers w.tape) (hx : CellsAt w b o xs) (hcap : xs.length ≤ k) (hmx : k ≤ maxLen) (hm : MapAt w am M n) (hlen : xs.length ≤ 65536) (hn : n ≤ 65536) (hk : k ≤ xs.length) :
    Calls Tryf.prog 3 #[.slice (some ⟨b, o, none⟩) xs.length k, .map am, .int .i64 k] w (LawPost w) := by
  have hc := hm.here.count
  have hnm := hm.here.fits
  have HM : Hid (MapAt w am M n) := hm
  have HX : Hid (CellsAt w b o xs) := hx
  have HF : Hid (F.answers w.tape) := hF
  have HJ : Hid JoinSaid := hJ
  unfold maxLen at hmx hnm
  clear hm hx hF hJ
  have hl1 : ¬ (65536 : Int) < (xs.length : Int) := by omega
  have hl2 : ¬ (65536 : Int) < (n : Int) := by omega
  have hk1 : ¬ (k : Int) < 0 := by omega
  have hk2 : ¬ (xs.length : Int) < (k : Int) := by omega
  go_enter Tryf.func3, Tryf.ntmps3
  go_wp2_with fail
  refine (over_any b o k xs am M n _ HX.out hlen HM.out hn).mono ?_
  rintro e w' ⟨t, q, rfl, hq, rfl⟩
  cases q with
  | true =>
    clear hq
    go_wp2
    go_ret
    exact ⟨rfl, Below.refl _ _⟩
  | false =>
    have hcost := hq rfl
    clear hq hc hnm
    go_wp2_with fail
    refine (zz_any HJ.out F _ xs am M n _ HF.out (Or.inr ⟨b, o, k, rfl, HX.out⟩) hlen HM.out hcost).mono ?_
    rintro e w1 ⟨hb1, ⟨ha1, rfl⟩ | ⟨ha1, p1, rfl⟩⟩
    · have HB1 : Hid (Below w.heap.size w w1) := hb1
      have HA1 : Hid (Plain.allHave M xs = true) := ha1
      clear hb1 ha1
      go_wp2_with fail
      refine (zz_any HJ.out F _ (xs.take k) am M n _ (by rw [HB1.out.tape]; exact HF.out) (names_take (HX.out.later HB1.out) (by omega)) (by rw [List.length_take]; omega) (HM.out.later HB1.out) (Nat.le_trans (Plain.cost_take_le M xs k) hcost)).mono ?_
      rintro e w2 ⟨hb2, ⟨_, rfl⟩ | ⟨hno, _⟩⟩
      case inr => have := Plain.allHave_take M xs k HA1.out; rw [this] at hno; cases hno
      have HB2 : Hid (Below w.heap.size w w2) := HB1.out.trans (hb2.mono HB1.out.size)
      clear hb2
      go_wp2_with fail
      refine (zz_any HJ.out F _ (xs.drop k) am M n _ (by rw [HB2.out.tape]; exact HF.out) (names_empty (by omega) (by rw [List.length_drop]; omega)) (by rw [List.length_drop]; omega) (HM.out.later HB2.out) (Nat.le_trans (Plain.cost_drop_le M xs k) hcost)).mono ?_
      rintro e w3 ⟨hb3, ⟨_, rfl⟩ | ⟨hno, _⟩⟩
      case inr => have := Plain.allHave_drop M xs k HA1.out; rw [this] at hno; cases hno
      have HB3 : Hid (Below w.heap.size w w3) := HB2.out.trans (hb3.mono HB2.out.size)
      clear hb3
      have hklI : ¬ (k : Int) < (xs.length : Int) := by omega
      go_wp2
      go_quiet (fail)
      have HB4 : Hid (Below w.heap.size w (w3.drewN nq)) := below_drewN HB3.out nq
      generalize w3.drewN nq = w4 at *
      have hke : k = xs.length := by omega
      by_cases hk0 : k = 0
      · have hk0B : ((k : Int) == 0) = true := by simp [hk0]
        have ht : Plain.text M (xs.drop k) = Plain.text M xs := by rw [hk0, List.drop_zero]
        clear hk0 hke
        go_wp2
        go_ret
        exact ⟨rfl, HB4.out⟩
      · have hk0B : ((k : Int) == 0) = false := by simp [hk0]
        have ht : Plain.text M (xs.take k) = Plain.text M xs := by rw [hke, List.take_length]
        clear hk0 hke
        go_wp2
        go_ret
        exact ⟨rfl, HB4.out⟩
    · have HB1 : Hid (Below w.heap.size w w1) := hb1
      have HA1 : Hid (Plain.allHave M xs = false) := ha1
      clear hb1 ha1
      go_wp2_with fail
      refine (zz_any HJ.out F _ (xs.take k) am M n _ (by rw [HB1.out.tape]; exact HF.out) (names_take (HX.out.later HB1.out) (by omega)) (by rw [List.length_take]; omega) (HM.out.later HB1.out) (Nat.le_trans (Plain.cost_take_le M xs k) hcost)).mono ?_
      rintro e w2 ⟨hb2, ⟨ha2, rfl⟩ | ⟨_, p2, rfl⟩⟩
      · have HA2 : Hid (Plain.allHave M (xs.take k) = true) := ha2
        have HB2 : Hid (Below w.heap.size w w2) := HB1.out.trans (hb2.mono HB1.out.size)
        clear hb2 ha2
        go_wp2_with fail
        refine (zz_any HJ.out F _ (xs.drop k) am M n _ (by rw [HB2.out.tape]; exact HF.out) (names_empty (by omega) (by rw [List.length_drop]; omega)) (by rw [List.length_drop]; omega) (HM.out.later HB2.out) (Nat.le_trans (Plain.cost_drop_le M xs k) hcost)).mono ?_
        rintro e w3 ⟨hb3, ⟨hno, _⟩ | ⟨_, p3, rfl⟩⟩
        · have := Plain.allHave_both M xs k HA2.out hno; rw [HA1.out] at this; cases this
        have HB3 : Hid (Below w.heap.size w w3) := HB2.out.trans (hb3.mono HB2.out.size)
        clear hb3
        go_wp2
        go_quiet (fail)
        have HB4 : Hid (Below w.heap.size w (w3.drewN nq)) := below_drewN HB3.out nq
        generalize w3.drewN nq = w4 at *
        have hklI : ¬ (k : Int) < (xs.length : Int) := by omega
        go_wp2
        go_ret
        exact ⟨rfl, HB4.out⟩
      · have HB2 : Hid (Below w.heap.size w w2) := HB1.out.trans (hb2.mono HB1.out.size)
        clear hb2
        go_wp2_with fail
        refine (zz_any HJ.out F _ (xs.drop k) am M n _ (by rw [HB2.out.tape]; exact HF.out) (names_empty (by omega) (by rw [List.length_drop]; omega)) (by rw [List.length_drop]; omega) (HM.out.later HB2.out) (Nat.le_trans (Plain.cost_drop_le M xs k) hcost)).mono ?_
        rintro e w3 ⟨hb3, ⟨_, rfl⟩ | ⟨_, p3, rfl⟩⟩
        · have HB3 : Hid (Below w.heap.size w w3) := HB2.out.trans (hb3.mono HB2.out.size)
          clear hb3
          go_wp2
          go_quiet (fail)
          have HB4 : Hid (Below w.heap.size w (w3.drewN nq)) := below_drewN HB3.out nq
          generalize w3.drewN nq = w4 at *
          have hklI : ¬ (k : Int) < (xs.length : Int) := by omega
          go_wp2
          go_ret
          exact ⟨rfl, HB4.out⟩
        · have HB3 : Hid (Below w.heap.size w w3) := HB2.out.trans (hb3.mono HB2.out.size)
          clear hb3
          go_wp2
          go_quiet (fail)
          have HB4 : Hid (Below w.heap.size w (w3.drewN nq)) := below_drewN HB3.out nq
          generalize w3.drewN nq = w4 at *
          have hklI : ¬ (k : Int) < (xs.length : Int) := by omega
          go_wp2
          go_ret
          exact ⟨rfl, HB4.out⟩

end Go.Proofs.Qxb6619049aFmt

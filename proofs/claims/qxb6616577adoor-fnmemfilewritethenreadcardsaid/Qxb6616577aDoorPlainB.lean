import Derived.Test.Qxb6616577aDoorWr3
/-! Plain laws of what a write leaves; the bound on the lengths (13). -/
namespace Go.Proofs.Qxb6616577aDoor
open Go.RowKit Go.MuLone
set_option linter.unusedVariables false
set_option linter.unusedSimpArgs false
set_option maxRecDepth 8000

/-- What the file holds behind the write. -/
def fileB (off : Int) (D Q : List Int) : List Int := if 0 ≤ off then wrQ D Q off.toNat else D

/-- Whether anything's written. -/
def wroteB (off : Int) (Q : List Int) : Bool := decide (0 ≤ off) && decide (0 < Q.length)

/-- What the law wants at i. -/
def wantB (off : Int) (D Q : List Int) (i : Nat) : Option Int :=
  if wroteB off Q = true ∧ off ≤ (i : Int) ∧ (i : Int) < off + (Q.length : Int) then Q[((i : Int) - off).toNat]? else if i < D.length then D[i]? else some 0

theorem wrD_length (D Q : List Int) (o : Nat) : (wrD D Q o).length = max D.length (o + Q.length) := by
  rw [wrD, spl_length _ _ _ (by simp; omega)]
  simp
  omega

theorem wrD_get (D Q : List Int) (o i : Nat) (hi : i < (wrD D Q o).length) : (wrD D Q o)[i]? = if o ≤ i ∧ i < o + Q.length then Q[i - o]? else if i < D.length then D[i]? else some 0 := by
  rw [wrD_length] at hi
  unfold wrD spl
  generalize hE : D ++ List.replicate (o + Q.length - D.length) 0 = E
  have hEl : E.length = max D.length (o + Q.length) := by rw [← hE]; simp; omega
  have hEi : E[i]? = if i < D.length then D[i]? else some 0 := by
    rw [← hE]
    by_cases h : i < D.length
    · rw [if_pos h, List.getElem?_append_left h]
    · rw [if_neg h, List.getElem?_append_right (by omega), List.getElem?_replicate, if_pos (by omega)]
  by_cases h1 : i < o
  · rw [if_neg (by omega), List.getElem?_append_left (by simp; omega), List.getElem?_take_of_lt h1, hEi]
  · rw [List.getElem?_append_right (by simp; omega)]
    have hm : (E.take o).length = o := by simp; omega
    rw [hm]
    by_cases h2 : i < o + Q.length
    · rw [if_pos (by omega), List.getElem?_append_left (by omega)]
    · rw [if_neg (by omega), List.getElem?_append_right (by omega), List.getElem?_drop, ← hEi]
      congr 1
      omega

theorem fileB_length (off : Int) (D Q : List Int) : ((fileB off D Q).length : Int) = if wroteB off Q = true ∧ (D.length : Int) < off + (Q.length : Int) then off + (Q.length : Int) else (D.length : Int) := by
  unfold fileB wroteB wrQ
  by_cases h0 : 0 ≤ off
  · rw [if_pos h0]
    by_cases hq : Q = []
    · subst hq; simp
    · have hl : 0 < Q.length := List.length_pos_iff.2 hq
      rw [if_neg hq, wrD_length]
      simp only [h0, hl, decide_true, Bool.and_self, true_and]
      split <;> omega
  · rw [if_neg h0, if_neg (by simp [h0])]

theorem fileB_get (off : Int) (D Q : List Int) (i : Nat) (hi : i < (fileB off D Q).length) : (fileB off D Q)[i]? = wantB off D Q i := by
  unfold fileB at hi ⊢
  unfold wantB wroteB
  by_cases h0 : 0 ≤ off
  · obtain ⟨o, rfl⟩ := Int.eq_ofNat_of_zero_le h0
    rw [if_pos h0] at hi ⊢
    unfold wrQ at hi ⊢
    by_cases hq : Q = []
    · subst hq
      rw [if_pos rfl] at hi ⊢
      rw [if_neg (by simp), if_pos hi]
    · have hl : 0 < Q.length := List.length_pos_iff.2 hq
      rw [if_neg hq] at hi ⊢
      rw [wrD_get _ _ _ _ hi]
      simp only [Int.toNat_natCast]
      by_cases h : o ≤ i ∧ i < o + Q.length
      · rw [if_pos h, if_pos (by simp; omega)]
        congr 1
        omega
      · have hn : ¬ ((decide (0 ≤ (o : Int)) && decide (0 < Q.length)) = true ∧ (o : Int) ≤ (i : Int) ∧ (i : Int) < (o : Int) + (Q.length : Int)) := by
          rintro ⟨_, h1, h2⟩
          exact h ⟨by omega, by omega⟩
        rw [if_neg h, if_neg hn]
  · rw [if_neg h0] at hi ⊢
    rw [if_neg (by simp [h0]), if_pos hi]

theorem wantB_some (off : Int) (D Q : List Int) (i : Nat) (hi : i < (fileB off D Q).length) : ∃ x, wantB off D Q i = some x := by
  rw [← fileB_get off D Q i hi]
  exact ⟨_, List.getElem?_eq_getElem hi⟩

/-- The read of what was written. -/
theorem read_back (D Q : List Int) (o : Nat) (Z : List Int) (hZ : Z.length = Q.length) : rdN true (wrQ D Q o).length Z.length o = Q.length ∧ rdB true (wrQ D Q o) Z o = Q ∧ rdOK true (wrQ D Q o).length Z.length o = (decide (0 < Q.length) || decide ((o : Int) < (D.length : Int))) := by
  by_cases hq : Q = []
  · subst hq
    have hz : Z = [] := List.eq_nil_of_length_eq_zero (by simpa using hZ)
    subst hz
    have e : wrQ D [] o = D := if_pos rfl
    rw [e]
    have e1 : rdN true D.length ([] : List Int).length o = 0 := by unfold rdN; split <;> simp
    refine ⟨e1, ?_, ?_⟩
    · unfold rdB; rw [e1]; simp
    · unfold rdOK; rw [e1]; simp
  · have hl : 0 < Q.length := List.length_pos_iff.2 hq
    have e : wrQ D Q o = wrD D Q o := if_neg hq
    rw [e]
    have hL := wrD_length D Q o
    have e1 : rdN true (wrD D Q o).length Z.length o = Q.length := by
      unfold rdN
      rw [if_pos ⟨rfl, by omega⟩, hZ]
      simp only [Int.toNat_natCast]
      omega
    refine ⟨e1, ?_, ?_⟩
    · unfold rdB
      rw [e1]
      simp only [Int.toNat_natCast]
      have hz : Z.drop Q.length = [] := List.drop_eq_nil_of_le (by omega)
      rw [hz, List.append_nil]
      apply List.ext_getElem?
      intro i
      by_cases h : i < Q.length
      · rw [List.getElem?_take_of_lt h, List.getElem?_drop, wrD_get _ _ _ _ (by omega), if_pos (by omega)]
        congr 1
        omega
      · rw [List.getElem?_eq_none (by simp; omega), List.getElem?_eq_none (by omega)]
    · unfold rdOK
      rw [e1, hZ]
      have h3 : (o : Int) < ((wrD D Q o).length : Int) := by omega
      simp [h3, hl]

/-- The read of all. -/
theorem read_all (F Z : List Int) (hZ : Z.length = F.length) : rdN true F.length Z.length 0 = F.length ∧ rdB true F Z 0 = F ∧ rdOK true F.length Z.length 0 = decide (0 < F.length) := by
  have e1 : rdN true F.length Z.length 0 = F.length := by
    unfold rdN
    split
    · rw [hZ]; simp
    · rename_i h
      simp at h
      simp [h]
  refine ⟨e1, ?_, ?_⟩
  · have hz : Z.drop F.length = [] := List.drop_eq_nil_of_le (by omega)
    unfold rdB; rw [e1, hz]; simp
  · unfold rdOK; rw [e1, hZ]; simp

/-- The bound on the lengths. -/
theorem guard13 (nm : ByteArray) (da pa : Option Addr) (dn dc pn pc : Nat) (r wr cl : Bool) (off : Int) (w : World) (hd : dn ≤ dc ∧ dc ≤ maxLen) (hp : pn ≤ pc ∧ pc ≤ maxLen) (hnm : nm.size ≤ maxLen) :
    Calls Tryd.prog 13 #[.string nm, .slice da dn dc, .bool r, .bool wr, .bool cl, .slice pa pn pc, .int .i64 off] w (fun e w' => e = .returned (.bool (decide (nm.size + dn + pn ≤ 1048576))) ∧ w = w') := by
  unfold maxLen at hd hp hnm
  by_cases h1 : nm.size ≤ 1048576
  · by_cases h2 : nm.size + dn ≤ 1048576
    · by_cases h3 : nm.size + dn + pn ≤ 1048576
      · have HO : Hid (decide (nm.size + dn + pn ≤ 1048576) = true) := by simp [Hid]; omega
        go_enter Tryd.func13, Tryd.ntmps13
        go_wp2
        go_ret
        exact ⟨by rw [HO.out]; rfl, rfl⟩
      · have HO : Hid (decide (nm.size + dn + pn ≤ 1048576) = false) := by simp [Hid]; omega
        by_cases h4 : pn ≤ 1048576
        · go_enter Tryd.func13, Tryd.ntmps13
          go_wp2
          go_ret
          exact ⟨by rw [HO.out]; rfl, rfl⟩
        · go_enter Tryd.func13, Tryd.ntmps13
          go_wp2
          go_ret
          exact ⟨by rw [HO.out]; rfl, rfl⟩
    · have HO : Hid (decide (nm.size + dn + pn ≤ 1048576) = false) := by simp [Hid]; omega
      by_cases h4 : dn ≤ 1048576
      · go_enter Tryd.func13, Tryd.ntmps13
        go_wp2
        go_ret
        exact ⟨by rw [HO.out]; rfl, rfl⟩
      · go_enter Tryd.func13, Tryd.ntmps13
        go_wp2
        go_ret
        exact ⟨by rw [HO.out]; rfl, rfl⟩
  · have HO : Hid (decide (nm.size + dn + pn ≤ 1048576) = false) := by simp [Hid]; omega
    go_enter Tryd.func13, Tryd.ntmps13
    go_wp2
    go_ret
    exact ⟨by rw [HO.out]; rfl, rfl⟩

end Go.Proofs.Qxb6616577aDoor

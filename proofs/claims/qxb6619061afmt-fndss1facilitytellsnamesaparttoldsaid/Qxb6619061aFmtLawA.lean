import Derived.Test.Qxb6619061aFmtZz
/-! zzb1FacilityShape (11) at a shown name; the guards; the law FnDSS1FacilityAgainstUnavailable (3). -/
namespace Go.Proofs.Qxb6619061aFmt
open Go.RowKit Go.Extern.Stop Go.Stop Go.Extern
set_option linter.unusedVariables false
set_option linter.unusedSimpArgs false

theorem strOf_bytesI (nm : ByteArray) : strOfNums (bytesI nm) = nm := by
  apply ByteArray.ext
  apply Array.ext'
  rw [strOfNums_data, bytesI, List.map_map]
  have : ((fun n : Int => UInt8.ofNat n.toNat) ∘ fun c : UInt8 => (c.toNat : Int)) = id := by
    funext c
    simp
  rw [this, List.map_id]

theorem wrap_shown (nm : ByteArray) : wrapB (elemB 128 (bytesI nm)) = [28, (nm.size : Int) + 11, 159, 161, (nm.size : Int) + 8, 2, 1, 1, 2, 1, 0, 128, (nm.size : Int)] ++ bytesI nm := by
  simp [wrapB, elemB, bytesI_length]
  omega

theorem conv_back (w : World) (g cap : Nat) (nm : ByteArray) (hrow : RowB w g cap (wrapB (elemB 128 (bytesI nm)))) :
    (convert 23 9 (.slice (some ⟨g, 13, none⟩) nm.size (cap - 13))).run Tryf.prog w = .ok (.string nm) w := by
  have h := run_convert_bytes_arg (P := Tryf.prog) w 23 5 Tryf.underlying23 Tryf.underlying5 g 13 nm.size (cap - 13) (bytesI nm) (bytesI_length nm) (fun i hi => ?_) 9 Tryf.underlying9
  · rw [strOf_bytesI] at h
    exact h
  · have hb : (bytesI nm)[i]? = some ((bytesI nm).getD i 0) := by
      rw [List.getD_eq_getElem?_getD, List.getElem?_eq_getElem (by rw [bytesI_length]; exact hi)]
      rfl
    refine hrow.cell ?_
    rw [wrap_shown, List.getElem?_append_right (by simp)]
    simpa using hb

set_option maxHeartbeats 1000000 in
theorem shape_shown (g cap : Nat) (nm : ByteArray) (w : World) (hOK : nameOK nm = true) (hrow : RowB w g cap (wrapB (elemB 128 (bytesI nm)))) :
    Calls Tryf.prog 11 #[.slice (some ⟨g, 0, none⟩) (13 + nm.size) cap, .bool true, .string nm] w fun e w' => e = .returned (.bool true) ∧ w = w' := by
  have hl := okLen nm hOK
  have hconv := conv_back w g cap nm hrow
  have hcl := hrow.len
  unfold maxLen at hcl
  rw [wrap_shown] at hrow hcl
  have c0 := hrow.cell (j := 0) (x := 28) rfl
  have c1 := hrow.cell (j := 1) (x := (nm.size : Int) + 11) rfl
  have c2 := hrow.cell (j := 2) (x := 159) rfl
  have c3 := hrow.cell (j := 3) (x := 161) rfl
  have c4 := hrow.cell (j := 4) (x := (nm.size : Int) + 8) rfl
  have c11 := hrow.cell (j := 11) (x := 128) rfl
  have c12 := hrow.cell (j := 12) (x := (nm.size : Int)) rfl
  have hcap : 13 + nm.size ≤ cap := by have := hcl.1; simp [bytesI_length] at this; omega
  have hcap13 : ¬ cap = 13 := by omega
  have hcmax := hcl.2
  have h28 : ¬ (28 : Int) < 13 + (nm.size : Int) := by omega
  have hb2 : (((nm.size : Int) + 11) != 13 + (nm.size : Int) - 2) = false := by simp; omega
  have hb5 : (((nm.size : Int) + 8) != 13 + (nm.size : Int) - 5) = false := by simp; omega
  clear hrow hcl hOK
  go_enter Tryf.func11, Tryf.ntmps11
  go_wp2
  go_ret
  exact ⟨rfl, rfl⟩

set_option maxHeartbeats 400000 in
theorem guard9 (o : Int) (nm : ByteArray) (q : Bool) (w : World) (hn : nm.size ≤ maxLen) :
    Calls Tryf.prog 9 #[.int .u8 o, .string nm, .bool q] w fun e w' => e = .returned (.bool (decide (nm.size ≤ 1048576))) ∧ w = w' := by
  unfold maxLen at hn
  by_cases h : nm.size ≤ 1048576
  · have hI : ¬ (1048576 : Int) < (nm.size : Int) := by omega
    have HD : Hid (decide (nm.size ≤ 1048576) = true) := decide_eq_true h
    go_enter Tryf.func9, Tryf.ntmps9
    go_wp2
    go_ret
    first | exact ⟨rfl, rfl⟩ | exact ⟨by rw [HD.out]; rfl, rfl⟩
  · have hI : (1048576 : Int) < (nm.size : Int) := by omega
    have HD : Hid (decide (nm.size ≤ 1048576) = false) := decide_eq_false h
    go_enter Tryf.func9, Tryf.ntmps9
    go_wp2
    go_ret
    first | exact ⟨rfl, rfl⟩ | exact ⟨by rw [HD.out]; rfl, rfl⟩

/-- How a law ends: true, and old memory as it was. -/
def LawPost (w : World) (e : Ending) (w' : World) : Prop := e = .returned (.bool true) ∧ Below w.heap.size w w'

theorem fac_zero (nm : ByteArray) : facB 0 nm = wrapB (elemB 132 []) := rfl
theorem fac_two (nm : ByteArray) : facB 2 nm = wrapB (elemB 135 []) := rfl
theorem fac_is_shown (o : Int) (nm : ByteArray) (h : shown o nm = true) : facB o nm = wrapB (elemB 128 (bytesI nm)) := by rw [facB, argB, if_pos h]
theorem fac_else (o : Int) (nm : ByteArray) (h : shown o nm = false) (h2 : ¬ o = 2) : facB o nm = wrapB (elemB 132 []) := by rw [facB, argB, if_neg (by simp [h]), if_neg h2]

def listU : List Int := [28, 11, 159, 161, 8, 2, 1, 1, 2, 1, 0, 132, 0]
theorem wrapU : wrapB (elemB 132 []) = listU := rfl
def headU : List Int := [28, 11, 159, 161, 8, 2, 1, 1, 2, 1, 0]
theorem take_U : listU.take 11 = headU := rfl
def listP : List Int := [28, 11, 159, 161, 8, 2, 1, 1, 2, 1, 0, 135, 0]
theorem wrapP : wrapB (elemB 135 []) = listP := rfl
def listN (nm : ByteArray) : List Int := wrapB (elemB 128 (bytesI nm))
theorem listN_length (nm : ByteArray) : (listN nm).length = 13 + nm.size := by
  rw [listN, wrap_shown]
  simp [bytesI_length]
  omega
theorem listN_made (nm : ByteArray) : ((headU.set 1 (11 + (nm.size : Int))).set 4 (8 + (nm.size : Int)) ++ [128, (nm.size : Int)]) ++ bytesI nm = listN nm := by
  rw [listN, wrap_shown, Int.add_comm 11, Int.add_comm 8]
  rfl

section
variable {ops : Array Oper} {rest : List Oper} {o : Oper} {a : Act} {Q : Exit → Act → World → Prop} (w : World)
/-- 'append', the outcome under names of its own. -/
theorem wp_app2 (L : List Int) (mL : Nat) (hgd : o.guard = none) (s x : Operand) (ho : o.op = .call { callee := .builtin .append, args := #[s, x], argTypes := #[23, 23] })
    (base g cap n : Nat) (bs : List Int) (hs : a.eval s = .slice (some ⟨g, 0, none⟩) n cap) (hn : n = bs.length) (hrow : RowB w g cap bs) (hb : base ≤ g)
    (ad : Addr) (m c : Nat) (ns : List Int) (hx : a.eval x = .slice (some ad) m c) (hm : m = ns.length) (hsrc : SrcB w ad ns) (hlen : bs.length + ns.length ≤ 1000000) (hbase : base ≤ w.heap.size) (hL : bs ++ ns = L) (hmL : L.length = mL)
    (h : ∀ g' cap' w', base ≤ g' → RowB w' g' cap' L → w.grownBy w' (some g) → wpList Tryf.prog ops Q rest (a.put o.dst (.slice (some ⟨g', 0, none⟩) mL cap')) w') :
    wpList Tryf.prog ops Q (o :: rest) a w := by
  subst hmL hL
  exact wp_app w hgd s x ho base g cap n bs hs hn hrow hb ad m c ns hx hm hsrc hlen hbase h

theorem wp_app_str2 (L : List Int) (mL : Nat) (hgd : o.guard = none) (s x : Operand) (ho : o.op = .call { callee := .builtin .append, args := #[s, x], argTypes := #[23, 9] })
    (base g cap n : Nat) (bs : List Int) (hs : a.eval s = .slice (some ⟨g, 0, none⟩) n cap) (hn : n = bs.length) (hrow : RowB w g cap bs) (hb : base ≤ g)
    (st : ByteArray) (hx : a.eval x = .string st) (hlen : bs.length + st.size ≤ 1000000) (hbase : base ≤ w.heap.size) (hL : bs ++ bytesI st = L) (hmL : L.length = mL)
    (h : ∀ g' cap' w', base ≤ g' → RowB w' g' cap' L → w.grownBy w' (some g) → wpList Tryf.prog ops Q rest (a.put o.dst (.slice (some ⟨g', 0, none⟩) mL cap')) w') :
    wpList Tryf.prog ops Q (o :: rest) a w := by
  subst hmL hL
  exact wp_app_str w hgd s x ho base g cap n bs hs hn hrow hb st hx hlen hbase h
end

def midN (nm : ByteArray) : List Int := (headU.set 1 (11 + (nm.size : Int))).set 4 (8 + (nm.size : Int)) ++ [128, (nm.size : Int)]
theorem midN_length (nm : ByteArray) : (midN nm).length = 13 := rfl
theorem midN_made (nm : ByteArray) : midN nm ++ bytesI nm = listN nm := listN_made nm

set_option maxHeartbeats 1000000 in
theorem law3_some (F : Interp) (o : Int) (nm : ByteArray) (q : Bool) (w : World) (hF : F.answers w.tape) (hn : nm.size ≤ 65536) (ho : 0 ≤ o ∧ o ≤ 255) :
    Calls Tryf.prog 3 #[.int .u8 o, .string nm, .bool q] w (LawPost w) := by
  have hnm : nm.size ≤ maxLen := by unfold maxLen; omega
  have HF : Hid (F.answers w.tape) := hF
  have hg : decide (nm.size ≤ 1048576) = true := by simp; omega
  have hI : ¬ (65536 : Int) < (nm.size : Int) := by omega
  clear hF
  go_enter Tryf.func3, Tryf.ntmps3
  go_wp2_with fail
  refine (guard9 o nm q _ hnm).mono ?_
  rintro e w' ⟨rfl, rfl⟩
  rw [hg]
  clear hg
  go_wp2_with fail
  refine (fac_any F 0 nm q _ HF.out hnm).mono ?_
  rintro e w1 ⟨gu, cu, rfl, hgu, hrow1, hb1⟩
  rw [fac_zero, wrapU] at hrow1 ⊢
  have HB1 : Hid (Below w.heap.size w w1) := hb1
  have HU1 : Hid (RowB w1 gu cu listU) := hrow1
  have z1 := hb1.size
  clear hb1 hrow1
  go_wp2_with fail
  refine (fac_any F o nm (!q) _ (by rw [HB1.out.tape]; exact HF.out) hnm).mono ?_
  rintro e w2 ⟨gd, cd, rfl, hgd, hrow2, hb2⟩
  have HB2 : Hid (Below w.heap.size w w2) := HB1.out.trans (hb2.mono z1)
  have HD2 : Hid (RowB w2 gd cd (facB o nm)) := hrow2
  have HU2 : Hid (RowB w2 gu cu listU) := HU1.out.later hb2 HU1.out.lt
  have z2 := hb2.size
  clear hb2 hrow2 HU1
  go_wp2_with fail
  refine (shape_plain 132 (Or.inl rfl) gu cu nm _ HU2.out).mono ?_
  rintro e w' ⟨rfl, rfl⟩
  have c11 := HU2.out.cell (j := 11) (x := 132) rfl
  have lU := HU2.out.len
  unfold maxLen at lU
  go_wp2_with fail
  refine (shown_any o nm _ hnm).mono ?_
  rintro e w' ⟨rfl, rfl⟩
  cases hs : shown o nm with
  | true =>
    have hOK : nameOK nm = true := by simp only [shown, Bool.and_eq_true] at hs; exact hs.2
    have hl := okLen nm hOK
    rw [fac_is_shown o nm hs] at HD2 ⊢
    rw [show listU.length = 13 from rfl, show (wrapB (elemB 128 (bytesI nm))).length = 13 + nm.size from listN_length nm]
    have HDn : Hid (RowB w2 gd cd (listN nm)) := HD2
    clear hs c11 hOK HD2
    have HS2 : Hid (SrcB w2 ⟨gu, 0, none⟩ headU) := HU2.out.src.take 11
    have lU13 : 13 ≤ cu := lU.1
    have ldl := HDn.out.lt
    go_wp2_with (at_builtin; refine wp_app_nil _ rfl _ _ rfl w2.heap.size rfl ⟨gu, 0, none⟩ 11 cu headU rfl rfl (by decide) HS2.out (by decide) (Nat.le_refl _) ?_)
    intro g3 c3 w3 hg3 hrow3 hgr3
    rw [show headU.length = 11 from rfl]
    have HB3 : Hid (Below w.heap.size w w3) := HB2.out.grown hgr3 (by omega) (fun k hk => by cases hk)
    have HD3 : Hid (RowB w3 gd cd (listN nm)) := HDn.out.grown hgr3 (by simp)
    have z3 := hgr3.size
    have k1 := hrow3.cell (j := 1) (x := 11) rfl
    have k4 := hrow3.cell (j := 4) (x := 8) rfl
    have f1 := hrow3.frozen 1
    have f4 := hrow3.frozen 4
    have HR3 : Hid (RowB w3 g3 c3 headU) := hrow3
    have l3 := hrow3.len
    unfold maxLen at l3
    have l11 : 11 ≤ c3 := l3.1
    have hg3d : gd ≠ g3 := by omega
    have HR3' : Hid (RowB (((w3.setCell ⟨g3, 1, none⟩ (.int .u8 (11 + (nm.size : Int)))).setCell ⟨g3, 4, none⟩ (.int .u8 (8 + (nm.size : Int)))).alloc (.cells #[.int .u8 128, .int .u8 (nm.size : Int)] 5)) g3 c3 ((headU.set 1 (11 + (nm.size : Int))).set 4 (8 + (nm.size : Int)))) :=
      ((hrow3.set 1 _ (by decide)).set 4 _ (by simp [headU])).alloc _
    have HS3 : Hid (SrcB (((w3.setCell ⟨g3, 1, none⟩ (.int .u8 (11 + (nm.size : Int)))).setCell ⟨g3, 4, none⟩ (.int .u8 (8 + (nm.size : Int)))).alloc (.cells #[.int .u8 128, .int .u8 (nm.size : Int)] 5)) ⟨w3.heap.size, 0, none⟩ [128, (nm.size : Int)]) := by
      have := (RowB.lit ((w3.setCell ⟨g3, 1, none⟩ (.int .u8 (11 + (nm.size : Int)))).setCell ⟨g3, 4, none⟩ (.int .u8 (8 + (nm.size : Int)))) #[.int .u8 128, .int .u8 (nm.size : Int)] [128, (nm.size : Int)] rfl (by simp [maxLen])).src
      simpa [Hid] using this
    have HB3' : Hid (Below w.heap.size w (((w3.setCell ⟨g3, 1, none⟩ (.int .u8 (11 + (nm.size : Int)))).setCell ⟨g3, 4, none⟩ (.int .u8 (8 + (nm.size : Int)))).alloc (.cells #[.int .u8 128, .int .u8 (nm.size : Int)] 5))) :=
      ((HB3.out.setCell (by show w.heap.size ≤ g3; omega) _).setCell (by show w.heap.size ≤ g3; omega) _).alloc (by simp; omega) _
    have HD3' : Hid (RowB (((w3.setCell ⟨g3, 1, none⟩ (.int .u8 (11 + (nm.size : Int)))).setCell ⟨g3, 4, none⟩ (.int .u8 (8 + (nm.size : Int)))).alloc (.cells #[.int .u8 128, .int .u8 (nm.size : Int)] 5)) gd cd (listN nm)) :=
      RowB.alloc ((HD3.out.of_block (Below.heap_setCell _ _ _ _ hg3d)).of_block (Below.heap_setCell _ _ _ _ hg3d)) _
    clear hrow3 hgr3 HS2 HDn
    go_wp2_with (at_builtin; refine wp_app2 _ (midN nm) 13 rfl _ _ rfl w2.heap.size g3 c3 11 _ rfl (by simp [headU]) HR3'.out hg3 ⟨w3.heap.size, 0, none⟩ 2 2 [128, (nm.size : Int)] rfl rfl HS3.out (by simp [headU]) (by simp; omega) rfl rfl ?_)
    intro g4 c4 w4 hg4 hrow4 hgr4
    have z4 := hgr4.size
    simp at z4
    have HB4 : Hid (Below w.heap.size w w4) := HB3'.out.grown hgr4 (by simp; omega) (fun k hk => by cases hk; omega)
    have HD4 : Hid (RowB w4 gd cd (listN nm)) := HD3'.out.grown hgr4 (by simp [hg3d])
    have HR4 : Hid (RowB w4 g4 c4 (midN nm)) := hrow4
    clear hrow4 hgr4 HB3' HD3' HR3' HS3 k1 k4 f1 f4 HR3
    have hg4d : gd ≠ g4 := by omega
    go_wp2_with (at_builtin; refine wp_app_str2 _ (listN nm) (13 + nm.size) rfl _ _ rfl w2.heap.size g4 c4 13 (midN nm) rfl rfl HR4.out hg4 nm rfl (by rw [midN_length]; omega) (by omega) (midN_made nm) (listN_length nm) ?_)
    intro g5 c5 w5 hg5 hrow5 hgr5
    have HB5 : Hid (Below w.heap.size w w5) := HB4.out.grown hgr5 (by omega) (fun k hk => by cases hk; omega)
    have HD5 : Hid (RowB w5 gd cd (listN nm)) := HD4.out.grown hgr5 (by simp [hg4d])
    have HW5 : Hid (RowB w5 g5 c5 (listN nm)) := hrow5
    have hll := listN_length nm
    have HC : Hid (Calls Tryf.prog 13 #[.slice (some ⟨gd, 0, none⟩) (13 + nm.size) cd, .slice (some ⟨g5, 0, none⟩) (13 + nm.size) c5] w5 (EqPost (listN nm) (listN nm) w5)) := by
      have := beq_any gd cd g5 c5 (listN nm) (listN nm) _ HD5.out HW5.out (by omega) (by omega)
      rw [hll] at this
      exact this
    clear hrow5 hgr5 hll
    go_wp2_with fail
    refine HC.out.mono ?_
    rintro e w6 ⟨rfl, hb6⟩
    have HB6 : Hid (Below w.heap.size w w6) := HB5.out.trans (hb6.mono HB5.out.size)
    clear hb6
    rw [show decide (listN nm = listN nm) = true from decide_eq_true rfl]
    go_wp2
    go_ret
    exact ⟨rfl, HB6.out⟩
  | false =>
    by_cases h2 : o = 2
    · subst h2
      rw [fac_two, wrapP] at HD2 ⊢
      rw [show listU.length = 13 from rfl, show listP.length = 13 from rfl]
      clear hs c11
      have HS2 : Hid (SrcB w2 ⟨gu, 0, none⟩ headU) := HU2.out.src.take 11
      have lU13 : 13 ≤ cu := lU.1
      have ldl := HD2.out.lt
      go_wp2_with (at_builtin; refine wp_app_nil _ rfl _ _ rfl w2.heap.size rfl ⟨gu, 0, none⟩ 11 cu headU rfl rfl (by decide) HS2.out (by decide) (Nat.le_refl _) ?_)
      intro g3 c3 w3 hg3 hrow3 hgr3
      rw [show headU.length = 11 from rfl]
      have HB3 : Hid (Below w.heap.size w w3) := HB2.out.grown hgr3 (by omega) (fun k hk => by cases hk)
      have HD3 : Hid (RowB w3 gd cd listP) := HD2.out.grown hgr3 (by simp)
      have z3 := hgr3.size
      have HR3 : Hid (RowB (w3.alloc (.cells #[.int .u8 135, .int .u8 0] 5)) g3 c3 headU) := hrow3.alloc _
      have hg3d : gd ≠ g3 := by omega
      have HS3 : Hid (SrcB (w3.alloc (.cells #[.int .u8 135, .int .u8 0] 5)) ⟨w3.heap.size, 0, none⟩ [135, 0]) := (RowB.lit w3 #[.int .u8 135, .int .u8 0] [135, 0] rfl (by decide)).src
      clear hrow3 hgr3 HS2 HD2
      go_wp2_with (at_builtin; refine wp_app2 _ listP 13 rfl _ _ rfl w.heap.size g3 c3 11 headU rfl rfl HR3.out (by omega) ⟨w3.heap.size, 0, none⟩ 2 2 [135, 0] rfl rfl HS3.out (by decide) (by simp; omega) rfl rfl ?_)
      intro g4 c4 w4 hg4 hrow4 hgr4
      have HB4 : Hid (Below w.heap.size w w4) := (HB3.out.alloc (by omega) _).grown hgr4 (by simp; omega) (fun k hk => by cases hk; omega)
      have HD4 : Hid (RowB w4 gd cd listP) := (HD3.out.alloc _).grown hgr4 (by simp [hg3d])
      have HW4 : Hid (RowB w4 g4 c4 listP) := hrow4
      clear hgr4 hrow4
      go_wp2_with fail
      refine (beq_any gd cd g4 c4 listP listP _ HD4.out HW4.out (by decide) (by decide)).mono ?_
      rintro e w5 ⟨rfl, hb5⟩
      have HB5 : Hid (Below w.heap.size w w5) := HB4.out.trans (hb5.mono HB4.out.size)
      clear hb5
      rw [show decide (listP = listP) = true from decide_eq_true rfl]
      go_wp2
      go_ret
      exact ⟨rfl, HB5.out⟩
    · have h2B : (o == 2) = false := by simp [h2]
      rw [fac_else o nm hs h2, wrapU] at HD2 ⊢
      rw [show listU.length = 13 from rfl]
      clear hs h2 c11
      go_wp2_with (at_builtin; refine wp_app_nil _ rfl _ _ rfl w.heap.size rfl ⟨gu, 0, none⟩ 13 cu listU rfl rfl (by decide) HU2.out.src (by decide) (by omega) ?_)
      intro g3 c3 w3 hg3 hrow3 hgr3
      rw [show listU.length = 13 from rfl]
      have HB3 : Hid (Below w.heap.size w w3) := HB2.out.grown hgr3 (by omega) (fun k hk => by cases hk)
      have HD3 : Hid (RowB w3 gd cd listU) := HD2.out.grown hgr3 (by simp)
      have HW3 : Hid (RowB w3 g3 c3 listU) := hrow3
      clear hgr3 hrow3
      go_wp2_with fail
      refine (beq_any gd cd g3 c3 listU listU _ HD3.out HW3.out (by decide) (by decide)).mono ?_
      rintro e w5 ⟨rfl, hb5⟩
      have HB5 : Hid (Below w.heap.size w w5) := HB3.out.trans (hb5.mono HB3.out.size)
      clear hb5
      rw [show decide (listU = listU) = true from decide_eq_true rfl]
      go_wp2
      go_ret
      exact ⟨rfl, HB5.out⟩

end Go.Proofs.Qxb6619061aFmt

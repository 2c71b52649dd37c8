import Derived.Test.Qxb6619061aFmtElem
import Derived.Test.Qxb6619061aFmtErr
import Derived.Lib.Strings
/-! element (26); DSS1Facility (10). -/
namespace Go.Proofs.Qxb6619061aFmt
open Go.RowKit Go.Extern.Stop Go.Stop Go.Extern
set_option linter.unusedVariables false
set_option linter.unusedSimpArgs false

set_option maxHeartbeats 400000 in
theorem appElem_nil (tag : Int) (w : World) :
    Calls Tryf.prog 31 #[.slice none 0 0, .int .u8 tag, .slice none 0 0] w (GivesB (elemB tag []) w) := by
  go_enter Tryf.func31, Tryf.ntmps31
  go_wp2_with fail
  refine (open_any tag _).mono ?_
  rintro e w1 ⟨g, cap, rfl, hg, hrow, hb⟩
  have HB : Hid (Below w.heap.size w w1) := hb
  have HR : Hid (RowB w1 g cap [tag, 0]) := hrow
  clear hb hrow
  go_wp2
  refine wp_loop_rounds 1 ?_
  rw [rounds_succ]
  go_wp2_with fail
  refine (close_any g cap [tag, 0] w1 HR.out (by simp) (by simp)).mono ?_
  rintro e w2 ⟨rfl, rfl⟩
  go_wp2
  go_ret
  have hr2 := HR.out.set 1 ((([tag, 0].length : Nat) : Int) - 2) (by simp)
  exact ⟨g, cap, rfl, hg, hr2, HB.out.setCell hg _⟩

set_option maxHeartbeats 400000 in
theorem element_nil (tag : Int) (w : World) :
    Calls Tryf.prog 26 #[.int .u8 tag, .slice none 0 0] w (GivesB (elemB tag []) w) := by
  go_enter Tryf.func26, Tryf.ntmps26
  go_wp2_with fail
  refine (appElem_nil tag _).mono ?_
  rintro e w1 ⟨g, cap, rfl, hg, hrow, hb⟩
  have HB : Hid (Below w.heap.size w w1) := hb
  have HR : Hid (RowB w1 g cap (elemB tag [])) := hrow
  clear hb hrow
  go_wp2
  go_ret
  exact ⟨g, cap, rfl, hg, HR.out, HB.out⟩

set_option maxHeartbeats 400000 in
theorem element_some (tag : Int) (pb : Nat) (ps : List (Value × List Int)) (w : World) (hp : PartsAt w pb ps) (hlen : (joinP ps).length < 128) (hpl : ps.length ≤ 1000) :
    Calls Tryf.prog 26 #[.int .u8 tag, .slice (some ⟨pb, 0, none⟩) ps.length ps.length] w (GivesB (elemB tag (joinP ps)) w) := by
  have HC : Hid (Calls Tryf.prog 31 #[.slice none 0 0, .int .u8 tag, .slice (some ⟨pb, 0, none⟩) ps.length ps.length] w (GivesB (elemB tag (joinP ps)) w)) := appElem_some tag pb ps w hp hlen hpl
  generalize hE : elemB tag (joinP ps) = E at *
  clear hp hE
  go_enter Tryf.func26, Tryf.ntmps26
  go_wp2_with fail
  refine HC.out.mono ?_
  rintro e w1 ⟨g, cap, rfl, hg, hrow, hb⟩
  have HB : Hid (Below w.heap.size w w1) := hb
  have HR : Hid (RowB w1 g cap E) := hrow
  clear hb hrow
  go_wp2
  go_ret
  exact ⟨g, cap, rfl, hg, HR.out, HB.out⟩

/-- One part, the bytes already in memory. -/
theorem parts_one (W : World) (pb : Nat) (a : Addr) (m c : Nat) (ns : List Int) (hpb : pb = W.heap.size) (hm : m = ns.length) (ha : a.block < W.heap.size) (hs : SrcB W a ns) :
    PartsAt (W.alloc (.cells #[.slice (some a) m c] 23)) pb [(.slice (some a) m c, ns)] := by
  subst hm hpb
  intro i v ms hi
  match i, hi with
  | 0, hi =>
    simp at hi
    obtain ⟨rfl, rfl⟩ := hi
    exact ⟨by simp, a, c, rfl, by simp; omega, hs.alloc _⟩

theorem parts_three (W : World) (a1 a2 a3 : Addr) (c1 c2 c3 m1 m2 m3 : Nat) (n1 n2 n3 : List Int) (e1 : m1 = n1.length) (e2 : m2 = n2.length) (e3 : m3 = n3.length) (h1 : a1.block < W.heap.size) (h2 : a2.block < W.heap.size) (h3 : a3.block < W.heap.size)
    (s1 : SrcB W a1 n1) (s2 : SrcB W a2 n2) (s3 : SrcB W a3 n3) :
    PartsAt (W.alloc (.cells #[.slice (some a1) m1 c1, .slice (some a2) m2 c2, .slice (some a3) m3 c3] 23)) W.heap.size
      [(.slice (some a1) m1 c1, n1), (.slice (some a2) m2 c2, n2), (.slice (some a3) m3 c3, n3)] := by
  subst e1 e2 e3
  intro i v ms hi
  match i, hi with
  | 0, hi =>
    simp at hi
    obtain ⟨rfl, rfl⟩ := hi
    exact ⟨by simp, a1, c1, rfl, by simp; omega, s1.alloc _⟩
  | 1, hi =>
    simp at hi
    obtain ⟨rfl, rfl⟩ := hi
    exact ⟨by simp, a2, c2, rfl, by simp; omega, s2.alloc _⟩
  | 2, hi =>
    simp at hi
    obtain ⟨rfl, rfl⟩ := hi
    exact ⟨by simp, a3, c3, rfl, by simp; omega, s3.alloc _⟩

/-- A string's bytes as numbers. -/
def bytesI (s : ByteArray) : List Int := s.data.toList.map (fun c => (c.toNat : Int))

theorem bytesI_length (s : ByteArray) : (bytesI s).length = s.size := by rw [bytesI, List.length_map, Lib.size_eq]

def shown (o : Int) (nm : ByteArray) : Bool := (o == 1) && nameOK nm
def argB (o : Int) (nm : ByteArray) : List Int := if shown o nm then elemB 128 (bytesI nm) else if o = 2 then elemB 135 [] else elemB 132 []
/-- The facility around an argument. -/
def wrapB (arg : List Int) : List Int := 28 :: ((159 :: elemB 161 ([2, 1, 1, 2, 1, 0] ++ arg)).length : Int) :: (159 :: elemB 161 ([2, 1, 1, 2, 1, 0] ++ arg))
def facB (o : Int) (nm : ByteArray) : List Int := wrapB (argB o nm)

theorem conv_bytes (w : World) (nm : ByteArray) : ∃ W' c, (convert 9 23 (.string nm)).run Tryf.prog w = .ok (.slice (some ⟨w.heap.size, 0, none⟩) nm.size c) W' ∧ SrcB W' ⟨w.heap.size, 0, none⟩ (bytesI nm) ∧ Below w.heap.size w W' ∧ W'.heap.size = w.heap.size + 1 := by
  refine ⟨_, _, run_bytes_of_string w 9 23 5 nm Tryf.underlying9 Tryf.underlying23 Tryf.underlying5, ?_, ?_, ?_⟩
  · intro j x hj
    have e : (⟨w.heap.size, 0, none⟩ : Addr).add j = ⟨w.heap.size, j, none⟩ := by unfold Addr.add; split <;> simp_all
    rw [e]
    rw [bytesI, List.getElem?_map] at hj
    obtain ⟨c, hc, rfl⟩ := Option.map_eq_some_iff.1 hj
    have hl : j < nm.data.size := (List.getElem?_eq_some_iff.1 hc).1
    have hg : nm.data[j]? = some c := by rw [← Array.getElem?_toList]; exact hc
    have hh : (w.drew.alloc (.cells (bytesRow nm (grownCap w nm.size 0 5)) 5 ((bytesRow nm (grownCap w nm.size 0 5)).size, (bytesRow nm (grownCap w nm.size 0 5)).size + 1))).heap[w.heap.size]? = some (.cells (bytesRow nm (grownCap w nm.size 0 5)) 5 ((bytesRow nm (grownCap w nm.size 0 5)).size, (bytesRow nm (grownCap w nm.size 0 5)).size + 1)) := heap_alloc_new w.drew _
    simp only [World.cell?, hh]
    simp only [bytesRow, Option.isSome_none, Bool.false_eq_true, if_false]
    rw [Array.getElem?_append_left (by simpa using hl), Array.getElem?_map, hg]
    rfl
  · exact ((Below.refl _ w).drew).alloc (Nat.le_refl _) _
  · simp

theorem okLen (nm : ByteArray) (h : nameOK nm = true) : 1 ≤ nm.size ∧ nm.size ≤ 15 := by
  simp only [nameOK, Bool.and_eq_true, decide_eq_true_eq] at h
  exact h.1

theorem byteI {n : Nat} (h : n < 256) : ((n : Int) % 256) = n := by omega

set_option maxHeartbeats 2000000 in
theorem fac_shown (o : Int) (nm : ByteArray) (q : Bool) (w : World) (F : Interp) (hF : F.answers w.tape) (hn : nm.size ≤ maxLen) (h1 : (o == 1) = true) (hOK : nameOK nm = true) :
    Calls Tryf.prog 10 #[.agg #[.int .u8 o, .string nm, .bool q]] w (GivesB (facB o nm) w) := by
  have hl := okLen nm hOK
  have HF : Hid (F.answers w.tape) := hF
  clear hF
  go_enter Tryf.func10, Tryf.ntmps10
  go_wp2_with fail
  refine (element_nil 132 _).mono ?_
  rintro e w1 ⟨g, cap, rfl, hg, hrow, hb⟩
  have HB : Hid (Below w.heap.size w w1) := ((Below.refl _ w).alloc (Nat.le_refl _) _).trans (hb.mono (by simp))
  have c0 := (hb.cell (p := ⟨w.heap.size, 0, none⟩) (by simp))
  have c1 := (hb.cell (p := ⟨w.heap.size, 1, none⟩) (by simp))
  have s1 := hb.size
  simp at c0 c1 s1 hg
  have HR : Hid (RowB w1 g cap (elemB 132 [])) := hrow
  clear hb hrow
  go_wp2_with fail
  refine (checkName_any F nm _ (by rw [HB.out.tape]; exact HF.out) hn).mono ?_
  rintro e w2 ⟨hb2, ⟨_, rfl⟩ | ⟨hno, _⟩⟩
  case inr => rw [hOK] at hno; cases hno
  have d0 := (hb2.cell (p := ⟨w.heap.size, 0, none⟩) (by show w.heap.size < w1.heap.size; omega)).trans c0
  have d1 := (hb2.cell (p := ⟨w.heap.size, 1, none⟩) (by show w.heap.size < w1.heap.size; omega)).trans c1
  have s2 := hb2.size
  have HB2 : Hid (Below w.heap.size w w2) := HB.out.trans (hb2.mono HB.out.size)
  have HR2 : Hid (RowB w2 g cap (elemB 132 [])) := HR.out.later hb2 HR.out.lt
  clear hb2 c0 c1
  obtain ⟨W3, c3, hconv, hsrc3, hb3, s3⟩ := conv_bytes w2 nm
  have HB3 : Hid (Below w.heap.size w W3) := HB2.out.trans (hb3.mono (by omega))
  have HP3 : Hid (PartsAt (W3.alloc (.cells #[.slice (some ⟨w2.heap.size, 0, none⟩) nm.size c3] 23)) (w2.heap.size + 1) [(.slice (some ⟨w2.heap.size, 0, none⟩) nm.size c3, bytesI nm)]) :=
    parts_one W3 (w2.heap.size + 1) ⟨w2.heap.size, 0, none⟩ nm.size c3 (bytesI nm) s3.symm (bytesI_length nm).symm (by rw [s3]; simp) hsrc3
  clear hsrc3 hb3
  go_wp2_with fail
  refine (element_some 128 _ [(.slice (some ⟨w2.heap.size, 0, none⟩) nm.size c3, bytesI nm)] _ HP3.out (by simp [joinP, bytesI_length]; omega) (by simp)).mono ?_
  rintro e wk ⟨ga, ca, rfl, hga, hrowA, hbA⟩
  have zA := hbA.size
  simp [s3] at zA hga
  have hJ1 : joinP [(Value.slice (some ⟨w2.heap.size, 0, none⟩) nm.size c3, bytesI nm)] = bytesI nm := by simp [joinP]
  rw [hJ1] at hrowA ⊢
  have HA : Hid (elemB 128 (bytesI nm) = argB o nm) := by rw [argB, shown, h1, hOK]; rfl
  have HRA : Hid (RowB wk ga ca (elemB 128 (bytesI nm))) := hrowA
  have HBK : Hid (Below w.heap.size w wk) := (HB3.out.alloc (by omega) _).trans (hbA.mono (by simp; omega))
  have hAl : (elemB 128 (bytesI nm)).length ≤ 17 := by simp [elemB, bytesI_length]; omega
  clear hJ1 hrowA hbA hconv s3 HP3 HB3
  generalize elemB 128 (bytesI nm) = A at *
  have hga' : w.heap.size ≤ ga := by omega
  go_wp2_with fail
  refine (element_some 2 _ [(.slice (some ⟨wk.heap.size, 0, none⟩) 1 1, [1])] _ (parts_one (wk.alloc (.cells #[.int .u8 1] 5)) _ ⟨wk.heap.size, 0, none⟩ 1 1 [1] (by simp) rfl (by simp) (RowB.lit wk #[.int .u8 1] [1] rfl (by simp [maxLen])).src) (by simp [joinP]) (by simp)).mono ?_
  rintro e w5 ⟨g5, cap5, rfl, hg5, hrow5, hb5⟩
  have z5 := hb5.size
  simp at z5 hg5
  have HB5 : Hid (Below wk.heap.size wk w5) := (((Below.refl _ wk).alloc (Nat.le_refl _) _).alloc (by simp) _).trans (hb5.mono (by simp; omega))
  have HR5 : Hid (RowB w5 g5 cap5 [2, 1, 1]) := hrow5
  clear hb5 hrow5
  go_wp2_with fail
  refine (element_some 2 _ [(.slice (some ⟨w5.heap.size, 0, none⟩) 1 1, [0])] _ (parts_one (w5.alloc (.cells #[.int .u8 0] 5)) _ ⟨w5.heap.size, 0, none⟩ 1 1 [0] (by simp) rfl (by simp) (RowB.lit w5 #[.int .u8 0] [0] rfl (by simp [maxLen])).src) (by simp [joinP]) (by simp)).mono ?_
  rintro e w6 ⟨g6, cap6, rfl, hg6, hrow6, hb6⟩
  have z6 := hb6.size
  simp at z6 hg6
  have HB6 : Hid (Below w5.heap.size w5 w6) := (((Below.refl _ w5).alloc (Nat.le_refl _) _).alloc (by simp) _).trans (hb6.mono (by simp; omega))
  have HR6 : Hid (RowB w6 g6 cap6 [2, 1, 0]) := hrow6
  clear hb6 hrow6
  have HR56 : Hid (RowB w6 g5 cap5 [2, 1, 1]) := HR5.out.later HB6.out HR5.out.lt
  have HRA6 : Hid (RowB w6 ga ca A) := (HRA.out.later HB5.out HRA.out.lt).later HB6.out (by have := HRA.out.lt; omega)
  go_wp2_with fail
  refine (element_some 161 _ [(.slice (some ⟨g5, 0, none⟩) 3 cap5, [2, 1, 1]), (.slice (some ⟨g6, 0, none⟩) 3 cap6, [2, 1, 0]), (.slice (some ⟨ga, 0, none⟩) A.length ca, A)] _ (parts_three w6 ⟨g5, 0, none⟩ ⟨g6, 0, none⟩ ⟨ga, 0, none⟩ cap5 cap6 ca 3 3 A.length [2, 1, 1] [2, 1, 0] A rfl rfl rfl HR56.out.lt HR6.out.lt HRA6.out.lt HR56.out.src HR6.out.src HRA6.out.src) (by simp [joinP]; omega) (by simp)).mono ?_
  rintro e w7 ⟨g7, cap7, rfl, hg7, hrow7, hb7⟩
  have z7 := hb7.size
  simp at z7 hg7
  have HB7 : Hid (Below w.heap.size w w7) := (((HBK.out.trans (HB5.out.mono HBK.out.size)).trans (HB6.out.mono (by have := HBK.out.size; omega))).alloc (by have := HBK.out.size; omega) _).trans (hb7.mono (by have := HBK.out.size; simp; omega))
  have hJ : joinP [(Value.slice (some ⟨g5, 0, none⟩) 3 cap5, [2, 1, 1]), (.slice (some ⟨g6, 0, none⟩) 3 cap6, [2, 1, 0]), (.slice (some ⟨ga, 0, none⟩) A.length ca, A)] = [2, 1, 1, 2, 1, 0] ++ A := by simp [joinP]
  rw [hJ] at hrow7 ⊢
  obtain ⟨E, hE⟩ : ∃ E, E = elemB 161 ([2, 1, 1, 2, 1, 0] ++ A) := ⟨_, rfl⟩
  have hEl : E.length ≤ 30 := by rw [hE]; simp [elemB]; omega
  rw [← hE] at hrow7 ⊢
  have HE : Hid (E = elemB 161 ([2, 1, 1, 2, 1, 0] ++ A)) := hE
  have HR7 : Hid (RowB w7 g7 cap7 E) := hrow7
  have zk := HBK.out.size
  clear hb7 hrow7 hJ hE HR5 HR6 HR56 HRA6 HB5 HB6 HRA
  have HR8 : Hid (RowB (w7.alloc (.cells #[.int .u8 159] 5)) w7.heap.size 1 [159]) := RowB.lit w7 #[.int .u8 159] [159] rfl (by simp [maxLen])
  have HR78 : Hid (RowB (w7.alloc (.cells #[.int .u8 159] 5)) g7 cap7 E) := HR7.out.alloc _
  go_wp2_with (at_builtin; refine wp_app _ rfl _ _ rfl w.heap.size w7.heap.size 1 _ [159] rfl rfl HR8.out (by omega) ⟨g7, 0, none⟩ _ cap7 E rfl rfl HR78.out.src (by simp; omega) (by simp; omega) ?_)
  intro g9 cap9 w9 hg9 hrow9 hgr9
  have HB9 : Hid (Below w.heap.size w w9) := (HB7.out.alloc (by omega) _).grown hgr9 (by simp; omega) (fun j hj => by cases hj; omega)
  have z9 := hgr9.size
  simp at z9
  have HR9 : Hid (RowB w9 g9 cap9 (159 :: E)) := hrow9
  clear hgr9 hrow9 HR8 HR78 HR7
  have HR10 : Hid (RowB (w9.alloc (.cells #[.int .u8 28, .int .u8 ((E.length : Int) + 1)] 5)) w9.heap.size 2 [28, (E.length : Int) + 1]) := RowB.lit w9 _ [28, (E.length : Int) + 1] rfl (by simp [maxLen])
  have HR910 : Hid (RowB (w9.alloc (.cells #[.int .u8 28, .int .u8 ((E.length : Int) + 1)] 5)) g9 cap9 (159 :: E)) := HR9.out.alloc _
  have hEI : (E.length : Int) + 1 < 256 := by omega
  go_wp2_with (at_builtin; refine wp_app _ rfl _ _ rfl w.heap.size w9.heap.size 2 _ [28, (E.length : Int) + 1] rfl rfl HR10.out (by omega) ⟨g9, 0, none⟩ _ cap9 (159 :: E) rfl (by simp) HR910.out.src (by simp; omega) (by simp; omega) ?_)
  intro g11 cap11 w11 hg11 hrow11 hgr11
  have HB11 : Hid (Below w.heap.size w w11) := (HB9.out.alloc (by omega) _).grown hgr11 (by simp; omega) (fun j hj => by cases hj; omega)
  have HR11 : Hid (RowB w11 g11 cap11 ([28, (E.length : Int) + 1] ++ 159 :: E)) := hrow11
  clear hgr11 hrow11
  go_wp2
  go_ret
  have hfin : [28, (E.length : Int) + 1] ++ 159 :: E = facB o nm := by
    rw [facB, ← HA.out, wrapB, ← HE.out]
    simp
  refine ⟨g11, cap11, ?_, hg11, by rw [← hfin]; exact HR11.out, HB11.out⟩
  rw [← hfin]
  simp

set_option maxHeartbeats 2000000 in
theorem fac_bad (o : Int) (nm : ByteArray) (q : Bool) (w : World) (F : Interp) (hF : F.answers w.tape) (hn : nm.size ≤ maxLen) (h1 : (o == 1) = true) (hOK : nameOK nm = false) :
    Calls Tryf.prog 10 #[.agg #[.int .u8 o, .string nm, .bool q]] w (GivesB (facB o nm) w) := by
  have h2 : (o == 2) = false := by simp at h1; subst h1; rfl
  have h2' : ¬ o = 2 := by simpa using h2
  have HF : Hid (F.answers w.tape) := hF
  clear hF
  go_enter Tryf.func10, Tryf.ntmps10
  go_wp2_with fail
  refine (element_nil 132 _).mono ?_
  rintro e w1 ⟨g, cap, rfl, hg, hrow, hb⟩
  have HB : Hid (Below w.heap.size w w1) := ((Below.refl _ w).alloc (Nat.le_refl _) _).trans (hb.mono (by simp))
  have c0 := (hb.cell (p := ⟨w.heap.size, 0, none⟩) (by simp))
  have c1 := (hb.cell (p := ⟨w.heap.size, 1, none⟩) (by simp))
  have s1 := hb.size
  simp at c0 c1 s1 hg
  have HR : Hid (RowB w1 g cap (elemB 132 [])) := hrow
  clear hb hrow
  go_wp2_with fail
  refine (checkName_any F nm _ (by rw [HB.out.tape]; exact HF.out) hn).mono ?_
  rintro e w2 ⟨hb2, ⟨hno, _⟩ | ⟨_, p2, rfl⟩⟩
  · rw [hOK] at hno; cases hno
  have d0 := (hb2.cell (p := ⟨w.heap.size, 0, none⟩) (by show w.heap.size < w1.heap.size; omega)).trans c0
  have d1 := (hb2.cell (p := ⟨w.heap.size, 1, none⟩) (by show w.heap.size < w1.heap.size; omega)).trans c1
  have s2 := hb2.size
  have HB2 : Hid (Below w.heap.size w w2) := HB.out.trans (hb2.mono HB.out.size)
  have HR2 : Hid (RowB w2 g cap (elemB 132 [])) := HR.out.later hb2 HR.out.lt
  clear hb2 c0 c1
  -- the argument stays
  have HA : Hid (elemB 132 [] = argB o nm) := by rw [argB, shown, hOK, Bool.and_false, if_neg (by decide), if_neg h2']; rfl
  have HRA : Hid (RowB w2 g cap (elemB 132 [])) := HR2.out
  have HBK : Hid (Below w.heap.size w w2) := HB2.out
  have hAl : (elemB 132 []).length ≤ 17 := by simp [elemB]
  generalize elemB 132 [] = A at *
  obtain ⟨ga, hga⟩ : ∃ ga, ga = g := ⟨_, rfl⟩
  obtain ⟨ca, hca⟩ : ∃ ca, ca = cap := ⟨_, rfl⟩
  subst hga hca
  generalize w2 = wk at *
  go_wp2_with fail
  refine (element_some 2 _ [(.slice (some ⟨wk.heap.size, 0, none⟩) 1 1, [1])] _ (parts_one (wk.alloc (.cells #[.int .u8 1] 5)) _ ⟨wk.heap.size, 0, none⟩ 1 1 [1] (by simp) rfl (by simp) (RowB.lit wk #[.int .u8 1] [1] rfl (by simp [maxLen])).src) (by simp [joinP]) (by simp)).mono ?_
  rintro e w5 ⟨g5, cap5, rfl, hg5, hrow5, hb5⟩
  have z5 := hb5.size
  simp at z5 hg5
  have HB5 : Hid (Below wk.heap.size wk w5) := (((Below.refl _ wk).alloc (Nat.le_refl _) _).alloc (by simp) _).trans (hb5.mono (by simp; omega))
  have HR5 : Hid (RowB w5 g5 cap5 [2, 1, 1]) := hrow5
  clear hb5 hrow5
  go_wp2_with fail
  refine (element_some 2 _ [(.slice (some ⟨w5.heap.size, 0, none⟩) 1 1, [0])] _ (parts_one (w5.alloc (.cells #[.int .u8 0] 5)) _ ⟨w5.heap.size, 0, none⟩ 1 1 [0] (by simp) rfl (by simp) (RowB.lit w5 #[.int .u8 0] [0] rfl (by simp [maxLen])).src) (by simp [joinP]) (by simp)).mono ?_
  rintro e w6 ⟨g6, cap6, rfl, hg6, hrow6, hb6⟩
  have z6 := hb6.size
  simp at z6 hg6
  have HB6 : Hid (Below w5.heap.size w5 w6) := (((Below.refl _ w5).alloc (Nat.le_refl _) _).alloc (by simp) _).trans (hb6.mono (by simp; omega))
  have HR6 : Hid (RowB w6 g6 cap6 [2, 1, 0]) := hrow6
  clear hb6 hrow6
  have HR56 : Hid (RowB w6 g5 cap5 [2, 1, 1]) := HR5.out.later HB6.out HR5.out.lt
  have HRA6 : Hid (RowB w6 ga ca A) := (HRA.out.later HB5.out HRA.out.lt).later HB6.out (by have := HRA.out.lt; omega)
  go_wp2_with fail
  refine (element_some 161 _ [(.slice (some ⟨g5, 0, none⟩) 3 cap5, [2, 1, 1]), (.slice (some ⟨g6, 0, none⟩) 3 cap6, [2, 1, 0]), (.slice (some ⟨ga, 0, none⟩) A.length ca, A)] _ (parts_three w6 ⟨g5, 0, none⟩ ⟨g6, 0, none⟩ ⟨ga, 0, none⟩ cap5 cap6 ca 3 3 A.length [2, 1, 1] [2, 1, 0] A rfl rfl rfl HR56.out.lt HR6.out.lt HRA6.out.lt HR56.out.src HR6.out.src HRA6.out.src) (by simp [joinP]; omega) (by simp)).mono ?_
  rintro e w7 ⟨g7, cap7, rfl, hg7, hrow7, hb7⟩
  have z7 := hb7.size
  simp at z7 hg7
  have HB7 : Hid (Below w.heap.size w w7) := (((HBK.out.trans (HB5.out.mono HBK.out.size)).trans (HB6.out.mono (by have := HBK.out.size; omega))).alloc (by have := HBK.out.size; omega) _).trans (hb7.mono (by have := HBK.out.size; simp; omega))
  have hJ : joinP [(Value.slice (some ⟨g5, 0, none⟩) 3 cap5, [2, 1, 1]), (.slice (some ⟨g6, 0, none⟩) 3 cap6, [2, 1, 0]), (.slice (some ⟨ga, 0, none⟩) A.length ca, A)] = [2, 1, 1, 2, 1, 0] ++ A := by simp [joinP]
  rw [hJ] at hrow7 ⊢
  obtain ⟨E, hE⟩ : ∃ E, E = elemB 161 ([2, 1, 1, 2, 1, 0] ++ A) := ⟨_, rfl⟩
  have hEl : E.length ≤ 30 := by rw [hE]; simp [elemB]; omega
  rw [← hE] at hrow7 ⊢
  have HE : Hid (E = elemB 161 ([2, 1, 1, 2, 1, 0] ++ A)) := hE
  have HR7 : Hid (RowB w7 g7 cap7 E) := hrow7
  have zk := HBK.out.size
  clear hb7 hrow7 hJ hE HR5 HR6 HR56 HRA6 HB5 HB6 HRA
  have HR8 : Hid (RowB (w7.alloc (.cells #[.int .u8 159] 5)) w7.heap.size 1 [159]) := RowB.lit w7 #[.int .u8 159] [159] rfl (by simp [maxLen])
  have HR78 : Hid (RowB (w7.alloc (.cells #[.int .u8 159] 5)) g7 cap7 E) := HR7.out.alloc _
  go_wp2_with (at_builtin; refine wp_app _ rfl _ _ rfl w.heap.size w7.heap.size 1 _ [159] rfl rfl HR8.out (by omega) ⟨g7, 0, none⟩ _ cap7 E rfl rfl HR78.out.src (by simp; omega) (by simp; omega) ?_)
  intro g9 cap9 w9 hg9 hrow9 hgr9
  have HB9 : Hid (Below w.heap.size w w9) := (HB7.out.alloc (by omega) _).grown hgr9 (by simp; omega) (fun j hj => by cases hj; omega)
  have z9 := hgr9.size
  simp at z9
  have HR9 : Hid (RowB w9 g9 cap9 (159 :: E)) := hrow9
  clear hgr9 hrow9 HR8 HR78 HR7
  have HR10 : Hid (RowB (w9.alloc (.cells #[.int .u8 28, .int .u8 ((E.length : Int) + 1)] 5)) w9.heap.size 2 [28, (E.length : Int) + 1]) := RowB.lit w9 _ [28, (E.length : Int) + 1] rfl (by simp [maxLen])
  have HR910 : Hid (RowB (w9.alloc (.cells #[.int .u8 28, .int .u8 ((E.length : Int) + 1)] 5)) g9 cap9 (159 :: E)) := HR9.out.alloc _
  have hEI : (E.length : Int) + 1 < 256 := by omega
  go_wp2_with (at_builtin; refine wp_app _ rfl _ _ rfl w.heap.size w9.heap.size 2 _ [28, (E.length : Int) + 1] rfl rfl HR10.out (by omega) ⟨g9, 0, none⟩ _ cap9 (159 :: E) rfl (by simp) HR910.out.src (by simp; omega) (by simp; omega) ?_)
  intro g11 cap11 w11 hg11 hrow11 hgr11
  have HB11 : Hid (Below w.heap.size w w11) := (HB9.out.alloc (by omega) _).grown hgr11 (by simp; omega) (fun j hj => by cases hj; omega)
  have HR11 : Hid (RowB w11 g11 cap11 ([28, (E.length : Int) + 1] ++ 159 :: E)) := hrow11
  clear hgr11 hrow11
  go_wp2
  go_ret
  have hfin : [28, (E.length : Int) + 1] ++ 159 :: E = facB o nm := by
    rw [facB, ← HA.out, wrapB, ← HE.out]
    simp
  refine ⟨g11, cap11, ?_, hg11, by rw [← hfin]; exact HR11.out, HB11.out⟩
  rw [← hfin]
  simp

set_option maxHeartbeats 2000000 in
theorem fac_plain (o : Int) (nm : ByteArray) (q : Bool) (w : World) (h1 : (o == 1) = false) (h2 : (o == 2) = false) :
    Calls Tryf.prog 10 #[.agg #[.int .u8 o, .string nm, .bool q]] w (GivesB (facB o nm) w) := by
  have h2' : ¬ o = 2 := by simpa using h2
  go_enter Tryf.func10, Tryf.ntmps10
  go_wp2_with fail
  refine (element_nil 132 _).mono ?_
  rintro e w1 ⟨g, cap, rfl, hg, hrow, hb⟩
  have HB : Hid (Below w.heap.size w w1) := ((Below.refl _ w).alloc (Nat.le_refl _) _).trans (hb.mono (by simp))
  have c0 := (hb.cell (p := ⟨w.heap.size, 0, none⟩) (by simp))
  have c1 := (hb.cell (p := ⟨w.heap.size, 1, none⟩) (by simp))
  have s1 := hb.size
  simp at c0 c1 s1 hg
  have HR : Hid (RowB w1 g cap (elemB 132 [])) := hrow
  clear hb hrow
  -- the argument stays
  have HA : Hid (elemB 132 [] = argB o nm) := by rw [argB, shown, h1, Bool.false_and, if_neg (by decide), if_neg h2']; rfl
  have HRA : Hid (RowB w1 g cap (elemB 132 [])) := HR.out
  have HBK : Hid (Below w.heap.size w w1) := HB.out
  have hAl : (elemB 132 []).length ≤ 17 := by simp [elemB]
  generalize elemB 132 [] = A at *
  obtain ⟨ga, hga⟩ : ∃ ga, ga = g := ⟨_, rfl⟩
  obtain ⟨ca, hca⟩ : ∃ ca, ca = cap := ⟨_, rfl⟩
  subst hga hca
  generalize w1 = wk at *
  go_wp2_with fail
  refine (element_some 2 _ [(.slice (some ⟨wk.heap.size, 0, none⟩) 1 1, [1])] _ (parts_one (wk.alloc (.cells #[.int .u8 1] 5)) _ ⟨wk.heap.size, 0, none⟩ 1 1 [1] (by simp) rfl (by simp) (RowB.lit wk #[.int .u8 1] [1] rfl (by simp [maxLen])).src) (by simp [joinP]) (by simp)).mono ?_
  rintro e w5 ⟨g5, cap5, rfl, hg5, hrow5, hb5⟩
  have z5 := hb5.size
  simp at z5 hg5
  have HB5 : Hid (Below wk.heap.size wk w5) := (((Below.refl _ wk).alloc (Nat.le_refl _) _).alloc (by simp) _).trans (hb5.mono (by simp; omega))
  have HR5 : Hid (RowB w5 g5 cap5 [2, 1, 1]) := hrow5
  clear hb5 hrow5
  go_wp2_with fail
  refine (element_some 2 _ [(.slice (some ⟨w5.heap.size, 0, none⟩) 1 1, [0])] _ (parts_one (w5.alloc (.cells #[.int .u8 0] 5)) _ ⟨w5.heap.size, 0, none⟩ 1 1 [0] (by simp) rfl (by simp) (RowB.lit w5 #[.int .u8 0] [0] rfl (by simp [maxLen])).src) (by simp [joinP]) (by simp)).mono ?_
  rintro e w6 ⟨g6, cap6, rfl, hg6, hrow6, hb6⟩
  have z6 := hb6.size
  simp at z6 hg6
  have HB6 : Hid (Below w5.heap.size w5 w6) := (((Below.refl _ w5).alloc (Nat.le_refl _) _).alloc (by simp) _).trans (hb6.mono (by simp; omega))
  have HR6 : Hid (RowB w6 g6 cap6 [2, 1, 0]) := hrow6
  clear hb6 hrow6
  have HR56 : Hid (RowB w6 g5 cap5 [2, 1, 1]) := HR5.out.later HB6.out HR5.out.lt
  have HRA6 : Hid (RowB w6 ga ca A) := (HRA.out.later HB5.out HRA.out.lt).later HB6.out (by have := HRA.out.lt; omega)
  go_wp2_with fail
  refine (element_some 161 _ [(.slice (some ⟨g5, 0, none⟩) 3 cap5, [2, 1, 1]), (.slice (some ⟨g6, 0, none⟩) 3 cap6, [2, 1, 0]), (.slice (some ⟨ga, 0, none⟩) A.length ca, A)] _ (parts_three w6 ⟨g5, 0, none⟩ ⟨g6, 0, none⟩ ⟨ga, 0, none⟩ cap5 cap6 ca 3 3 A.length [2, 1, 1] [2, 1, 0] A rfl rfl rfl HR56.out.lt HR6.out.lt HRA6.out.lt HR56.out.src HR6.out.src HRA6.out.src) (by simp [joinP]; omega) (by simp)).mono ?_
  rintro e w7 ⟨g7, cap7, rfl, hg7, hrow7, hb7⟩
  have z7 := hb7.size
  simp at z7 hg7
  have HB7 : Hid (Below w.heap.size w w7) := (((HBK.out.trans (HB5.out.mono HBK.out.size)).trans (HB6.out.mono (by have := HBK.out.size; omega))).alloc (by have := HBK.out.size; omega) _).trans (hb7.mono (by have := HBK.out.size; simp; omega))
  have hJ : joinP [(Value.slice (some ⟨g5, 0, none⟩) 3 cap5, [2, 1, 1]), (.slice (some ⟨g6, 0, none⟩) 3 cap6, [2, 1, 0]), (.slice (some ⟨ga, 0, none⟩) A.length ca, A)] = [2, 1, 1, 2, 1, 0] ++ A := by simp [joinP]
  rw [hJ] at hrow7 ⊢
  obtain ⟨E, hE⟩ : ∃ E, E = elemB 161 ([2, 1, 1, 2, 1, 0] ++ A) := ⟨_, rfl⟩
  have hEl : E.length ≤ 30 := by rw [hE]; simp [elemB]; omega
  rw [← hE] at hrow7 ⊢
  have HE : Hid (E = elemB 161 ([2, 1, 1, 2, 1, 0] ++ A)) := hE
  have HR7 : Hid (RowB w7 g7 cap7 E) := hrow7
  have zk := HBK.out.size
  clear hb7 hrow7 hJ hE HR5 HR6 HR56 HRA6 HB5 HB6 HRA
  have HR8 : Hid (RowB (w7.alloc (.cells #[.int .u8 159] 5)) w7.heap.size 1 [159]) := RowB.lit w7 #[.int .u8 159] [159] rfl (by simp [maxLen])
  have HR78 : Hid (RowB (w7.alloc (.cells #[.int .u8 159] 5)) g7 cap7 E) := HR7.out.alloc _
  go_wp2_with (at_builtin; refine wp_app _ rfl _ _ rfl w.heap.size w7.heap.size 1 _ [159] rfl rfl HR8.out (by omega) ⟨g7, 0, none⟩ _ cap7 E rfl rfl HR78.out.src (by simp; omega) (by simp; omega) ?_)
  intro g9 cap9 w9 hg9 hrow9 hgr9
  have HB9 : Hid (Below w.heap.size w w9) := (HB7.out.alloc (by omega) _).grown hgr9 (by simp; omega) (fun j hj => by cases hj; omega)
  have z9 := hgr9.size
  simp at z9
  have HR9 : Hid (RowB w9 g9 cap9 (159 :: E)) := hrow9
  clear hgr9 hrow9 HR8 HR78 HR7
  have HR10 : Hid (RowB (w9.alloc (.cells #[.int .u8 28, .int .u8 ((E.length : Int) + 1)] 5)) w9.heap.size 2 [28, (E.length : Int) + 1]) := RowB.lit w9 _ [28, (E.length : Int) + 1] rfl (by simp [maxLen])
  have HR910 : Hid (RowB (w9.alloc (.cells #[.int .u8 28, .int .u8 ((E.length : Int) + 1)] 5)) g9 cap9 (159 :: E)) := HR9.out.alloc _
  have hEI : (E.length : Int) + 1 < 256 := by omega
  go_wp2_with (at_builtin; refine wp_app _ rfl _ _ rfl w.heap.size w9.heap.size 2 _ [28, (E.length : Int) + 1] rfl rfl HR10.out (by omega) ⟨g9, 0, none⟩ _ cap9 (159 :: E) rfl (by simp) HR910.out.src (by simp; omega) (by simp; omega) ?_)
  intro g11 cap11 w11 hg11 hrow11 hgr11
  have HB11 : Hid (Below w.heap.size w w11) := (HB9.out.alloc (by omega) _).grown hgr11 (by simp; omega) (fun j hj => by cases hj; omega)
  have HR11 : Hid (RowB w11 g11 cap11 ([28, (E.length : Int) + 1] ++ 159 :: E)) := hrow11
  clear hgr11 hrow11
  go_wp2
  go_ret
  have hfin : [28, (E.length : Int) + 1] ++ 159 :: E = facB o nm := by
    rw [facB, ← HA.out, wrapB, ← HE.out]
    simp
  refine ⟨g11, cap11, ?_, hg11, by rw [← hfin]; exact HR11.out, HB11.out⟩
  rw [← hfin]
  simp

set_option maxHeartbeats 2000000 in
theorem fac_private (nm : ByteArray) (q : Bool) (w : World) :
    Calls Tryf.prog 10 #[.agg #[.int .u8 2, .string nm, .bool q]] w (GivesB (facB 2 nm) w) := by
  go_enter Tryf.func10, Tryf.ntmps10
  go_wp2_with fail
  refine (element_nil 132 _).mono ?_
  rintro e w1 ⟨g, cap, rfl, hg, hrow, hb⟩
  have HB : Hid (Below w.heap.size w w1) := ((Below.refl _ w).alloc (Nat.le_refl _) _).trans (hb.mono (by simp))
  have c0 := (hb.cell (p := ⟨w.heap.size, 0, none⟩) (by simp))
  have c1 := (hb.cell (p := ⟨w.heap.size, 1, none⟩) (by simp))
  have s1 := hb.size
  simp at c0 c1 s1 hg
  have HR : Hid (RowB w1 g cap (elemB 132 [])) := hrow
  clear hb hrow
  go_wp2_with fail
  refine (element_nil 135 _).mono ?_
  rintro e wk ⟨ga, ca, rfl, hga, hrowA, hbA⟩
  have HA : Hid (elemB 135 [] = argB 2 nm) := by rw [argB, if_neg (by simp [shown]), if_pos rfl]; rfl
  have HRA : Hid (RowB wk ga ca (elemB 135 [])) := hrowA
  have HBK : Hid (Below w.heap.size w wk) := HB.out.trans (hbA.mono (by omega))
  have hAl : (elemB 135 []).length ≤ 17 := by simp [elemB]
  clear hrowA hbA
  generalize elemB 135 [] = A at *
  have hga' : w.heap.size ≤ ga := by omega
  go_wp2_with fail
  refine (element_some 2 _ [(.slice (some ⟨wk.heap.size, 0, none⟩) 1 1, [1])] _ (parts_one (wk.alloc (.cells #[.int .u8 1] 5)) _ ⟨wk.heap.size, 0, none⟩ 1 1 [1] (by simp) rfl (by simp) (RowB.lit wk #[.int .u8 1] [1] rfl (by simp [maxLen])).src) (by simp [joinP]) (by simp)).mono ?_
  rintro e w5 ⟨g5, cap5, rfl, hg5, hrow5, hb5⟩
  have z5 := hb5.size
  simp at z5 hg5
  have HB5 : Hid (Below wk.heap.size wk w5) := (((Below.refl _ wk).alloc (Nat.le_refl _) _).alloc (by simp) _).trans (hb5.mono (by simp; omega))
  have HR5 : Hid (RowB w5 g5 cap5 [2, 1, 1]) := hrow5
  clear hb5 hrow5
  go_wp2_with fail
  refine (element_some 2 _ [(.slice (some ⟨w5.heap.size, 0, none⟩) 1 1, [0])] _ (parts_one (w5.alloc (.cells #[.int .u8 0] 5)) _ ⟨w5.heap.size, 0, none⟩ 1 1 [0] (by simp) rfl (by simp) (RowB.lit w5 #[.int .u8 0] [0] rfl (by simp [maxLen])).src) (by simp [joinP]) (by simp)).mono ?_
  rintro e w6 ⟨g6, cap6, rfl, hg6, hrow6, hb6⟩
  have z6 := hb6.size
  simp at z6 hg6
  have HB6 : Hid (Below w5.heap.size w5 w6) := (((Below.refl _ w5).alloc (Nat.le_refl _) _).alloc (by simp) _).trans (hb6.mono (by simp; omega))
  have HR6 : Hid (RowB w6 g6 cap6 [2, 1, 0]) := hrow6
  clear hb6 hrow6
  have HR56 : Hid (RowB w6 g5 cap5 [2, 1, 1]) := HR5.out.later HB6.out HR5.out.lt
  have HRA6 : Hid (RowB w6 ga ca A) := (HRA.out.later HB5.out HRA.out.lt).later HB6.out (by have := HRA.out.lt; omega)
  go_wp2_with fail
  refine (element_some 161 _ [(.slice (some ⟨g5, 0, none⟩) 3 cap5, [2, 1, 1]), (.slice (some ⟨g6, 0, none⟩) 3 cap6, [2, 1, 0]), (.slice (some ⟨ga, 0, none⟩) A.length ca, A)] _ (parts_three w6 ⟨g5, 0, none⟩ ⟨g6, 0, none⟩ ⟨ga, 0, none⟩ cap5 cap6 ca 3 3 A.length [2, 1, 1] [2, 1, 0] A rfl rfl rfl HR56.out.lt HR6.out.lt HRA6.out.lt HR56.out.src HR6.out.src HRA6.out.src) (by simp [joinP]; omega) (by simp)).mono ?_
  rintro e w7 ⟨g7, cap7, rfl, hg7, hrow7, hb7⟩
  have z7 := hb7.size
  simp at z7 hg7
  have HB7 : Hid (Below w.heap.size w w7) := (((HBK.out.trans (HB5.out.mono HBK.out.size)).trans (HB6.out.mono (by have := HBK.out.size; omega))).alloc (by have := HBK.out.size; omega) _).trans (hb7.mono (by have := HBK.out.size; simp; omega))
  have hJ : joinP [(Value.slice (some ⟨g5, 0, none⟩) 3 cap5, [2, 1, 1]), (.slice (some ⟨g6, 0, none⟩) 3 cap6, [2, 1, 0]), (.slice (some ⟨ga, 0, none⟩) A.length ca, A)] = [2, 1, 1, 2, 1, 0] ++ A := by simp [joinP]
  rw [hJ] at hrow7 ⊢
  obtain ⟨E, hE⟩ : ∃ E, E = elemB 161 ([2, 1, 1, 2, 1, 0] ++ A) := ⟨_, rfl⟩
  have hEl : E.length ≤ 30 := by rw [hE]; simp [elemB]; omega
  rw [← hE] at hrow7 ⊢
  have HE : Hid (E = elemB 161 ([2, 1, 1, 2, 1, 0] ++ A)) := hE
  have HR7 : Hid (RowB w7 g7 cap7 E) := hrow7
  have zk := HBK.out.size
  clear hb7 hrow7 hJ hE HR5 HR6 HR56 HRA6 HB5 HB6 HRA
  have HR8 : Hid (RowB (w7.alloc (.cells #[.int .u8 159] 5)) w7.heap.size 1 [159]) := RowB.lit w7 #[.int .u8 159] [159] rfl (by simp [maxLen])
  have HR78 : Hid (RowB (w7.alloc (.cells #[.int .u8 159] 5)) g7 cap7 E) := HR7.out.alloc _
  go_wp2_with (at_builtin; refine wp_app _ rfl _ _ rfl w.heap.size w7.heap.size 1 _ [159] rfl rfl HR8.out (by omega) ⟨g7, 0, none⟩ _ cap7 E rfl rfl HR78.out.src (by simp; omega) (by simp; omega) ?_)
  intro g9 cap9 w9 hg9 hrow9 hgr9
  have HB9 : Hid (Below w.heap.size w w9) := (HB7.out.alloc (by omega) _).grown hgr9 (by simp; omega) (fun j hj => by cases hj; omega)
  have z9 := hgr9.size
  simp at z9
  have HR9 : Hid (RowB w9 g9 cap9 (159 :: E)) := hrow9
  clear hgr9 hrow9 HR8 HR78 HR7
  have HR10 : Hid (RowB (w9.alloc (.cells #[.int .u8 28, .int .u8 ((E.length : Int) + 1)] 5)) w9.heap.size 2 [28, (E.length : Int) + 1]) := RowB.lit w9 _ [28, (E.length : Int) + 1] rfl (by simp [maxLen])
  have HR910 : Hid (RowB (w9.alloc (.cells #[.int .u8 28, .int .u8 ((E.length : Int) + 1)] 5)) g9 cap9 (159 :: E)) := HR9.out.alloc _
  have hEI : (E.length : Int) + 1 < 256 := by omega
  go_wp2_with (at_builtin; refine wp_app _ rfl _ _ rfl w.heap.size w9.heap.size 2 _ [28, (E.length : Int) + 1] rfl rfl HR10.out (by omega) ⟨g9, 0, none⟩ _ cap9 (159 :: E) rfl (by simp) HR910.out.src (by simp; omega) (by simp; omega) ?_)
  intro g11 cap11 w11 hg11 hrow11 hgr11
  have HB11 : Hid (Below w.heap.size w w11) := (HB9.out.alloc (by omega) _).grown hgr11 (by simp; omega) (fun j hj => by cases hj; omega)
  have HR11 : Hid (RowB w11 g11 cap11 ([28, (E.length : Int) + 1] ++ 159 :: E)) := hrow11
  clear hgr11 hrow11
  go_wp2
  go_ret
  have hfin : [28, (E.length : Int) + 1] ++ 159 :: E = facB 2 nm := by
    rw [facB, ← HA.out, wrapB, ← HE.out]
    simp
  refine ⟨g11, cap11, ?_, hg11, by rw [← hfin]; exact HR11.out, HB11.out⟩
  rw [← hfin]
  simp

theorem fac_any (F : Interp) (o : Int) (nm : ByteArray) (q : Bool) (w : World) (hF : F.answers w.tape) (hn : nm.size ≤ maxLen) :
    Calls Tryf.prog 10 #[.agg #[.int .u8 o, .string nm, .bool q]] w (GivesB (facB o nm) w) := by
  cases h1 : (o == 1) with
  | true =>
    cases hOK : nameOK nm with
    | true => exact fac_shown o nm q w F hF hn h1 hOK
    | false => exact fac_bad o nm q w F hF hn h1 hOK
  | false =>
    by_cases h2 : o = 2
    · subst h2; exact fac_private nm q w
    · exact fac_plain o nm q w h1 (by simpa using h2)

end Go.Proofs.Qxb6619061aFmt

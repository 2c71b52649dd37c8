import Derived.Test.Qxb6619049aFmtLawA
/-! The law FnSigningStringSplitsAtAnyCut (3): the guards, the empty slice, and all cases joined. -/
namespace Go.Proofs.Qxb6619049aFmt
open Go.RowKit Go.Extern.Stop Go.Stop Go.Extern
set_option linter.unusedVariables false
set_option linter.unusedSimpArgs false

set_option maxHeartbeats 1000000 in
theorem law3_big (a0 : Option Addr) (len cap : Nat) (am : Option Nat) (M : ByteArray → Option ByteArray) (n : Nat) (k : Int) (w : World)
    (hm : MapAt w am M n) (hbig : 65536 < len ∨ 65536 < n) :
    Calls Tryf.prog 3 #[.slice a0 len cap, .map am, .int .i64 k] w (LawPost w) := by
  have hc := hm.here.count
  clear hm
  by_cases h1 : 65536 < len
  · have hl1 : (65536 : Int) < (len : Int) := by omega
    go_enter Tryf.func3, Tryf.ntmps3
    go_wp2
    go_ret
    exact ⟨rfl, Below.refl _ _⟩
  · have hl1 : ¬ (65536 : Int) < (len : Int) := by omega
    have hl2 : (65536 : Int) < (n : Int) := by omega
    go_enter Tryf.func3, Tryf.ntmps3
    go_wp2
    go_ret
    exact ⟨rfl, Below.refl _ _⟩

set_option maxHeartbeats 1000000 in
theorem law3_out (a0 : Option Addr) (xs : List ByteArray) (cap : Nat) (am : Option Nat) (M : ByteArray → Option ByteArray) (n : Nat) (k : Int) (w : World)
    (hx : NamesAt w (.slice a0 xs.length cap) xs) (hm : MapAt w am M n) (hlen : xs.length ≤ 65536) (hn : n ≤ 65536) (hk : k < 0 ∨ (xs.length : Int) < k) :
    Calls Tryf.prog 3 #[.slice a0 xs.length cap, .map am, .int .i64 k] w (LawPost w) := by
  have hc := hm.here.count
  have HM : Hid (MapAt w am M n) := hm
  have HX : Hid (NamesAt w (.slice a0 xs.length cap) xs) := hx
  have hl1 : ¬ (65536 : Int) < (xs.length : Int) := by omega
  have hl2 : ¬ (65536 : Int) < (n : Int) := by omega
  clear hm hx
  go_enter Tryf.func3, Tryf.ntmps3
  go_wp2_with fail
  refine (over_names _ xs am M n _ HX.out hlen HM.out hn).mono ?_
  rintro e w' ⟨t, q, rfl, hq, rfl⟩
  clear hq
  cases q with
  | true =>
    go_wp2
    go_ret
    exact ⟨rfl, Below.refl _ _⟩
  | false =>
    by_cases hk1 : k < 0
    · go_wp2
      go_ret
      exact ⟨rfl, Below.refl _ _⟩
    · have hk2 : (xs.length : Int) < k := by omega
      go_wp2
      go_ret
      exact ⟨rfl, Below.refl _ _⟩

set_option maxHeartbeats 1000000 in
theorem law3_empty (hJ : JoinSaid) (F : Interp) (a0 : Option Addr) (am : Option Nat) (M : ByteArray → Option ByteArray) (n : Nat) (w : World)
    (hF : F.answers w.tape) (hm : MapAt w am M n) (hn : n ≤ 65536) :
    Calls Tryf.prog 3 #[.slice a0 0 0, .map am, .int .i64 0] w (LawPost w) := by
  have hc := hm.here.count
  have HM : Hid (MapAt w am M n) := hm
  have HF : Hid (F.answers w.tape) := hF
  have HJ : Hid JoinSaid := hJ
  have hl2 : ¬ (65536 : Int) < (n : Int) := by omega
  clear hm hF hJ
  go_enter Tryf.func3, Tryf.ntmps3
  go_wp2_with fail
  refine (over_nil a0 am M n _ HM.out hn).mono ?_
  rintro e w' ⟨t, q, rfl, hq, rfl⟩
  clear hq
  cases q with
  | true =>
    go_wp2
    go_ret
    exact ⟨rfl, Below.refl _ _⟩
  | false =>
    go_wp2_with fail
    refine (zz_any HJ.out F _ [] am M n _ HF.out (Or.inl ⟨a0, rfl, rfl⟩) (by simp) HM.out (by simp [Plain.cost])).mono ?_
    rintro e w1 ⟨hb1, ⟨_, rfl⟩ | ⟨hno, _⟩⟩
    case inr => cases hno
    have HB1 : Hid (Below w.heap.size w w1) := hb1
    clear hb1
    go_wp2_with fail
    refine (zz_any HJ.out F _ [] am M n _ (by rw [HB1.out.tape]; exact HF.out) (Or.inl ⟨a0, rfl, rfl⟩) (by simp) (HM.out.later HB1.out) (by simp [Plain.cost])).mono ?_
    rintro e w2 ⟨hb2, ⟨_, rfl⟩ | ⟨hno, _⟩⟩
    case inr => cases hno
    have HB2 : Hid (Below w.heap.size w w2) := HB1.out.trans (hb2.mono HB1.out.size)
    clear hb2
    go_wp2_with fail
    refine (zz_any HJ.out F _ [] am M n _ (by rw [HB2.out.tape]; exact HF.out) (Or.inl ⟨a0, rfl, rfl⟩) (by simp) (HM.out.later HB2.out) (by simp [Plain.cost])).mono ?_
    rintro e w3 ⟨hb3, ⟨_, rfl⟩ | ⟨hno, _⟩⟩
    case inr => cases hno
    have HB3 : Hid (Below w.heap.size w w3) := HB2.out.trans (hb3.mono HB2.out.size)
    clear hb3
    go_wp2
    go_quiet (fail)
    have HB4 : Hid (Below w.heap.size w (w3.drewN nq)) := below_drewN HB3.out nq
    generalize w3.drewN nq = w4 at *
    go_wp2
    go_ret
    exact ⟨rfl, HB4.out⟩

/-- All cases of the slice value: a0 is arbitrary where there is no room at all. -/
theorem law3_any (hJ : JoinSaid) (F : Interp) (v : Value) (am : Option Nat) (M : ByteArray → Option ByteArray) (n : Nat) (k : Int) (w : World)
    (hF : F.answers w.tape) (hm : MapAt w am M n)
    (hv : (∃ a0, v = .slice a0 0 0) ∨ ∃ b o cap xs, v = .slice (some ⟨b, o, none⟩) xs.length cap ∧ xs.length ≤ cap ∧ cap ≤ maxLen ∧ CellsAt w b o xs) :
    Calls Tryf.prog 3 #[v, .map am, .int .i64 k] w (LawPost w) := by
  by_cases hn : n ≤ 65536
  · rcases hv with ⟨a0, rfl⟩ | ⟨b, o, cap, xs, rfl, hcap, hmx, hx⟩
    · by_cases hk : k = 0
      · subst hk
        exact law3_empty hJ F a0 am M n w hF hm hn
      · exact law3_out a0 [] 0 am M n k w (Or.inl ⟨a0, rfl, rfl⟩) hm (by simp) hn (by simp; omega)
    · by_cases hlen : xs.length ≤ 65536
      · by_cases hk : k < 0 ∨ (xs.length : Int) < k
        · exact law3_out (some ⟨b, o, none⟩) xs cap am M n k w (Or.inr ⟨b, o, cap, rfl, hx⟩) hm hlen hn hk
        · obtain ⟨j, rfl⟩ := Int.eq_ofNat_of_zero_le (show 0 ≤ k by omega)
          by_cases hjc : j < cap
          · exact law3_main hJ F b o cap xs am M n j w hF hx hcap hmx hm hlen hn (by omega) hjc
          · have : cap = j := by omega
            subst this
            exact law3_end hJ F b o xs am M n cap w hF hx hcap hmx hm hlen hn (by omega)
      · exact law3_big _ _ _ am M n k w hm (Or.inl (by omega))
  · rcases hv with ⟨a0, rfl⟩ | ⟨b, o, cap, xs, rfl, hcap, hmx, hx⟩
    · exact law3_big _ _ _ am M n k w hm (Or.inr (by omega))
    · exact law3_big _ _ _ am M n k w hm (Or.inr (by omega))

theorem law4_any (hJ : JoinSaid) (F : Interp) (v : Value) (am : Option Nat) (M : ByteArray → Option ByteArray) (n : Nat) (w : World)
    (hF : F.answers w.tape) (hm : MapAt w am M n)
    (hv : (∃ a0, v = .slice a0 0 0) ∨ ∃ b o cap xs, v = .slice (some ⟨b, o, none⟩) xs.length cap ∧ xs.length ≤ cap ∧ cap ≤ maxLen ∧ CellsAt w b o xs) :
    Calls Tryf.prog 4 #[v, .map am] w (LawPost w) := by
  rcases hv with ⟨a0, rfl⟩ | ⟨b, o, cap, xs, rfl, hcap, hmx, hx⟩
  · exact law4_nil a0 hJ F am M n w hF hm
  · exact law4_some hJ F b o cap xs am M n w hF hx hcap hmx hm

end Go.Proofs.Qxb6619049aFmt

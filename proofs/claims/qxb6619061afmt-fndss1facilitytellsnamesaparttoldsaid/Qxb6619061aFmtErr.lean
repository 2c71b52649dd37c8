import Derived.Test.Qxb6619061aFmtRows
import Derived.WalkKit
import Derived.WalkSpells
import Derived.WalkLawsBesides
import Derived.Stop.CallBack
import Derived.Stop.IfaceNil
import GoSem.ClaimData
/-! fmt.Errorf (33) at the road's three formats; checkLen (32); CheckName (27). What fmt writes stays unread. -/
namespace Go.Proofs.Qxb6619061aFmt
open Go.RowKit Go.Extern.Stop Go.Stop Go.Extern
set_option linter.unusedVariables false
set_option linter.unusedSimpArgs false

theorem Tryf.call37 (args : Array Value) (w : World) : (callFunc 37 args).run Tryf.prog w = ((FmtStop.errorf #[9, 79] #[54] args).run Tryf.prog w).andThen fun v w' => .ok (.value v) w' :=
  run_callFunc_extern Tryf.func37 (by kernel_rfl) (by kernel_rfl) (by kernel_rfl) (by kernel_rfl) args w
theorem Tryf.guardF (name : String) (w : World) : (FmtStop.guard name).run Tryf.prog w = .ok () w := by kernel_rfl
theorem Tryf.fmt1r (w : World) : (FmtDoors.printed ⟨#[37, 115, 32, 105, 115, 32, 101, 109, 112, 116, 121]⟩ 1).run Tryf.prog w = .ok [(0, 115, false)] w := by kernel_rfl
theorem Tryf.fmt1 : FmtStop.printed? ⟨#[37, 115, 32, 105, 115, 32, 101, 109, 112, 116, 121]⟩ 1 = some [(0, 115, false)] := by kernel_rfl
theorem Tryf.fmt4r (w : World) : (FmtDoors.printed ⟨#[37, 115, 32, 104, 97, 115, 32, 37, 100, 32, 37, 115, 44, 32, 109, 111, 114, 101, 32, 116, 104, 97, 110, 32, 37, 100]⟩ 4).run Tryf.prog w = .ok [(0, 115, false), (1, 100, false), (2, 115, false), (3, 100, false)] w := by kernel_rfl
theorem Tryf.fmt4 : FmtStop.printed? ⟨#[37, 115, 32, 104, 97, 115, 32, 37, 100, 32, 37, 115, 44, 32, 109, 111, 114, 101, 32, 116, 104, 97, 110, 32, 37, 100]⟩ 4 = some [(0, 115, false), (1, 100, false), (2, 115, false), (3, 100, false)] := by kernel_rfl
theorem Tryf.fmt2r (w : World) : (FmtDoors.printed ⟨#[110, 97, 109, 101, 32, 98, 121, 116, 101, 32, 37, 100, 32, 105, 115, 32, 48, 120, 37, 48, 50, 120, 44, 32, 111, 117, 116, 115, 105, 100, 101, 32, 48, 120, 50, 48, 45, 48, 120, 55, 101]⟩ 2).run Tryf.prog w = .ok [(0, 100, false), (1, 120, false)] w := by kernel_rfl
theorem Tryf.fmt2 : FmtStop.printed? ⟨#[110, 97, 109, 101, 32, 98, 121, 116, 101, 32, 37, 100, 32, 105, 115, 32, 48, 120, 37, 48, 50, 120, 44, 32, 111, 117, 116, 115, 105, 100, 101, 32, 48, 120, 50, 48, 45, 48, 120, 55, 101]⟩ 2 = some [(0, 100, false), (1, 120, false)] := by kernel_rfl
def Tryf.shape9 : List UInt8 := [12, 6, 0, 0, 0, 0, 0, 0, 0, 115, 116, 114, 105, 110, 103]
def Tryf.shape3 : List UInt8 := [5, 3, 0, 0, 0, 0, 0, 0, 0, 105, 110, 116]
def Tryf.shape5 : List UInt8 := [6, 5, 0, 0, 0, 0, 0, 0, 0, 117, 105, 110, 116, 56]
theorem Tryf.op9 (name : String) (x : ByteArray) (w : World) : (FmtStop.operand name false 115 false (.iface 9 (.string x))).run Tryf.prog w = .ok (Tryf.shape9, FmtStop.pack x.data.toList) w := by kernel_rfl
theorem Tryf.op9w (name : String) (x : ByteArray) (w : World) : (FmtStop.operand name true 115 false (.iface 9 (.string x))).run Tryf.prog w = .ok (Tryf.shape9, FmtStop.pack x.data.toList) w := by kernel_rfl
theorem Tryf.op3 (name : String) (x : Int) (w : World) : (FmtStop.operand name false 100 false (.iface 3 (.int .i64 x))).run Tryf.prog w = .ok (Tryf.shape3, Go.Extern.Stop.digits 8 (x % 2 ^ 64).toNat) w := by kernel_rfl
theorem Tryf.op3w (name : String) (x : Int) (w : World) : (FmtStop.operand name true 100 false (.iface 3 (.int .i64 x))).run Tryf.prog w = .ok (Tryf.shape3, Go.Extern.Stop.digits 8 (x % 2 ^ 64).toNat) w := by kernel_rfl
theorem Tryf.op5 (name : String) (x : Int) (w : World) : (FmtStop.operand name false 120 false (.iface 5 (.int .u8 x))).run Tryf.prog w = .ok (Tryf.shape5, Go.Extern.Stop.digits 8 (x % 2 ^ 64).toNat) w := by kernel_rfl
theorem Tryf.op5w (name : String) (x : Int) (w : World) : (FmtStop.operand name true 120 false (.iface 5 (.int .u8 x))).run Tryf.prog w = .ok (Tryf.shape5, Go.Extern.Stop.digits 8 (x % 2 ^ 64).toNat) w := by kernel_rfl
theorem Tryf.ptr81 (w : World) : (FmtStop.ptrTo "errors.errorString").run Tryf.prog w = .ok 81 w := by kernel_rfl
theorem Tryf.elem81 (w : World) : (elemOf 81).run Tryf.prog w = .ok 83 w := by kernel_rfl

/-- How Errorf ends: an error of errors.New's make in new memory. -/
def ErrPost (w : World) (e : Ending) (w' : World) : Prop :=
  ∃ p, e = .returned (.iface 81 (.pointer (some p))) ∧ Below w.heap.size w w'

set_option maxHeartbeats 400000 in
theorem errorf_one (F : Interp) (x : ByteArray) (blk : Nat) (w : World) (hF : F.answers w.tape) (hc0 : w.cell? ⟨blk, 0, none⟩ = some (.iface 9 (.string x))) :
    Calls Tryf.prog 33 #[.string ⟨#[37, 115, 32, 105, 115, 32, 101, 109, 112, 116, 121]⟩, .slice (some ⟨blk, 0, none⟩) 1 1] w (ErrPost w) := by
  have hF' := answers_open hF
  have k1 := Tryf.call37
  have k2 := Tryf.guardF
  have k3 := Tryf.fmt1r
  have k4 := Tryf.fmt1
  have k5 := Tryf.op9
  have k6 := Tryf.op9w
  have k7 := Tryf.ptr81
  have k8 := Tryf.elem81
  go_enter Tryf.func33, Tryf.ntmps33
  go_wp2
  go_ret
  exact ⟨_, rfl, ((Below.refl _ w).alloc (Nat.le_refl _) _).drew⟩

set_option maxHeartbeats 400000 in
theorem errorf_four (F : Interp) (x y : ByteArray) (m n : Int) (blk : Nat) (w : World) (hF : F.answers w.tape) (hc0 : w.cell? ⟨blk, 0, none⟩ = some (.iface 9 (.string x))) (hc1 : w.cell? ⟨blk, 1, none⟩ = some (.iface 3 (.int .i64 m)))
    (hc2 : w.cell? ⟨blk, 2, none⟩ = some (.iface 9 (.string y))) (hc3 : w.cell? ⟨blk, 3, none⟩ = some (.iface 3 (.int .i64 n))) :
    Calls Tryf.prog 33 #[.string ⟨#[37, 115, 32, 104, 97, 115, 32, 37, 100, 32, 37, 115, 44, 32, 109, 111, 114, 101, 32, 116, 104, 97, 110, 32, 37, 100]⟩, .slice (some ⟨blk, 0, none⟩) 4 4] w (ErrPost w) := by
  have hF' := answers_open hF
  have k1 := Tryf.call37
  have k2 := Tryf.guardF
  have k3 := Tryf.fmt4r
  have k4 := Tryf.fmt4
  have k5 := Tryf.op9
  have k6 := Tryf.op9w
  have j5 := Tryf.op3
  have j6 := Tryf.op3w
  have k7 := Tryf.ptr81
  have k8 := Tryf.elem81
  go_enter Tryf.func33, Tryf.ntmps33
  go_wp2
  go_ret
  exact ⟨_, rfl, ((Below.refl _ w).alloc (Nat.le_refl _) _).drew⟩

set_option maxHeartbeats 400000 in
theorem errorf_two (F : Interp) (m n : Int) (blk : Nat) (w : World) (hF : F.answers w.tape) (hc0 : w.cell? ⟨blk, 0, none⟩ = some (.iface 3 (.int .i64 m))) (hc1 : w.cell? ⟨blk, 1, none⟩ = some (.iface 5 (.int .u8 n))) :
    Calls Tryf.prog 33 #[.string ⟨#[110, 97, 109, 101, 32, 98, 121, 116, 101, 32, 37, 100, 32, 105, 115, 32, 48, 120, 37, 48, 50, 120, 44, 32, 111, 117, 116, 115, 105, 100, 101, 32, 48, 120, 50, 48, 45, 48, 120, 55, 101]⟩, .slice (some ⟨blk, 0, none⟩) 2 2] w (ErrPost w) := by
  have hF' := answers_open hF
  have k1 := Tryf.call37
  have k2 := Tryf.guardF
  have k3 := Tryf.fmt2r
  have k4 := Tryf.fmt2
  have j5 := Tryf.op3
  have j6 := Tryf.op3w
  have i5 := Tryf.op5
  have i6 := Tryf.op5w
  have k7 := Tryf.ptr81
  have k8 := Tryf.elem81
  go_enter Tryf.func33, Tryf.ntmps33
  go_wp2
  go_ret
  exact ⟨_, rfl, ((Below.refl _ w).alloc (Nat.le_refl _) _).drew⟩

/-! checkLen at "name", "characters", n, 15. -/
def LenPost (n : Nat) (w : World) (e : Ending) (w' : World) : Prop :=
  Below w.heap.size w w' ∧ ((1 ≤ n ∧ n ≤ 15 ∧ e = .returned .nilIface) ∨ (¬ (1 ≤ n ∧ n ≤ 15) ∧ ∃ p, e = .returned (.iface 81 (.pointer (some p)))))

set_option maxHeartbeats 400000 in
theorem checkLen_any (F : Interp) (n : Nat) (w : World) (hF : F.answers w.tape) (hn : n ≤ maxLen) :
    Calls Tryf.prog 32 #[.string ⟨#[110, 97, 109, 101]⟩, .string ⟨#[99, 104, 97, 114, 97, 99, 116, 101, 114, 115]⟩, .int .i64 n, .int .i64 15] w (LenPost n w) := by
  unfold maxLen at hn
  have HF : Hid (F.answers w.tape) := hF
  clear hF
  by_cases h0 : n = 0
  · subst h0
    go_enter Tryf.func32, Tryf.ntmps32
    go_wp2_with fail
    refine (errorf_one F ⟨#[110, 97, 109, 101]⟩ _ _ (by exact HF.out) (by go_simp)).mono ?_
    rintro e w' ⟨p, rfl, hb⟩
    have HB : Hid (Below w.heap.size w w') := ((Below.refl _ w).alloc (Nat.le_refl _) _).trans (hb.mono (by simp))
    clear hb
    go_wp2
    go_ret
    exact ⟨HB.out, Or.inr ⟨by omega, p, rfl⟩⟩
  · have h0B : ((n : Int) == 0) = false := by simp [h0]
    by_cases h1 : 15 < n
    · have h1I : (15 : Int) < (n : Int) := by omega
      go_enter Tryf.func32, Tryf.ntmps32
      go_wp2_with fail
      refine (errorf_four F ⟨#[110, 97, 109, 101]⟩ ⟨#[99, 104, 97, 114, 97, 99, 116, 101, 114, 115]⟩ n 15 _ _ (by exact HF.out) (by go_simp) (by go_simp) (by go_simp) (by go_simp)).mono ?_
      rintro e w' ⟨p, rfl, hb⟩
      have HB : Hid (Below w.heap.size w w') := ((Below.refl _ w).alloc (Nat.le_refl _) _).trans (hb.mono (by simp))
      clear hb
      go_wp2
      go_ret
      exact ⟨HB.out, Or.inr ⟨by omega, p, rfl⟩⟩
    · have h1I : ¬ (15 : Int) < (n : Int) := by omega
      go_enter Tryf.func32, Tryf.ntmps32
      go_wp2
      go_ret
      exact ⟨Below.refl _ _, Or.inl ⟨by omega, by omega, rfl⟩⟩

/-- A name as CheckName takes it. -/
def okByte (c : UInt8) : Bool := decide (32 ≤ c.toNat) && decide (c.toNat ≤ 126)
def nameOK (nm : ByteArray) : Bool := decide (1 ≤ nm.size) && decide (nm.size ≤ 15) && nm.data.toList.all okByte

def NamePost (nm : ByteArray) (w : World) (e : Ending) (w' : World) : Prop :=
  Below w.heap.size w w' ∧ ((nameOK nm = true ∧ e = .returned .nilIface) ∨ (nameOK nm = false ∧ ∃ p, e = .returned (.iface 81 (.pointer (some p)))))

theorem take_snoc (s : ByteArray) (k : Nat) (h : k < s.size) : s.data.toList.take (k + 1) = s.data.toList.take k ++ [s[k]] := by
  rw [List.take_succ_eq_append_getElem (by simpa using h)]; rfl

theorem ok_next (s : ByteArray) (k : Nat) (h : k < s.size) (h0 : (s.data.toList.take k).all okByte = true) : (s.data.toList.take (k + 1)).all okByte = okByte s[k] := by
  rw [take_snoc s k h, List.all_append, h0]
  simp

theorem not_ok (s : ByteArray) (k : Nat) (h : k < s.size) (h0 : okByte s[k] = false) : s.data.toList.all okByte = false := by
  rw [List.all_eq_false]
  exact ⟨s[k], by rw [show s[k] = s.data.toList[k]'(by simpa using h) from rfl]; exact List.getElem_mem _, by simp [h0]⟩

set_option maxHeartbeats 1000000 in
theorem checkName_any (F : Interp) (nm : ByteArray) (w : World) (hF : F.answers w.tape) (hn : nm.size ≤ maxLen) :
    Calls Tryf.prog 27 #[.string nm] w (NamePost nm w) := by
  have HF : Hid (F.answers w.tape) := hF
  have hn' := hn
  unfold maxLen at hn'
  clear hF
  go_enter Tryf.func27, Tryf.ntmps27
  go_wp2_with fail
  refine (checkLen_any F nm.size _ (by exact HF.out) hn).mono ?_
  rintro e w1 ⟨hb, ⟨h1, h2, rfl⟩ | ⟨h1, p, rfl⟩⟩
  · have HB : Hid (Below w.heap.size w w1) := hb
    clear hb
    go_wp2
    go_loop [4] (fun i => ∃ k : Nat, k ≤ nm.size ∧ i = .int .i64 k ∧ (nm.data.toList.take k).all okByte = true) (fun i => nm.size - (intOf i).toNat)
    case atStart => exact ⟨0, Nat.zero_le _, rfl, by simp⟩
    case round =>
      obtain ⟨k, hk, rfl, hall⟩ := hrel
      by_cases hlt : k < nm.size
      · have HN : Hid ((nm.data.toList.take (k + 1)).all okByte = okByte nm[k]) := ok_next nm k hlt hall
        have HE : Hid (okByte nm[k] = false → nm.data.toList.all okByte = false) := not_ok nm k hlt
        clear hall
        have hltI : (k : Int) < (nm.size : Int) := by omega
        by_cases hlo : (nm[k].toNat : Int) < 32
        · have HO : Hid (okByte nm[k] = false) := by simp only [okByte, Hid]; simp; omega
          go_wp2_with fail
          refine (errorf_two F ((k : Int) + 1) (nm[k].toNat : Int) _ _ (by show F.answers w1.tape; rw [HB.out.tape]; exact HF.out) (by go_simp) (by go_simp)).mono ?_
          rintro e w2 ⟨p, rfl, hb⟩
          have HB2 : Hid (Below w.heap.size w w2) := (HB.out.alloc HB.out.size _).trans (hb.mono (by have := HB.out.size; simp; omega))
          clear hb
          go_wp2
          go_ret
          exact ⟨HB2.out, Or.inr ⟨by rw [nameOK, HE.out HO.out]; simp, p, rfl⟩⟩
        · by_cases hhi : (126 : Int) < (nm[k].toNat : Int)
          · have HO : Hid (okByte nm[k] = false) := by simp only [okByte, Hid]; simp; omega
            go_wp2_with fail
            refine (errorf_two F ((k : Int) + 1) (nm[k].toNat : Int) _ _ (by show F.answers w1.tape; rw [HB.out.tape]; exact HF.out) (by go_simp) (by go_simp)).mono ?_
            rintro e w2 ⟨p, rfl, hb⟩
            have HB2 : Hid (Below w.heap.size w w2) := (HB.out.alloc HB.out.size _).trans (hb.mono (by have := HB.out.size; simp; omega))
            clear hb
            go_wp2
            go_ret
            exact ⟨HB2.out, Or.inr ⟨by rw [nameOK, HE.out HO.out]; simp, p, rfl⟩⟩
          · have HO : Hid (okByte nm[k] = true) := by simp only [okByte, Hid]; simp; omega
            go_wp2
            go_round
            case rel => exact ⟨k + 1, by omega, by go_num, by rw [HN.out]; exact HO.out⟩
            case measure => simp [intOf]; omega
      · have hltI : ¬ (k : Int) < (nm.size : Int) := by omega
        have HO : Hid (nameOK nm = true) := by
          rw [List.take_of_length_le (by simp; omega)] at hall
          simp only [nameOK, hall, Hid]
          simp
          exact ⟨h1, h2⟩
        clear hall
        go_wp2
        go_ret
        exact ⟨HB.out, Or.inl ⟨HO.out, rfl⟩⟩
  · have HB : Hid (Below w.heap.size w w1) := hb
    have HO : Hid (nameOK nm = false) := by
      simp only [nameOK, Hid]
      by_cases a : 1 ≤ nm.size <;> by_cases b : nm.size ≤ 15 <;> simp [a, b]
      exact absurd ⟨a, b⟩ h1
    clear hb h1
    go_wp2
    go_ret
    exact ⟨HB.out, Or.inr ⟨HO.out, p, rfl⟩⟩

end Go.Proofs.Qxb6619061aFmt

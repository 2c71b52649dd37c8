import Derived.Test.Qxb6619061aFmtFac
import Derived.Deep.QuietTactic
import Derived.BigQuiet
/-! zzb1BytesEqual (13), zzb1NameShown (12), zzb1FacilityShape (11). -/
namespace Go.Proofs.Qxb6619061aFmt
open Go.RowKit Go.Extern.Stop Go.Stop Go.Extern
set_option linter.unusedVariables false
set_option linter.unusedSimpArgs false

def EqPost (us bs : List Int) (w : World) (e : Ending) (w' : World) : Prop := e = .returned (.bool (decide (us = bs))) ∧ Below w.heap.size w w'

theorem take_eq_next {us bs : List Int} {k : Nat} {x y : Int} (hx : us[k]? = some x) (hy : bs[k]? = some y) (h : us.take k = bs.take k) (e : x = y) : us.take (k + 1) = bs.take (k + 1) := by
  rw [List.take_add_one, List.take_add_one, hx, hy, h, e]

set_option maxHeartbeats 1000000 in
theorem beq_any (ga ca gb cb : Nat) (us bs : List Int) (w : World) (ha : RowB w ga ca us) (hb : RowB w gb cb bs) (hl : us.length ≤ 1000000) (hl' : bs.length ≤ 1000000) :
    Calls Tryf.prog 13 #[.slice (some ⟨ga, 0, none⟩) us.length ca, .slice (some ⟨gb, 0, none⟩) bs.length cb] w (EqPost us bs w) := by
  by_cases hne : us.length = bs.length
  · have HA : Hid (RowB w ga ca us) := ha
    have HB : Hid (RowB w gb cb bs) := hb
    have la := ha.len
    have lb := hb.len
    unfold maxLen at la lb
    clear ha hb
    have hneB : ((us.length : Int) != (bs.length : Int)) = false := by simp [hne]
    have HNE : Hid (us.length = bs.length) := hne
    have hle : us.length ≤ bs.length := by omega
    clear hne
    go_enter Tryf.func13, Tryf.ntmps13
    go_wp2
    go_loopw [5] (fun i wr => ∃ k : Nat, k ≤ us.length ∧ i = .int .i64 k ∧ us.take k = bs.take k ∧ Below w.heap.size w wr) (fun i _ => us.length - (intOf i).toNat)
    case atStart => exact ⟨0, Nat.zero_le _, rfl, by simp, Below.refl _ _⟩
    case round =>
      obtain ⟨k, hk, rfl, htk, hnx⟩ := hrel
      by_cases hlt : k < us.length
      · obtain ⟨x, hx⟩ : ∃ x, us[k]? = some x := ⟨_, List.getElem?_eq_getElem hlt⟩
        obtain ⟨y, hy⟩ : ∃ y, bs[k]? = some y := ⟨_, List.getElem?_eq_getElem (by omega)⟩
        have cx := (HA.out.later hnx HA.out.lt).cell hx
        have cy := (HB.out.later hnx HB.out.lt).cell hy
        have hltI : (k : Int) < (us.length : Int) := by omega
        have hltJ : (k : Int) < (bs.length : Int) := by omega
        have HNX : Hid (Below w.heap.size w wr) := hnx
        have HT : Hid (x = y → us.take (k + 1) = bs.take (k + 1)) := take_eq_next hx hy htk
        have HD : Hid (¬ x = y → us ≠ bs) := fun hxy e => hxy (by rw [e, hy] at hx; exact (Option.some.inj hx).symm)
        clear hnx hx hy htk
        by_cases hxy : x = y
        · have hB : (x != y) = false := by simp [hxy]
          have HXY : Hid (x = y) := hxy
          clear hxy
          go_wp2
          go_quiet (fail)
          go_wp2
          go_roundw
          case rel => exact ⟨k + 1, by omega, by go_num, HT.out HXY.out, HNX.out.trans ⟨rfl, rfl, rfl, Nat.le_refl _, fun _ _ => rfl⟩⟩
          case measure => simp [intOf]; omega
        · have hB : (x != y) = true := by simp [hxy]
          have HXY : Hid (¬ x = y) := hxy
          clear hxy
          go_wp2
          go_quiet (fail)
          go_wp2
          go_ret
          exact ⟨by rw [decide_eq_false (HD.out HXY.out)]; rfl, HNX.out.trans ⟨rfl, rfl, rfl, Nat.le_refl _, fun _ _ => rfl⟩⟩
      · have hltI : ¬ (k : Int) < (us.length : Int) := by omega
        have HE : Hid (us = bs) := by
          rw [List.take_of_length_le (by omega), List.take_of_length_le (by have := HNE.out; omega)] at htk
          exact htk
        have HNX : Hid (Below w.heap.size w wr) := hnx
        clear htk hnx
        go_wp2
        go_ret
        exact ⟨by rw [decide_eq_true HE.out]; rfl, HNX.out⟩
  · have hneB : ((us.length : Int) != (bs.length : Int)) = true := by simp; omega
    have HD : Hid (us ≠ bs) := fun e => hne (by rw [e])
    clear ha hb hne
    go_enter Tryf.func13, Tryf.ntmps13
    go_wp2
    go_ret
    exact ⟨by rw [decide_eq_false HD.out]; rfl, Below.refl _ _⟩

set_option maxHeartbeats 1000000 in
theorem shown_any (o : Int) (nm : ByteArray) (w : World) (hn : nm.size ≤ maxLen) :
    Calls Tryf.prog 12 #[.int .u8 o, .string nm] w fun e w' => e = .returned (.bool (shown o nm)) ∧ w = w' := by
  unfold maxLen at hn
  by_cases h1 : o = 1
  · subst h1
    by_cases ha : nm.size < 1
    · have haI : (nm.size : Int) < 1 := by omega
      have HS : Hid (shown 1 nm = false) := by simp [shown, nameOK, Hid]; omega
      go_enter Tryf.func12, Tryf.ntmps12
      go_wp2
      go_ret
      exact ⟨by rw [HS.out]; rfl, rfl⟩
    · have haI : ¬ (nm.size : Int) < 1 := by omega
      by_cases hb : 15 < nm.size
      · have hbI : (15 : Int) < (nm.size : Int) := by omega
        have HS : Hid (shown 1 nm = false) := by simp [shown, nameOK, Hid]; omega
        go_enter Tryf.func12, Tryf.ntmps12
        go_wp2
        go_ret
        exact ⟨by rw [HS.out]; rfl, rfl⟩
      · have hbI : ¬ (15 : Int) < (nm.size : Int) := by omega
        have HS : Hid (shown 1 nm = nm.data.toList.all okByte) := by
          have e1 : decide (1 ≤ nm.size) = true := by simp; omega
          have e2 : decide (nm.size ≤ 15) = true := by simp; omega
          simp only [shown, nameOK, Hid, e1, e2]
          simp
        go_enter Tryf.func12, Tryf.ntmps12
        go_wp2
        go_loop [5] (fun i => ∃ k : Nat, k ≤ nm.size ∧ i = .int .i64 k ∧ (nm.data.toList.take k).all okByte = true) (fun i => nm.size - (intOf i).toNat)
        case atStart => exact ⟨0, Nat.zero_le _, rfl, by simp⟩
        case round =>
          obtain ⟨k, hk, rfl, hall⟩ := hrel
          by_cases hlt : k < nm.size
          · have HN : Hid ((nm.data.toList.take (k + 1)).all okByte = okByte nm[k]) := ok_next nm k hlt hall
            have HE : Hid (okByte nm[k] = false → nm.data.toList.all okByte = false) := not_ok nm k hlt
            clear hall
            have hltI : (k : Int) < (nm.size : Int) := by omega
            by_cases hlo : (nm[k].toNat : Int) < 32
            · have HO : Hid (okByte nm[k] = false) := by simp only [okByte, Hid]; simp; omega
              go_wp2
              go_ret
              exact ⟨by rw [HS.out, HE.out HO.out]; rfl, rfl⟩
            · by_cases hhi : (126 : Int) < (nm[k].toNat : Int)
              · have HO : Hid (okByte nm[k] = false) := by simp only [okByte, Hid]; simp; omega
                go_wp2
                go_ret
                exact ⟨by rw [HS.out, HE.out HO.out]; rfl, rfl⟩
              · have HO : Hid (okByte nm[k] = true) := by simp only [okByte, Hid]; simp; omega
                go_wp2
                go_round
                case rel => exact ⟨k + 1, by omega, by go_num, by rw [HN.out]; exact HO.out⟩
                case measure => simp [intOf]; omega
          · have hltI : ¬ (k : Int) < (nm.size : Int) := by omega
            have HA : Hid (nm.data.toList.all okByte = true) := by
              rw [List.take_of_length_le (by simp; omega)] at hall
              exact hall
            clear hall
            go_wp2
            go_ret
            exact ⟨by rw [HS.out, HA.out]; rfl, rfl⟩
  · have h1B : (o != 1) = true := by simp [h1]
    have HS : Hid (shown o nm = false) := by simp [shown, Hid, h1]
    go_enter Tryf.func12, Tryf.ntmps12
    go_wp2
    go_ret
    exact ⟨by rw [HS.out]; rfl, rfl⟩

set_option maxHeartbeats 1000000 in
theorem shape_plain (t : Int) (ht : t = 132 ∨ t = 135) (g cap : Nat) (nm : ByteArray) (w : World) (hrow : RowB w g cap (wrapB (elemB t []))) :
    Calls Tryf.prog 11 #[.slice (some ⟨g, 0, none⟩) 13 cap, .bool false, .string nm] w fun e w' => e = .returned (.bool true) ∧ w = w' := by
  have c0 := hrow.cell (j := 0) (x := 28) rfl
  have c1 := hrow.cell (j := 1) (x := 11) rfl
  have c2 := hrow.cell (j := 2) (x := 159) rfl
  have c3 := hrow.cell (j := 3) (x := 161) rfl
  have c4 := hrow.cell (j := 4) (x := 8) rfl
  have c11 := hrow.cell (j := 11) (x := t) rfl
  have c12 := hrow.cell (j := 12) (x := 0) rfl
  clear hrow
  rcases ht with rfl | rfl
  · go_enter Tryf.func11, Tryf.ntmps11
    go_wp2
    go_ret
    exact ⟨rfl, rfl⟩
  · go_enter Tryf.func11, Tryf.ntmps11
    go_wp2
    go_ret
    exact ⟨rfl, rfl⟩

end Go.Proofs.Qxb6619061aFmt

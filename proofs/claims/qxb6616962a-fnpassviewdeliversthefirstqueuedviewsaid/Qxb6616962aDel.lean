import Derived.Test.Qxb6616962aSt
/-! slices.DeleteFunc at this program's closure. -/
namespace Go.Proofs.Qxb6616962a
open Go.RowKit
set_option linter.unusedVariables false
set_option linter.unusedSimpArgs false
set_option maxRecDepth 8000

/-- The closure of passView: 'is it the view's member?'. -/
def cloV (vb : Nat) : Value := .func (.func 37) #[] #[.pointer (some ⟨vb, 0, none⟩)]

theorem RowV.set_beyond {w : World} {g : Nat} {t : TypeId} {sz cap : Nat} {vs : List Value} (h : RowV w g t sz cap vs) (i : Nat) (x : Value) (hi : vs.length ≤ i) : RowV (w.setCell ⟨g, i, none⟩ x) g t sz cap vs := by
  obtain ⟨cur, hg, h1, h2, h3, h4⟩ := h
  refine ⟨cur.setIfInBounds i x, ?_, h1, h2, by simpa using h3, ?_⟩
  · simp [World.setCell, Array.getElem?_modify, hg]
  · rw [Array.toList_setIfInBounds, List.take_set_of_le hi, h4]

theorem RowV.sets_beyond {g : Nat} {t : TypeId} {sz cap : Nat} {vs : List Value} : ∀ (us : List Value) (o : Nat) (w : World), RowV w g t sz cap vs → vs.length ≤ o → RowV (w.setCells g o us) g t sz cap vs
  | [], _, _, h, _ => h
  | u :: us, o, w, h, ho => RowV.sets_beyond us (o + 1) _ (h.set_beyond o u ho) (by omega)

theorem Chg.sets {ex : Nat → Prop} {g : Nat} (hg : ex g) : ∀ (us : List Value) (o : Nat) (w : World), Chg w (w.setCells g o us) ex
  | [], _, w => Chg.refl w ex
  | u :: us, o, w => (Chg.set ⟨g, o, none⟩ u hg).trans (Chg.sets hg us (o + 1) _)

set_option maxHeartbeats 1000000 in
theorem clo37 (vb : Nat) (x p : Int) (w : World) (h : w.cell? ⟨vb, 0, none⟩ = some (.int .i64 p)) : Calls Try.prog 37 #[.int .i64 x, .pointer (some ⟨vb, 0, none⟩)] w (fun e w' => e = .returned (.bool (decide (x = p))) ∧ w' = w) := by
  go_enter Try.func37, Try.ntmps37
  go_wp2
  go_ret
  first
    | exact ⟨rfl, rfl⟩
    | exact ⟨by simp, rfl⟩

/-- Where the member stands first. -/
def IdxPost (w : World) (p : Int) (xs : List Int) (e : Ending) (w' : World) : Prop :=
  w' = w ∧ ((e = .returned (.int .i64 (-1)) ∧ p ∉ xs) ∨ ∃ k : Nat, e = .returned (.int .i64 (k : Int)) ∧ k < xs.length ∧ xs[k]? = some p ∧ p ∉ xs.take k)

set_option maxHeartbeats 2000000 in
theorem idx38 (vb : Nat) (p : Int) (a : Option Addr) (c : Nat) (xs : List Int) (w : World) (h : w.cell? ⟨vb, 0, none⟩ = some (.int .i64 p)) (hin : InV w (.slice a xs.length c) (xs.map (Value.int .i64))) (hl : xs.length ≤ 1048576) : Calls Try.prog 38 #[.slice a xs.length c, cloV vb] w (IdxPost w p xs) := by
  have HI : Hid (InV w (.slice a xs.length c) (xs.map (Value.int .i64))) := hin
  clear hin
  unfold cloV
  go_enter Try.func38, Try.ntmps38
  go_wp2_with fail
  go_loop [8] (fun i => ∃ k : Nat, k ≤ xs.length ∧ i = .int .i64 k ∧ p ∉ xs.take k) (fun i => xs.length - (intOf i).toNat)
  case atStart => exact ⟨0, Nat.zero_le _, rfl, by simp⟩
  case round =>
    obtain ⟨k, hk, rfl, hno⟩ := hrel
    have HNO : Hid (p ∉ xs.take k) := hno
    clear hno
    by_cases hlt : k < xs.length
    · obtain ⟨x, hx⟩ : ∃ x, xs[k]? = some x := ⟨_, List.getElem?_eq_getElem hlt⟩
      have hltI : (k : Int) < (xs.length : Int) := by omega
      obtain ⟨ad, rfl, cx, -, lc⟩ := HI.out.at (k := k) (x := .int .i64 x) (by rw [List.getElem?_map, hx]; rfl)
      have HX : Hid (xs[k]? = some x) := hx
      clear hx
      go_wp2_with fail
      refine (clo37 vb x p _ h).mono ?_
      rintro e w' ⟨rfl, rfl⟩
      by_cases hxp : x = p
      · have hd : decide (x = p) = true := by simpa using hxp
        rw [hd]
        go_wp2
        go_ret
        exact ⟨rfl, Or.inr ⟨k, rfl, hlt, by rw [HX.out, hxp], HNO.out⟩⟩
      · have hd : decide (x = p) = false := by simpa using hxp
        rw [hd]
        go_wp2
        go_round
        case rel =>
          refine ⟨k + 1, by omega, by go_num, ?_⟩
          rw [List.take_add_one, HX.out]
          simp
          exact ⟨HNO.out, fun e => hxp e.symm⟩
        case measure => simp [intOf]; omega
    · have hltI : ¬ (k : Int) < (xs.length : Int) := by omega
      go_wp2
      go_ret
      refine ⟨rfl, Or.inl ⟨rfl, ?_⟩⟩
      have := HNO.out
      rwa [List.take_of_length_le (by omega)] at this

end Go.Proofs.Qxb6616962a

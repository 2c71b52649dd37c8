import Derived.Test.Qxb6619049aFmtWalkB
import Derived.Deep.QuietTactic
import Derived.BigQuiet
/-! Walks: the nil slice at 5 and 10; ZZSigningString (6); zzFirstMissing (7); zzTextLen (8). -/
namespace Go.Proofs.Qxb6619049aFmt
open Go.RowKit Go.Extern.Stop Go.Stop Go.Extern
set_option linter.unusedVariables false
set_option linter.unusedSimpArgs false

set_option maxHeartbeats 400000 in
theorem over_nil (a0 : Option Addr) (am : Option Nat) (M : ByteArray → Option ByteArray) (n : Nat) (w : World) (hm : MapAt w am M n) (hn : n ≤ 65536) :
    Calls Tryf.prog 5 #[.int .i64 0, .slice a0 0 0, .map am] w (OverPost M [] w) := by
  have hc := hm.here.count
  have hl2 : ¬ (65536 : Int) < (n : Int) := by omega
  clear hm
  go_enter Tryf.func5, Tryf.ntmps5
  go_wp2
  refine wp_loop_rounds 1 ?_
  rw [rounds_succ]
  go_wp2
  go_ret2
  exact ⟨_, _, rfl, fun _ => by simp [Plain.cost], rfl⟩

set_option maxHeartbeats 400000 in
theorem sign_nil (a0 : Option Addr) (hJ : JoinSaid) (B : Nat) (M : ByteArray → Option ByteArray) (w : World) :
    Calls Tryf.prog 10 #[.slice a0 0 0, .func (.func 11) #[] #[.pointer (some ⟨B, 0, none⟩)]] w (SignPost M [] w) := by
  have hmk : ∀ w : World, (Instr.makeSlice 22 (.int .i64 0) (.int .i64 0)).run Tryf.prog w = .ok (.slice (some ⟨w.heap.size, 0, none⟩) 0 0) (w.alloc (.cells (madeCells #[.string ⟨#[]⟩] 0) 9)) :=
    run_make_row' (P := Tryf.prog) 22 9 (.string ⟨#[]⟩) 16 Tryf.underlying22 Tryf.info9 rfl .i64 .i64 0 (by omega) (by omega)
  have cJ := hJ w.heap.size 0 0 [] ⟨#[10]⟩ (w.alloc (.cells (madeCells #[.string ⟨#[]⟩] 0) 9)) (fun j x h => by simp at h) (by simp) (by simp) (by simp) (by simp [Lib.join_nil])
  simp only [List.length_nil] at cJ
  have HJ : Hid (Calls Tryf.prog 13 #[.slice (some ⟨w.heap.size, 0, none⟩) 0 0, .string ⟨#[10]⟩] (w.alloc (.cells (madeCells #[.string ⟨#[]⟩] 0) 9)) fun e w' => e = .returned (.string ⟨(Lib.join (([] : List ByteArray).map (·.data.toList)) (⟨#[10]⟩ : ByteArray).data.toList).toArray⟩) ∧ Below (w.alloc (.cells (madeCells #[.string ⟨#[]⟩] 0) 9)).heap.size (w.alloc (.cells (madeCells #[.string ⟨#[]⟩] 0) 9)) w') := cJ
  clear cJ
  go_enter Tryf.func10, Tryf.ntmps10
  go_wp2
  refine wp_loop_rounds 1 ?_
  rw [rounds_succ]
  go_wp2_with fail
  refine HJ.out.mono ?_
  rintro e w' ⟨rfl, hb⟩
  go_wp2
  go_ret2
  refine ⟨((Below.refl _ w).alloc (Nat.le_refl _) _).trans (hb.mono (by simp)), Or.inl ⟨rfl, rfl⟩⟩

/-- v is a slice of strings that reads as xs. -/
def NamesAt (w : World) (v : Value) (xs : List ByteArray) : Prop :=
  (∃ a0, v = .slice a0 0 0 ∧ xs = []) ∨ ∃ b o cap, v = .slice (some ⟨b, o, none⟩) xs.length cap ∧ CellsAt w b o xs

theorem NamesAt.later {w w' : World} {v : Value} {xs : List ByteArray} (h : NamesAt w v xs) (hb : Below w.heap.size w w') : NamesAt w' v xs := by
  rcases h with h | ⟨b, o, cap, h1, h2⟩
  · exact Or.inl h
  · exact Or.inr ⟨b, o, cap, h1, h2.later hb⟩

theorem sign_any (hJ : JoinSaid) (F : Interp) (v : Value) (B : Nat) (xs : List ByteArray) (am : Option Nat) (M : ByteArray → Option ByteArray) (n : Nat) (w : World)
    (hF : F.answers w.tape) (hx : NamesAt w v xs) (hlen : xs.length ≤ 65536) (hm : MapAt w am M n) (hB : w.cell? ⟨B, 0, none⟩ = some (.map am)) (hcost : Plain.cost M xs ≤ 1048576) :
    Calls Tryf.prog 10 #[v, .func (.func 11) #[] #[.pointer (some ⟨B, 0, none⟩)]] w (SignPost M xs w) := by
  rcases hx with ⟨a0, rfl, rfl⟩ | ⟨b, o, cap, rfl, h2⟩
  · exact sign_nil a0 hJ B M w
  · exact sign_some hJ F b o cap B xs am M n w hF h2 hlen hm hB hcost

theorem over_names (v : Value) (xs : List ByteArray) (am : Option Nat) (M : ByteArray → Option ByteArray) (n : Nat) (w : World)
    (hx : NamesAt w v xs) (hlen : xs.length ≤ 65536) (hm : MapAt w am M n) (hn : n ≤ 65536) :
    Calls Tryf.prog 5 #[.int .i64 0, v, .map am] w (OverPost M xs w) := by
  rcases hx with ⟨a0, rfl, rfl⟩ | ⟨b, o, cap, rfl, h2⟩
  · exact over_nil a0 am M n w hm hn
  · exact over_any b o cap xs am M n w h2 hlen hm hn

set_option maxHeartbeats 400000 in
theorem zz_any (hJ : JoinSaid) (F : Interp) (v : Value) (xs : List ByteArray) (am : Option Nat) (M : ByteArray → Option ByteArray) (n : Nat) (w : World)
    (hF : F.answers w.tape) (hx : NamesAt w v xs) (hlen : xs.length ≤ 65536) (hm : MapAt w am M n) (hcost : Plain.cost M xs ≤ 1048576) :
    Calls Tryf.prog 6 #[v, .map am] w (SignPost M xs w) := by
  have b0 : Below w.heap.size w (w.alloc (.cells #[.map am] 23)) := (Below.refl _ w).alloc (Nat.le_refl _) _
  have cS : Hid (Calls Tryf.prog 10 #[v, .func (.func 11) #[] #[.pointer (some ⟨w.heap.size, 0, none⟩)]] (w.alloc (.cells #[.map am] 23)) (SignPost M xs (w.alloc (.cells #[.map am] 23)))) :=
    sign_any hJ F v w.heap.size xs am M n _ (by rw [b0.tape]; exact hF) (hx.later b0) hlen (hm.later b0) (by simp) hcost
  have HB : Hid (Below w.heap.size w (w.alloc (.cells #[.map am] 23))) := b0
  clear b0 hF hx hm hcost hlen
  go_enter Tryf.func6, Tryf.ntmps6
  go_wp2_with fail
  refine cS.out.mono ?_
  rintro e w' ⟨hb, h | ⟨h, p, h'⟩⟩
  · obtain ⟨ha, rfl⟩ := h
    have HA : Hid (Plain.allHave M xs = true) := ha
    clear ha
    go_wp2
    go_ret2
    exact ⟨HB.out.trans (hb.mono (by simp)), Or.inl ⟨HA.out, rfl⟩⟩
  · subst h'
    have HA : Hid (Plain.allHave M xs = false) := h
    clear h
    go_wp2
    go_ret2
    exact ⟨HB.out.trans (hb.mono (by simp)), Or.inr ⟨HA.out, p, rfl⟩⟩

/-! zzFirstMissing -/

/-- How zzFirstMissing ends: the first index whose name has no value, or -1. -/
def FirstPost (M : ByteArray → Option ByteArray) (xs : List ByteArray) (w : World) (e : Ending) (w' : World) : Prop :=
  w = w' ∧ ((Plain.allHave M xs = true ∧ e = .returned (.int .i64 (-1))) ∨
    (∃ j : Nat, j < xs.length ∧ e = .returned (.int .i64 (j : Int)) ∧ Plain.allHave M (xs.take j) = true ∧ Plain.allHave M (xs.take (j + 1)) = false ∧ Plain.allHave M xs = false))

set_option maxHeartbeats 400000 in
theorem first_nil (a0 : Option Addr) (am : Option Nat) (M : ByteArray → Option ByteArray) (w : World) :
    Calls Tryf.prog 7 #[.slice a0 0 0, .map am] w (FirstPost M [] w) := by
  go_enter Tryf.func7, Tryf.ntmps7
  go_wp2
  refine wp_loop_rounds 1 ?_
  rw [rounds_succ]
  go_wp2
  go_ret
  exact ⟨rfl, Or.inl ⟨rfl, rfl⟩⟩

theorem take_false (M : ByteArray → Option ByteArray) (xs : List ByteArray) (k : Nat) (x : ByteArray) (h : xs[k]? = some x) (hx : Plain.has M x = false) : Plain.allHave M (xs.take (k + 1)) = false := by
  rw [Plain.allHave, List.all_eq_false]
  refine ⟨x, ?_, by simp [hx]⟩
  rw [List.take_add_one, h]
  simp

set_option maxHeartbeats 400000 in
theorem first_some (b o cap : Nat) (xs : List ByteArray) (am : Option Nat) (M : ByteArray → Option ByteArray) (n : Nat) (w : World)
    (hx : CellsAt w b o xs) (hlen : xs.length ≤ 65536) (hm : MapAt w am M n) :
    Calls Tryf.prog 7 #[.slice (some ⟨b, o, none⟩) xs.length cap, .map am] w (FirstPost M xs w) := by
  have HM : Hid (MapIn w am M n) := hm.here
  have HX : Hid (CellsAt w b o xs) := hx
  clear hm hx
  go_enter Tryf.func7, Tryf.ntmps7
  go_wp2
  go_loop [5] (fun i => ∃ k : Nat, k ≤ xs.length ∧ i = .int .i64 k ∧ (xs.take k).all (Plain.has M) = true) (fun i => xs.length - (intOf i).toNat)
  case atStart => exact ⟨0, Nat.zero_le _, rfl, by simp⟩
  case round =>
    obtain ⟨k, hk, rfl, hall⟩ := hrel
    by_cases hlt : k < xs.length
    · obtain ⟨x, hxk⟩ : ∃ x, xs[k]? = some x := ⟨_, List.getElem?_eq_getElem hlt⟩
      obtain ⟨hcell, hxs⟩ := HX.out k x hxk
      have htwo := HM.out.two x hxs
      have hltI : (k : Int) < (xs.length : Int) := by omega
      have HA : Hid ((xs.take (k + 1)).all (Plain.has M) = Plain.has M x) := all_next M xs k x hxk hall
      have HE : Hid (Plain.has M x = false → Plain.allHave M (xs.take (k + 1)) = false ∧ Plain.allHave M xs = false) := fun h => ⟨take_false M xs k x hxk h, all_false M xs k x hxk h⟩
      have HALL : Hid (Plain.allHave M (xs.take k) = true) := hall
      generalize hv : Plain.val M x = v at *
      generalize hq : Plain.has M x = q at *
      clear hv hq hxk hall
      cases q with
      | true =>
        go_wp2
        go_round
        case rel => exact ⟨k + 1, by omega, by go_num, HA.out⟩
        case measure => simp [intOf]; omega
      | false =>
        go_wp2
        go_ret
        exact ⟨rfl, Or.inr ⟨k, hlt, rfl, HALL.out, (HE.out (by trivial)).1, (HE.out (by trivial)).2⟩⟩
    · have hke : k = xs.length := by omega
      have hltI : ¬ (k : Int) < (xs.length : Int) := by omega
      have HALL : Hid (Plain.allHave M xs = true) := by
        rw [hke, List.take_length] at hall
        exact hall
      clear hke hall
      go_wp2
      go_ret
      exact ⟨rfl, Or.inl ⟨HALL.out, rfl⟩⟩

theorem first_any (v : Value) (xs : List ByteArray) (am : Option Nat) (M : ByteArray → Option ByteArray) (n : Nat) (w : World)
    (hx : NamesAt w v xs) (hlen : xs.length ≤ 65536) (hm : MapAt w am M n) : Calls Tryf.prog 7 #[v, .map am] w (FirstPost M xs w) := by
  rcases hx with ⟨a0, rfl, rfl⟩ | ⟨b, o, cap, rfl, h2⟩
  · exact first_nil a0 am M w
  · exact first_some b o cap xs am M n w h2 hlen hm

end Go.Proofs.Qxb6619049aFmt

import Derived.Test.Qxb6619049aFmtRows
import Derived.Test.Qxb6619049aFmtPlain
import Derived.WalkKit
import Derived.WalkSpells
import Derived.WalkLawsBesides
/-! Walks: zzAdd (9), zzLookupsOver (5). -/
namespace Go.Proofs.Qxb6619049aFmt
open Go.RowKit
set_option linter.unusedVariables false
set_option linter.unusedSimpArgs false

set_option maxHeartbeats 400000 in
theorem add_ok (t n : Int) (w : World) (ht : 0 ≤ t) (hn : 0 ≤ n) (h : t + n ≤ 1048576) :
    Calls Tryf.prog 9 #[.int .i64 t, .int .i64 n] w fun e w' => e = .returned (.tuple #[.int .i64 (t + n), .bool false]) ∧ w = w' := by
  have h1 : ¬ n < 0 := by omega
  have h2 : ¬ 1048576 < n := by omega
  have h3 : ¬ 1048576 - n < t := by omega
  go_enter Tryf.func9, Tryf.ntmps9
  go_wp2
  go_ret2
  exact ⟨rfl, rfl⟩

set_option maxHeartbeats 400000 in
theorem add_over (t n : Int) (w : World) (ht : 0 ≤ t) (ht2 : t ≤ 1048576) (hn : 0 ≤ n) (h : 1048576 < t + n) :
    Calls Tryf.prog 9 #[.int .i64 t, .int .i64 n] w fun e w' => e = .returned (.tuple #[.int .i64 t, .bool true]) ∧ w = w' := by
  have h1 : ¬ n < 0 := by omega
  by_cases h2 : 1048576 < n
  · go_enter Tryf.func9, Tryf.ntmps9
    go_wp2
    go_ret2
    exact ⟨rfl, rfl⟩
  · have h3 : 1048576 - n < t := by omega
    go_enter Tryf.func9, Tryf.ntmps9
    go_wp2
    go_ret2
    exact ⟨rfl, rfl⟩


/-- What the map's three operations give in the world w. -/
structure MapIn (w : World) (am : Option Nat) (M : ByteArray → Option ByteArray) (n : Nat) : Prop where
  two : ∀ key : ByteArray, key.size ≤ maxLen → (Instr.lookup 23 (.map am) (.string key) true).run Tryf.prog w = .ok (.tuple #[.string (Plain.val M key), .bool (Plain.has M key)]) w
  one : ∀ key : ByteArray, key.size ≤ maxLen → (Instr.lookup 23 (.map am) (.string key) false).run Tryf.prog w = .ok (.string (Plain.val M key)) w
  count : (Builtin.len_ #[23] 3 #[.map am]).run Tryf.prog w = .ok (.int .i64 (n : Int)) w
  fits : n ≤ maxLen

/-- .. and in every later world in which old memory stands. -/
def MapAt (w : World) (am : Option Nat) (M : ByteArray → Option ByteArray) (n : Nat) : Prop := ∀ w', Below w.heap.size w w' → MapIn w' am M n

theorem MapAt.here {w : World} {am : Option Nat} {M : ByteArray → Option ByteArray} {n : Nat} (h : MapAt w am M n) : MapIn w am M n := h w (Below.refl _ _)
theorem MapAt.later {w w' : World} {am : Option Nat} {M : ByteArray → Option ByteArray} {n : Nat} (h : MapAt w am M n) (hb : Below w.heap.size w w') : MapAt w' am M n :=
  fun w'' hb' => h w'' (hb.trans (hb'.mono hb.size))

/-- The slice's cells: v at index j. -/
def CellsAt (w : World) (b o : Nat) (xs : List ByteArray) : Prop := ∀ (j : Nat) x, xs[j]? = some x → w.cell? ⟨b, o + j, none⟩ = some (.string x) ∧ x.size ≤ maxLen

theorem CellsAt.later {w w' : World} {b o : Nat} {xs : List ByteArray} (h : CellsAt w b o xs) (hb : Below w.heap.size w w') : CellsAt w' b o xs := by
  intro j x hj
  obtain ⟨h1, h2⟩ := h j x hj
  refine ⟨?_, h2⟩
  rw [hb.cell (World.block_lt_of_cell? _ _ h1)]
  exact h1

theorem CellsAt.take {w : World} {b o : Nat} {xs : List ByteArray} (h : CellsAt w b o xs) (k : Nat) : CellsAt w b o (xs.take k) := by
  intro j x hj
  rw [List.getElem?_take] at hj
  split at hj
  · exact h j x hj
  · cases hj

theorem CellsAt.drop {w : World} {b o : Nat} {xs : List ByteArray} (h : CellsAt w b o xs) (k : Nat) : CellsAt w b (o + k) (xs.drop k) := by
  intro j x hj
  rw [List.getElem?_drop] at hj
  rw [Nat.add_assoc]
  exact h (k + j) x hj

/-- How zzLookupsOver ends. -/
def OverPost (M : ByteArray → Option ByteArray) (xs : List ByteArray) (w : World) (e : Ending) (w' : World) : Prop :=
  ∃ t q, e = .returned (.tuple #[.int .i64 t, .bool q]) ∧ (q = false → Plain.cost M xs ≤ 1048576) ∧ w = w'

set_option maxHeartbeats 1000000 in
theorem over_any (b o cap : Nat) (xs : List ByteArray) (am : Option Nat) (M : ByteArray → Option ByteArray) (n : Nat) (w : World)
    (hx : CellsAt w b o xs) (hlen : xs.length ≤ 65536) (hm : MapAt w am M n) (hn : n ≤ 65536) :
    Calls Tryf.prog 5 #[.int .i64 0, .slice (some ⟨b, o, none⟩) xs.length cap, .map am] w (OverPost M xs w) := by
  have hc := hm.here.count
  have hl1 : ¬ (65536 : Int) < (xs.length : Int) := by omega
  have hl2 : ¬ (65536 : Int) < (n : Int) := by omega
  have HM : Hid (MapIn w am M n) := hm.here
  have HX : Hid (CellsAt w b o xs) := hx
  clear hm hx
  go_enter Tryf.func5, Tryf.ntmps5
  go_wp2
  go_loop [0, 8, 9] (fun t q i => ∃ k : Nat, k ≤ xs.length ∧ i = .int .i64 k ∧ q = .bool false ∧ t = .int .i64 (Plain.cost M (xs.take k) : Nat) ∧ Plain.cost M (xs.take k) ≤ 1048576) (fun _ _ i => xs.length - (intOf i).toNat)
  case atStart => exact ⟨0, Nat.zero_le _, rfl, rfl, rfl, by simp [Plain.cost]⟩
  case round =>
    obtain ⟨k, hk, rfl, rfl, rfl, hcl⟩ := hrel
    by_cases hlt : k < xs.length
    · obtain ⟨x, hxk⟩ : ∃ x, xs[k]? = some x := ⟨_, List.getElem?_eq_getElem hlt⟩
      obtain ⟨hcell, hxs⟩ := HX.out k x hxk
      have hone := HM.out.one x hxs
      have hsucc := Plain.cost_take_succ M xs k x hxk
      have hltI : (k : Int) < (xs.length : Int) := by omega
      generalize hv : Plain.val M x = v at hone hsucc
      generalize hc0 : Plain.cost M (xs.take k) = c0 at *
      generalize hc1 : Plain.cost M (xs.take (k + 1)) = c1 at *
      have HC : Hid (c1 = c0 + 8 + x.size + v.size) := hsucc
      have HC1 : Hid (Plain.cost M (xs.take (k + 1)) = c1) := hc1
      clear hsucc hc1 hxk hv hc0
      by_cases hA : c0 + 8 ≤ 1048576
      · by_cases hB : c0 + 8 + x.size ≤ 1048576
        · by_cases hC : c0 + 8 + x.size + v.size ≤ 1048576
          · go_wp2_with fail
            refine (add_ok _ _ _ (by omega) (by omega) (by omega)).mono ?_
            rintro e w' ⟨rfl, rfl⟩
            go_wp2_with fail
            refine (add_ok _ _ _ (by omega) (by omega) (by omega)).mono ?_
            rintro e w' ⟨rfl, rfl⟩
            go_wp2_with fail
            refine (add_ok _ _ _ (by omega) (by omega) (by omega)).mono ?_
            rintro e w' ⟨rfl, rfl⟩
            go_wp2
            go_round
            case rel => exact ⟨k + 1, by omega, by go_num, rfl, by rw [HC1.out, HC.out]; go_num, by rw [HC1.out, HC.out]; omega⟩
            case measure => simp [intOf]; omega
          · go_wp2_with fail
            refine (add_ok _ _ _ (by omega) (by omega) (by omega)).mono ?_
            rintro e w' ⟨rfl, rfl⟩
            go_wp2_with fail
            refine (add_ok _ _ _ (by omega) (by omega) (by omega)).mono ?_
            rintro e w' ⟨rfl, rfl⟩
            go_wp2_with fail
            refine (add_over _ _ _ (by omega) (by omega) (by omega) (by omega)).mono ?_
            rintro e w' ⟨rfl, rfl⟩
            go_wp2
            go_ret2
            exact ⟨_, _, rfl, (fun h => by cases h), rfl⟩
        · go_wp2_with fail
          refine (add_ok _ _ _ (by omega) (by omega) (by omega)).mono ?_
          rintro e w' ⟨rfl, rfl⟩
          go_wp2_with fail
          refine (add_over _ _ _ (by omega) (by omega) (by omega) (by omega)).mono ?_
          rintro e w' ⟨rfl, rfl⟩
          go_wp2
          go_ret2
          exact ⟨_, _, rfl, (fun h => by cases h), rfl⟩
      · go_wp2_with fail
        refine (add_over _ _ _ (by omega) (by omega) (by omega) (by omega)).mono ?_
        rintro e w' ⟨rfl, rfl⟩
        go_wp2
        go_ret2
        exact ⟨_, _, rfl, (fun h => by cases h), rfl⟩
    · have hke : k = xs.length := by omega
      have HF : Hid (Plain.cost M xs ≤ 1048576) := by
        rw [hke, List.take_length] at hcl
        exact hcl
      have hltI : ¬ (k : Int) < (xs.length : Int) := by omega
      clear hcl hke
      go_wp2
      go_ret2
      exact ⟨_, _, rfl, fun _ => HF.out, rfl⟩

end Go.Proofs.Qxb6619049aFmt

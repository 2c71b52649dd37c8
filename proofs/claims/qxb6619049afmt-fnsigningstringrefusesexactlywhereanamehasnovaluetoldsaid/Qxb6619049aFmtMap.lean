import Derived.Test.Qxb6619049aFmtWalkA
import Derived.Maps.OwnSet
import Derived.Maps.StringElems
import Derived.SliceStrings
/-! The map argument: from its reading to what its operations give. -/
namespace Go.Proofs.Qxb6619049aFmt
open Go.RowKit Go.Maps Go.WideElems Go.ChangeShapes Go.WideMaps Go.WideShapes
set_option linter.unusedVariables false
set_option linter.unusedSimpArgs false

theorem mlaw : Keyed Tryf.prog 9 := string_keyed Tryf.underlying9
theorem zero9 (w : World) : (zeroValue 9).run Tryf.prog w = .ok (.string ⟨#[]⟩) w := by kernel_rfl

/-- The look-up as a function, off the map's datum. -/
def MofD {H : Type} (D : DataW H) (key : ByteArray) : Option ByteArray :=
  if Maps.has D (.string key.data.toList) then some (strOf (H := H) (D.atKey (.string key.data.toList) (.lit (.string [])), [])) else none

theorem map_none (W : World) : MapAt W none (fun _ => none) 0 := by
  intro wx hb
  refine ⟨fun key hk => ?_, fun key hk => ?_, ?_, Nat.zero_le _⟩
  · simpa [Plain.val, Plain.has] using Maps.look_nil (w := wx) true mlaw Tryf.underlying23 (zero9 _) (keyOf_string_mk Tryf.underlying9 hk)
  · simpa [Plain.val, Plain.has] using Maps.look_nil (w := wx) false mlaw Tryf.underlying23 (zero9 _) (keyOf_string_mk Tryf.underlying9 hk)
  · simpa using Maps.len_nil (w := wx) Tryf.underlying23 3

theorem map_some {H : Type} (D : DataW H) (bm n : Nat) (W : World) (hown : W.ownsMap Tryf.prog 9 (plainElem Tryf.prog 9) bm n D) (hbm : bm < W.heap.size) (hsz : Maps.size D ≤ maxLen) :
    MapAt W (some bm) (MofD D) (Maps.size D) := by
  intro wx hb
  have hown' : wx.ownsMap Tryf.prog 9 (plainElem Tryf.prog 9) bm n D := by
    obtain ⟨es, clock, hbk, F1, hle, hD⟩ := hown
    exact ⟨es, clock, by rw [hb.block bm hbm]; exact hbk, F1, hle, hD⟩
  have key : ∀ (c : Bool) (key : ByteArray), key.size ≤ maxLen → (Instr.lookup 23 (.map (some bm)) (.string key) c).run Tryf.prog wx = .ok (if c then .tuple #[.string (Plain.val (MofD D) key), .bool (Plain.has (MofD D) key)] else .string (Plain.val (MofD D) key)) wx := by
    intro c key hk
    obtain ⟨es, clock, hbk, F, _, rfl⟩ := hown'
    rcases Maps.fit_look c mlaw Tryf.underlying23 (zero9 wx) hbk F (keyOf_string_mk Tryf.underlying9 hk) with ⟨hrun, _, hat⟩ | ⟨e0, y, _, _, hrun, hRv, hat, _⟩
    · have hh := Maps.has_false_of_atKey hat
      rw [hrun]
      simp [Plain.val, Plain.has, MofD, hh]
    · have hh := Maps.has_true_of_atKey hat
      obtain ⟨s, hs, rfl, _⟩ := plainElem_string_inv Tryf.underlying9 hRv
      rw [hrun, hs]
      have hM : MofD (H := H) (DataW.map ((es.toList.map (rg Tryf.prog 9 (plainElem Tryf.prog 9))).foldr DataW.insert [])) key = some s := by
        rw [MofD, if_pos hh, hat, strOf_mk]
      simp [Plain.val, Plain.has, hM]
  refine ⟨fun k hk => ?_, fun k hk => ?_, ?_, hsz⟩
  · simpa using key true k hk
  · simpa using key false k hk
  · exact hown'.len Tryf.underlying23 3

end Go.Proofs.Qxb6619049aFmt

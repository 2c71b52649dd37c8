import Derived.Test.Qxb6619049aFmtLawC
import Derived.Test.Qxb6619049aFmtMap
import Derived.Test.Qxb6619049aFmtShelf
import Derived.Test.Qxb6619049aFmtCards
import Derived.ProofKit
import Derived.ChangeSlices
import Derived.ChangeSame
import Derived.ChangeMaps5
import Derived.JoinedOf
import Derived.Carry
import Derived.Stop.JoinedAt
import Derived.Stop.Texts
import Derived.Stop.JoinedTold
import Derived.SizedLaws
import Derived.SevenToldRow
/-! From the walks to the cards. -/
namespace Go.Proofs.Qxb6619049aFmt
open Go.ChangeShapes Go.WideShapes Go.ChangeAt Go.RowKit Go.Kit Go.WideElems Go.WideMaps Go.Maps
open Go.Extern.Stop Go.Stop Go.Extern
set_option linter.unusedVariables false
set_option linter.unusedSimpArgs false

theorem Tryf.own : ownKnob Tryf.prog.godebug = none := by kernel_rfl
theorem Tryf.laidOut : laidOutB Tryf.pinned.checked.prog = true := by kernel_rfl
theorem Tryf.cells9 : Tryf.prog.cellsOf 9 = 1 := by kernel_rfl
theorem Tryf.stops : Tryf.pinned.checked.prog.stops = ["fmt.errorf"] := by kernel_rfl
theorem Tryf.stopKnobs : Tryf.pinned.checked.prog.stopKnobs = [] := by kernel_rfl
theorem Tryf.quiet (os : Os) : Stop.quiet Tryf.pinned.checked.prog os := by
  intro k hk
  rw [Tryf.stopKnobs] at hk
  cases hk
theorem Tryf.bytes9 : Tryf.checked.prog.bytesOf 9 = 16 := by kernel_rfl

theorem join_said : JoinSaid := fun bk o c xs sep w h1 h2 h3 h4 h5 => Tryf.strings_Join bk o c xs sep w h1 h2 h3 h4 h5

/-- The slice argument, opened. -/
theorem slice_open {H : Type} {enc : TypeId × Value → H} {W : World} {a0 : Option Addr} {len cap : Nat} {x : DataW H × List MemPlace} {fuel : Nat}
    (hf : DataW.trod enc Tryf.prog W 0 (fun _ => true) true fuel 22 (Value.slice a0 len cap).cells.toList = some x) :
    (∃ a1, Value.slice a0 len cap = .slice a1 0 0) ∨ ∃ b o cap' xs, Value.slice a0 len cap = .slice (some ⟨b, o, none⟩) xs.length cap' ∧ xs.length ≤ cap' ∧ cap' ≤ maxLen ∧ CellsAt W b o xs := by
  rcases open_strings Tryf.underlying22 Tryf.underlying9 Tryf.cells9 hf with ⟨hcs, hx⟩ | ⟨a, len', cap', ss, hcs, _, hl, hm, hz, hx, hcell, hws⟩
  · simp [Value.cells] at hcs
    obtain ⟨rfl, rfl, rfl⟩ := hcs
    exact Or.inl ⟨_, rfl⟩
  · simp [Value.cells] at hcs
    obtain ⟨rfl, rfl, rfl⟩ := hcs
    simp only [if_true] at hz
    by_cases hc0 : cap = 0
    · have : len = 0 := by omega
      subst hc0 this
      exact Or.inl ⟨_, rfl⟩
    · right
      obtain ⟨b, off, spot⟩ := a
      have hspot : spot = none := by simpa [Addr.add] using World.cell?_spot (hcell 0 (by omega))
      subst hspot
      refine ⟨b, off, cap, ss.take len, by rw [List.length_take]; congr 1; omega, by rw [List.length_take]; omega, hm, fun j y hj => ?_⟩
      rw [List.getElem?_take] at hj
      split at hj
      · rename_i hjl
        have hjs : j < ss.length := by omega
        have hc := hcell j hjs
        rw [WideShapes.add_plain] at hc
        have hy : ss.getD j ByteArray.empty = y := by simp [List.getD, hj]
        exact ⟨by rw [hc, hy], hws y (List.mem_of_getElem? hj)⟩
      · cases hj

theorem map_open {H : Type} {enc : TypeId × Value → H} {W : World} {am : Option Nat} {d : DataW H} {p : List MemPlace} {fuel : Nat} {ds : List (DataW H)} {ts : List TypeId}
    (hf : DataW.trod enc Tryf.prog W 0 (fun _ => true) true fuel 23 (Value.map am).cells.toList = some (d, p))
    (hsz : (DataW.weightsEach Tryf.prog ts ds).all (· ≤ reachBytes) = true) (ht : ts[1]? = some 23) (hd : ds[1]? = some d) :
    ∃ M n, MapAt W am M n := by
  rcases open_map Tryf.underlying23 hf with ⟨hcs, hx⟩ | ⟨bm, es, clock, mm, rfl, hcs, hb, _, Ft, hx⟩
  · simp [Value.cells] at hcs
    subst hcs
    exact ⟨_, _, map_none W⟩
  · simp [Value.cells] at hcs
    subst hcs
    simp only [Prod.mk.injEq] at hx
    obtain ⟨rfl, rfl⟩ := hx
    have hs := sized_map hsz ht hd Tryf.underlying23
    have hr := reachBytes_lt
    refine ⟨_, _, map_some _ bm _ W (World.ownsMap_of_fit (R := plainElem Tryf.prog 9) hb Ft (fun x _ z hz => elemAt_plainElem_string Tryf.underlying9 hz)) (Array.getElem?_eq_some_iff.1 hb).1 ?_⟩
    have hb9 : Tryf.prog.bytesOf 9 = 16 := by kernel_rfl
    rw [hb9] at hs
    unfold maxLen
    simp only [Maps.size]
    omega

end Go.Proofs.Qxb6619049aFmt

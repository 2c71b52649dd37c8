import Derived.Test.Qxb6619049aFmtWalkA
import Derived.Test.Qxb6619049aFmtErr
import Derived.Test.Qxb6619049aFmtText
import Derived.Deep.OwnRows
/-! Walks: SigningString (10), its closure (11). -/
namespace Go.Proofs.Qxb6619049aFmt
open Go.RowKit Go.Extern.Stop Go.Stop Go.Extern
set_option linter.unusedVariables false
set_option linter.unusedSimpArgs false

theorem Tryf.info9 : (Tryf.prog.info? 9).map (fun i => (i.zero, i.size, i.bytes)) = some (some (.string ⟨#[]⟩), 1, 16) := by kernel_rfl

/-- The closure: a look-up in the captured map. -/
theorem clos_any (x : ByteArray) (B : Nat) (am : Option Nat) (M : ByteArray → Option ByteArray) (w : World) (hB : w.cell? ⟨B, 0, none⟩ = some (.map am))
    (h2 : (Instr.lookup 23 (.map am) (.string x) true).run Tryf.prog w = .ok (.tuple #[.string (Plain.val M x), .bool (Plain.has M x)]) w) :
    Calls Tryf.prog 11 #[.string x, .pointer (some ⟨B, 0, none⟩)] w fun e w' => e = .returned (.tuple #[.string (Plain.val M x), .bool (Plain.has M x)]) ∧ w = w' := by
  go_enter Tryf.func11, Tryf.ntmps11
  go_wp2
  go_ret2
  exact ⟨rfl, rfl⟩

/-- What the row of lines holds after k rounds. -/
def rowF (M : ByteArray → Option ByteArray) (xs : List ByteArray) (k : Nat) (j : Nat) : Value :=
  if j < k then .string (xs[j]?.getD ⟨#[]⟩ ++ ⟨#[58, 32]⟩ ++ Plain.val M (xs[j]?.getD ⟨#[]⟩)) else .string ⟨#[]⟩

/-- How SigningString ends. -/
def SignPost (M : ByteArray → Option ByteArray) (xs : List ByteArray) (w : World) (e : Ending) (w' : World) : Prop :=
  Below w.heap.size w w' ∧ ((Plain.allHave M xs = true ∧ e = .returned (.tuple #[.string ⟨(Plain.text M xs).toArray⟩, .nilIface])) ∨
    (Plain.allHave M xs = false ∧ ∃ p, e = .returned (.tuple #[.string ⟨#[]⟩, .iface 50 (.pointer (some p))])))

/-- strings.Join's contract, as the shelf has it at this program. -/
def JoinSaid : Prop := ∀ (bk o c : Nat) (xs : List ByteArray) (sep : ByteArray) (w : World),
    (∀ (j : Nat) x, xs[j]? = some x → w.cell? ⟨bk, o + j, none⟩ = some (.string x)) → bk < w.heap.size → xs.length ≤ 140737488355328 → xs.length ≤ c →
    (Lib.join (xs.map (·.data.toList)) sep.data.toList).length ≤ 140737488355328 →
    Calls Tryf.prog 13 #[.slice (some ⟨bk, o, none⟩) xs.length c, .string sep] w fun e w' => e = .returned (.string ⟨(Lib.join (xs.map (·.data.toList)) sep.data.toList).toArray⟩) ∧ Below w.heap.size w w'

theorem rowF_next (M : ByteArray → Option ByteArray) (xs : List ByteArray) (k : Nat) (x : ByteArray) (h : xs[k]? = some x) :
    ∀ i, i < xs.length → (if i = k then Value.string (x ++ ⟨#[58, 32]⟩ ++ Plain.val M x) else rowF M xs k i) = rowF M xs (k + 1) i := by
  intro i _
  by_cases e : i = k
  · subst e
    simp [rowF, h]
  · simp only [rowF, if_neg e]
    by_cases hl : i < k
    · rw [if_pos hl, if_pos (by omega)]
    · rw [if_neg hl, if_neg (by omega)]

theorem all_next (M : ByteArray → Option ByteArray) (xs : List ByteArray) (k : Nat) (x : ByteArray) (h : xs[k]? = some x) (h0 : (xs.take k).all (Plain.has M) = true) :
    (xs.take (k + 1)).all (Plain.has M) = Plain.has M x := by
  rw [List.take_add_one, h, List.all_append, h0]
  simp

theorem all_false (M : ByteArray → Option ByteArray) (xs : List ByteArray) (k : Nat) (x : ByteArray) (h : xs[k]? = some x) (hx : Plain.has M x = false) : Plain.allHave M xs = false := by
  rw [Plain.allHave, List.all_eq_false]
  exact ⟨x, List.mem_of_getElem? h, by simp [hx]⟩

/-- Join's answer over the lines. -/
theorem lines_join (M : ByteArray → Option ByteArray) (xs : List ByteArray) : Lib.join ((xs.map (Plain.line M)).map (·.data.toList)) [10] = Plain.text M xs := by
  rw [Plain.text, List.map_map]
  exact congrArg (fun l => Lib.join l [10]) (List.map_congr_left (fun x _ => Plain.line_data M x))

theorem row_lines {w : World} {N : Nat} (M : ByteArray → Option ByteArray) (xs : List ByteArray) (h : w.rowIs N 9 xs.length (rowF M xs xs.length)) :
    ∀ (j : Nat) x, (xs.map (Plain.line M))[j]? = some x → w.cell? ⟨N, 0 + j, none⟩ = some (.string x) := by
  intro j x hj
  rw [List.getElem?_map] at hj
  obtain ⟨y, hy, rfl⟩ := Option.map_eq_some_iff.1 hj
  have hl : j < xs.length := (List.getElem?_eq_some_iff.1 hy).1
  rw [Nat.zero_add, h.cell hl]
  show some (rowF M xs xs.length j) = _
  rw [rowF, if_pos hl, hy]
  rfl

set_option maxHeartbeats 1000000 in
theorem sign_some (hJ : JoinSaid) (F : Interp) (b o cap B : Nat) (xs : List ByteArray) (am : Option Nat) (M : ByteArray → Option ByteArray) (n : Nat) (w : World)
    (hF : F.answers w.tape) (hx : CellsAt w b o xs) (hlen : xs.length ≤ 65536) (hm : MapAt w am M n) (hB : w.cell? ⟨B, 0, none⟩ = some (.map am)) (hcost : Plain.cost M xs ≤ 1048576) :
    Calls Tryf.prog 10 #[.slice (some ⟨b, o, none⟩) xs.length cap, .func (.func 11) #[] #[.pointer (some ⟨B, 0, none⟩)]] w (SignPost M xs w) := by
  have hmk := run_make_row' (P := Tryf.prog) 22 9 (.string ⟨#[]⟩) 16 Tryf.underlying22 Tryf.info9 rfl .i64 .i64 xs.length (by omega) (by omega)
  have HX : Hid (CellsAt w b o xs) := hx
  have HM : Hid (MapAt w am M n) := hm
  have HF : Hid (F.answers w.tape) := hF
  have r0 := World.rowIs_made w (.string ⟨#[]⟩) xs.length 9
  have b0 : Below w.heap.size w (w.alloc (.cells (madeCells #[.string ⟨#[]⟩] xs.length) 9)) := (Below.refl _ w).alloc (Nat.le_refl _) _
  have hBlt := World.block_lt_of_cell? _ _ hB
  have htl := Plain.text_le M xs
  have hjl : (Lib.join ((xs.map (Plain.line M)).map (·.data.toList)) [10]).length ≤ 140737488355328 := by rw [lines_join]; omega
  have HJL : Hid ((Lib.join ((xs.map (Plain.line M)).map (·.data.toList)) [10]).length ≤ 140737488355328) := hjl
  have HB : Hid (w.cell? ⟨B, 0, none⟩ = some (.map am)) := hB
  clear hm hx hF htl hjl hB
  go_enter Tryf.func10, Tryf.ntmps10
  go_wp2
  clear hmk
  go_loopw [16] (fun i wr => ∃ k : Nat, k ≤ xs.length ∧ i = .int .i64 k ∧ wr.rowIs w.heap.size 9 xs.length (rowF M xs k) ∧ Below w.heap.size w wr ∧ (xs.take k).all (Plain.has M) = true) (fun i _ => xs.length - (intOf i).toNat)
  case atStart => exact ⟨0, Nat.zero_le _, rfl, r0.congr (fun i _ => by simp [rowF]), b0, by simp⟩
  case round =>
    obtain ⟨k, hk, rfl, hrow, hnx, hall⟩ := hrel
    clear r0 b0
    by_cases hlt : k < xs.length
    · obtain ⟨x, hxk⟩ : ∃ x, xs[k]? = some x := ⟨_, List.getElem?_eq_getElem hlt⟩
      obtain ⟨hcell, hxs⟩ := HX.out.later hnx k x hxk
      have hltI : (k : Int) < (xs.length : Int) := by omega
      have h2 := (HM.out wr hnx).two x hxs
      have hBr : wr.cell? ⟨B, 0, none⟩ = some (.map am) := (hnx.cell (p := ⟨B, 0, none⟩) hBlt).trans HB.out
      have hck := hrow.cell hlt
      have hfk := hrow.frozen k
      have HN : Hid (∀ i, i < xs.length → (if i = k then Value.string (x ++ ⟨#[58, 32]⟩ ++ Plain.val M x) else rowF M xs k i) = rowF M xs (k + 1) i) := rowF_next M xs k x hxk
      have HA : Hid ((xs.take (k + 1)).all (Plain.has M) = Plain.has M x) := all_next M xs k x hxk hall
      have HE : Hid (Plain.has M x = false → Plain.allHave M xs = false) := fun h => all_false M xs k x hxk h
      have hsm : x.size + (Plain.val M x).size ≤ 1048576 := by
        have h1 := Plain.cost_take_succ M xs k x hxk
        have h2 := Plain.cost_take_le M xs (k + 1)
        omega
      have cC := clos_any x B am M wr hBr h2
      generalize hv : Plain.val M x = v at *
      generalize hq : Plain.has M x = q at *
      clear hv hq hxk hall h2 hBr
      have HROW : Hid (wr.rowIs w.heap.size 9 xs.length (rowF M xs k)) := hrow
      have HNX : Hid (Below w.heap.size w wr) := hnx
      have hsz := hnx.size
      have hNlt := hrow.lt
      clear hrow hnx
      cases q with
      | true =>
        go_wp2_with (go_at_call 11; refine cC.mono ?_; rintro e w' ⟨rfl, rfl⟩)
        go_roundw
        case rel => exact ⟨k + 1, by omega, by go_num, (HROW.out.set k _).congr HN.out, HNX.out.setCell (Nat.le_refl _) _, HA.out⟩
        case measure => simp [intOf]; omega
      | false =>
        have hFr : F.answers wr.tape := by rw [HNX.out.tape]; exact HF.out
        go_wp2_with (first | (go_at_call 11; refine cC.mono ?_; rintro e w' ⟨rfl, rfl⟩) | (go_at_call 12; refine (errorf_any F x _ _ (by exact hFr) (by go_simp)).mono ?_; rintro e w' ⟨s, rfl, rfl⟩))
        go_ret2
        refine ⟨?_, Or.inr ⟨HE.out trivial, _, rfl⟩⟩
        exact ((HNX.out.alloc HNX.out.size _).alloc (by have := HNX.out.size; simp; omega) _).drew
    · have hke : k = xs.length := by omega
      have hltI : ¬ (k : Int) < (xs.length : Int) := by omega
      have cJ := hJ w.heap.size 0 xs.length (xs.map (Plain.line M)) ⟨#[10]⟩ wr (row_lines M xs (by rw [hke] at hrow; exact hrow)) hrow.lt (by simp; omega) (by simp) HJL.out
      rw [show ((xs.map (Plain.line M)).length = xs.length) from by simp] at cJ
      have HALL : Hid (Plain.allHave M xs = true) := by
        rw [hke, List.take_length] at hall
        exact hall
      have HT : Hid (Lib.join ((xs.map (Plain.line M)).map (·.data.toList)) (⟨#[10]⟩ : ByteArray).data.toList = Plain.text M xs) := lines_join M xs
      rw [HT.out] at cJ
      have HNX : Hid (Below w.heap.size w wr) := hnx
      clear hke hrow hnx hall
      go_wp2_with (go_at_call 13; refine cJ.mono ?_; rintro e w' ⟨rfl, hb'⟩)
      go_ret2
      exact ⟨HNX.out.trans (hb'.mono HNX.out.size), Or.inl ⟨HALL.out, rfl⟩⟩

end Go.Proofs.Qxb6619049aFmt

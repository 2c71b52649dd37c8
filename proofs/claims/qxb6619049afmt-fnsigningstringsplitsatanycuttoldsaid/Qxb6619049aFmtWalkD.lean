import Derived.Test.Qxb6619049aFmtWalkC
/-! Walks: zzTextLen (8). -/
namespace Go.Proofs.Qxb6619049aFmt
open Go.RowKit Go.Extern.Stop Go.Stop Go.Extern
set_option linter.unusedVariables false
set_option linter.unusedSimpArgs false

theorem text_take_succ (M : ByteArray → Option ByteArray) (xs : List ByteArray) (k : Nat) (x : ByteArray) (h : xs[k]? = some x) :
    (Plain.text M (xs.take (k + 1))).length = (Plain.text M (xs.take k)).length + (if 0 < k then 1 else 0) + (x.size + 2 + (Plain.val M x).size) := by
  have hlt : k < xs.length := (List.getElem?_eq_some_iff.1 h).1
  have hone : (Plain.text M [x]).length = x.size + 2 + (Plain.val M x).size := by
    rw [Plain.text_one, Plain.lineL, Lib.size_eq, Lib.size_eq]
    simp
    omega
  rw [List.take_add_one, h]
  by_cases hk : 0 < k
  · rw [Option.toList_some, Plain.text_append M (xs.take k) [x] (List.ne_nil_of_length_pos (by rw [List.length_take]; omega)) (by simp), if_pos hk]
    simp only [List.length_append, List.length_cons, List.length_nil, hone]
  · have : k = 0 := by omega
    subst this
    simp only [List.take_zero, List.nil_append, Option.toList_some, hone, Plain.text_nil, List.length_nil]
    simp

/-- How zzTextLen ends. -/
def LenPost (M : ByteArray → Option ByteArray) (xs : List ByteArray) (w : World) (e : Ending) (w' : World) : Prop :=
  e = .returned (.int .i64 ((Plain.text M xs).length : Int)) ∧ Below w.heap.size w w'

set_option maxHeartbeats 400000 in
theorem len_nil (a0 : Option Addr) (am : Option Nat) (M : ByteArray → Option ByteArray) (w : World) :
    Calls Tryf.prog 8 #[.slice a0 0 0, .map am] w (LenPost M [] w) := by
  go_enter Tryf.func8, Tryf.ntmps8
  go_wp2
  refine wp_loop_rounds 1 ?_
  rw [rounds_succ]
  go_wp2
  go_ret
  exact ⟨rfl, Below.refl _ _⟩

theorem below_drewN {B : Nat} {w w1 : World} (h : Below B w w1) (n : Nat) : Below B w (w1.drewN n) := ⟨h.os, h.tape, h.output, h.size, h.block⟩

set_option maxHeartbeats 1000000 in
theorem len_some (b o cap : Nat) (xs : List ByteArray) (am : Option Nat) (M : ByteArray → Option ByteArray) (n : Nat) (w : World)
    (hx : CellsAt w b o xs) (hlen : xs.length ≤ 65536) (hm : MapAt w am M n) (hcost : Plain.cost M xs ≤ 1048576) :
    Calls Tryf.prog 8 #[.slice (some ⟨b, o, none⟩) xs.length cap, .map am] w (LenPost M xs w) := by
  have HM : Hid (MapAt w am M n) := hm
  have HX : Hid (CellsAt w b o xs) := hx
  clear hm hx
  go_enter Tryf.func8, Tryf.ntmps8
  go_wp2
  go_loopw [5, 6] (fun t i wr => ∃ k : Nat, k ≤ xs.length ∧ i = .int .i64 k ∧ t = .int .i64 ((Plain.text M (xs.take k)).length : Int) ∧ Below w.heap.size w wr) (fun _ i _ => xs.length - (intOf i).toNat)
  case atStart => exact ⟨0, Nat.zero_le _, rfl, rfl, Below.refl _ _⟩
  case round =>
    obtain ⟨k, hk, rfl, rfl, hnx⟩ := hrel
    have ht1 := Plain.text_le M (xs.take k)
    have ht2 := Plain.cost_take_le M xs k
    by_cases hlt : k < xs.length
    · obtain ⟨x, hxk⟩ : ∃ x, xs[k]? = some x := ⟨_, List.getElem?_eq_getElem hlt⟩
      obtain ⟨hcell, hxs⟩ := HX.out.later hnx k x hxk
      have hltI : (k : Int) < (xs.length : Int) := by omega
      have hone := fun nq => (HM.out (wr.drewN nq) (below_drewN hnx nq)).one x hxs
      have hsm := Plain.cost_take_succ M xs k x hxk
      have hsl := Plain.cost_take_le M xs (k + 1)
      have hts := text_take_succ M xs k x hxk
      have HNX : Hid (Below w.heap.size w wr) := hnx
      generalize hv : Plain.val M x = v at *
      generalize hc0 : (Plain.text M (xs.take k)).length = c0 at *
      have hvs : x.size + v.size ≤ 1048576 := by omega
      have hc0s : c0 ≤ 1048576 := by omega
      have HT : Hid ((Plain.text M (xs.take (k + 1))).length = c0 + (if 0 < k then 1 else 0) + (x.size + 2 + v.size)) := hts
      clear hv hc0 hxk hsm hsl hts ht1 ht2 hnx
      by_cases hk0 : 0 < k
      · have hk0I : (0 : Int) < (k : Int) := by omega
        go_wp2
        go_quiet (fail)
        go_wp2
        go_roundw
        case rel => exact ⟨k + 1, by omega, by go_num, by rw [HT.out, if_pos hk0]; go_num, below_drewN HNX.out _⟩
        case measure => simp [intOf]; omega
      · have hk0I : ¬ (0 : Int) < (k : Int) := by omega
        go_wp2
        go_quiet (fail)
        go_wp2
        go_roundw
        case rel => exact ⟨k + 1, by omega, by go_num, by rw [HT.out, if_neg hk0]; go_num, below_drewN HNX.out _⟩
        case measure => simp [intOf]; omega
    · have hke : k = xs.length := by omega
      have hltI : ¬ (k : Int) < (xs.length : Int) := by omega
      have HT : Hid ((Plain.text M (xs.take k)).length = (Plain.text M xs).length) := by
        rw [hke, List.take_length]
        rfl
      have HNX : Hid (Below w.heap.size w wr) := hnx
      clear hke hnx ht1 ht2
      go_wp2
      go_ret
      exact ⟨by rw [← HT.out]; rfl, HNX.out⟩

theorem len_any (v : Value) (xs : List ByteArray) (am : Option Nat) (M : ByteArray → Option ByteArray) (n : Nat) (w : World)
    (hx : NamesAt w v xs) (hlen : xs.length ≤ 65536) (hm : MapAt w am M n) (hcost : Plain.cost M xs ≤ 1048576) : Calls Tryf.prog 8 #[v, .map am] w (LenPost M xs w) := by
  rcases hx with ⟨a0, rfl, rfl⟩ | ⟨b, o, cap, rfl, h2⟩
  · exact len_nil a0 am M w
  · exact len_some b o cap xs am M n w h2 hlen hm hcost

end Go.Proofs.Qxb6619049aFmt

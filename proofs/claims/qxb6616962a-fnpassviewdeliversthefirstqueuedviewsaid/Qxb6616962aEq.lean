import Derived.Test.Qxb6616962aNew2
import Derived.Deep.QuietTactic
import Derived.BigQuiet
/-! zzEqU64 (32) and zzFilteredIs (28), where they answer true. -/
namespace Go.Proofs.Qxb6616962a
open Go.RowKit
set_option linter.unusedVariables false
set_option linter.unusedSimpArgs false
set_option maxRecDepth 8000

/-- The same memory: a draw apart. -/
structure SameW (w w' : World) : Prop where
  heap : w'.heap = w.heap
  os : w'.os = w.os
  tape : w'.tape = w.tape
  output : w'.output = w.output

theorem SameW.refl (w : World) : SameW w w := ⟨rfl, rfl, rfl, rfl⟩
theorem SameW.drewN {w w' : World} (h : SameW w w') (n : Nat) : SameW w (w'.drewN n) := ⟨h.heap, h.os, h.tape, h.output⟩
theorem SameW.trans {w w1 w2 : World} (h : SameW w w1) (k : SameW w1 w2) : SameW w w2 := ⟨k.heap.trans h.heap, k.os.trans h.os, k.tape.trans h.tape, k.output.trans h.output⟩
theorem SameW.block {w w' : World} (h : SameW w w') (k : Nat) : w'.heap[k]? = w.heap[k]? := by rw [h.heap]
theorem SameW.cell {w w' : World} (h : SameW w w') (a : Addr) : w'.cell? a = w.cell? a := World.cell?_of_block (h.block _)
theorem SameW.below {w w' : World} (h : SameW w w') (B : Nat) : Below B w w' := ⟨h.os, h.tape, h.output, by rw [h.heap]; exact Nat.le_refl _, fun k _ => h.block k⟩

def TrueSame (w : World) (e : Ending) (w' : World) : Prop := e = .returned (.bool true) ∧ SameW w w'

set_option maxHeartbeats 2000000 in
theorem eq32_nil (w : World) : Calls Try.prog 32 #[.slice none 0 0, .slice none 0 0] w (TrueSame w) := by
  have qT : ∀ (w : World) (a : Option Addr) (n c n' c' : Nat), (binOp .eql 24 (.slice a n c) (.slice none n' c')).run Try.prog w = .ok (.bool a.isNone) w := fun w a n c n' c' => Lib.run_eql_slice_nil w _ _ a n c n' c' Try.underlying24
  go_enter Try.func32, Try.ntmps32
  go_wp2_with fail
  go_loop [5] (fun i => i = .int .i64 0) (fun _ => 0)
  case atStart => rfl
  case round =>
    subst hrel
    go_wp2
    go_ret
    exact ⟨rfl, SameW.refl _⟩

set_option maxHeartbeats 2000000 in
theorem eq32_row (ad1 ad2 : Addr) (c1 c2 : Nat) (us : List Int) (w : World) (h1 : SrcV w ad1 (us.map (Value.int .u64))) (h2 : SrcV w ad2 (us.map (Value.int .u64))) (hl : us.length ≤ 1048576) : Calls Try.prog 32 #[.slice (some ad1) us.length c1, .slice (some ad2) us.length c2] w (TrueSame w) := by
  have qT : ∀ (w : World) (a : Option Addr) (n c n' c' : Nat), (binOp .eql 24 (.slice a n c) (.slice none n' c')).run Try.prog w = .ok (.bool a.isNone) w := fun w a n c n' c' => Lib.run_eql_slice_nil w _ _ a n c n' c' Try.underlying24
  have H1 : Hid (SrcV w ad1 (us.map (Value.int .u64))) := h1
  have H2 : Hid (SrcV w ad2 (us.map (Value.int .u64))) := h2
  clear h1 h2
  go_enter Try.func32, Try.ntmps32
  go_wp2_with fail
  go_loopw [5] (fun i wr => ∃ k : Nat, k ≤ us.length ∧ i = .int .i64 k ∧ SameW w wr) (fun i _ => us.length - (intOf i).toNat)
  case atStart => exact ⟨0, Nat.zero_le _, rfl, SameW.refl _⟩
  case round =>
    obtain ⟨k, hk, rfl, hs⟩ := hrel
    have HS : Hid (SameW w wr) := hs
    clear hs
    by_cases hlt : k < us.length
    · obtain ⟨x, hx⟩ : ∃ x, us[k]? = some x := ⟨_, List.getElem?_eq_getElem hlt⟩
      have hltI : (k : Int) < (us.length : Int) := by omega
      have c1 : wr.cell? (ad1.add k) = some (.int .u64 x) := (HS.out.cell _).trans (H1.out k _ (by rw [List.getElem?_map, hx]; rfl))
      have c2 : wr.cell? (ad2.add k) = some (.int .u64 x) := (HS.out.cell _).trans (H2.out k _ (by rw [List.getElem?_map, hx]; rfl))
      clear hx
      go_wp2_with fail
      go_quiet (fail)
      go_wp2
      go_roundw
      case rel => exact ⟨k + 1, by omega, by go_num, HS.out.drewN _⟩
      case measure => simp [intOf]; omega
    · have hltI : ¬ (k : Int) < (us.length : Int) := by omega
      go_wp2
      go_ret
      exact ⟨rfl, HS.out⟩

theorem eq32_any (v x : Value) (us : List Int) (w : World) (h1 : InV w v (us.map (Value.int .u64))) (h2 : InV w x (us.map (Value.int .u64))) (hn : nilB v = nilB x) (hl : us.length ≤ 1048576) : Calls Try.prog 32 #[v, x] w (TrueSame w) := by
  obtain ⟨rfl, e1⟩ | ⟨ad1, c1, rfl, l1, s1⟩ := h1
  · obtain ⟨rfl, e2⟩ | ⟨ad2, c2, rfl, l2, s2⟩ := h2
    · exact eq32_nil w
    · cases hn
  · obtain ⟨rfl, e2⟩ | ⟨ad2, c2, rfl, l2, s2⟩ := h2
    · cases hn
    · simp only [List.length_map]
      exact eq32_row ad1 ad2 c1 c2 us w s1 s2 hl

/-- Is member x marked? -/
def marked (os : List Bool) (x : Int) : Bool := decide (0 ≤ x) && os.getD x.toNat false
/-- Those that are not marked. -/
def left (os : List Bool) (bs : List Int) : List Int := bs.filter (fun x => !marked os x)

theorem left_take (os : List Bool) (bs : List Int) (k : Nat) (x : Int) (hx : bs[k]? = some x) : left os (bs.take (k + 1)) = if marked os x then left os (bs.take k) else left os (bs.take k) ++ [x] := by
  unfold left
  rw [List.take_add_one, hx]
  simp [List.filter_append]
  cases h : marked os x <;> simp [h]

theorem left_at (os : List Bool) (bs : List Int) (k : Nat) (x : Int) (hx : bs[k]? = some x) (hm : marked os x = false) : (left os bs)[(left os (bs.take k)).length]? = some x := by
  have hs : bs = bs.take k ++ x :: bs.drop (k + 1) := by
    have hlt := (List.getElem?_eq_some_iff.1 hx).1
    rw [← (List.getElem?_eq_some_iff.1 hx).2, ← List.drop_eq_getElem_cons hlt, List.take_append_drop]
  have : left os bs = left os (bs.take k) ++ x :: left os (bs.drop (k + 1)) := by
    unfold left
    conv => lhs; rw [hs]
    rw [List.filter_append, List.filter_cons]
    simp [hm]
  rw [this, List.getElem?_append_right (Nat.le_refl _)]
  simp

set_option maxHeartbeats 4000000 in
theorem filt28 (ga ba oa : Option Addr) (gc bc oc : Nat) (bs : List Int) (os : List Bool) (w : World) (hg : InV w (.slice ga (left os bs).length gc) ((left os bs).map (Value.int .i64))) (hb : InV w (.slice ba bs.length bc) (bs.map (Value.int .i64))) (ho : InV w (.slice oa os.length oc) (os.map Value.bool)) (hl : bs.length ≤ 1048576) :
    Calls Try.prog 28 #[.slice ga (left os bs).length gc, .slice ba bs.length bc, .slice oa os.length oc] w (fun e w' => e = .returned (.bool true) ∧ w' = w) := by
  have HG : Hid (InV w (.slice ga (left os bs).length gc) ((left os bs).map (Value.int .i64))) := hg
  have HB : Hid (InV w (.slice ba bs.length bc) (bs.map (Value.int .i64))) := hb
  have HO : Hid (InV w (.slice oa os.length oc) (os.map Value.bool)) := ho
  clear hg hb ho
  go_enter Try.func28, Try.ntmps28
  go_wp2_with fail
  go_loop [7, 12] (fun q i => ∃ k : Nat, k ≤ bs.length ∧ i = .int .i64 k ∧ q = .int .i64 ((left os (bs.take k)).length : Int)) (fun _ i => bs.length - (intOf i).toNat)
  case atStart => exact ⟨0, Nat.zero_le _, rfl, rfl⟩
  case round =>
    obtain ⟨k, hk, rfl, rfl⟩ := hrel
    by_cases hlt : k < bs.length
    · obtain ⟨x, hx⟩ : ∃ x, bs[k]? = some x := ⟨_, List.getElem?_eq_getElem hlt⟩
      have hltI : (k : Int) < (bs.length : Int) := by omega
      have HX : Hid (bs[k]? = some x) := hx
      obtain ⟨adb, rfl, cb, -, lb⟩ := HB.out.at (k := k) (x := .int .i64 x) (by rw [List.getElem?_map, hx]; rfl)
      have hT := left_take os bs k x hx
      have hA := left_at os bs k x hx
      obtain ⟨q, hq⟩ : ∃ q, Hid (q = (left os (bs.take k)).length) := ⟨_, rfl⟩
      have hql : Hid ((left os (bs.take k)).length ≤ k) := by unfold Hid left; refine Nat.le_trans (List.length_filter_le _ _) ?_; simp; omega
      have hq1 : q ≤ k := by rw [hq.out]; exact hql.out
      rw [← hq.out]
      have HT : Hid (left os (bs.take (k + 1)) = if marked os x then left os (bs.take k) else left os (bs.take k) ++ [x]) := hT
      have HA : Hid (marked os x = false → (left os bs)[(left os (bs.take k)).length]? = some x) := hA
      clear hT hA hx
      have hgo : marked os x = false → ∃ adg, ga = some adg ∧ w.cell? (adg.add q) = some (.int .i64 x) ∧ (q : Int) < ((left os bs).length : Int) := by
        intro hm
        have h1 := HA.out hm
        rw [← hq.out] at h1
        have hlt2 := (List.getElem?_eq_some_iff.1 h1).1
        obtain ⟨adg, e, cg, -, lg⟩ := HG.out.at (k := q) (x := .int .i64 x) (by rw [List.getElem?_map, h1]; rfl)
        exact ⟨adg, e, cg, by omega⟩
      have hnext : marked os x = true → Hid ((left os (bs.take (k + 1))).length = q) := fun hm => by rw [Hid, HT.out, if_pos hm, hq.out]
      have hnext2 : marked os x = false → Hid ((left os (bs.take (k + 1))).length = q + 1) := fun hm => by rw [Hid, HT.out, if_neg (by simp [hm]), hq.out]; simp
      by_cases hx0 : 0 ≤ x
      · by_cases hx1 : x < (os.length : Int)
        · obtain ⟨n, rfl⟩ : ∃ n : Nat, x = (n : Int) := ⟨x.toNat, by omega⟩
          obtain ⟨o, ho⟩ : ∃ o, os[n]? = some o := ⟨_, List.getElem?_eq_getElem (by omega)⟩
          obtain ⟨ado, rfl, co, -, lo⟩ := HO.out.at (k := n) (x := .bool o) (by rw [List.getElem?_map, ho]; rfl)
          have hmo : marked os (n : Int) = o := by simp [marked, List.getD_eq_getElem?_getD, ho]
          clear ho
          cases o with
          | true =>
            have hn := hnext hmo
            clear hnext hnext2 hgo hmo
            go_wp2
            go_round
            case rel => exact ⟨k + 1, by omega, by go_num, by rw [hn.out]⟩
            case measure => simp [intOf]; omega
          | false =>
            have hn := hnext2 hmo
            obtain ⟨adg, rfl, cg, hqg⟩ := hgo hmo
            clear hnext hnext2 hgo hmo
            go_wp2
            go_round
            case rel => exact ⟨k + 1, by omega, by go_num, by rw [hn.out]; go_num⟩
            case measure => simp [intOf]; omega
        · have hmo : marked os x = false := by
            have : os.length ≤ x.toNat := by omega
            simp [marked, List.getD_eq_getElem?_getD, List.getElem?_eq_none this]
          have hn := hnext2 hmo
          obtain ⟨adg, rfl, cg, hqg⟩ := hgo hmo
          clear hnext hnext2 hgo hmo
          go_wp2
          go_round
          case rel => exact ⟨k + 1, by omega, by go_num, by rw [hn.out]; go_num⟩
          case measure => simp [intOf]; omega
      · have hmo : marked os x = false := by simp [marked]; intro h; omega
        have hn := hnext2 hmo
        obtain ⟨adg, rfl, cg, hqg⟩ := hgo hmo
        clear hnext hnext2 hgo hmo
        go_wp2
        go_round
        case rel => exact ⟨k + 1, by omega, by go_num, by rw [hn.out]; go_num⟩
        case measure => simp [intOf]; omega
    · have hltI : ¬ (k : Int) < (bs.length : Int) := by omega
      have hT : bs.take k = bs := List.take_of_length_le (by omega)
      rw [hT]
      clear hT
      go_wp2
      go_ret
      exact ⟨rfl, rfl⟩

end Go.Proofs.Qxb6616962a

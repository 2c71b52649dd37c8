import Derived.Test.Qxb6616962aNew3
import Derived.Test.Qxb6616962aOrd
import Derived.Deep.RegionHeld3
/-! ZZnewHoldback (15): its second loop. -/
namespace Go.Proofs.Qxb6616962a
open Go.RowKit
set_option linter.unusedVariables false
set_option linter.unusedSimpArgs false
set_option maxRecDepth 8000

set_option maxHeartbeats 4000000 in
theorem new_tail4 (sf : Int) (a3 a4 a5 a7 a8 : Option Addr) (c3 n4 c4 n5 c5 n7 c7 n8 c8 : Nat) (j : Bool) (cs : List Value) (ps us : List Int) (bs : List Bool) (av accV : Value) (accs : List (Value × Value)) (w w1 : World) (u0 u1 u2 u9 u10 u11 u12 u13 u14 u15 u16 u17 u18 u20 u21 u22 u23 u24 u25 u26 u27 u28 u29 u30 u31 u32 u33 u34 u35 u36 u37 u38 u39 u40 u41 u42 u43 u44 u45 u46 u47 u48 u49 u50 u51 u52 u53 u54 u55 u56 u57 u58 u59 u60 u61 u62 u63 u64 u65 u66 u67 u68 u69 u70 u71 u72 u73 u74 u75 u76 u77 u78 u79 u80 u81 u82 u83 u84 u85 u86 u87 u88 u89 u90 u91 u92 u93 u94 : Value)
    (H3 : Hid (InV w (.slice a3 ps.length c3) (ps.map (Value.int .i64)))) (H4 : Hid (InV w (.slice a4 n4 c4) (us.map (Value.int .u64)))) (H5 : Hid (InV w (.slice a5 n5 c5) (bs.map Value.bool))) (L4 : Hid (us.length = ps.length)) (L5 : Hid (bs.length = ps.length)) (hps : ps.length ≤ 131072)
    (HR : Hid (R1 w w1 sf av cs cs.length accV accs)) (T : Code) (hT : T = tailN 4 (Try.f15.body.getD .skip)) :
    Code.wp Try.prog T (bodyPost Try.prog Try.f15 (NewPost w sf cs ps bs av j (.slice a7 n7 c7) (.slice a8 n8 c8))) ⟨#[u0, u1, u2, .slice a3 ps.length c3, .slice a4 n4 c4, .slice a5 n5 c5, .bool j, .slice a7 n7 c7, .slice a8 n8 c8, u9, u10, u11, u12, u13, u14, u15, u16, u17, u18, .pointer (some ⟨w.heap.size + 1, 0, none⟩), u20, u21, u22, u23, u24, u25, u26, u27, u28, u29, u30, u31, u32, u33, u34, u35, u36, u37, u38, u39, u40, u41, u42, u43, u44, u45, u46, u47, u48, u49, u50, u51, u52, u53, u54, u55, u56, u57, u58, u59, u60, u61, u62, u63, u64, u65, u66, u67, u68, u69, u70, u71, u72, u73, u74, u75, u76, u77, u78, u79, u80, u81, u82, u83, u84, u85, u86, u87, u88, u89, u90, u91, u92, u93, u94], []⟩ w1 := by
  dsimp only [Try.f15, Option.getD_some, tailN] at hT
  subst hT
  dsimp only
  have hsz := HR.out.size
  go_wp2_with fail
  rename (∀ (a : Act) (w1 : World), Code.wp Try.prog (tailN 5 (Try.f15.body.getD .skip)) (bodyPost Try.prog Try.f15 (NewPost w sf cs ps bs av j (.slice a7 n7 c7) (.slice a8 n8 c8))) a w1 → _) => hK
  have HK : Hid _ := hK
  clear hK
  go_loopw [58] (fun i wx => ∃ (k2 : Nat) (vV : Value) (vs : List (Int × Value × Bool)), k2 ≤ ps.length ∧ i = .int .i64 k2 ∧ R2 w1 wx (w.heap.size + 1) w.heap.size sf accV av ps bs k2 vV vs) (fun i _ => ps.length - (intOf i).toNat)
  case atStart => exact ⟨0, .slice none 0 0, [], Nat.zero_le _, rfl, rfl, World.ownsRow_nil _ _ _ _, (fun j p hj => by cases hj), HR.out.hb, Chg.refl _ _⟩
  case round =>
    obtain ⟨wx, rfl⟩ : ∃ wx, wx = wr := ⟨_, rfl⟩
    obtain ⟨k2, vV, vs, hk2, rfl, hr2⟩ := hrel
    have HR2 : Hid (R2 w1 wx (w.heap.size + 1) w.heap.size sf accV av ps bs k2 vV vs) := hr2
    have g4 := hr2.hb.s4
    have gF4 := hr2.hb.sF 4
    have hwx : Hid (∀ q, q < w.heap.size → wx.heap[q]? = w.heap[q]?) := fun q hq => (hr2.chg.block q (by omega) (by omega)).trans (HR.out.below.block q hq)
    by_cases hlt2 : k2 < ps.length
    · obtain ⟨p, hp⟩ : ∃ p, ps[k2]? = some p := ⟨_, List.getElem?_eq_getElem hlt2⟩
      obtain ⟨u, hu⟩ : ∃ u, us[k2]? = some u := ⟨_, List.getElem?_eq_getElem (by rw [L4.out]; exact hlt2)⟩
      obtain ⟨b, hb⟩ : ∃ b, bs[k2]? = some b := ⟨_, List.getElem?_eq_getElem (by rw [L5.out]; exact hlt2)⟩
      have hltI2 : (k2 : Int) < (ps.length : Int) := by omega
      obtain ⟨ad3, rfl, x3, -, lc3⟩ := H3.out.at (k := k2) (x := .int .i64 p) (by rw [List.getElem?_map, hp]; rfl)
      obtain ⟨ad4, rfl, x4, ln4, lc4⟩ := H4.out.at (k := k2) (x := .int .u64 u) (by rw [List.getElem?_map, hu]; rfl)
      obtain ⟨ad5, rfl, x5, ln5, lc5⟩ := H5.out.at (k := k2) (x := .bool b) (by rw [List.getElem?_map, hb]; rfl)
      have y3 : wx.cell? (ad3.add k2) = some (.int .i64 p) := (World.cell?_of_block (w := w) (hwx.out _ (World.block_lt_of_cell? _ _ x3))).trans x3
      have y4 : wx.cell? (ad4.add k2) = some (.int .u64 u) := (World.cell?_of_block (w := w) (hwx.out _ (World.block_lt_of_cell? _ _ x4))).trans x4
      have y5 : wx.cell? (ad5.add k2) = some (.bool b) := (World.cell?_of_block (w := w) (hwx.out _ (World.block_lt_of_cell? _ _ x5))).trans x5
      have hn4 : (k2 : Int) < (n4 : Int) := by rw [ln4, List.length_map, L4.out]; exact hltI2
      have hn5 : (k2 : Int) < (n5 : Int) := by rw [ln5, List.length_map, L5.out]; exact hltI2
      have HP : Hid (ps[k2]? = some p) := hp
      have HB0 : Hid (bs[k2]? = some b) := hb
      clear ln4 ln5 hr2
      have al1 : ∀ (B : Obj) (ad : Addr) (v : Value), wx.cell? ad = some v → (wx.alloc B).cell? ad = some v := fun B ad v h => (World.cell?_of_block (w := wx) (Below.heap_alloc wx B _ (World.block_lt_of_cell? _ _ h))).trans h
      have al2 : ∀ (B C : Obj) (ad : Addr) (v : Value), wx.cell? ad = some v → ((wx.alloc B).alloc C).cell? ad = some v := fun B C ad v h => (World.cell?_of_block (w := wx) (blk2 wx B C _ (World.block_lt_of_cell? _ _ h))).trans h
      have z3 := fun B => al1 B _ _ y3
      have z4 := fun B => al1 B _ _ y4
      have z5 := fun B => al1 B _ _ y5
      have z6 := fun B => al1 B _ _ g4
      have z3' := fun B C => al2 B C _ _ y3
      have z4' := fun B C => al2 B C _ _ y4
      have z5' := fun B C => al2 B C _ _ y5
      have z6' := fun B C => al2 B C _ _ g4
      clear al1 al2
      obtain ⟨j0, hj, jz0, jz1, jz2⟩ := info_parts Try.info87
      have hsx : w.heap.size + 2 ≤ wx.heap.size := Nat.le_trans hsz HR2.out.chg.size
      have hown2 : Hid (((wx.alloc (Obj.cells #[.int .u64 u, .slice none 0 0, .slice none 0 0, .slice none 0 0, .slice none 0 0] 85)).alloc (Obj.cells #[.int .i64 p, .pointer (some ⟨wx.heap.size, 0, none⟩), .bool b] 87)).drew.ownsRow w1.heap.size 87 3 vV k2 (vs.flatMap viewC)) := by
        have g1 : wx.grownBy ((wx.alloc (Obj.cells #[.int .u64 u, .slice none 0 0, .slice none 0 0, .slice none 0 0, .slice none 0 0] 85)).alloc (Obj.cells #[.int .i64 p, .pointer (some ⟨wx.heap.size, 0, none⟩), .bool b] 87)).drew none :=
          ⟨rfl, rfl, rfl, by simp; omega, fun q hq _ => blk2 wx _ _ q hq⟩
        refine HR2.out.own.kept g1 ?_
        cases hb : vV.ownBlock with
        | none => exact Or.inl rfl
        | some b => exact Or.inr (by simp)
      have hs1x : w1.heap.size ≤ wx.heap.size := HR2.out.chg.size
      have hsb2 : Hid (some (w.heap.size + 1) ≠ vV.ownBlock) := fun e => by have := (HR2.out.own.lt _ e.symm).1; omega
      have HX : Hid (∀ q, q < w.heap.size → some q ≠ vV.ownBlock) := fun q hq e => by have := (HR2.out.own.lt _ e.symm).1; omega
      have z6d : wx.drew.cell? ⟨w.heap.size + 1, 4, none⟩ = some vV := g4
      go_wp2_with fail
      have s0 : wx.drew.cell? (ad3.add k2) = some (.int .i64 p) ∧ wx.drew.cell? (ad4.add k2) = some (.int .u64 u) ∧ wx.drew.cell? (ad5.add k2) = some (.bool b) := ⟨y3, y4, y5⟩
      refine AnyL.start (fun w' => w'.cell? (ad3.add k2) = some (.int .i64 p) ∧ w'.cell? (ad4.add k2) = some (.int .u64 u) ∧ w'.cell? (ad5.add k2) = some (.bool b)) (fun w' => w'.cell? ⟨w.heap.size + 1, 4, none⟩ = some vV) 21 (by kernel_rfl) ?_
      refine AnyL.takeA (i := 0) (v := ?v1) rfl (by kernel_rfl) (by kernel_rfl) (by kernel_rfl) (fun _ _ _ h => h) rfl (Or.inl ⟨by rfl, ?hy1⟩) s0 (Or.inr z6d) ?rest1
      case hy1 => (intro w hSw; (try dsimp only at hSw); go_simp) <;> (with_reducible rfl)
      try simp only [Act.put, List.setIfInBounds_toArray, List.set_cons_zero, List.set_cons_succ]
      refine AnyL.takeA (i := 1) (v := ?v2) rfl (by kernel_rfl) (by kernel_rfl) (by kernel_rfl) (fun _ _ _ h => h) rfl (Or.inl ⟨by rfl, ?hy2⟩) s0 (Or.inr z6d) ?rest2
      case hy2 => (intro w hSw; (try dsimp only at hSw); go_simp) <;> (with_reducible rfl)
      try simp only [Act.put, List.setIfInBounds_toArray, List.set_cons_zero, List.set_cons_succ]
      refine AnyL.takeA (i := 2) (v := ?v3) rfl (by kernel_rfl) (by kernel_rfl) (by kernel_rfl) (fun _ _ _ h => h) rfl (Or.inl ⟨by rfl, ?hy3⟩) s0 (Or.inr z6d) ?rest3
      case hy3 => (intro w hSw; (try dsimp only at hSw); go_simp) <;> (with_reducible rfl)
      try simp only [Act.put, List.setIfInBounds_toArray, List.set_cons_zero, List.set_cons_succ]
      refine AnyL.takeA (i := 3) (v := ?v4) rfl (by kernel_rfl) (by kernel_rfl) (by kernel_rfl) (fun _ _ _ h => h) rfl (Or.inl ⟨by rfl, ?hy4⟩) s0 (Or.inr z6d) ?rest4
      case hy4 => (intro w hSw; (try dsimp only at hSw); go_simp) <;> (with_reducible rfl)
      try simp only [Act.put, List.setIfInBounds_toArray, List.set_cons_zero, List.set_cons_succ]
      refine AnyL.takeB (i := 4) (v := ?v5) rfl (by kernel_rfl) (by kernel_rfl) (by kernel_rfl) (fun _ _ _ h => h) rfl (by kernel_rfl) rfl (Or.inl ⟨by rfl, ?hy5⟩) s0 z6d ?rest5
      case hy5 => (intro w hSw; (try dsimp only at hSw); go_simp) <;> (with_reducible rfl)
      try simp only [Act.put, List.setIfInBounds_toArray, List.set_cons_zero, List.set_cons_succ]
      refine AnyL.takeA (i := 5) (v := ?v6) rfl (by kernel_rfl) (by kernel_rfl) (by kernel_rfl) (fun _ _ _ h => h) rfl (Or.inl ⟨by rfl, ?hy6⟩) s0 (Or.inr z6d) ?rest6
      case hy6 => (intro w hSw; (try dsimp only at hSw); go_simp) <;> (with_reducible rfl)
      try simp only [Act.put, List.setIfInBounds_toArray, List.set_cons_zero, List.set_cons_succ]
      refine AnyL.takeA (i := 6) (v := ?v7) rfl (by kernel_rfl) (by kernel_rfl) (by kernel_rfl) (fun _ _ _ h => h) rfl (Or.inl ⟨by rfl, ?hy7⟩) s0 (Or.inr z6d) ?rest7
      case hy7 => (intro w hSw; (try dsimp only at hSw); go_simp) <;> (with_reducible rfl)
      try simp only [Act.put, List.setIfInBounds_toArray, List.set_cons_zero, List.set_cons_succ]
      refine AnyL.takeA (i := 7) (v := ?v8) rfl (by kernel_rfl) (by kernel_rfl) (by kernel_rfl) (fun _ _ _ h => h) rfl (Or.inl ⟨by rfl, ?hy8⟩) s0 (Or.inr z6d) ?rest8
      case hy8 => (intro w hSw; (try dsimp only at hSw); go_simp) <;> (with_reducible rfl)
      try simp only [Act.put, List.setIfInBounds_toArray, List.set_cons_zero, List.set_cons_succ]
      refine AnyL.takeA (i := 8) (v := ?v9) rfl (by kernel_rfl) (by kernel_rfl) (by kernel_rfl) (fun _ _ _ h => h) rfl (Or.inl ⟨by rfl, ?hy9⟩) s0 (Or.inr z6d) ?rest9
      case hy9 => (intro w hSw; (try dsimp only at hSw); go_simp) <;> (with_reducible rfl)
      try simp only [Act.put, List.setIfInBounds_toArray, List.set_cons_zero, List.set_cons_succ]
      refine AnyL.takeA (i := 9) (v := ?v10) rfl (by kernel_rfl) (by kernel_rfl) (by kernel_rfl) (fun _ _ _ h => h) rfl (Or.inl ⟨by rfl, ?hy10⟩) s0 (Or.inr z6d) ?rest10
      case hy10 => (intro w hSw; (try dsimp only at hSw); go_simp) <;> (with_reducible rfl)
      try simp only [Act.put, List.setIfInBounds_toArray, List.set_cons_zero, List.set_cons_succ]
      refine AnyL.takeA (i := 10) (v := ?v11) rfl (by kernel_rfl) (by kernel_rfl) (by kernel_rfl) (fun _ _ _ h => h) rfl (Or.inl ⟨by rfl, ?hy11⟩) s0 (Or.inr z6d) ?rest11
      case hy11 => (intro w hSw; (try dsimp only at hSw); go_simp) <;> (with_reducible rfl)
      try simp only [Act.put, List.setIfInBounds_toArray, List.set_cons_zero, List.set_cons_succ]
      refine AnyL.takeA (i := 11) (v := ?v12) rfl (by kernel_rfl) (by kernel_rfl) (by kernel_rfl) (fun _ _ _ h => h) rfl (Or.inl ⟨by rfl, ?hy12⟩) s0 (Or.inr z6d) ?rest12
      case hy12 => (intro w hSw; (try dsimp only at hSw); go_simp) <;> (with_reducible rfl)
      try simp only [Act.put, List.setIfInBounds_toArray, List.set_cons_zero, List.set_cons_succ]
      refine AnyL.takeA (i := 12) (v := ?v13) rfl (by kernel_rfl) (by kernel_rfl) (by kernel_rfl) (fun _ _ _ h => h) rfl (Or.inl ⟨by rfl, ?hy13⟩) s0 (Or.inr z6d) ?rest13
      case hy13 => (intro w hSw; (try dsimp only at hSw); go_simp) <;> (with_reducible rfl)
      try simp only [Act.put, List.setIfInBounds_toArray, List.set_cons_zero, List.set_cons_succ]
      refine AnyL.takeA (i := 13) (v := ?v14) rfl (by kernel_rfl) (by kernel_rfl) (by kernel_rfl) (fun _ _ _ h => h) rfl (Or.inl ⟨by rfl, ?hy14⟩) s0 (Or.inr z6d) ?rest14
      case hy14 => (intro w hSw; (try dsimp only at hSw); go_simp) <;> (with_reducible rfl)
      try simp only [Act.put, List.setIfInBounds_toArray, List.set_cons_zero, List.set_cons_succ]
      refine AnyL.takeA (i := 15) (v := ?v15) rfl (by kernel_rfl) (by kernel_rfl) (by kernel_rfl) (fun _ _ _ h => h) rfl (Or.inl ⟨by rfl, ?hy15⟩) s0 (Or.inr z6d) ?rest15
      case hy15 => (intro w hSw; (try dsimp only at hSw); go_simp) <;> (with_reducible rfl)
      try simp only [Act.put, List.setIfInBounds_toArray, List.set_cons_zero, List.set_cons_succ]
      refine AnyL.takeA (i := 16) (v := ?v16) rfl (by kernel_rfl) (by kernel_rfl) (by kernel_rfl) (fun _ _ _ h => h) rfl (Or.inl ⟨by rfl, ?hy16⟩) s0 (Or.inr z6d) ?rest16
      case hy16 => (intro w hSw; (try dsimp only at hSw); go_simp) <;> (with_reducible rfl)
      try simp only [Act.put, List.setIfInBounds_toArray, List.set_cons_zero, List.set_cons_succ]
      refine AnyL.takeA (i := 17) (v := ?v17) rfl (by kernel_rfl) (by kernel_rfl) (by kernel_rfl) (fun _ _ _ h => h) rfl (Or.inl ⟨by rfl, ?hy17⟩) s0 (Or.inr z6d) ?rest17
      case hy17 => (intro w hSw; (try dsimp only at hSw); go_simp) <;> (with_reducible rfl)
      try simp only [Act.put, List.setIfInBounds_toArray, List.set_cons_zero, List.set_cons_succ]
      refine AnyL.takeA (i := 18) (v := ?v18) rfl (by kernel_rfl) (by kernel_rfl) (by kernel_rfl) (fun _ _ _ h => h) rfl (Or.inl ⟨by rfl, ?hy18⟩) s0 (Or.inr z6d) ?rest18
      case hy18 => (intro w hSw; (try dsimp only at hSw); go_simp) <;> (with_reducible rfl)
      try simp only [Act.put, List.setIfInBounds_toArray, List.set_cons_zero, List.set_cons_succ]
      refine AnyL.one (i := 14) (by kernel_rfl) rfl (fun K hK => ?_)
      go_simp
      refine hK.out _ _ ⟨z3 _, z4 _, z5 _⟩ (Or.inr (z6 _)) ?_
      clear hK K
      try simp only [Act.put, List.setIfInBounds_toArray, List.set_cons_zero, List.set_cons_succ]
      refine AnyL.takeA (i := 19) (v := ?v19) rfl (by kernel_rfl) (by kernel_rfl) (by kernel_rfl) (fun _ _ _ h => h) rfl (Or.inl ⟨by rfl, ?hy19⟩) ⟨z3 _, z4 _, z5 _⟩ (Or.inr (z6 _)) ?rest19
      case hy19 => (intro w hSw; (try dsimp only at hSw); go_simp) <;> (with_reducible rfl)
      try simp only [Act.put, List.setIfInBounds_toArray, List.set_cons_zero, List.set_cons_succ]
      refine AnyL.one (i := 20) (by kernel_rfl) rfl (fun K hK => ?_)
      go_simp
      refine hK.out _ _ ⟨z3' _ _, z4' _ _, z5' _ _⟩ (Or.inr (z6' _ _)) ?_
      clear hK K
      try simp only [Act.put, List.setIfInBounds_toArray, List.set_cons_zero, List.set_cons_succ]
      refine AnyL.one (i := 21) (by kernel_rfl) rfl (fun K hK => ?_)
      refine step_app rfl (.tmp 65) (.tmp 81) 79 rfl w1.heap.size 87 j0 _ 3 24 Try.underlying79 hj jz0 jz1 jz2 rfl (by decide) vV k2 (vs.flatMap viewC) (by simp [Act.eval, Act.put]) hown2.out ⟨wx.heap.size + 1, 0, none⟩ 1 1 [.int .i64 p, .pointer (some ⟨wx.heap.size, 0, none⟩), .bool b] (by simp [Act.eval, Act.put]) rfl (fun j u hj => by rcases j with _ | _ | _ | j <;> simp at hj <;> subst hj <;> simp [Addr.add]) (by simp [Value.oneCell']) (by unfold maxLen; omega) (by omega) (by simp; omega) ?_
      intro v' w4 own4 grow4
      obtain ⟨gv, cv, rfl⟩ := own_form own4 (by omega)
      have GB : Hid (∀ q, q < wx.heap.size → some q ≠ vV.ownBlock → w4.heap[q]? = wx.heap[q]?) := (fun q hq hne => (grow4.block q (by simp; omega) hne).trans (blk2 wx _ _ q hq))
      have GS : Hid (w4.os = wx.os ∧ w4.tape = wx.tape ∧ w4.output = wx.output ∧ wx.heap.size ≤ w4.heap.size) := ⟨grow4.os, grow4.tape, grow4.output, by have := grow4.size; simp at this; omega⟩
      have O4 : Hid (w4.ownsRow w1.heap.size 87 3 (.slice (some ⟨gv, 0, none⟩) (k2 + 1) cv) (k2 + 1) (vs.flatMap viewC ++ [.int .i64 p, .pointer (some ⟨wx.heap.size, 0, none⟩), .bool b])) := own4
      have eb := GB.out (w.heap.size + 1) (by omega) hsb2.out
      have q1 : w4.cell? ⟨w.heap.size + 1, 4, none⟩ = some vV := (World.cell?_of_block (w := wx) (a := ⟨w.heap.size + 1, 4, none⟩) eb).trans g4
      have qF : w4.frozen? ⟨w.heap.size + 1, 4, none⟩ = false := (World.frozen?_of_block (w := wx) (a := ⟨w.heap.size + 1, 4, none⟩) eb).trans gF4
      have y3' : w4.cell? (ad3.add k2) = some (.int .i64 p) := (World.cell?_of_block (w := wx) (GB.out _ (World.block_lt_of_cell? _ _ y3) (HX.out _ (World.block_lt_of_cell? _ _ x3)))).trans y3
      have y4' : w4.cell? (ad4.add k2) = some (.int .u64 u) := (World.cell?_of_block (w := wx) (GB.out _ (World.block_lt_of_cell? _ _ y4) (HX.out _ (World.block_lt_of_cell? _ _ x4)))).trans y4
      have y5' : w4.cell? (ad5.add k2) = some (.bool b) := (World.cell?_of_block (w := wx) (GB.out _ (World.block_lt_of_cell? _ _ y5) (HX.out _ (World.block_lt_of_cell? _ _ x5)))).trans y5
      clear own4 grow4 eb
      refine hK.out _ _ ⟨y3', y4', y5'⟩ (Or.inl rfl) ?_
      clear hK K
      try simp only [Act.put, List.setIfInBounds_toArray, List.set_cons_zero, List.set_cons_succ]
      refine AnyL.takeA (i := 22) (v := ?v20) rfl (by kernel_rfl) (by kernel_rfl) (by kernel_rfl) (fun _ _ _ h => h) rfl (Or.inl ⟨by rfl, ?hy20⟩) ⟨y3', y4', y5'⟩ (Or.inl rfl) ?rest20
      case hy20 => (intro w hSw; (try dsimp only at hSw); go_simp) <;> (with_reducible rfl)
      try simp only [Act.put, List.setIfInBounds_toArray, List.set_cons_zero, List.set_cons_succ]
      refine AnyL.takeA (i := 23) (v := ?v21) rfl (by kernel_rfl) (by kernel_rfl) (by kernel_rfl) (fun _ _ _ h => h) rfl (Or.inl ⟨by rfl, ?hy21⟩) ⟨y3', y4', y5'⟩ (Or.inl rfl) ?rest21
      case hy21 => (intro w hSw; (try dsimp only at hSw); go_simp) <;> (with_reducible rfl)
      try simp only [Act.put, List.setIfInBounds_toArray, List.set_cons_zero, List.set_cons_succ]
      refine AnyL.one (i := 24) (by kernel_rfl) rfl (fun K hK => ?_)
      go_simp
      refine hK.out _ _ ⟨?s3, ?s4, ?s5⟩ (Or.inl rfl) ?rr
      case s3 => exact (World.cell?_setCell_far _ _ _ _ (by show w.heap.size + 1 ≠ (ad3.add k2).block; have := World.block_lt_of_cell? _ _ x3; omega)).trans y3'
      case s4 => exact (World.cell?_setCell_far _ _ _ _ (by show w.heap.size + 1 ≠ (ad4.add k2).block; have := World.block_lt_of_cell? _ _ x4; omega)).trans y4'
      case s5 => exact (World.cell?_setCell_far _ _ _ _ (by show w.heap.size + 1 ≠ (ad5.add k2).block; have := World.block_lt_of_cell? _ _ x5; omega)).trans y5'
      clear hK K
      try simp only [Act.put, List.setIfInBounds_toArray, List.set_cons_zero, List.set_cons_succ]
      refine AnyL.done (by kernel_rfl) ?_ _
      go_wp2
      go_roundw
      case rel => exact ⟨k2 + 1, .slice (some ⟨gv, 0, none⟩) (k2 + 1) cv, vs ++ [(p, .pointer (some ⟨wx.heap.size, 0, none⟩), b)], by omega, by go_num, R2.next (u := u) HR2.out HP.out HB0.out (by omega) (by omega) GB.out GS.out O4.out⟩
      case measure => simp [intOf]; omega
    · have hltI2 : ¬ (k2 : Int) < (ps.length : Int) := by omega
      obtain rfl : k2 = ps.length := by omega
      clear hr2 g4 gF4
      go_wp2_with fail
      refine HK.out _ _ ?_
      exact new_tail5 sf a7 a8 n7 c7 n8 c8 j cs ps bs av accV vV accs vs w w1 wx _ _ _ _ _ _ _ _ _ _ _ _ _ _ _ _ _ _ _ _ _ _ _ _ _ _ _ _ _ _ _ _ _ _ _ _ _ _ _ _ _ _ _ _ _ _ _ _ _ _ _ _ _ _ _ _ _ _ _ _ _ _ _ _ _ _ _ _ _ _ _ _ _ _ _ _ _ _ _ _ _ _ _ _ _ _ _ _ _ _ _ HR HR2 _ rfl

end Go.Proofs.Qxb6616962a

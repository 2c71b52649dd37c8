import Derived.Test.Qxb6616962aP4
import Derived.Test.Qxb6616962aDel2
/-! passView (35): from 'if v.joins' on. -/
namespace Go.Proofs.Qxb6616962a
open Go.RowKit
set_option linter.unusedVariables false
set_option linter.unusedSimpArgs false
set_option maxRecDepth 8000

section
variable {w : World} {N sb st : Nat} {oa ob : Option Nat} {gv : Nat} {sf : Int} {accV actV vV jv rV : Value} {accs : List (Value × Value)} {act : List Int} {vs : List (Int × Value × Bool)} {rs : List (Int × Value × Value)}

theorem St.setJ (h : St w N sb st oa ob gv sf accV actV vV jv rV accs act vs rs) (x : Value) : St (w.setCell ⟨sb, 5, none⟩ x) N sb st oa ob gv sf accV actV vV x rV accs act vs rs := by
  have l := h.lay
  have hb : ∀ q, q ≠ sb → (w.setCell ⟨sb, 5, none⟩ x).heap[q]? = w.heap[q]? := fun q hq => Below.heap_setCell _ _ _ _ hq
  refine ⟨l, by simpa [World.setCell] using h.size, h.hb.set5 x, h.accB, h.acc.of_blocks ?_, h.actB, h.act.of_blocks ?_, h.vws.of_block (hb _ l.n2), own_of h.rdy ?_⟩
  · intro g hg
    rw [h.accB] at hg
    exact hb g (fun e => l.a1 (by rw [hg, e]))
  · intro g hg
    rw [h.actB] at hg
    exact hb g (fun e => l.b1 (by rw [hg, e]))
  · intro g hg
    have := (h.rdy.lt g hg).1
    exact hb g (by have := l.sbN; omega)

theorem St.setAct {w1 : World} {v' : Value} {act' : List Int} (h : St w N sb st oa ob gv sf accV actV vV jv rV accs act vs rs) (ho : OwnV w1 v' 3 (act'.map (Value.int .i64))) (hbk : blkOf v' = blkOf actV) (hc : Chg w w1 (fun q => blkOf actV = some q)) : St (w1.setCell ⟨sb, 2, none⟩ v') N sb st oa ob gv sf accV v' vV jv rV accs act' vs rs ∧ Chg w (w1.setCell ⟨sb, 2, none⟩ v') (fun q => q = sb ∨ ob = some q) := by
  have l := h.lay
  have hz := h.size
  rw [h.actB] at hbk hc
  have hb1 : ∀ q, q < w.heap.size → ob ≠ some q → w1.heap[q]? = w.heap[q]? := fun q hq hn => hc.block q hq hn
  have hb : ∀ q, q < w.heap.size → ob ≠ some q → q ≠ sb → (w1.setCell ⟨sb, 2, none⟩ v').heap[q]? = w.heap[q]? := fun q hq hn hs => (Below.heap_setCell _ _ _ _ hs).trans (hb1 q hq hn)
  refine ⟨⟨l, ?_, (h.hb.of_blocks (hb1 _ (Nat.lt_of_lt_of_le l.sbN hz) l.b1) (hb1 _ (Nat.lt_of_lt_of_le l.stN hz) l.b2)).set2 v', h.accB, h.acc.of_blocks ?_, hbk, ho.of_blocks ?_, h.vws.of_block (hb _ (Nat.lt_of_lt_of_le l.gvN hz) l.b3 l.n2), own_of h.rdy ?_⟩, (hc.mono (fun q hq => Or.inr hq)).trans (Chg.set _ _ (Or.inl rfl))⟩
  · have := hc.size
    simp [World.setCell]
    omega
  · intro g hg
    rw [h.accB] at hg
    exact hb g (Nat.lt_of_lt_of_le (l.oaN g hg) hz) (l.ab g hg) (fun e => l.a1 (by rw [hg, e]))
  · intro g hg
    rw [hbk] at hg
    exact Below.heap_setCell _ _ _ _ (fun e => l.b1 (by rw [hg]; exact congrArg some e))
  · intro g hg
    have h2 := h.rdy.lt g hg
    exact hb g h2.2 (fun e => by have := l.obN g e; omega) (by have := l.sbN; omega)

theorem flat_set4 (l : List (Value × Value)) (k : Nat) (x : Value × Value) (a b : Value) (hk : l[k]? = some x) : ((l.flatMap accC).set (k * 4) a).set (k * 4 + 1) b = (l.set k (a, b)).flatMap accC := by
  induction l generalizing k with
  | nil => cases hk
  | cons y l ih =>
    cases k with
    | zero => simp [accC]
    | succ k =>
      simp at hk
      have h4 : (accC y).length = 4 := rfl
      simp only [List.flatMap_cons, List.set_cons_succ]
      rw [List.set_append_right _ _ (by rw [h4]; omega), List.set_append_right _ _ (by rw [h4]; omega), h4]
      rw [show (k + 1) * 4 - 4 = k * 4 by omega, show (k + 1) * 4 + 1 - 4 = k * 4 + 1 by omega, ih k hk]

theorem St.setAcc {ga ca k : Nat} (a b : Value) (h : St w N sb st oa ob gv sf (.slice (some ⟨ga, 0, none⟩) accs.length ca) actV vV jv rV accs act vs rs) (hr : RowV w ga 83 4 ca (accs.flatMap accC)) (hn : accs.length ≤ ca) (hm : ca ≤ maxLen) (hk : k < accs.length) : St ((w.setCell ⟨ga, k * 4, none⟩ a).setCell ⟨ga, k * 4 + 1, none⟩ b) N sb st oa ob gv sf (.slice (some ⟨ga, 0, none⟩) accs.length ca) actV vV jv rV (accs.set k (a, b)) act vs rs ∧ Chg w ((w.setCell ⟨ga, k * 4, none⟩ a).setCell ⟨ga, k * 4 + 1, none⟩ b) (fun q => oa = some q) := by
  have l := h.lay
  have hoa : oa = some ga := h.accB.symm
  have hlen := accC_len accs
  have hb : ∀ q, q ≠ ga → ((w.setCell ⟨ga, k * 4, none⟩ a).setCell ⟨ga, k * 4 + 1, none⟩ b).heap[q]? = w.heap[q]? := fun q hq => (Below.heap_setCell _ _ _ _ hq).trans (Below.heap_setCell _ _ _ _ hq)
  have hx : accs[k]? = some accs[k] := List.getElem?_eq_getElem hk
  refine ⟨⟨l, by simpa [World.setCell] using h.size, h.hb.of_blocks (hb _ (fun e => l.a1 (by rw [hoa, e]))) (hb _ (fun e => l.a2 (by rw [hoa, e]))), h.accB, ?_, h.actB, h.act.of_blocks ?_, h.vws.of_block (hb _ (fun e => l.a3 (by rw [hoa, e]))), own_of h.rdy ?_⟩, (Chg.set ⟨ga, k * 4, none⟩ _ hoa).trans (Chg.set ⟨ga, k * 4 + 1, none⟩ _ hoa)⟩
  · refine Or.inr ⟨ga, ca, by simp, by simpa using hn, hm, ?_⟩
    have := (hr.set (k * 4) a (by omega)).set (k * 4 + 1) b (by rw [List.length_set]; omega)
    rwa [flat_set4 accs k _ a b hx] at this
  · intro g hg
    rw [h.actB] at hg
    exact hb g (fun e => l.ab ga hoa (by rw [← e]; exact hg))
  · intro g hg
    have := (h.rdy.lt g hg).1
    exact hb g (by have := l.oaN ga hoa; omega)

end

set_option maxHeartbeats 4000000 in
theorem pass_t3 (w : World) (N sb st : Nat) (oa ob : Option Nat) (gv vb db : Nat) (sf p : Int) (yo : Option Addr) (b : Bool) (accV actV vV jv rV sv : Value) (accs : List (Value × Value)) (act : List Int) (vs : List (Int × Value × Bool)) (rs : List (Int × Value × Value)) (u1 u4 u5 u6 u7 u8 u9 u10 u11 u12 u13 u14 u15 u16 u17 u18 u19 u20 u21 u22 u23 u24 u25 u26 u27 u28 u29 u30 u31 u32 u33 u34 u35 u36 u37 u38 u39 u40 u41 u42 u43 u44 u45 u46 u47 u48 u49 u50 u51 u52 u53 u54 u55 u56 u57 u58 u59 u60 u61 u62 u63 u64 u65 u66 u67 u68 u69 u70 u71 u72 u73 u74 u75 u76 u77 u78 u79 u80 u81 u82 u83 u84 u85 u86 u87 u88 u89 u90 u91 u92 u93 u94 u95 u96 u97 u98 u99 u100 u101 u102 u103 u104 u105 u106 u107 u108 u109 u110 u111 u112 u113 u114 u115 u116 u117 u118 u119 u120 u121 u122 u123 u124 u125 u126 u127 u128 u129 u130 u131 u132 u133 u134 : Value)
    (HS : Hid (St w N sb st oa ob gv sf accV actV vV jv rV accs act ((p, .pointer yo, b) :: vs) rs)) (v0 : w.cell? ⟨vb, 0, none⟩ = some (.int .i64 p)) (v2 : w.cell? ⟨vb, 2, none⟩ = some (.bool b)) (hNv : N ≤ vb) (hvb2 : Hid (rV.ownBlock ≠ some vb)) (HD : Hid (DelAt w db p yo sv)) (hdb : db < w.heap.size) (hdb2 : Hid (rV.ownBlock ≠ some db)) (hNd : N ≤ db) (hsv : Hid (∃ sa sm sc, sv = .slice sa sm sc)) (hrs : rs.length ≤ 131072) (hacl : act.length ≤ 1048576) (hp : b = false → 0 ≤ p ∧ p < (accs.length : Int))
    (R : Ending → World → Prop) (hR : Hid (∀ actV' vV' rV' w', St w' N sb st oa ob gv sf accV actV' vV' (if b then .pointer none else jv) rV' (if b then accs else accs.set p.toNat (.slice none 0 0, .slice none 0 0)) (if b then act else wo p act) vs (rs ++ [(p, .pointer yo, sv)]) → Chg w w' (fun q => q = sb ∨ q = st ∨ q = gv ∨ oa = some q ∨ ob = some q ∨ rV.ownBlock = some q) → R (.returned (.tuple #[])) w')) (T : Code) (hT : T = tailN 3 (Try.f35.body.getD .skip)) :
    Code.wp Try.prog T (bodyPost Try.prog Try.f35 R) ⟨#[.pointer (some ⟨sb, 0, none⟩), u1, .pointer (some ⟨vb, 0, none⟩), .pointer (some ⟨db, 0, none⟩), u4, u5, u6, u7, u8, u9, u10, u11, u12, u13, u14, u15, u16, u17, u18, u19, u20, u21, u22, u23, u24, u25, u26, u27, u28, u29, u30, u31, u32, u33, u34, u35, u36, u37, u38, u39, u40, u41, u42, u43, u44, u45, u46, u47, u48, u49, u50, u51, u52, u53, u54, u55, u56, u57, u58, u59, u60, u61, u62, u63, u64, u65, u66, u67, u68, u69, u70, u71, u72, u73, u74, u75, u76, u77, u78, u79, u80, u81, u82, u83, u84, u85, u86, u87, u88, u89, u90, u91, u92, u93, u94, u95, u96, u97, u98, u99, u100, u101, u102, u103, u104, u105, u106, u107, u108, u109, u110, u111, u112, u113, u114, u115, u116, u117, u118, u119, u120, u121, u122, u123, u124, u125, u126, u127, u128, u129, u130, u131, u132, u133, u134], []⟩ w := by
  dsimp only [Try.f35, Option.getD_some, tailN] at hT
  subst hT
  dsimp only
  have s5 := HS.out.hb.s5
  have s5F := HS.out.hb.sF 5
  have s2 := HS.out.hb.s2
  have hN := HS.out.size
  have hvl := World.block_lt_of_cell? _ _ v0
  go_upto_if 76 with fail
  rename (∀ (a : Act) (w1 : World), Code.wp Try.prog (tailN 4 (Try.f35.body.getD .skip)) (bodyPost Try.prog Try.f35 R) a w1 → _) => hK0
  have HK : Hid _ := hK0
  clear hK0
  cases b with
  | true =>
    clear hp
    go_wp2_with fail
    refine HK.out _ _ ?_
    have hc : Chg w (w.setCell ⟨sb, 5, none⟩ (.pointer none)) (fun q => q = sb) := Chg.set _ _ rfl
    have hsz : (w.setCell ⟨sb, 5, none⟩ (.pointer none)).heap.size = w.heap.size := by simp [World.setCell]
    have hsbd : sb ≠ db := by have := HS.out.lay.sbN; omega
    refine pass_t4 _ N sb st oa ob gv db sf p yo true accV actV vV _ rV sv accs act vs rs _ _ _ _ _ _ _ _ _ _ _ _ _ _ _ _ _ _ _ _ _ _ _ _ _ _ _ _ _ _ _ _ _ _ _ _ _ _ _ _ _ _ _ _ _ _ _ _ _ _ _ _ _ _ _ _ _ _ _ _ _ _ _ _ _ _ _ _ _ _ _ _ _ _ _ _ _ _ _ _ _ _ _ _ _ _ _ _ _ _ _ _ _ _ _ _ _ _ _ _ _ _ _ _ _ _ _ _ _ _ _ _ _ _ _ _ _ _ _ _ _ _ _ _ _ _ _ _ _ _ _ _ _ (HS.out.setJ _) (HD.out.of_block (hc.block db hdb (Ne.symm hsbd))) (by rw [hsz]; exact hdb) hdb2 hNd hsv.out hrs R ?_ _ rfl
    intro vV' rV' w' h1 h2
    refine hR.out actV vV' rV' w' h1 ((hc.mono (fun q hq => Or.inl hq)).trans (h2.mono ?_))
    rintro q (h | h | h | h)
    · exact Or.inl h
    · exact Or.inr (Or.inl h)
    · exact Or.inr (Or.inr (Or.inl h))
    · exact Or.inr (Or.inr (Or.inr (Or.inr (Or.inr h))))
  | false =>
    obtain ⟨hp0, hp1⟩ := hp rfl
    obtain ⟨k, rfl⟩ : ∃ k : Nat, p = (k : Int) := ⟨p.toNat, by omega⟩
    clear hp
    have hkl : k < accs.length := by omega
    have hdel := del36 vb (k : Int) actV act w v0 HS.out.act hacl (by rw [HS.out.actB]; intro e; have := HS.out.lay.obN vb e; omega)
    unfold cloV at hdel
    go_wp2_with fail
    refine hdel.mono ?_
    rintro e w1 ⟨v', rfl, own', blk', chg'⟩
    obtain ⟨m', hm'⟩ : ∃ m', m' = (((wo (k : Int) act).map (Value.int .i64)).length) := ⟨_, rfl⟩
    obtain ⟨a', c', rfl, l1', l2'⟩ := own'.len
    rw [← hm'] at own' blk'
    rw [← hm']
    have hX := HS.out.setAct own' blk' chg'
    have hob : ∀ q, N ≤ q → ob ≠ some q := fun q hq e => by have := HS.out.lay.obN q e; omega
    have hsb1 : w1.heap[sb]? = w.heap[sb]? := chg'.block sb (Nat.lt_of_lt_of_le HS.out.lay.sbN hN) (by rw [HS.out.actB]; exact HS.out.lay.b1)
    have r2 : w1.cell? ⟨sb, 2, none⟩ = some actV := (World.cell?_of_block (w := w) (a := ⟨sb, 2, none⟩) hsb1).trans s2
    have r2F : w1.frozen? ⟨sb, 2, none⟩ = false := (World.frozen?_of_block (w := w) (a := ⟨sb, 2, none⟩) hsb1).trans (HS.out.hb.sF 2)
    have HX : Hid _ := hX
    have HOB : Hid (∀ q, N ≤ q → ob ≠ some q) := hob
    clear hX own' blk' chg' hob hsb1 hdel l1' l2' hm'
    go_wp2_with fail
    obtain ⟨w2, hw2⟩ : ∃ w2, w2 = w1.setCell ⟨sb, 2, none⟩ (.slice a' m' c') := ⟨_, rfl⟩
    rw [← hw2] at HX
    rw [← hw2]
    clear hw2 r2 r2F
    have hsz2 := HX.out.2.size
    have hsbN := HS.out.lay.sbN
    have ev : w2.heap[vb]? = w.heap[vb]? := HX.out.2.block vb hvl (by rintro (h | h); omega; exact HOB.out vb hNv h)
    have ed : Hid (w2.heap[db]? = w.heap[db]?) := HX.out.2.block db hdb (by rintro (h | h); omega; exact HOB.out db hNd h)
    have x0 : w2.cell? ⟨vb, 0, none⟩ = some (.int .i64 (k : Int)) := (World.cell?_of_block (w := w) (a := ⟨vb, 0, none⟩) ev).trans v0
    obtain ⟨x, hx⟩ : ∃ x, accs[k]? = some x := ⟨_, List.getElem?_eq_getElem hkl⟩
    obtain ⟨ga, ca, rfl, hn1, hn2, hrow, y0, y1⟩ := HX.out.1.acc.cellA hx
    have HROW : Hid (RowV w2 ga 83 4 ca (accs.flatMap accC)) := hrow
    have y0F := hrow.frozen (k * 4)
    have y1F := hrow.frozen (k * 4 + 1)
    have x1 := HX.out.1.hb.s1
    have hga : oa = some ga := HX.out.1.accB.symm
    have hgaN := HX.out.1.lay.oaN ga hga
    have hgs : ¬ ga = sb := fun e => HX.out.1.lay.a1 (by rw [hga, e])
    have hgv : ¬ ga = vb := by omega
    have HGA : Hid (oa = some ga) := hga
    have q2 : w2.drew.cell? ⟨sb, 1, none⟩ = some (.slice (some ⟨ga, 0, none⟩) accs.length ca) ∧ w2.drew.cell? ⟨vb, 0, none⟩ = some (.int .i64 (k : Int)) := ⟨x1, x0⟩
    clear ev hx hrow hga
    refine AnyL.start (fun w' => w'.cell? ⟨sb, 1, none⟩ = some (.slice (some ⟨ga, 0, none⟩) accs.length ca) ∧ w'.cell? ⟨vb, 0, none⟩ = some (.int .i64 (k : Int))) (fun _ => True) 99 (by kernel_rfl) ?_
    refine AnyL.takeA (i := 0) (v := ?v1) rfl (by kernel_rfl) (by kernel_rfl) (by kernel_rfl) (fun _ _ _ h => h) rfl (Or.inl ⟨by rfl, ?hy1⟩) q2 (Or.inl rfl) ?rest1
    case hy1 => (intro w hSw; (try dsimp only at hSw); go_simp) <;> (with_reducible rfl)
    try simp only [Act.put, List.setIfInBounds_toArray, List.set_cons_zero, List.set_cons_succ]
    refine AnyL.takeA (i := 1) (v := ?v2) rfl (by kernel_rfl) (by kernel_rfl) (by kernel_rfl) (fun _ _ _ h => h) rfl (Or.inl ⟨by rfl, ?hy2⟩) q2 (Or.inl rfl) ?rest2
    case hy2 => (intro w hSw; (try dsimp only at hSw); go_simp) <;> (with_reducible rfl)
    try simp only [Act.put, List.setIfInBounds_toArray, List.set_cons_zero, List.set_cons_succ]
    refine AnyL.takeA (i := 2) (v := ?v3) rfl (by kernel_rfl) (by kernel_rfl) (by kernel_rfl) (fun _ _ _ h => h) rfl (Or.inl ⟨by rfl, ?hy3⟩) q2 (Or.inl rfl) ?rest3
    case hy3 => (intro w hSw; (try dsimp only at hSw); go_simp) <;> (with_reducible rfl)
    try simp only [Act.put, List.setIfInBounds_toArray, List.set_cons_zero, List.set_cons_succ]
    refine AnyL.takeA (i := 3) (v := ?v4) rfl (by kernel_rfl) (by kernel_rfl) (by kernel_rfl) (fun _ _ _ h => h) rfl (Or.inl ⟨by rfl, ?hy4⟩) q2 (Or.inl rfl) ?rest4
    case hy4 => (intro w hSw; (try dsimp only at hSw); go_simp) <;> (with_reducible rfl)
    try simp only [Act.put, List.setIfInBounds_toArray, List.set_cons_zero, List.set_cons_succ]
    refine AnyL.takeA (i := 4) (v := ?v5) rfl (by kernel_rfl) (by kernel_rfl) (by kernel_rfl) (fun _ _ _ h => h) rfl (Or.inl ⟨by rfl, ?hy5⟩) q2 (Or.inl rfl) ?rest5
    case hy5 => (intro w hSw; (try dsimp only at hSw); go_simp) <;> (with_reducible rfl)
    try simp only [Act.put, List.setIfInBounds_toArray, List.set_cons_zero, List.set_cons_succ]
    refine AnyL.takeA (i := 5) (v := ?v6) rfl (by kernel_rfl) (by kernel_rfl) (by kernel_rfl) (fun _ _ _ h => h) rfl (Or.inl ⟨by rfl, ?hy6⟩) q2 (Or.inl rfl) ?rest6
    case hy6 => (intro w hSw; (try dsimp only at hSw); go_simp) <;> (with_reducible rfl)
    try simp only [Act.put, List.setIfInBounds_toArray, List.set_cons_zero, List.set_cons_succ]
    refine AnyL.takeA (i := 6) (v := ?v7) rfl (by kernel_rfl) (by kernel_rfl) (by kernel_rfl) (fun _ _ _ h => h) rfl (Or.inl ⟨by rfl, ?hy7⟩) q2 (Or.inl rfl) ?rest7
    case hy7 => (intro w hSw; (try dsimp only at hSw); go_simp) <;> (with_reducible rfl)
    try simp only [Act.put, List.setIfInBounds_toArray, List.set_cons_zero, List.set_cons_succ]
    refine AnyL.takeA (i := 7) (v := ?v8) rfl (by kernel_rfl) (by kernel_rfl) (by kernel_rfl) (fun _ _ _ h => h) rfl (Or.inl ⟨by rfl, ?hy8⟩) q2 (Or.inl rfl) ?rest8
    case hy8 => (intro w hSw; (try dsimp only at hSw); go_simp) <;> (with_reducible rfl)
    try simp only [Act.put, List.setIfInBounds_toArray, List.set_cons_zero, List.set_cons_succ]
    refine AnyL.takeA (i := 8) (v := ?v9) rfl (by kernel_rfl) (by kernel_rfl) (by kernel_rfl) (fun _ _ _ h => h) rfl (Or.inl ⟨by rfl, ?hy9⟩) q2 (Or.inl rfl) ?rest9
    case hy9 => (intro w hSw; (try dsimp only at hSw); go_simp) <;> (with_reducible rfl)
    try simp only [Act.put, List.setIfInBounds_toArray, List.set_cons_zero, List.set_cons_succ]
    refine AnyL.takeA (i := 9) (v := ?v10) rfl (by kernel_rfl) (by kernel_rfl) (by kernel_rfl) (fun _ _ _ h => h) rfl (Or.inl ⟨by rfl, ?hy10⟩) q2 (Or.inl rfl) ?rest10
    case hy10 => (intro w hSw; (try dsimp only at hSw); go_simp) <;> (with_reducible rfl)
    try simp only [Act.put, List.setIfInBounds_toArray, List.set_cons_zero, List.set_cons_succ]
    refine AnyL.takeA (i := 10) (v := ?v11) rfl (by kernel_rfl) (by kernel_rfl) (by kernel_rfl) (fun _ _ _ h => h) rfl (Or.inl ⟨by rfl, ?hy11⟩) q2 (Or.inl rfl) ?rest11
    case hy11 => (intro w hSw; (try dsimp only at hSw); go_simp) <;> (with_reducible rfl)
    try simp only [Act.put, List.setIfInBounds_toArray, List.set_cons_zero, List.set_cons_succ]
    refine AnyL.takeA (i := 11) (v := ?v12) rfl (by kernel_rfl) (by kernel_rfl) (by kernel_rfl) (fun _ _ _ h => h) rfl (Or.inl ⟨by rfl, ?hy12⟩) q2 (Or.inl rfl) ?rest12
    case hy12 => (intro w hSw; (try dsimp only at hSw); go_simp) <;> (with_reducible rfl)
    try simp only [Act.put, List.setIfInBounds_toArray, List.set_cons_zero, List.set_cons_succ]
    refine AnyL.takeA (i := 12) (v := ?v13) rfl (by kernel_rfl) (by kernel_rfl) (by kernel_rfl) (fun _ _ _ h => h) rfl (Or.inl ⟨by rfl, ?hy13⟩) q2 (Or.inl rfl) ?rest13
    case hy13 => (intro w hSw; (try dsimp only at hSw); go_simp) <;> (with_reducible rfl)
    try simp only [Act.put, List.setIfInBounds_toArray, List.set_cons_zero, List.set_cons_succ]
    refine AnyL.takeA (i := 13) (v := ?v14) rfl (by kernel_rfl) (by kernel_rfl) (by kernel_rfl) (fun _ _ _ h => h) rfl (Or.inl ⟨by rfl, ?hy14⟩) q2 (Or.inl rfl) ?rest14
    case hy14 => (intro w hSw; (try dsimp only at hSw); go_simp) <;> (with_reducible rfl)
    try simp only [Act.put, List.setIfInBounds_toArray, List.set_cons_zero, List.set_cons_succ]
    refine AnyL.one (i := 14) (by kernel_rfl) rfl (fun K hK => ?_)
    go_simp
    have q3 : (w2.setCell ⟨ga, k * 4, none⟩ (.slice none 0 0)).cell? ⟨sb, 1, none⟩ = some (.slice (some ⟨ga, 0, none⟩) accs.length ca) ∧ (w2.setCell ⟨ga, k * 4, none⟩ (.slice none 0 0)).cell? ⟨vb, 0, none⟩ = some (.int .i64 (k : Int)) := ⟨(World.cell?_setCell_far _ _ _ _ hgs).trans x1, (World.cell?_setCell_far _ _ _ _ hgv).trans x0⟩
    refine hK.out _ _ q3 (Or.inl rfl) ?_
    clear hK K
    try simp only [Act.put, List.setIfInBounds_toArray, List.set_cons_zero, List.set_cons_succ]
    refine AnyL.takeA (i := 15) (v := ?v201) rfl (by kernel_rfl) (by kernel_rfl) (by kernel_rfl) (fun _ _ _ h => h) rfl (Or.inl ⟨by rfl, ?hy201⟩) q3 (Or.inl rfl) ?rest201
    case hy201 => (intro w hSw; (try dsimp only at hSw); go_simp) <;> (with_reducible rfl)
    try simp only [Act.put, List.setIfInBounds_toArray, List.set_cons_zero, List.set_cons_succ]
    refine AnyL.takeA (i := 16) (v := ?v202) rfl (by kernel_rfl) (by kernel_rfl) (by kernel_rfl) (fun _ _ _ h => h) rfl (Or.inl ⟨by rfl, ?hy202⟩) q3 (Or.inl rfl) ?rest202
    case hy202 => (intro w hSw; (try dsimp only at hSw); go_simp) <;> (with_reducible rfl)
    try simp only [Act.put, List.setIfInBounds_toArray, List.set_cons_zero, List.set_cons_succ]
    have y1' : (w2.setCell ⟨ga, k * 4, none⟩ (.slice none 0 0)).cell? ⟨ga, k * 4 + 1, none⟩ = some x.2 := (World.cell?_setCell_other _ _ _ _ (by simp)).trans y1
    refine AnyL.one (i := 17) (by kernel_rfl) rfl (fun K hK => ?_)
    go_simp
    have q4 : ((w2.setCell ⟨ga, k * 4, none⟩ (.slice none 0 0)).setCell ⟨ga, k * 4 + 1, none⟩ (.slice none 0 0)).cell? ⟨sb, 1, none⟩ = some (.slice (some ⟨ga, 0, none⟩) accs.length ca) ∧ ((w2.setCell ⟨ga, k * 4, none⟩ (.slice none 0 0)).setCell ⟨ga, k * 4 + 1, none⟩ (.slice none 0 0)).cell? ⟨vb, 0, none⟩ = some (.int .i64 (k : Int)) := ⟨(World.cell?_setCell_far _ _ _ _ hgs).trans q3.1, (World.cell?_setCell_far _ _ _ _ hgv).trans q3.2⟩
    refine hK.out _ _ q4 (Or.inl rfl) ?_
    clear hK K
    try simp only [Act.put, List.setIfInBounds_toArray, List.set_cons_zero, List.set_cons_succ]
    refine AnyL.done (by kernel_rfl) ?_ _
    go_wp2_with fail
    refine HK.out _ _ ?_
    have hY := HX.out.1.setAcc (.slice none 0 0) (.slice none 0 0) HROW.out hn1 hn2 hkl
    have hgd : db ≠ ga := by omega
    have hsz4 : w2.heap.size ≤ ((w2.setCell ⟨ga, k * 4, none⟩ (.slice none 0 0)).setCell ⟨ga, k * 4 + 1, none⟩ (.slice none 0 0)).heap.size := by simp [World.setCell]
    have ed2 : ((w2.setCell ⟨ga, k * 4, none⟩ (.slice none 0 0)).setCell ⟨ga, k * 4 + 1, none⟩ (.slice none 0 0)).heap[db]? = w.heap[db]? := ((Below.heap_setCell _ _ _ _ hgd).trans (Below.heap_setCell _ _ _ _ hgd)).trans ed.out
    refine pass_t4 ((w2.setCell ⟨ga, k * 4, none⟩ (.slice none 0 0)).setCell ⟨ga, k * 4 + 1, none⟩ (.slice none 0 0)).drew N sb st oa ob gv db sf (k : Int) yo false _ _ vV jv rV sv _ _ vs rs _ _ _ _ _ _ _ _ _ _ _ _ _ _ _ _ _ _ _ _ _ _ _ _ _ _ _ _ _ _ _ _ _ _ _ _ _ _ _ _ _ _ _ _ _ _ _ _ _ _ _ _ _ _ _ _ _ _ _ _ _ _ _ _ _ _ _ _ _ _ _ _ _ _ _ _ _ _ _ _ _ _ _ _ _ _ _ _ _ _ _ _ _ _ _ _ _ _ _ _ _ _ _ _ _ _ _ _ _ _ _ _ _ _ _ _ _ _ _ _ _ _ _ _ _ _ _ _ _ _ _ _ _ (hY.1.frame (Nat.le_refl _) (fun _ _ _ => rfl)) (HD.out.of_block ed2) (Nat.lt_of_lt_of_le hdb (Nat.le_trans hsz2 hsz4)) hdb2 hNd hsv.out hrs R ?_ _ rfl
    intro vV' rV' w' h1 h2
    refine hR.out _ vV' rV' w' h1 (((HX.out.2.mono ?_).trans (hY.2.mono ?_)).trans (Chg.trans (w1 := ((w2.setCell ⟨ga, k * 4, none⟩ (.slice none 0 0)).setCell ⟨ga, k * 4 + 1, none⟩ (.slice none 0 0)).drew) ⟨rfl, rfl, rfl, Nat.le_refl _, fun _ _ _ => rfl⟩ (h2.mono ?_)))
    · rintro q (h | h)
      · exact Or.inl h
      · exact Or.inr (Or.inr (Or.inr (Or.inr (Or.inl h))))
    · intro q h
      exact Or.inr (Or.inr (Or.inr (Or.inl h)))
    · rintro q (h | h | h | h)
      · exact Or.inl h
      · exact Or.inr (Or.inl h)
      · exact Or.inr (Or.inr (Or.inl h))
      · exact Or.inr (Or.inr (Or.inr (Or.inr (Or.inr h))))

end Go.Proofs.Qxb6616962a

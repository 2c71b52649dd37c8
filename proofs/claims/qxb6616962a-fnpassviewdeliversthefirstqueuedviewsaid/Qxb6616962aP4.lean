import Derived.Test.Qxb6616962aP5
import Derived.Test.Qxb6616962aOrd
/-! passView (35): from the append on. -/
namespace Go.Proofs.Qxb6616962a
open Go.RowKit
set_option linter.unusedVariables false
set_option linter.unusedSimpArgs false
set_option maxRecDepth 8000

theorem Chg.mono {w w' : World} {ex ex' : Nat → Prop} (h : Chg w w' ex) (hx : ∀ q, ex q → ex' q) : Chg w w' ex' := ⟨h.os, h.tape, h.output, h.size, fun k hk he => h.block k hk (fun e => he (hx k e))⟩

/-- The delivery's block. -/
structure DelAt (w : World) (db : Nat) (p : Int) (yo : Option Addr) (sv : Value) : Prop where
  cell : ∀ (j : Nat) (u : Value), (delC (p, .pointer yo, sv))[j]? = some u → w.cell? ⟨db, j, none⟩ = some u
  fz : ∀ j, w.frozen? ⟨db, j, none⟩ = false

theorem DelAt.of_block {w w' : World} {db : Nat} {p : Int} {yo : Option Addr} {sv : Value} (h : DelAt w db p yo sv) (e : w'.heap[db]? = w.heap[db]?) : DelAt w' db p yo sv :=
  ⟨fun j u hj => by rw [World.cell?_of_block (w := w) e]; exact h.cell j u hj, fun j => by rw [World.frozen?_of_block (w := w) e]; exact h.fz j⟩

theorem St.readied {w w4 : World} {N sb st : Nat} {oa ob : Option Nat} {gv : Nat} {sf : Int} {accV actV vV jv rV rV' : Value} {accs : List (Value × Value)} {act : List Int} {vs : List (Int × Value × Bool)} {rs : List (Int × Value × Value)} {x : Int × Value × Value}
    (h : St w N sb st oa ob gv sf accV actV vV jv rV accs act vs rs) (GB : ∀ q, q < w.heap.size → some q ≠ rV.ownBlock → w4.heap[q]? = w.heap[q]?) (GS : w4.os = w.os ∧ w4.tape = w.tape ∧ w4.output = w.output ∧ w.heap.size ≤ w4.heap.size) (O4 : w4.ownsRow N 104 10 rV' (rs.length + 1) (rs.flatMap delC ++ delC x)) :
    St (w4.setCell ⟨st, 2, none⟩ rV') N sb st oa ob gv sf accV actV vV jv rV' accs act vs (rs ++ [x]) ∧ Chg w (w4.setCell ⟨st, 2, none⟩ rV') (fun q => q = st ∨ rV.ownBlock = some q) := by
  have l := h.lay
  have hz := h.size
  have hno : ∀ q, q < N → some q ≠ rV.ownBlock := fun q hq e => by have := (h.rdy.lt q e.symm).1; omega
  have hb : ∀ q, q < N → w4.heap[q]? = w.heap[q]? := fun q hq => GB q (by omega) (hno q hq)
  have hb2 : ∀ q, q < N → q ≠ st → (w4.setCell ⟨st, 2, none⟩ rV').heap[q]? = w.heap[q]? := fun q hq hn => (Below.heap_setCell _ _ _ _ hn).trans (hb q hq)
  have hs : (w4.setCell ⟨st, 2, none⟩ rV').heap.size = w4.heap.size := by simp [World.setCell]
  refine ⟨⟨l, ?_, ?_, h.accB, h.acc.of_blocks ?_, h.actB, h.act.of_blocks ?_, h.vws.of_block (hb2 _ l.gvN l.n3), ?_⟩, ⟨GS.1, GS.2.1, GS.2.2.1, ?_, ?_⟩⟩
  · rw [hs]; have := GS.2.2.2; omega
  · exact (h.hb.of_blocks (hb _ l.sbN) (hb _ l.stN)).setT2 _
  · intro g hg
    rw [h.accB] at hg
    exact hb2 g (l.oaN g hg) (fun e => l.a2 (by rw [hg, e]))
  · intro g hg
    rw [h.actB] at hg
    exact hb2 g (l.obN g hg) (fun e => l.b2 (by rw [hg, e]))
  · rw [List.flatMap_append]
    simp only [List.length_append, List.length_cons, List.length_nil, List.flatMap_cons, List.flatMap_nil, List.append_nil]
    refine own_of O4 ?_
    intro g hg
    have := (O4.lt g hg).1
    exact Below.heap_setCell _ _ _ _ (by show g ≠ st; have := l.stN; omega)
  · rw [hs]; exact GS.2.2.2
  · intro q hq hn
    rw [Below.heap_setCell _ _ _ _ (by show q ≠ st; exact fun e => hn (Or.inl e))]
    exact GB q hq (fun e => hn (Or.inr e.symm))

set_option maxHeartbeats 4000000 in
theorem pass_t4 (w : World) (N sb st : Nat) (oa ob : Option Nat) (gv db : Nat) (sf p : Int) (yo : Option Addr) (b : Bool) (accV actV vV jv rV sv : Value) (accs : List (Value × Value)) (act : List Int) (vs : List (Int × Value × Bool)) (rs : List (Int × Value × Value)) (u1 u2 u4 u5 u6 u7 u8 u9 u10 u11 u12 u13 u14 u15 u16 u17 u18 u19 u20 u21 u22 u23 u24 u25 u26 u27 u28 u29 u30 u31 u32 u33 u34 u35 u36 u37 u38 u39 u40 u41 u42 u43 u44 u45 u46 u47 u48 u49 u50 u51 u52 u53 u54 u55 u56 u57 u58 u59 u60 u61 u62 u63 u64 u65 u66 u67 u68 u69 u70 u71 u72 u73 u74 u75 u76 u77 u78 u79 u80 u81 u82 u83 u84 u85 u86 u87 u88 u89 u90 u91 u92 u93 u94 u95 u96 u97 u98 u99 u100 u101 u102 u103 u104 u105 u106 u107 u108 u109 u110 u111 u112 u113 u114 u115 u116 u117 u118 u119 u120 u121 u122 u123 u124 u125 u126 u127 u128 u129 u130 u131 u132 u133 u134 : Value)
    (HS : Hid (St w N sb st oa ob gv sf accV actV vV jv rV accs act ((p, .pointer yo, b) :: vs) rs)) (HD : Hid (DelAt w db p yo sv)) (hdb : db < w.heap.size) (hdb2 : Hid (rV.ownBlock ≠ some db)) (hNd : N ≤ db) (hsv : ∃ sa sm sc, sv = .slice sa sm sc) (hrs : rs.length ≤ 131072) (R : Ending → World → Prop) (hR : Hid (∀ vV' rV' w', St w' N sb st oa ob gv sf accV actV vV' jv rV' accs act vs (rs ++ [(p, .pointer yo, sv)]) → Chg w w' (fun q => q = sb ∨ q = st ∨ q = gv ∨ rV.ownBlock = some q) → R (.returned (.tuple #[])) w')) (T : Code) (hT : T = tailN 4 (Try.f35.body.getD .skip)) :
    Code.wp Try.prog T (bodyPost Try.prog Try.f35 R) ⟨#[.pointer (some ⟨sb, 0, none⟩), u1, u2, .pointer (some ⟨db, 0, none⟩), u4, u5, u6, u7, u8, u9, u10, u11, u12, u13, u14, u15, u16, u17, u18, u19, u20, u21, u22, u23, u24, u25, u26, u27, u28, u29, u30, u31, u32, u33, u34, u35, u36, u37, u38, u39, u40, u41, u42, u43, u44, u45, u46, u47, u48, u49, u50, u51, u52, u53, u54, u55, u56, u57, u58, u59, u60, u61, u62, u63, u64, u65, u66, u67, u68, u69, u70, u71, u72, u73, u74, u75, u76, u77, u78, u79, u80, u81, u82, u83, u84, u85, u86, u87, u88, u89, u90, u91, u92, u93, u94, u95, u96, u97, u98, u99, u100, u101, u102, u103, u104, u105, u106, u107, u108, u109, u110, u111, u112, u113, u114, u115, u116, u117, u118, u119, u120, u121, u122, u123, u124, u125, u126, u127, u128, u129, u130, u131, u132, u133, u134], []⟩ w := by
  dsimp only [Try.f35, Option.getD_some, tailN] at hT
  subst hT
  dsimp only
  obtain ⟨sa, sm, sc, rfl⟩ := hsv
  have s0 := HS.out.hb.s0
  have t2 := HS.out.hb.t2
  have tF := HS.out.hb.tF 2
  have d0 : w.cell? ⟨db, 0, none⟩ = some (.int .i64 p) := HD.out.cell 0 _ rfl
  have d1 : w.cell? ⟨db, 1, none⟩ = some (.string ⟨#[]⟩) := HD.out.cell 1 _ rfl
  have d2 : w.cell? ⟨db, 2, none⟩ = some (.int .u64 0) := HD.out.cell 2 _ rfl
  have d3 : w.cell? ⟨db, 3, none⟩ = some (.slice none 0 0) := HD.out.cell 3 _ rfl
  have d4 : w.cell? ⟨db, 4, none⟩ = some (.pointer yo) := HD.out.cell 4 _ rfl
  have d5 : w.cell? ⟨db, 5, none⟩ = some (.pointer none) := HD.out.cell 5 _ rfl
  have d6 : w.cell? ⟨db, 6, none⟩ = some (.pointer none) := HD.out.cell 6 _ rfl
  have d7 : w.cell? ⟨db, 7, none⟩ = some (.pointer none) := HD.out.cell 7 _ rfl
  have d8 : w.cell? ⟨db, 8, none⟩ = some (.slice sa sm sc) := HD.out.cell 8 _ rfl
  have d9 : w.cell? ⟨db, 9, none⟩ = some (.slice none 0 0) := HD.out.cell 9 _ rfl
  obtain ⟨i0, hi, hz0, hz1, hz2⟩ : ∃ i, Try.prog.info? 104 = some i ∧ i.zero = some (.agg #[.int .i64 0, .string ⟨#[]⟩, .int .u64 0, .slice none 0 0, .pointer none, .pointer none, .pointer none, .pointer none, .slice none 0 0, .slice none 0 0]) ∧ i.size = 10 ∧ i.bytes ≤ 400 := by
    have h1 := Try.info104
    have h2 := Try.bytes104
    cases hx : Try.prog.info? 104 with
    | none => rw [hx] at h1; cases h1
    | some i =>
      rw [hx] at h1 h2
      simp at h1 h2
      exact ⟨i, rfl, h1.1, h1.2, h2⟩
  obtain ⟨A, hA⟩ : ∃ A, A = Obj.cells #[.int .i64 p, .string ⟨#[]⟩, .int .u64 0, .slice none 0 0, .pointer yo, .pointer none, .pointer none, .pointer none, .slice sa sm sc, .slice none 0 0] 104 := ⟨_, rfl⟩
  have al : ∀ (ad : Addr) (v : Value), w.cell? ad = some v → (w.alloc A).cell? ad = some v := fun ad v h => (World.cell?_of_block (w := w) (Below.heap_alloc w A _ (World.block_lt_of_cell? _ _ h))).trans h
  have q0 : w.cell? ⟨sb, 0, none⟩ = some (.pointer (some ⟨st, 0, none⟩)) ∧ w.cell? ⟨db, 0, none⟩ = some (.int .i64 p) ∧ w.cell? ⟨db, 1, none⟩ = some (.string ⟨#[]⟩) ∧ w.cell? ⟨db, 2, none⟩ = some (.int .u64 0) ∧ w.cell? ⟨db, 3, none⟩ = some (.slice none 0 0) ∧ w.cell? ⟨db, 4, none⟩ = some (.pointer yo) ∧ w.cell? ⟨db, 5, none⟩ = some (.pointer none) ∧ w.cell? ⟨db, 6, none⟩ = some (.pointer none) ∧ w.cell? ⟨db, 7, none⟩ = some (.pointer none) ∧ w.cell? ⟨db, 8, none⟩ = some (.slice sa sm sc) ∧ w.cell? ⟨db, 9, none⟩ = some (.slice none 0 0) := ⟨s0, d0, d1, d2, d3, d4, d5, d6, d7, d8, d9⟩
  have q0d : w.drew.cell? ⟨sb, 0, none⟩ = some (.pointer (some ⟨st, 0, none⟩)) ∧ w.drew.cell? ⟨db, 0, none⟩ = some (.int .i64 p) ∧ w.drew.cell? ⟨db, 1, none⟩ = some (.string ⟨#[]⟩) ∧ w.drew.cell? ⟨db, 2, none⟩ = some (.int .u64 0) ∧ w.drew.cell? ⟨db, 3, none⟩ = some (.slice none 0 0) ∧ w.drew.cell? ⟨db, 4, none⟩ = some (.pointer yo) ∧ w.drew.cell? ⟨db, 5, none⟩ = some (.pointer none) ∧ w.drew.cell? ⟨db, 6, none⟩ = some (.pointer none) ∧ w.drew.cell? ⟨db, 7, none⟩ = some (.pointer none) ∧ w.drew.cell? ⟨db, 8, none⟩ = some (.slice sa sm sc) ∧ w.drew.cell? ⟨db, 9, none⟩ = some (.slice none 0 0) := q0
  have z0d : w.drew.cell? ⟨st, 2, none⟩ = some rV := t2
  have q1 : (w.alloc A).cell? ⟨sb, 0, none⟩ = some (.pointer (some ⟨st, 0, none⟩)) ∧ (w.alloc A).cell? ⟨db, 0, none⟩ = some (.int .i64 p) ∧ (w.alloc A).cell? ⟨db, 1, none⟩ = some (.string ⟨#[]⟩) ∧ (w.alloc A).cell? ⟨db, 2, none⟩ = some (.int .u64 0) ∧ (w.alloc A).cell? ⟨db, 3, none⟩ = some (.slice none 0 0) ∧ (w.alloc A).cell? ⟨db, 4, none⟩ = some (.pointer yo) ∧ (w.alloc A).cell? ⟨db, 5, none⟩ = some (.pointer none) ∧ (w.alloc A).cell? ⟨db, 6, none⟩ = some (.pointer none) ∧ (w.alloc A).cell? ⟨db, 7, none⟩ = some (.pointer none) ∧ (w.alloc A).cell? ⟨db, 8, none⟩ = some (.slice sa sm sc) ∧ (w.alloc A).cell? ⟨db, 9, none⟩ = some (.slice none 0 0) := ⟨al _ _ s0, al _ _ d0, al _ _ d1, al _ _ d2, al _ _ d3, al _ _ d4, al _ _ d5, al _ _ d6, al _ _ d7, al _ _ d8, al _ _ d9⟩
  have hown2 : Hid ((w.alloc (Obj.cells #[.int .i64 p, .string ⟨#[]⟩, .int .u64 0, .slice none 0 0, .pointer yo, .pointer none, .pointer none, .pointer none, .slice sa sm sc, .slice none 0 0] 104)).drew.ownsRow N 104 10 rV rs.length (rs.flatMap delC)) := by
    refine own_of HS.out.rdy ?_
    intro g hg
    exact Below.heap_alloc w _ g (HS.out.rdy.lt g hg).2
  have hb2 : (rs.length + 1) * i0.bytes ≤ 140737488355328 := Nat.le_trans (Nat.mul_le_mul (Nat.succ_le_succ hrs) hz2) (by decide)
  have HB2 : Hid ((rs.length + 1) * i0.bytes ≤ 140737488355328) := hb2
  clear hb2
  have hN := HS.out.size
  have hsN := HS.out.lay.sbN
  have htN := HS.out.lay.stN
  have hne1 : ¬ st = sb := fun e => HS.out.lay.n1 e.symm
  go_wp2_with fail
  rename (∀ (a : Act) (w1 : World), Code.wp Try.prog (tailN 5 (Try.f35.body.getD .skip)) (bodyPost Try.prog Try.f35 R) a w1 → _) => hK0
  have HK : Hid _ := hK0
  clear hK0
  refine AnyL.start (fun w' => w'.cell? ⟨sb, 0, none⟩ = some (.pointer (some ⟨st, 0, none⟩)) ∧ w'.cell? ⟨db, 0, none⟩ = some (.int .i64 p) ∧ w'.cell? ⟨db, 1, none⟩ = some (.string ⟨#[]⟩) ∧ w'.cell? ⟨db, 2, none⟩ = some (.int .u64 0) ∧ w'.cell? ⟨db, 3, none⟩ = some (.slice none 0 0) ∧ w'.cell? ⟨db, 4, none⟩ = some (.pointer yo) ∧ w'.cell? ⟨db, 5, none⟩ = some (.pointer none) ∧ w'.cell? ⟨db, 6, none⟩ = some (.pointer none) ∧ w'.cell? ⟨db, 7, none⟩ = some (.pointer none) ∧ w'.cell? ⟨db, 8, none⟩ = some (.slice sa sm sc) ∧ w'.cell? ⟨db, 9, none⟩ = some (.slice none 0 0)) (fun w' => w'.cell? ⟨st, 2, none⟩ = some rV) 13 (by kernel_rfl) ?_
  refine AnyL.takeA (i := 0) (v := ?v1) rfl (by kernel_rfl) (by kernel_rfl) (by kernel_rfl) (fun _ _ _ h => h) rfl (Or.inl ⟨by rfl, ?hy1⟩) q0d (Or.inr z0d) ?rest1
  case hy1 => (intro w hSw; (try dsimp only at hSw); go_simp) <;> (with_reducible rfl)
  try simp only [Act.put, List.setIfInBounds_toArray, List.set_cons_zero, List.set_cons_succ]
  refine AnyL.takeA (i := 1) (v := ?v2) rfl (by kernel_rfl) (by kernel_rfl) (by kernel_rfl) (fun _ _ _ h => h) rfl (Or.inl ⟨by rfl, ?hy2⟩) q0d (Or.inr z0d) ?rest2
  case hy2 => (intro w hSw; (try dsimp only at hSw); go_simp) <;> (with_reducible rfl)
  try simp only [Act.put, List.setIfInBounds_toArray, List.set_cons_zero, List.set_cons_succ]
  refine AnyL.takeA (i := 2) (v := ?v3) rfl (by kernel_rfl) (by kernel_rfl) (by kernel_rfl) (fun _ _ _ h => h) rfl (Or.inl ⟨by rfl, ?hy3⟩) q0d (Or.inr z0d) ?rest3
  case hy3 => (intro w hSw; (try dsimp only at hSw); go_simp) <;> (with_reducible rfl)
  try simp only [Act.put, List.setIfInBounds_toArray, List.set_cons_zero, List.set_cons_succ]
  refine AnyL.takeA (i := 3) (v := ?v4) rfl (by kernel_rfl) (by kernel_rfl) (by kernel_rfl) (fun _ _ _ h => h) rfl (Or.inl ⟨by rfl, ?hy4⟩) q0d (Or.inr z0d) ?rest4
  case hy4 => (intro w hSw; (try dsimp only at hSw); go_simp) <;> (with_reducible rfl)
  try simp only [Act.put, List.setIfInBounds_toArray, List.set_cons_zero, List.set_cons_succ]
  refine AnyL.takeA (i := 4) (v := ?v5) rfl (by kernel_rfl) (by kernel_rfl) (by kernel_rfl) (fun _ _ _ h => h) rfl (Or.inl ⟨by rfl, ?hy5⟩) q0d (Or.inr z0d) ?rest5
  case hy5 => (intro w hSw; (try dsimp only at hSw); go_simp) <;> (with_reducible rfl)
  try simp only [Act.put, List.setIfInBounds_toArray, List.set_cons_zero, List.set_cons_succ]
  refine AnyL.takeA (i := 5) (v := ?v6) rfl (by kernel_rfl) (by kernel_rfl) (by kernel_rfl) (fun _ _ _ h => h) rfl (Or.inl ⟨by rfl, ?hy6⟩) q0d (Or.inr z0d) ?rest6
  case hy6 => (intro w hSw; (try dsimp only at hSw); go_simp) <;> (with_reducible rfl)
  try simp only [Act.put, List.setIfInBounds_toArray, List.set_cons_zero, List.set_cons_succ]
  refine AnyL.takeA (i := 6) (v := ?v7) rfl (by kernel_rfl) (by kernel_rfl) (by kernel_rfl) (fun _ _ _ h => h) rfl (Or.inl ⟨by rfl, ?hy7⟩) q0d (Or.inr z0d) ?rest7
  case hy7 => (intro w hSw; (try dsimp only at hSw); go_simp) <;> (with_reducible rfl)
  try simp only [Act.put, List.setIfInBounds_toArray, List.set_cons_zero, List.set_cons_succ]
  refine AnyL.takeA (i := 7) (v := ?v8) rfl (by kernel_rfl) (by kernel_rfl) (by kernel_rfl) (fun _ _ _ h => h) rfl (Or.inl ⟨by rfl, ?hy8⟩) q0d (Or.inr z0d) ?rest8
  case hy8 => (intro w hSw; (try dsimp only at hSw); go_simp) <;> (with_reducible rfl)
  try simp only [Act.put, List.setIfInBounds_toArray, List.set_cons_zero, List.set_cons_succ]
  refine AnyL.takeA (i := 8) (v := ?v9) rfl (by kernel_rfl) (by kernel_rfl) (by kernel_rfl) (fun _ _ _ h => h) rfl (Or.inl ⟨by rfl, ?hy9⟩) q0d (Or.inr z0d) ?rest9
  case hy9 => (intro w hSw; (try dsimp only at hSw); go_simp) <;> (with_reducible rfl)
  try simp only [Act.put, List.setIfInBounds_toArray, List.set_cons_zero, List.set_cons_succ]
  refine AnyL.takeA (i := 9) (v := ?v10) rfl (by kernel_rfl) (by kernel_rfl) (by kernel_rfl) (fun _ _ _ h => h) rfl (Or.inl ⟨by rfl, ?hy10⟩) q0d (Or.inr z0d) ?rest10
  case hy10 => (intro w hSw; (try dsimp only at hSw); go_simp) <;> (with_reducible rfl)
  try simp only [Act.put, List.setIfInBounds_toArray, List.set_cons_zero, List.set_cons_succ]
  refine AnyL.takeB (i := 10) (v := ?v11) rfl (by kernel_rfl) (by kernel_rfl) (by kernel_rfl) (fun _ _ _ h => h) rfl (by kernel_rfl) rfl (Or.inl ⟨by rfl, ?hy11⟩) q0d z0d ?rest11
  case hy11 => (intro w hSw; (try dsimp only at hSw); go_simp) <;> (with_reducible rfl)
  try simp only [Act.put, List.setIfInBounds_toArray, List.set_cons_zero, List.set_cons_succ]
  refine AnyL.takeA (i := 11) (v := ?v12) rfl (by kernel_rfl) (by kernel_rfl) (by kernel_rfl) (fun _ _ _ h => h) rfl (Or.inl ⟨by rfl, ?hy12⟩) q0d (Or.inr z0d) ?rest12
  case hy12 => (intro w hSw; (try dsimp only at hSw); go_simp) <;> (with_reducible rfl)
  try simp only [Act.put, List.setIfInBounds_toArray, List.set_cons_zero, List.set_cons_succ]
  refine AnyL.one (i := 12) (by kernel_rfl) rfl (fun K hK => ?_)
  go_simp
  refine hK.out _ _ (hA ▸ q1) (Or.inr (hA ▸ al _ _ t2)) ?_
  clear hK K
  try simp only [Act.put, List.setIfInBounds_toArray, List.set_cons_zero, List.set_cons_succ]
  refine AnyL.one (i := 13) (by kernel_rfl) rfl (fun K hK => ?_)
  refine step_app rfl (.tmp 115) (.tmp 117) 72 rfl N 104 i0 _ 10 i0.bytes Try.underlying72 hi hz0 hz1 rfl rfl (by decide) rV rs.length (rs.flatMap delC) (by simp [Act.eval, Act.put]) hown2.out ⟨w.heap.size, 0, none⟩ 1 1 [.int .i64 p, .string ⟨#[]⟩, .int .u64 0, .slice none 0 0, .pointer yo, .pointer none, .pointer none, .pointer none, .slice sa sm sc, .slice none 0 0] (by simp [Act.eval, Act.put]) rfl (fun j u hj => by rcases j with _ | _ | _ | _ | _ | _ | _ | _ | _ | _ | j <;> simp at hj <;> subst hj <;> simp [Addr.add]) (by simp [Value.oneCell']) (by unfold maxLen; omega) HB2.out (by simp; omega) ?_
  intro v' w4 own4 grow4
  obtain ⟨gr, cr, rfl⟩ := own_form own4 (by omega)
  have GB : Hid (∀ q, q < w.heap.size → some q ≠ rV.ownBlock → w4.heap[q]? = w.heap[q]?) := (fun q hq hne => (grow4.block q (by simp; omega) hne).trans (Below.heap_alloc w _ q hq))
  have GS : Hid (w4.os = w.os ∧ w4.tape = w.tape ∧ w4.output = w.output ∧ w.heap.size ≤ w4.heap.size) := ⟨grow4.os, grow4.tape, grow4.output, by have := grow4.size; simp at this; omega⟩
  have O4 : Hid (w4.ownsRow N 104 10 (.slice (some ⟨gr, 0, none⟩) (rs.length + 1) cr) (rs.length + 1) (rs.flatMap delC ++ delC (p, .pointer yo, .slice sa sm sc))) := own4
  have hno : Hid (∀ q, q < N → some q ≠ rV.ownBlock) := fun q hq e => by have := (HS.out.rdy.lt q e.symm).1; omega
  have es := GB.out sb (by omega) (hno.out sb hsN)
  have et := GB.out st (by omega) (hno.out st htN)
  have ed := GB.out db hdb (fun e => hdb2.out e.symm)
  have q4 : w4.cell? ⟨sb, 0, none⟩ = some (.pointer (some ⟨st, 0, none⟩)) ∧ w4.cell? ⟨db, 0, none⟩ = some (.int .i64 p) ∧ w4.cell? ⟨db, 1, none⟩ = some (.string ⟨#[]⟩) ∧ w4.cell? ⟨db, 2, none⟩ = some (.int .u64 0) ∧ w4.cell? ⟨db, 3, none⟩ = some (.slice none 0 0) ∧ w4.cell? ⟨db, 4, none⟩ = some (.pointer yo) ∧ w4.cell? ⟨db, 5, none⟩ = some (.pointer none) ∧ w4.cell? ⟨db, 6, none⟩ = some (.pointer none) ∧ w4.cell? ⟨db, 7, none⟩ = some (.pointer none) ∧ w4.cell? ⟨db, 8, none⟩ = some (.slice sa sm sc) ∧ w4.cell? ⟨db, 9, none⟩ = some (.slice none 0 0) := ⟨(World.cell?_of_block (w := w) (a := ⟨sb, 0, none⟩) es).trans s0, (World.cell?_of_block (w := w) (a := ⟨db, 0, none⟩) ed).trans d0, (World.cell?_of_block (w := w) (a := ⟨db, 1, none⟩) ed).trans d1, (World.cell?_of_block (w := w) (a := ⟨db, 2, none⟩) ed).trans d2, (World.cell?_of_block (w := w) (a := ⟨db, 3, none⟩) ed).trans d3, (World.cell?_of_block (w := w) (a := ⟨db, 4, none⟩) ed).trans d4, (World.cell?_of_block (w := w) (a := ⟨db, 5, none⟩) ed).trans d5, (World.cell?_of_block (w := w) (a := ⟨db, 6, none⟩) ed).trans d6, (World.cell?_of_block (w := w) (a := ⟨db, 7, none⟩) ed).trans d7, (World.cell?_of_block (w := w) (a := ⟨db, 8, none⟩) ed).trans d8, (World.cell?_of_block (w := w) (a := ⟨db, 9, none⟩) ed).trans d9⟩
  have z4 : w4.cell? ⟨st, 2, none⟩ = some rV := (World.cell?_of_block (w := w) (a := ⟨st, 2, none⟩) et).trans t2
  have z4F : w4.frozen? ⟨st, 2, none⟩ = false := (World.frozen?_of_block (w := w) (a := ⟨st, 2, none⟩) et).trans tF
  clear own4 grow4 es et ed
  refine hK.out _ _ q4 (Or.inl rfl) ?_
  clear hK K
  try simp only [Act.put, List.setIfInBounds_toArray, List.set_cons_zero, List.set_cons_succ]
  refine AnyL.takeA (i := 14) (v := ?v101) rfl (by kernel_rfl) (by kernel_rfl) (by kernel_rfl) (fun _ _ _ h => h) rfl (Or.inl ⟨by rfl, ?hy101⟩) q4 (Or.inl rfl) ?rest101
  case hy101 => (intro w hSw; (try dsimp only at hSw); go_simp) <;> (with_reducible rfl)
  try simp only [Act.put, List.setIfInBounds_toArray, List.set_cons_zero, List.set_cons_succ]
  refine AnyL.takeA (i := 15) (v := ?v102) rfl (by kernel_rfl) (by kernel_rfl) (by kernel_rfl) (fun _ _ _ h => h) rfl (Or.inl ⟨by rfl, ?hy102⟩) q4 (Or.inl rfl) ?rest102
  case hy102 => (intro w hSw; (try dsimp only at hSw); go_simp) <;> (with_reducible rfl)
  try simp only [Act.put, List.setIfInBounds_toArray, List.set_cons_zero, List.set_cons_succ]
  refine AnyL.one (i := 16) (by kernel_rfl) rfl (fun K hK => ?_)
  go_simp
  have hX := St.readied HS.out GB.out GS.out O4.out
  have hndt : ¬ st = db := by omega
  refine hK.out _ _ ?ss (Or.inl rfl) ?rr
  case ss => exact ⟨(World.cell?_setCell_far _ _ _ _ hne1).trans q4.1, (World.cell?_setCell_far _ _ _ _ hndt).trans q4.2.1, (World.cell?_setCell_far _ _ _ _ hndt).trans q4.2.2.1, (World.cell?_setCell_far _ _ _ _ hndt).trans q4.2.2.2.1, (World.cell?_setCell_far _ _ _ _ hndt).trans q4.2.2.2.2.1, (World.cell?_setCell_far _ _ _ _ hndt).trans q4.2.2.2.2.2.1, (World.cell?_setCell_far _ _ _ _ hndt).trans q4.2.2.2.2.2.2.1, (World.cell?_setCell_far _ _ _ _ hndt).trans q4.2.2.2.2.2.2.2.1, (World.cell?_setCell_far _ _ _ _ hndt).trans q4.2.2.2.2.2.2.2.2.1, (World.cell?_setCell_far _ _ _ _ hndt).trans q4.2.2.2.2.2.2.2.2.2.1, (World.cell?_setCell_far _ _ _ _ hndt).trans q4.2.2.2.2.2.2.2.2.2.2⟩
  clear hK K
  try simp only [Act.put, List.setIfInBounds_toArray, List.set_cons_zero, List.set_cons_succ]
  refine AnyL.done (by kernel_rfl) ?_ _
  refine HK.out _ _ ?_
  exact pass_t5 _ N sb st oa ob gv sf accV actV vV jv _ accs act (p, .pointer yo, b) vs _ _ _ _ _ _ _ _ _ _ _ _ _ _ _ _ _ _ _ _ _ _ _ _ _ _ _ _ _ _ _ _ _ _ _ _ _ _ _ _ _ _ _ _ _ _ _ _ _ _ _ _ _ _ _ _ _ _ _ _ _ _ _ _ _ _ _ _ _ _ _ _ _ _ _ _ _ _ _ _ _ _ _ _ _ _ _ _ _ _ _ _ _ _ _ _ _ _ _ _ _ _ _ _ _ _ _ _ _ _ _ _ _ _ _ _ _ _ _ _ _ _ _ _ _ _ _ _ _ _ _ _ _ _ _ hX.1 R (fun vV' w' h1 h2 => hR.out vV' _ w' h1 ((hX.2.mono (fun q hq => hq.elim (fun e => Or.inr (Or.inl e)) (fun e => Or.inr (Or.inr (Or.inr e))))).trans (h2.mono (fun q hq => hq.elim Or.inl (fun e => Or.inr (Or.inr (Or.inl e))))))) _ rfl

end Go.Proofs.Qxb6616962a

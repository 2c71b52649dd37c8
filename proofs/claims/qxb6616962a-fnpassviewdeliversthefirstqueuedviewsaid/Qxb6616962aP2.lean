import Derived.Test.Qxb6616962aP3
import Derived.Deep.QuietTactic
import Derived.BigQuiet
/-! passView (35): the starts. -/
namespace Go.Proofs.Qxb6616962a
open Go.RowKit
set_option linter.unusedVariables false
set_option linter.unusedSimpArgs false
set_option maxRecDepth 8000

theorem own_low {w : World} {base base' : Nat} {e : TypeId} {sz : Nat} {v : Value} {n : Nat} {xs : List Value} (h : w.ownsRow base e sz v n xs) (hb : base' ≤ base) : w.ownsRow base' e sz v n xs := by
  refine ⟨h.1, ?_⟩
  rcases h.2 with hn | ⟨g, cap, cur, rfl, h1, rest⟩
  · exact .inl hn
  · exact .inr ⟨g, cap, cur, rfl, Nat.le_trans hb h1, rest⟩

/-- A start's cells. -/
def talC (x : Int × Int) : List Value := [.int .i64 x.1, .int .u64 x.2]

/-- The join's struct, its members and their cuts. -/
def JoinAt (w : World) (jv : Value) (mem cuts : List Int) : Prop :=
  ∃ gj am cm ac cc, jv = .pointer (some ⟨gj, 0, none⟩) ∧ w.cell? ⟨gj, 7, none⟩ = some (.slice am mem.length cm) ∧ w.cell? ⟨gj, 10, none⟩ = some (.slice ac cuts.length cc) ∧ InV w (.slice am mem.length cm) (mem.map (Value.int .i64)) ∧ InV w (.slice ac cuts.length cc) (cuts.map (Value.int .u64))

/-- What member m's start is. -/
def startOf (cuts : List Int) (m : Int) : Int × Int := (m, IntKind.u64.wrap (cuts.getD m.toNat 0 + 1))

theorem DelAt.set {w : World} {db : Nat} {p : Int} {yo : Option Addr} {sv : Value} (h : DelAt w db p yo sv) (x : Value) : DelAt (w.setCell ⟨db, 8, none⟩ x) db p yo x := by
  refine ⟨?_, fun j => by rw [World.frozen?_setCell]; exact h.fz j⟩
  intro j u hj
  by_cases h8 : j = 8
  · subst h8
    have : u = x := by simpa [delC] using hj.symm
    subst this
    exact World.cell?_setCell_same _ _ _ (h.cell 8 sv rfl)
  · rw [World.cell?_setCell_other _ _ _ _ (by simp <;> omega)]
    refine h.cell j u ?_
    rcases j with _ | _ | _ | _ | _ | _ | _ | _ | _ | _ | j <;> simp [delC] at hj h8 ⊢ <;> exact hj

/-- What stands in a round: w the world where the loop began. -/
structure SR (w wr : World) (db : Nat) (p : Int) (yo : Option Addr) (sV : Value) (ts : List (Int × Int)) : Prop where
  own : wr.ownsRow w.heap.size 106 2 sV ts.length (ts.flatMap talC)
  del : DelAt wr db p yo sV
  chg : Chg w wr (fun q => q = db)

theorem SR.next {w wr w4 : World} {db : Nat} {p : Int} {yo : Option Addr} {sV sV' : Value} {ts : List (Int × Int)} {t : Int × Int} (h : SR w wr db p yo sV ts) (hdb : db < w.heap.size) (GB : ∀ q, q < wr.heap.size → some q ≠ sV.ownBlock → w4.heap[q]? = wr.heap[q]?) (GS : w4.os = wr.os ∧ w4.tape = wr.tape ∧ w4.output = wr.output ∧ wr.heap.size ≤ w4.heap.size)
    (O4 : w4.ownsRow w.heap.size 106 2 sV' (ts.length + 1) (ts.flatMap talC ++ talC t)) : SR w (w4.setCell ⟨db, 8, none⟩ sV') db p yo sV' (ts ++ [t]) := by
  have hs := h.chg.size
  have hno : ∀ q, q < w.heap.size → some q ≠ sV.ownBlock := fun q hq e => by have := (h.own.lt q e.symm).1; omega
  refine ⟨?_, ?_, ?_⟩
  · rw [List.flatMap_append]
    simp only [List.length_append, List.length_cons, List.length_nil, List.flatMap_cons, List.flatMap_nil, List.append_nil]
    refine own_of O4 ?_
    intro g hg
    have := (O4.lt g hg).1
    exact Below.heap_setCell _ _ _ _ (by show g ≠ db; omega)
  · exact (h.del.of_block (GB db (by omega) (hno db hdb))).set _
  · refine ⟨GS.1.trans h.chg.os, GS.2.1.trans h.chg.tape, GS.2.2.1.trans h.chg.output, ?_, ?_⟩
    · have := GS.2.2.2
      simp [World.setCell]
      omega
    · intro q hq hn
      rw [Below.heap_setCell _ _ _ _ (by show q ≠ db; exact hn), GB q (by omega) (hno q hq)]
      exact h.chg.block q hq hn

/-- The starts that the delivery of this view bears. -/
def StartsOK (w' : World) (N : Nat) (sf p : Int) (b : Bool) (mem cuts : List Int) (sv : Value) : Prop :=
  if b = true ∧ p = sf then w'.ownsRow N 106 2 sv (mem.length + 1) ((mem.map (startOf cuts) ++ [(sf, 1)]).flatMap talC) else sv = .slice none 0 0

set_option maxHeartbeats 4000000 in
theorem pass_t2 (w0 w : World) (N sb st : Nat) (oa ob : Option Nat) (gv vb db : Nat) (sf p : Int) (yo : Option Addr) (b : Bool) (accV actV vV jv rV : Value) (accs : List (Value × Value)) (act : List Int) (vs : List (Int × Value × Bool)) (rs : List (Int × Value × Value)) (mem cuts : List Int) (u1 u4 u5 u6 u7 u8 u9 u10 u11 u12 u13 u14 u15 u16 u17 u18 u19 u20 u21 u22 u23 u24 u25 u26 u27 u28 u29 u30 u31 u32 u33 u34 u35 u36 u37 u38 u39 u40 u41 u42 u43 u44 u45 u46 u47 u48 u49 u50 u51 u52 u53 u54 u55 u56 u57 u58 u59 u60 u61 u62 u63 u64 u65 u66 u67 u68 u69 u70 u71 u72 u73 u74 u75 u76 u77 u78 u79 u80 u81 u82 u83 u84 u85 u86 u87 u88 u89 u90 u91 u92 u93 u94 u95 u96 u97 u98 u99 u100 u101 u102 u103 u104 u105 u106 u107 u108 u109 u110 u111 u112 u113 u114 u115 u116 u117 u118 u119 u120 u121 u122 u123 u124 u125 u126 u127 u128 u129 u130 u131 u132 u133 u134 : Value)
    (HS : Hid (St w N sb st oa ob gv sf accV actV vV jv rV accs act ((p, .pointer yo, b) :: vs) rs)) (v0 : w.cell? ⟨vb, 0, none⟩ = some (.int .i64 p)) (v2 : w.cell? ⟨vb, 2, none⟩ = some (.bool b)) (hNv : N ≤ vb) (hvb2 : Hid (rV.ownBlock ≠ some vb)) (HD : Hid (DelAt w db p yo (.slice none 0 0))) (hdb : db < w.heap.size) (hdb2 : Hid (rV.ownBlock ≠ some db)) (hNd : N ≤ db) (hvd : vb ≠ db) (hrs : rs.length ≤ 131072) (hacl : act.length ≤ 1048576) (hp : b = false → 0 ≤ p ∧ p < (accs.length : Int))
    (hw0 : Hid (Below w0.heap.size w0 w)) (hd0 : w0.heap.size ≤ db) (hsf : -9223372036854775808 ≤ sf ∧ sf ≤ 9223372036854775807) (HJ : Hid (b = true → p = sf → JoinAt w0 jv mem cuts ∧ (∀ m ∈ mem, 0 ≤ m ∧ m < (cuts.length : Int)) ∧ mem.length ≤ 131072 ∧ cuts.length ≤ 131072))
    (R : Ending → World → Prop) (hR : Hid (∀ actV' vV' rV' sv w', St w' N sb st oa ob gv sf accV actV' vV' (if b then .pointer none else jv) rV' (if b then accs else accs.set p.toNat (.slice none 0 0, .slice none 0 0)) (if b then act else wo p act) vs (rs ++ [(p, .pointer yo, sv)]) → Chg w w' (fun q => q = db ∨ q = sb ∨ q = st ∨ q = gv ∨ oa = some q ∨ ob = some q ∨ rV.ownBlock = some q) → StartsOK w' N sf p b mem cuts sv → R (.returned (.tuple #[])) w')) (T : Code) (hT : T = tailN 2 (Try.f35.body.getD .skip)) :
    Code.wp Try.prog T (bodyPost Try.prog Try.f35 R) ⟨#[.pointer (some ⟨sb, 0, none⟩), u1, .pointer (some ⟨vb, 0, none⟩), .pointer (some ⟨db, 0, none⟩), u4, u5, u6, u7, u8, u9, u10, u11, u12, u13, u14, u15, u16, u17, u18, u19, u20, u21, u22, u23, u24, u25, u26, u27, u28, u29, u30, u31, u32, u33, u34, u35, u36, u37, u38, u39, u40, u41, u42, u43, u44, u45, u46, u47, u48, u49, u50, u51, u52, u53, u54, u55, u56, u57, u58, u59, u60, u61, u62, u63, u64, u65, u66, u67, u68, u69, u70, u71, u72, u73, u74, u75, u76, u77, u78, u79, u80, u81, u82, u83, u84, u85, u86, u87, u88, u89, u90, u91, u92, u93, u94, u95, u96, u97, u98, u99, u100, u101, u102, u103, u104, u105, u106, u107, u108, u109, u110, u111, u112, u113, u114, u115, u116, u117, u118, u119, u120, u121, u122, u123, u124, u125, u126, u127, u128, u129, u130, u131, u132, u133, u134], []⟩ w := by
  dsimp only [Try.f35, Option.getD_some, tailN] at hT
  subst hT
  dsimp only
  have s0 := HS.out.hb.s0
  have t0 := HS.out.hb.t0
  have s5 := HS.out.hb.s5
  have hN := HS.out.size
  have hvl := World.block_lt_of_cell? _ _ v0
  have HP : Hid (b = false → 0 ≤ p ∧ p < (accs.length : Int)) := hp
  clear hp
  by_cases hb : b = true ∧ p = sf
  · obtain ⟨hb1, hb2⟩ := hb
    subst hb1
    subst hb2
    obtain ⟨⟨gj, am, cm, ac, cc, rfl, j7, j10, jm, jc⟩, hmem, hml, hcl⟩ := HJ.out rfl rfl
    have HMEM : Hid (∀ m ∈ mem, 0 ≤ m ∧ m < (cuts.length : Int)) := hmem
    have JM : Hid (InV w0 (.slice am mem.length cm) (mem.map (Value.int .i64))) := jm
    have JC : Hid (InV w0 (.slice ac cuts.length cc) (cuts.map (Value.int .u64))) := jc
    clear hmem jm jc
    go_wp2_with fail
    rename (∀ (a : Act) (w1 : World), Code.wp Try.prog (tailN 3 (Try.f35.body.getD .skip)) (bodyPost Try.prog Try.f35 R) a w1 → _) => hK0
    have HK : Hid _ := hK0
    clear hK0
    go_quiet (fail)
    have HS9 : Hid (St (w.drewN nq) N sb st oa ob gv p accV actV vV (.pointer (some ⟨gj, 0, none⟩)) rV accs act ((p, .pointer yo, true) :: vs) rs) := HS.out.frame (Nat.le_refl _) (fun _ _ _ => rfl)
    have HD9 : Hid (DelAt (w.drewN nq) db p yo (.slice none 0 0)) := HD.out.of_block rfl
    have hw9 : Hid (Below w0.heap.size w0 (w.drewN nq)) := ⟨hw0.out.os, hw0.out.tape, hw0.out.output, hw0.out.size, hw0.out.block⟩
    have hC9 : Hid (Chg w (w.drewN nq) (fun _ => False)) := ⟨rfl, rfl, rfl, Nat.le_refl _, fun _ _ _ => rfl⟩
    have v09 : (w.drewN nq).cell? ⟨vb, 0, none⟩ = some (.int .i64 p) := v0
    have v29 : (w.drewN nq).cell? ⟨vb, 2, none⟩ = some (.bool true) := v2
    have s59 : (w.drewN nq).cell? ⟨sb, 5, none⟩ = some (.pointer (some ⟨gj, 0, none⟩)) := s5
    have s09 : (w.drewN nq).cell? ⟨sb, 0, none⟩ = some (.pointer (some ⟨st, 0, none⟩)) := s0
    have t09 : (w.drewN nq).cell? ⟨st, 0, none⟩ = some (.int .i64 p) := t0
    have hs9 : (w.drewN nq).heap.size = w.heap.size := rfl
    obtain ⟨w9, hw9e⟩ : ∃ w9, w9 = w.drewN nq := ⟨_, rfl⟩
    rw [← hw9e] at HS9 HD9 hw9 hC9 v09 v29 s59 s09 t09 hs9
    rw [← hw9e]
    clear hw9e s5 s0 t0 v0 v2
    rw [← hs9] at hdb
    have j79 : w9.cell? ⟨gj, 7, none⟩ = some (.slice am mem.length cm) := (World.cell?_of_block (w := w0) (a := ⟨gj, 7, none⟩) (hw9.out.block gj (World.block_lt_of_cell? _ _ j7))).trans j7
    have j109 : w9.cell? ⟨gj, 10, none⟩ = some (.slice ac cuts.length cc) := (World.cell?_of_block (w := w0) (a := ⟨gj, 10, none⟩) (hw9.out.block gj (World.block_lt_of_cell? _ _ j7))).trans j10
    have hgj := World.block_lt_of_cell? _ _ j7
    have hgjd : gj ≠ db := by simp at hgj; omega
    have hsbN := HS9.out.lay.sbN
    have hstN := HS9.out.lay.stN
    have hN9 := HS9.out.size
    obtain ⟨i0, hi, hz0, hz1, hz2⟩ := info_parts Try.info106
    go_wp2_with fail
    go_loopw [39] (fun i wr => ∃ (k : Nat) (sV : Value), k ≤ mem.length ∧ i = .int .i64 k ∧ SR w9 wr db p yo sV ((mem.take k).map (startOf cuts))) (fun i _ => mem.length - (intOf i).toNat)
    case atStart => exact ⟨0, .slice none 0 0, Nat.zero_le _, rfl, World.ownsRow_nil _ _ _ _, HD9.out, Chg.refl _ _⟩
    case round =>
      obtain ⟨k, sV, hk, rfl, hsr⟩ := hrel
      obtain ⟨ts, hts⟩ : ∃ ts, Hid (ts = (mem.take k).map (startOf cuts)) := ⟨_, rfl⟩
      rw [← hts.out] at hsr
      have HSR : Hid (SR w9 wr db p yo sV ts) := hsr
      have htl : ts.length ≤ 131072 := by rw [hts.out]; simp; omega
      have hwr := hsr.chg.size
      have x8 : wr.cell? ⟨db, 8, none⟩ = some sV := hsr.del.cell 8 _ rfl
      have x8F := hsr.del.fz 8
      have cw : Hid (∀ (ad : Addr) (v : Value), ad.block ≠ db → w9.cell? ad = some v → wr.cell? ad = some v) := fun ad v hn hv => (World.cell?_of_block (w := w9) (hsr.chg.block ad.block (World.block_lt_of_cell? _ _ hv) hn)).trans hv
      have hno : Hid (∀ q, q < w9.heap.size → some q ≠ sV.ownBlock) := fun q hq e => by have := (hsr.own.lt q e.symm).1; omega
      have x5 : wr.cell? ⟨sb, 5, none⟩ = some (.pointer (some ⟨gj, 0, none⟩)) := cw.out _ _ (by show sb ≠ db; omega) s59
      have x10 : wr.cell? ⟨gj, 10, none⟩ = some (.slice ac cuts.length cc) := cw.out _ _ hgjd j109
      have x0 : wr.cell? ⟨sb, 0, none⟩ = some (.pointer (some ⟨st, 0, none⟩)) := cw.out _ _ (by show sb ≠ db; omega) s09
      have xt : wr.cell? ⟨st, 0, none⟩ = some (.int .i64 p) := cw.out _ _ (by show st ≠ db; omega) t09
      clear hsr
      by_cases hlt : k < mem.length
      · obtain ⟨m, hm⟩ : ∃ m, mem[k]? = some m := ⟨_, List.getElem?_eq_getElem hlt⟩
        obtain ⟨hm0, hm1⟩ := HMEM.out m (List.mem_of_getElem? hm)
        obtain ⟨mk, rfl⟩ : ∃ mk : Nat, m = (mk : Int) := ⟨m.toNat, by omega⟩
        obtain ⟨c, hc⟩ : ∃ c, cuts[mk]? = some c := ⟨_, List.getElem?_eq_getElem (by omega)⟩
        have hltI : (k : Int) < (mem.length : Int) := by omega
        obtain ⟨adm, rfl, cm0, -, lcm⟩ := JM.out.at (k := k) (x := .int .i64 (mk : Int)) (by rw [List.getElem?_map, hm]; rfl)
        obtain ⟨adc, rfl, cc0, -, lcc⟩ := JC.out.at (k := mk) (x := .int .u64 c) (by rw [List.getElem?_map, hc]; rfl)
        have bm := World.block_lt_of_cell? _ _ cm0
        have bc := World.block_lt_of_cell? _ _ cc0
        have xm : wr.cell? (adm.add k) = some (.int .i64 (mk : Int)) := cw.out _ _ (by omega) ((World.cell?_of_block (w := w0) (hw9.out.block _ bm)).trans cm0)
        have xc : wr.cell? (adc.add mk) = some (.int .u64 c) := cw.out _ _ (by omega) ((World.cell?_of_block (w := w0) (hw9.out.block _ bc)).trans cc0)
        have bc9 : (adc.add mk).block < w9.heap.size := by have := hw9.out.size; omega
        have bcd : (adc.add mk).block ≠ db := by omega
        have hgj9 : gj < w9.heap.size := Nat.lt_of_lt_of_le hgj hw9.out.size
        have HE : Hid (startOf cuts (mk : Int) = ((mk : Int), IntKind.u64.wrap (c + 1))) := by
          unfold Hid startOf
          rw [Int.toNat_natCast, List.getD_eq_getElem?_getD, hc]
          rfl
        have HM : Hid (mem[k]? = some (mk : Int)) := hm
        clear hm hc cm0 cc0 bm bc
        have al : Hid (∀ (A : Obj) (ad : Addr) (v : Value), wr.cell? ad = some v → (wr.alloc A).cell? ad = some v) := fun A ad v h => (World.cell?_of_block (w := wr) (Below.heap_alloc wr A _ (World.block_lt_of_cell? _ _ h))).trans h
        have hown2 : Hid ((wr.alloc (Obj.cells #[.int .i64 (mk : Int), .int .u64 (IntKind.u64.wrap (c + 1))] 106)).drew.ownsRow w9.heap.size 106 2 sV ts.length (ts.flatMap talC)) := own_of HSR.out.own (fun g hg => Below.heap_alloc wr _ g (HSR.out.own.lt g hg).2)
        have q0 : wr.drew.cell? ⟨sb, 5, none⟩ = some (.pointer (some ⟨gj, 0, none⟩)) ∧ wr.drew.cell? ⟨gj, 10, none⟩ = some (.slice (some adc) cuts.length cc) ∧ wr.drew.cell? (adc.add mk) = some (.int .u64 c) := ⟨x5, x10, xc⟩
        have z0 : wr.drew.cell? ⟨db, 8, none⟩ = some sV := x8
        go_wp2_with fail
        refine AnyL.start (fun w' => w'.cell? ⟨sb, 5, none⟩ = some (.pointer (some ⟨gj, 0, none⟩)) ∧ w'.cell? ⟨gj, 10, none⟩ = some (.slice (some adc) cuts.length cc) ∧ w'.cell? (adc.add mk) = some (.int .u64 c)) (fun w' => w'.cell? ⟨db, 8, none⟩ = some sV) 16 (by kernel_rfl) ?_
        refine AnyL.takeA (i := 0) (v := ?v1) rfl (by kernel_rfl) (by kernel_rfl) (by kernel_rfl) (fun _ _ _ h => h) rfl (Or.inl ⟨by rfl, ?hy1⟩) q0 (Or.inr z0) ?rest1
        case hy1 => (intro w hSw; (try dsimp only at hSw); go_simp) <;> (with_reducible rfl)
        try simp only [Act.put, List.setIfInBounds_toArray, List.set_cons_zero, List.set_cons_succ]
        refine AnyL.takeB (i := 1) (v := ?v2) rfl (by kernel_rfl) (by kernel_rfl) (by kernel_rfl) (fun _ _ _ h => h) rfl (by kernel_rfl) rfl (Or.inl ⟨by rfl, ?hy2⟩) q0 z0 ?rest2
        case hy2 => (intro w hSw; (try dsimp only at hSw); go_simp) <;> (with_reducible rfl)
        try simp only [Act.put, List.setIfInBounds_toArray, List.set_cons_zero, List.set_cons_succ]
        refine AnyL.takeA (i := 2) (v := ?v3) rfl (by kernel_rfl) (by kernel_rfl) (by kernel_rfl) (fun _ _ _ h => h) rfl (Or.inl ⟨by rfl, ?hy3⟩) q0 (Or.inr z0) ?rest3
        case hy3 => (intro w hSw; (try dsimp only at hSw); go_simp) <;> (with_reducible rfl)
        try simp only [Act.put, List.setIfInBounds_toArray, List.set_cons_zero, List.set_cons_succ]
        refine AnyL.takeA (i := 3) (v := ?v4) rfl (by kernel_rfl) (by kernel_rfl) (by kernel_rfl) (fun _ _ _ h => h) rfl (Or.inl ⟨by rfl, ?hy4⟩) q0 (Or.inr z0) ?rest4
        case hy4 => (intro w hSw; (try dsimp only at hSw); go_simp) <;> (with_reducible rfl)
        try simp only [Act.put, List.setIfInBounds_toArray, List.set_cons_zero, List.set_cons_succ]
        refine AnyL.takeA (i := 4) (v := ?v5) rfl (by kernel_rfl) (by kernel_rfl) (by kernel_rfl) (fun _ _ _ h => h) rfl (Or.inl ⟨by rfl, ?hy5⟩) q0 (Or.inr z0) ?rest5
        case hy5 => (intro w hSw; (try dsimp only at hSw); go_simp) <;> (with_reducible rfl)
        try simp only [Act.put, List.setIfInBounds_toArray, List.set_cons_zero, List.set_cons_succ]
        refine AnyL.takeA (i := 5) (v := ?v6) rfl (by kernel_rfl) (by kernel_rfl) (by kernel_rfl) (fun _ _ _ h => h) rfl (Or.inl ⟨by rfl, ?hy6⟩) q0 (Or.inr z0) ?rest6
        case hy6 => (intro w hSw; (try dsimp only at hSw); go_simp) <;> (with_reducible rfl)
        try simp only [Act.put, List.setIfInBounds_toArray, List.set_cons_zero, List.set_cons_succ]
        refine AnyL.takeA (i := 6) (v := ?v7) rfl (by kernel_rfl) (by kernel_rfl) (by kernel_rfl) (fun _ _ _ h => h) rfl (Or.inl ⟨by rfl, ?hy7⟩) q0 (Or.inr z0) ?rest7
        case hy7 => (intro w hSw; (try dsimp only at hSw); go_simp) <;> (with_reducible rfl)
        try simp only [Act.put, List.setIfInBounds_toArray, List.set_cons_zero, List.set_cons_succ]
        refine AnyL.takeA (i := 7) (v := ?v8) rfl (by kernel_rfl) (by kernel_rfl) (by kernel_rfl) (fun _ _ _ h => h) rfl (Or.inl ⟨by rfl, ?hy8⟩) q0 (Or.inr z0) ?rest8
        case hy8 => (intro w hSw; (try dsimp only at hSw); go_simp) <;> (with_reducible rfl)
        try simp only [Act.put, List.setIfInBounds_toArray, List.set_cons_zero, List.set_cons_succ]
        refine AnyL.takeA (i := 8) (v := ?v9) rfl (by kernel_rfl) (by kernel_rfl) (by kernel_rfl) (fun _ _ _ h => h) rfl (Or.inl ⟨by rfl, ?hy9⟩) q0 (Or.inr z0) ?rest9
        case hy9 => (intro w hSw; (try dsimp only at hSw); go_simp) <;> (with_reducible rfl)
        try simp only [Act.put, List.setIfInBounds_toArray, List.set_cons_zero, List.set_cons_succ]
        refine AnyL.takeA (i := 9) (v := ?v10) rfl (by kernel_rfl) (by kernel_rfl) (by kernel_rfl) (fun _ _ _ h => h) rfl (Or.inl ⟨by rfl, ?hy10⟩) q0 (Or.inr z0) ?rest10
        case hy10 => (intro w hSw; (try dsimp only at hSw); go_simp) <;> (with_reducible rfl)
        try simp only [Act.put, List.setIfInBounds_toArray, List.set_cons_zero, List.set_cons_succ]
        refine AnyL.takeA (i := 10) (v := ?v11) rfl (by kernel_rfl) (by kernel_rfl) (by kernel_rfl) (fun _ _ _ h => h) rfl (Or.inl ⟨by rfl, ?hy11⟩) q0 (Or.inr z0) ?rest11
        case hy11 => (intro w hSw; (try dsimp only at hSw); go_simp) <;> (with_reducible rfl)
        try simp only [Act.put, List.setIfInBounds_toArray, List.set_cons_zero, List.set_cons_succ]
        refine AnyL.takeA (i := 11) (v := ?v12) rfl (by kernel_rfl) (by kernel_rfl) (by kernel_rfl) (fun _ _ _ h => h) rfl (Or.inl ⟨by rfl, ?hy12⟩) q0 (Or.inr z0) ?rest12
        case hy12 => (intro w hSw; (try dsimp only at hSw); go_simp) <;> (with_reducible rfl)
        try simp only [Act.put, List.setIfInBounds_toArray, List.set_cons_zero, List.set_cons_succ]
        refine AnyL.takeA (i := 12) (v := ?v13) rfl (by kernel_rfl) (by kernel_rfl) (by kernel_rfl) (fun _ _ _ h => h) rfl (Or.inl ⟨by rfl, ?hy13⟩) q0 (Or.inr z0) ?rest13
        case hy13 => (intro w hSw; (try dsimp only at hSw); go_simp) <;> (with_reducible rfl)
        try simp only [Act.put, List.setIfInBounds_toArray, List.set_cons_zero, List.set_cons_succ]
        refine AnyL.takeA (i := 13) (v := ?v14) rfl (by kernel_rfl) (by kernel_rfl) (by kernel_rfl) (fun _ _ _ h => h) rfl (Or.inl ⟨by rfl, ?hy14⟩) q0 (Or.inr z0) ?rest14
        case hy14 => (intro w hSw; (try dsimp only at hSw); go_simp) <;> (with_reducible rfl)
        try simp only [Act.put, List.setIfInBounds_toArray, List.set_cons_zero, List.set_cons_succ]
        refine AnyL.takeA (i := 14) (v := ?v15) rfl (by kernel_rfl) (by kernel_rfl) (by kernel_rfl) (fun _ _ _ h => h) rfl (Or.inl ⟨by rfl, ?hy15⟩) q0 (Or.inr z0) ?rest15
        case hy15 => (intro w hSw; (try dsimp only at hSw); go_simp) <;> (with_reducible rfl)
        try simp only [Act.put, List.setIfInBounds_toArray, List.set_cons_zero, List.set_cons_succ]
        refine AnyL.one (i := 15) (by kernel_rfl) rfl (fun K hK => ?_)
        go_simp
        refine hK.out _ _ ⟨al.out _ _ _ x5, al.out _ _ _ x10, al.out _ _ _ xc⟩ (Or.inr (al.out _ _ _ x8)) ?_
        clear hK K
        try simp only [Act.put, List.setIfInBounds_toArray, List.set_cons_zero, List.set_cons_succ]
        refine AnyL.one (i := 16) (by kernel_rfl) rfl (fun K hK => ?_)
        refine step_app rfl (.tmp 44) (.tmp 58) 101 rfl w9.heap.size 106 i0 _ 2 16 Try.underlying101 hi hz0 hz1 hz2 rfl (by decide) sV ts.length (ts.flatMap talC) (by simp [Act.eval, Act.put]) hown2.out ⟨wr.heap.size, 0, none⟩ 1 1 [.int .i64 (mk : Int), .int .u64 (IntKind.u64.wrap (c + 1))] (by simp [Act.eval, Act.put]) rfl (fun j u hj => by rcases j with _ | _ | j <;> simp at hj <;> subst hj <;> simp [Addr.add]) (by simp [Value.oneCell']) (by unfold maxLen; omega) (by omega) (by simp; omega) ?_
        intro v' w4 own4 grow4
        obtain ⟨gs, cs, rfl⟩ := own_form own4 (by omega)
        have GB : Hid (∀ q, q < wr.heap.size → some q ≠ sV.ownBlock → w4.heap[q]? = wr.heap[q]?) := (fun q hq hne => (grow4.block q (by simp; omega) hne).trans (Below.heap_alloc wr _ q hq))
        have GS : Hid (w4.os = wr.os ∧ w4.tape = wr.tape ∧ w4.output = wr.output ∧ wr.heap.size ≤ w4.heap.size) := ⟨grow4.os, grow4.tape, grow4.output, by have := grow4.size; simp at this; omega⟩
        have O4 : Hid (w4.ownsRow w9.heap.size 106 2 (.slice (some ⟨gs, 0, none⟩) (ts.length + 1) cs) (ts.length + 1) (ts.flatMap talC ++ [.int .i64 (mk : Int), .int .u64 (IntKind.u64.wrap (c + 1))])) := own4
        clear own4 grow4
        have cp : Hid (∀ (ad : Addr) (v : Value), ad.block < w9.heap.size → wr.cell? ad = some v → w4.cell? ad = some v) := fun ad v hl hv => (World.cell?_of_block (w := wr) (GB.out ad.block (by omega) (hno.out _ hl))).trans hv
        have x84 : w4.cell? ⟨db, 8, none⟩ = some sV := cp.out ⟨db, 8, none⟩ _ hdb x8
        have x84F : w4.frozen? ⟨db, 8, none⟩ = false := (World.frozen?_of_block (w := wr) (a := ⟨db, 8, none⟩) (GB.out db (by omega) (hno.out db hdb))).trans x8F
        have q4 : w4.cell? ⟨sb, 5, none⟩ = some (.pointer (some ⟨gj, 0, none⟩)) ∧ w4.cell? ⟨gj, 10, none⟩ = some (.slice (some adc) cuts.length cc) ∧ w4.cell? (adc.add mk) = some (.int .u64 c) := ⟨cp.out _ _ (by show sb < w9.heap.size; omega) x5, cp.out _ _ hgj9 x10, cp.out _ _ bc9 xc⟩
        refine hK.out _ _ q4 (Or.inl rfl) ?_
        clear hK K
        try simp only [Act.put, List.setIfInBounds_toArray, List.set_cons_zero, List.set_cons_succ]
        refine AnyL.takeA (i := 17) (v := ?v16) rfl (by kernel_rfl) (by kernel_rfl) (by kernel_rfl) (fun _ _ _ h => h) rfl (Or.inl ⟨by rfl, ?hy16⟩) q4 (Or.inl rfl) ?rest16
        case hy16 => (intro w hSw; (try dsimp only at hSw); go_simp) <;> (with_reducible rfl)
        try simp only [Act.put, List.setIfInBounds_toArray, List.set_cons_zero, List.set_cons_succ]
        refine AnyL.one (i := 18) (by kernel_rfl) rfl (fun K hK => ?_)
        go_simp
        have q5 : (w4.setCell ⟨db, 8, none⟩ (.slice (some ⟨gs, 0, none⟩) (ts.length + 1) cs)).cell? ⟨sb, 5, none⟩ = some (.pointer (some ⟨gj, 0, none⟩)) ∧ (w4.setCell ⟨db, 8, none⟩ (.slice (some ⟨gs, 0, none⟩) (ts.length + 1) cs)).cell? ⟨gj, 10, none⟩ = some (.slice (some adc) cuts.length cc) ∧ (w4.setCell ⟨db, 8, none⟩ (.slice (some ⟨gs, 0, none⟩) (ts.length + 1) cs)).cell? (adc.add mk) = some (.int .u64 c) := ⟨(World.cell?_setCell_far _ _ _ _ (by show db ≠ sb; omega)).trans q4.1, (World.cell?_setCell_far _ _ _ _ (Ne.symm hgjd)).trans q4.2.1, (World.cell?_setCell_far _ _ _ _ (Ne.symm bcd)).trans q4.2.2⟩
        refine hK.out _ _ q5 (Or.inl rfl) ?_
        clear hK K
        try simp only [Act.put, List.setIfInBounds_toArray, List.set_cons_zero, List.set_cons_succ]
        refine AnyL.done (by kernel_rfl) ?_ _
        go_wp2
        go_roundw
        case rel =>
          refine ⟨k + 1, .slice (some ⟨gs, 0, none⟩) (ts.length + 1) cs, by omega, by go_num, ?_⟩
          have hn := SR.next (t := startOf cuts (mk : Int)) HSR.out hdb GB.out GS.out (by rw [HE.out]; exact O4.out)
          rw [hts.out] at hn ⊢
          rw [List.take_add_one, HM.out]
          simp only [Option.toList_some, List.map_append, List.map_cons, List.map_nil]
          exact ⟨hn.own, hn.del, hn.chg⟩
        case measure => simp [intOf]; omega
      · obtain rfl : k = mem.length := by omega
        have hltI : ¬ (mem.length : Int) < (mem.length : Int) := by omega
        have al : Hid (∀ (A : Obj) (ad : Addr) (v : Value), wr.cell? ad = some v → (wr.alloc A).cell? ad = some v) := fun A ad v h => (World.cell?_of_block (w := wr) (Below.heap_alloc wr A _ (World.block_lt_of_cell? _ _ h))).trans h
        have hown2 : Hid ((wr.alloc (Obj.cells #[.int .i64 p, .int .u64 1] 106)).drew.ownsRow w9.heap.size 106 2 sV ts.length (ts.flatMap talC)) := own_of HSR.out.own (fun g hg => Below.heap_alloc wr _ g (HSR.out.own.lt g hg).2)
        have q0 : wr.drew.cell? ⟨sb, 0, none⟩ = some (.pointer (some ⟨st, 0, none⟩)) ∧ wr.drew.cell? ⟨st, 0, none⟩ = some (.int .i64 p) := ⟨x0, xt⟩
        have z0 : wr.drew.cell? ⟨db, 8, none⟩ = some sV := x8
        go_wp2_with fail
        refine AnyL.start (fun w' => w'.cell? ⟨sb, 0, none⟩ = some (.pointer (some ⟨st, 0, none⟩)) ∧ w'.cell? ⟨st, 0, none⟩ = some (.int .i64 p)) (fun w' => w'.cell? ⟨db, 8, none⟩ = some sV) 11 (by kernel_rfl) ?_
        refine AnyL.takeA (i := 0) (v := ?v17) rfl (by kernel_rfl) (by kernel_rfl) (by kernel_rfl) (fun _ _ _ h => h) rfl (Or.inl ⟨by rfl, ?hy17⟩) q0 (Or.inr z0) ?rest17
        case hy17 => (intro w hSw; (try dsimp only at hSw); go_simp) <;> (with_reducible rfl)
        try simp only [Act.put, List.setIfInBounds_toArray, List.set_cons_zero, List.set_cons_succ]
        refine AnyL.takeB (i := 1) (v := ?v18) rfl (by kernel_rfl) (by kernel_rfl) (by kernel_rfl) (fun _ _ _ h => h) rfl (by kernel_rfl) rfl (Or.inl ⟨by rfl, ?hy18⟩) q0 z0 ?rest18
        case hy18 => (intro w hSw; (try dsimp only at hSw); go_simp) <;> (with_reducible rfl)
        try simp only [Act.put, List.setIfInBounds_toArray, List.set_cons_zero, List.set_cons_succ]
        refine AnyL.takeA (i := 2) (v := ?v19) rfl (by kernel_rfl) (by kernel_rfl) (by kernel_rfl) (fun _ _ _ h => h) rfl (Or.inl ⟨by rfl, ?hy19⟩) q0 (Or.inr z0) ?rest19
        case hy19 => (intro w hSw; (try dsimp only at hSw); go_simp) <;> (with_reducible rfl)
        try simp only [Act.put, List.setIfInBounds_toArray, List.set_cons_zero, List.set_cons_succ]
        refine AnyL.takeA (i := 3) (v := ?v20) rfl (by kernel_rfl) (by kernel_rfl) (by kernel_rfl) (fun _ _ _ h => h) rfl (Or.inl ⟨by rfl, ?hy20⟩) q0 (Or.inr z0) ?rest20
        case hy20 => (intro w hSw; (try dsimp only at hSw); go_simp) <;> (with_reducible rfl)
        try simp only [Act.put, List.setIfInBounds_toArray, List.set_cons_zero, List.set_cons_succ]
        refine AnyL.takeA (i := 4) (v := ?v21) rfl (by kernel_rfl) (by kernel_rfl) (by kernel_rfl) (fun _ _ _ h => h) rfl (Or.inl ⟨by rfl, ?hy21⟩) q0 (Or.inr z0) ?rest21
        case hy21 => (intro w hSw; (try dsimp only at hSw); go_simp) <;> (with_reducible rfl)
        try simp only [Act.put, List.setIfInBounds_toArray, List.set_cons_zero, List.set_cons_succ]
        refine AnyL.takeA (i := 5) (v := ?v22) rfl (by kernel_rfl) (by kernel_rfl) (by kernel_rfl) (fun _ _ _ h => h) rfl (Or.inl ⟨by rfl, ?hy22⟩) q0 (Or.inr z0) ?rest22
        case hy22 => (intro w hSw; (try dsimp only at hSw); go_simp) <;> (with_reducible rfl)
        try simp only [Act.put, List.setIfInBounds_toArray, List.set_cons_zero, List.set_cons_succ]
        refine AnyL.takeA (i := 6) (v := ?v23) rfl (by kernel_rfl) (by kernel_rfl) (by kernel_rfl) (fun _ _ _ h => h) rfl (Or.inl ⟨by rfl, ?hy23⟩) q0 (Or.inr z0) ?rest23
        case hy23 => (intro w hSw; (try dsimp only at hSw); go_simp) <;> (with_reducible rfl)
        try simp only [Act.put, List.setIfInBounds_toArray, List.set_cons_zero, List.set_cons_succ]
        refine AnyL.takeA (i := 7) (v := ?v24) rfl (by kernel_rfl) (by kernel_rfl) (by kernel_rfl) (fun _ _ _ h => h) rfl (Or.inl ⟨by rfl, ?hy24⟩) q0 (Or.inr z0) ?rest24
        case hy24 => (intro w hSw; (try dsimp only at hSw); go_simp) <;> (with_reducible rfl)
        try simp only [Act.put, List.setIfInBounds_toArray, List.set_cons_zero, List.set_cons_succ]
        refine AnyL.takeA (i := 8) (v := ?v25) rfl (by kernel_rfl) (by kernel_rfl) (by kernel_rfl) (fun _ _ _ h => h) rfl (Or.inl ⟨by rfl, ?hy25⟩) q0 (Or.inr z0) ?rest25
        case hy25 => (intro w hSw; (try dsimp only at hSw); go_simp) <;> (with_reducible rfl)
        try simp only [Act.put, List.setIfInBounds_toArray, List.set_cons_zero, List.set_cons_succ]
        refine AnyL.takeA (i := 9) (v := ?v26) rfl (by kernel_rfl) (by kernel_rfl) (by kernel_rfl) (fun _ _ _ h => h) rfl (Or.inl ⟨by rfl, ?hy26⟩) q0 (Or.inr z0) ?rest26
        case hy26 => (intro w hSw; (try dsimp only at hSw); go_simp) <;> (with_reducible rfl)
        try simp only [Act.put, List.setIfInBounds_toArray, List.set_cons_zero, List.set_cons_succ]
        refine AnyL.one (i := 10) (by kernel_rfl) rfl (fun K hK => ?_)
        go_simp
        refine hK.out _ _ ⟨al.out _ _ _ x0, al.out _ _ _ xt⟩ (Or.inr (al.out _ _ _ x8)) ?_
        clear hK K
        try simp only [Act.put, List.setIfInBounds_toArray, List.set_cons_zero, List.set_cons_succ]
        refine AnyL.one (i := 11) (by kernel_rfl) rfl (fun K hK => ?_)
        refine step_app rfl (.tmp 63) (.tmp 72) 101 rfl w9.heap.size 106 i0 _ 2 16 Try.underlying101 hi hz0 hz1 hz2 rfl (by decide) sV ts.length (ts.flatMap talC) (by simp [Act.eval, Act.put]) hown2.out ⟨wr.heap.size, 0, none⟩ 1 1 [.int .i64 p, .int .u64 1] (by simp [Act.eval, Act.put]) rfl (fun j u hj => by rcases j with _ | _ | j <;> simp at hj <;> subst hj <;> simp [Addr.add]) (by simp [Value.oneCell']) (by unfold maxLen; omega) (by omega) (by simp; omega) ?_
        intro v' w4 own4 grow4
        obtain ⟨gs, cs, rfl⟩ := own_form own4 (by omega)
        have GB : Hid (∀ q, q < wr.heap.size → some q ≠ sV.ownBlock → w4.heap[q]? = wr.heap[q]?) := (fun q hq hne => (grow4.block q (by simp; omega) hne).trans (Below.heap_alloc wr _ q hq))
        have GS : Hid (w4.os = wr.os ∧ w4.tape = wr.tape ∧ w4.output = wr.output ∧ wr.heap.size ≤ w4.heap.size) := ⟨grow4.os, grow4.tape, grow4.output, by have := grow4.size; simp at this; omega⟩
        have O4 : Hid (w4.ownsRow w9.heap.size 106 2 (.slice (some ⟨gs, 0, none⟩) (ts.length + 1) cs) (ts.length + 1) (ts.flatMap talC ++ [.int .i64 p, .int .u64 1])) := own4
        clear own4 grow4
        have cp : Hid (∀ (ad : Addr) (v : Value), ad.block < w9.heap.size → wr.cell? ad = some v → w4.cell? ad = some v) := fun ad v hl hv => (World.cell?_of_block (w := wr) (GB.out ad.block (by omega) (hno.out _ hl))).trans hv
        have x84 : w4.cell? ⟨db, 8, none⟩ = some sV := cp.out ⟨db, 8, none⟩ _ hdb x8
        have x84F : w4.frozen? ⟨db, 8, none⟩ = false := (World.frozen?_of_block (w := wr) (a := ⟨db, 8, none⟩) (GB.out db (by omega) (hno.out db hdb))).trans x8F
        have q4 : w4.cell? ⟨sb, 0, none⟩ = some (.pointer (some ⟨st, 0, none⟩)) ∧ w4.cell? ⟨st, 0, none⟩ = some (.int .i64 p) := ⟨cp.out _ _ (by show sb < w9.heap.size; omega) x0, cp.out _ _ (by show st < w9.heap.size; omega) xt⟩
        refine hK.out _ _ q4 (Or.inl rfl) ?_
        clear hK K
        try simp only [Act.put, List.setIfInBounds_toArray, List.set_cons_zero, List.set_cons_succ]
        refine AnyL.takeA (i := 12) (v := ?v27) rfl (by kernel_rfl) (by kernel_rfl) (by kernel_rfl) (fun _ _ _ h => h) rfl (Or.inl ⟨by rfl, ?hy27⟩) q4 (Or.inl rfl) ?rest27
        case hy27 => (intro w hSw; (try dsimp only at hSw); go_simp) <;> (with_reducible rfl)
        try simp only [Act.put, List.setIfInBounds_toArray, List.set_cons_zero, List.set_cons_succ]
        refine AnyL.one (i := 13) (by kernel_rfl) rfl (fun K hK => ?_)
        go_simp
        have q5 : (w4.setCell ⟨db, 8, none⟩ (.slice (some ⟨gs, 0, none⟩) (ts.length + 1) cs)).cell? ⟨sb, 0, none⟩ = some (.pointer (some ⟨st, 0, none⟩)) ∧ (w4.setCell ⟨db, 8, none⟩ (.slice (some ⟨gs, 0, none⟩) (ts.length + 1) cs)).cell? ⟨st, 0, none⟩ = some (.int .i64 p) := ⟨(World.cell?_setCell_far _ _ _ _ (by show db ≠ sb; omega)).trans q4.1, (World.cell?_setCell_far _ _ _ _ (by show db ≠ st; omega)).trans q4.2⟩
        refine hK.out _ _ q5 (Or.inl rfl) ?_
        clear hK K
        try simp only [Act.put, List.setIfInBounds_toArray, List.set_cons_zero, List.set_cons_succ]
        refine AnyL.done (by kernel_rfl) ?_ _
        go_wp2_with fail
        refine HK.out _ _ ?_
        have hn := SR.next (t := (p, 1)) HSR.out hdb GB.out GS.out O4.out
        have hrl : ∀ q, rV.ownBlock = some q → q < w9.heap.size ∧ q ≠ db := fun q hq => ⟨(HS9.out.rdy.lt q hq).2, fun e => hdb2.out (by rw [hq, e])⟩
        have hcb : ∀ q, q < w9.heap.size → q ≠ db → (w4.setCell ⟨db, 8, none⟩ (.slice (some ⟨gs, 0, none⟩) (ts.length + 1) cs)).heap[q]? = w9.heap[q]? := fun q h1 h2 => hn.chg.block q h1 h2
        have hvl9 : vb < w9.heap.size := World.block_lt_of_cell? _ _ v09
        refine pass_t3 (w4.setCell ⟨db, 8, none⟩ (.slice (some ⟨gs, 0, none⟩) (ts.length + 1) cs)) N sb st oa ob gv vb db p p yo true accV actV vV _ rV (.slice (some ⟨gs, 0, none⟩) (ts.length + 1) cs) accs act vs rs _ _ _ _ _ _ _ _ _ _ _ _ _ _ _ _ _ _ _ _ _ _ _ _ _ _ _ _ _ _ _ _ _ _ _ _ _ _ _ _ _ _ _ _ _ _ _ _ _ _ _ _ _ _ _ _ _ _ _ _ _ _ _ _ _ _ _ _ _ _ _ _ _ _ _ _ _ _ _ _ _ _ _ _ _ _ _ _ _ _ _ _ _ _ _ _ _ _ _ _ _ _ _ _ _ _ _ _ _ _ _ _ _ _ _ _ _ _ _ _ _ _ _ _ _ _ _ _ _ _ _ _ (HS9.out.frame hn.chg.size ?_) ((World.cell?_of_block (w := w9) (a := ⟨vb, 0, none⟩) (hcb vb hvl9 hvd)).trans v09) ((World.cell?_of_block (w := w9) (a := ⟨vb, 2, none⟩) (hcb vb hvl9 hvd)).trans v29) hNv hvb2 (hn.del.of_block rfl) (Nat.lt_of_lt_of_le hdb hn.chg.size) hdb2 hNd ⟨_, _, _, rfl⟩ hrs hacl (fun e => by cases e) R ?_ _ rfl
        · intro q hq _
          rcases hq with hq | hq
          · exact hcb q (by omega) (by omega)
          · exact hcb q (hrl q hq).1 (hrl q hq).2
        · intro actV' vV' rV' w' h1 h2
          refine hR.out actV' vV' rV' _ w' h1 (((hC9.out.mono (fun _ h => h.elim)).trans (hn.chg.mono (fun q h => Or.inl h))).trans (h2.mono (fun q h => Or.inr h))) ?_
          unfold StartsOK
          rw [if_pos ⟨rfl, rfl⟩]
          have ho := hn.own
          have hte : ts ++ [(p, 1)] = mem.map (startOf cuts) ++ [(p, 1)] := by rw [hts.out, List.take_of_length_le (Nat.le_refl _)]
          have htl2 : ts.length = mem.length := by rw [hts.out, List.take_of_length_le (Nat.le_refl _), List.length_map]
          rw [hte] at ho
          have hg9 := (hn.own.lt gs rfl).1
          have hol := HS9.out.lay
          have hgl : gs < (w4.setCell ⟨db, 8, none⟩ (.slice (some ⟨gs, 0, none⟩) (ts.length + 1) cs)).heap.size := (hn.own.lt gs rfl).2
          have hlen : (mem.map (startOf cuts) ++ [(p, (1 : Int))]).length = mem.length + 1 := by simp
          rw [hlen] at ho
          refine own_low (own_of (w' := w') ho ?_) (by omega)
          intro g hg
          have : g = gs := by simpa [Value.ownBlock] using hg.symm
          subst this
          refine h2.block g hgl ?_
          rintro (h | h | h | h | h | h)
          · omega
          · omega
          · have := hol.gvN; omega
          · have := hol.oaN g h; omega
          · have := hol.obN g h; omega
          · have := (hrl g h).1; omega
  · have HB0 : Hid (¬ (b = true ∧ p = sf)) := hb
    clear hb
    cases b with
    | false =>
      have HPP : Hid (0 ≤ p ∧ p < (accs.length : Int)) := HP.out rfl
      clear HP HB0
      go_wp2_with fail
      rename (∀ (a : Act) (w1 : World), Code.wp Try.prog (tailN 3 (Try.f35.body.getD .skip)) (bodyPost Try.prog Try.f35 R) a w1 → _) => hK0
      have HK : Hid _ := hK0
      clear hK0
      go_quiet (fail)
      go_wp2_with fail
      refine HK.out _ _ ?_
      exact pass_t3 (w.drewN nq) N sb st oa ob gv vb db sf p yo false accV actV vV jv rV (.slice none 0 0) accs act vs rs _ _ _ _ _ _ _ _ _ _ _ _ _ _ _ _ _ _ _ _ _ _ _ _ _ _ _ _ _ _ _ _ _ _ _ _ _ _ _ _ _ _ _ _ _ _ _ _ _ _ _ _ _ _ _ _ _ _ _ _ _ _ _ _ _ _ _ _ _ _ _ _ _ _ _ _ _ _ _ _ _ _ _ _ _ _ _ _ _ _ _ _ _ _ _ _ _ _ _ _ _ _ _ _ _ _ _ _ _ _ _ _ _ _ _ _ _ _ _ _ _ _ _ _ _ _ _ _ _ _ _ _ (HS.out.frame (Nat.le_refl _) (fun _ _ _ => rfl)) v0 v2 hNv hvb2 (HD.out.of_block rfl) hdb hdb2 hNd ⟨none, 0, 0, rfl⟩ hrs hacl (fun _ => HPP.out) R (fun actV' vV' rV' w' h1 h2 => hR.out actV' vV' rV' (.slice none 0 0) w' h1 (Chg.trans (w1 := w.drewN nq) ⟨rfl, rfl, rfl, Nat.le_refl _, fun _ _ _ => rfl⟩ (h2.mono (fun q hq => Or.inr hq))) (by unfold StartsOK; simp)) _ rfl
    | true =>
      have hps : ¬ p = sf := fun e => HB0.out ⟨rfl, e⟩
      clear HP HB0
      go_wp2_with fail
      rename (∀ (a : Act) (w1 : World), Code.wp Try.prog (tailN 3 (Try.f35.body.getD .skip)) (bodyPost Try.prog Try.f35 R) a w1 → _) => hK0
      have HK : Hid _ := hK0
      clear hK0
      go_quiet (fail)
      go_wp2_with fail
      refine HK.out _ _ ?_
      exact pass_t3 (w.drewN nq) N sb st oa ob gv vb db sf p yo true accV actV vV jv rV (.slice none 0 0) accs act vs rs _ _ _ _ _ _ _ _ _ _ _ _ _ _ _ _ _ _ _ _ _ _ _ _ _ _ _ _ _ _ _ _ _ _ _ _ _ _ _ _ _ _ _ _ _ _ _ _ _ _ _ _ _ _ _ _ _ _ _ _ _ _ _ _ _ _ _ _ _ _ _ _ _ _ _ _ _ _ _ _ _ _ _ _ _ _ _ _ _ _ _ _ _ _ _ _ _ _ _ _ _ _ _ _ _ _ _ _ _ _ _ _ _ _ _ _ _ _ _ _ _ _ _ _ _ _ _ _ _ _ _ _ (HS.out.frame (Nat.le_refl _) (fun _ _ _ => rfl)) v0 v2 hNv hvb2 (HD.out.of_block rfl) hdb hdb2 hNd ⟨none, 0, 0, rfl⟩ hrs hacl (fun e => by cases e) R (fun actV' vV' rV' w' h1 h2 => hR.out actV' vV' rV' (.slice none 0 0) w' h1 (Chg.trans (w1 := w.drewN nq) ⟨rfl, rfl, rfl, Nat.le_refl _, fun _ _ _ => rfl⟩ (h2.mono (fun q hq => Or.inr hq))) (by unfold StartsOK; simp [hps])) _ rfl

end Go.Proofs.Qxb6616962a

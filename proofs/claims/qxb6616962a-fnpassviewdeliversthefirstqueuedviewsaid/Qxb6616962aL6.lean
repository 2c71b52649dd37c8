import Derived.Test.Qxb6616962aPl
/-! What lies aside; the law's last loop (5). -/
namespace Go.Proofs.Qxb6616962a
open Go.RowKit
set_option linter.unusedVariables false
set_option linter.unusedSimpArgs false
set_option maxRecDepth 8000

theorem neqNil {t e : TypeId} (h : Try.prog.underlying t = some (.slice e)) (w : World) (a : Option Addr) (n c n' c' : Nat) : (binOp .neq t (.slice a n c) (.slice none n' c')).run Try.prog w = .ok (.bool (!a.isNone)) w := by
  simp only [binOp]
  simp [Op.equal, Op.maxDepth, Lib.run_equalIn_slice_nil w 9999 t e a n c n' c' h]

/-- What lies aside while passView runs: the arguments, the marks, the copies of the holds. -/
structure Ctx (w0 w : World) (P : Nat → Prop) (v1 v2 v3 v5 oV : Value) (xs : List (Value × List Value)) (acts ps : List Int) (bs os : List Bool) (cs : List Value) : Prop where
  below : Below w0.heap.size w0 w
  low : ∀ q, P q → w0.heap.size ≤ q
  acc : SafeIn w P v1 (xs.map (·.1))
  accs : ∀ x ∈ xs, SafeIn w P x.1 x.2
  act : SafeIn w P v2 (acts.map (Value.int .i64))
  pos : SafeIn w P v3 (ps.map (Value.int .i64))
  jns : SafeIn w P v5 (bs.map Value.bool)
  out : SafeIn w P oV (os.map Value.bool)
  hold : ∀ (k : Nat) (v : Value) (x : Value × List Value), cs[k]? = some v → xs[k]? = some x → SafeIn w P v x.2 ∧ nilB v = nilB x.1 ∧ ∃ va, v = .slice va x.2.length x.2.length

theorem Ctx.chg {w0 w w' : World} {P : Nat → Prop} {v1 v2 v3 v5 oV : Value} {xs : List (Value × List Value)} {acts ps : List Int} {bs os : List Bool} {cs : List Value} (h : Ctx w0 w P v1 v2 v3 v5 oV xs acts ps bs os cs) (hc : Chg w w' P) : Ctx w0 w' P v1 v2 v3 v5 oV xs acts ps bs os cs :=
  ⟨h.below.trans (hc.toBelow h.below.size h.low), h.low, h.acc.chg hc, fun x hx => (h.accs x hx).chg hc, h.act.chg hc, h.pos.chg hc, h.jns.chg hc, h.out.chg hc, fun k v x h1 h2 => ⟨(h.hold k v x h1 h2).1.chg hc, (h.hold k v x h1 h2).2⟩⟩

theorem Ctx.mono {w0 w : World} {P P' : Nat → Prop} {v1 v2 v3 v5 oV : Value} {xs : List (Value × List Value)} {acts ps : List Int} {bs os : List Bool} {cs : List Value} (h : Ctx w0 w P v1 v2 v3 v5 oV xs acts ps bs os cs) (hp : ∀ q, P' q → P q) : Ctx w0 w P' v1 v2 v3 v5 oV xs acts ps bs os cs :=
  ⟨h.below, fun q hq => h.low q (hp q hq), h.acc.mono hp, fun x hx => (h.accs x hx).mono hp, h.act.mono hp, h.pos.mono hp, h.jns.mono hp, h.out.mono hp, fun k v x h1 h2 => ⟨(h.hold k v x h1 h2).1.mono hp, (h.hold k v x h1 h2).2⟩⟩

theorem SameW.chg {w w' : World} (h : SameW w w') (P : Nat → Prop) : Chg w w' P := ⟨h.os, h.tape, h.output, by rw [h.heap]; exact Nat.le_refl _, fun k _ _ => h.block k⟩

/-- What the rows of holds hold. -/
def HoldInts (xs : List (Value × List Value)) : Prop := ∀ x ∈ xs, ∃ us : List Int, x.2 = us.map (Value.int .u64) ∧ us.length ≤ 131072

set_option maxHeartbeats 8000000 in
theorem law5_t18 (w0 w : World) (P : Nat → Prop) (N sb st : Nat) (oa ob : Option Nat) (gv : Nat) (sf : Int) (accV actV vV jv rV : Value) (accs accs' : List (Value × Value)) (act : List Int) (vs : List (Int × Value × Bool)) (rs : List (Int × Value × Value)) (L : List (Int × Bool)) (a1 oo : Option Addr) (c1 oc : Nat) (v2 v3 v5 : Value) (xs : List (Value × List Value)) (acts ps : List Int) (bs os : List Bool) (cs : List Value) (u0 u2 u3 u4 u5 u6 u7 u8 u9 u10 u11 u12 u13 u14 u15 u16 u17 u18 u19 u21 u22 u23 u24 u26 u27 u28 u29 u30 u31 u32 u33 u34 u35 u36 u37 u38 u39 u40 u41 u42 u43 u44 u45 u46 u47 u48 u49 u50 u51 u52 u53 u54 u55 u56 u57 u58 u59 u60 u61 u62 u63 u64 u65 u66 u67 u68 u69 u70 u71 u72 u73 u74 u75 u76 u77 u78 u79 u80 u81 u82 u83 u84 u85 u86 u87 u88 u89 u90 u91 u92 u93 u94 u95 u96 u97 u98 u99 u100 u101 u102 u103 u104 u105 u106 u107 u108 u109 u110 u111 u112 u113 u114 u115 u116 u117 u118 u119 u120 u121 u122 u123 u124 u125 u126 u127 u128 u129 u130 u131 u132 u133 u134 u135 u136 u137 u138 u139 u140 u141 u142 u143 u144 u145 u146 u147 u148 u149 u150 u151 u152 u153 u154 u155 u156 u157 u158 u159 u160 u161 u162 u163 u164 u165 u166 u167 u168 u169 u170 u171 u172 u173 u174 u175 u176 u177 u178 u179 u180 u181 u182 u183 u184 u185 u186 u187 u188 u189 u190 u191 u192 u193 u194 u195 u196 u197 u198 u199 u200 u201 u202 u203 u204 u205 u206 u207 u208 u209 u210 u211 u212 u213 u214 u215 u216 u217 u218 u219 u220 u221 u222 u223 u224 u225 u226 u227 u228 u229 u230 u231 u232 u233 u234 u235 u236 u237 u238 u239 u240 u241 u242 u243 u244 u245 u246 u247 u248 u249 u250 u251 u252 u253 u254 u255 u256 u257 u258 u259 u260 u261 u262 u263 u264 u265 u266 u267 u268 u269 u270 u271 u272 u273 u274 u275 u276 u277 u278 u279 u280 u281 u282 u283 u284 u285 u286 u287 u288 u289 u290 u291 u292 u293 u294 u295 u296 u297 u298 u299 u300 : Value)
    (HC : Hid (Ctx w0 w P (.slice a1 xs.length c1) v2 v3 v5 (.slice oo os.length oc) xs acts ps bs os cs)) (HS : Hid (St w N sb st oa ob gv sf accV actV vV jv rV accs' act vs rs)) (HA : Hid (AccK L accs accs')) (HAO : Hid (AccOK cs accs)) (HAL : Hid (accs.length = xs.length)) (HO : Hid (OutOK os L xs.length)) (HI : Hid (HoldInts xs)) (hxl : xs.length ≤ 65536) (T : Code) (hT : T = tailN 18 (Try.f5.body.getD .skip)) :
    Code.wp Try.prog T (bodyPost Try.prog Try.f5 (TruePost w0)) ⟨#[u0, .slice a1 xs.length c1, u2, u3, u4, u5, u6, u7, u8, u9, u10, u11, u12, u13, u14, u15, u16, u17, u18, u19, .slice oo os.length oc, u21, u22, u23, u24, .pointer (some ⟨sb, 0, none⟩), u26, u27, u28, u29, u30, u31, u32, u33, u34, u35, u36, u37, u38, u39, u40, u41, u42, u43, u44, u45, u46, u47, u48, u49, u50, u51, u52, u53, u54, u55, u56, u57, u58, u59, u60, u61, u62, u63, u64, u65, u66, u67, u68, u69, u70, u71, u72, u73, u74, u75, u76, u77, u78, u79, u80, u81, u82, u83, u84, u85, u86, u87, u88, u89, u90, u91, u92, u93, u94, u95, u96, u97, u98, u99, u100, u101, u102, u103, u104, u105, u106, u107, u108, u109, u110, u111, u112, u113, u114, u115, u116, u117, u118, u119, u120, u121, u122, u123, u124, u125, u126, u127, u128, u129, u130, u131, u132, u133, u134, u135, u136, u137, u138, u139, u140, u141, u142, u143, u144, u145, u146, u147, u148, u149, u150, u151, u152, u153, u154, u155, u156, u157, u158, u159, u160, u161, u162, u163, u164, u165, u166, u167, u168, u169, u170, u171, u172, u173, u174, u175, u176, u177, u178, u179, u180, u181, u182, u183, u184, u185, u186, u187, u188, u189, u190, u191, u192, u193, u194, u195, u196, u197, u198, u199, u200, u201, u202, u203, u204, u205, u206, u207, u208, u209, u210, u211, u212, u213, u214, u215, u216, u217, u218, u219, u220, u221, u222, u223, u224, u225, u226, u227, u228, u229, u230, u231, u232, u233, u234, u235, u236, u237, u238, u239, u240, u241, u242, u243, u244, u245, u246, u247, u248, u249, u250, u251, u252, u253, u254, u255, u256, u257, u258, u259, u260, u261, u262, u263, u264, u265, u266, u267, u268, u269, u270, u271, u272, u273, u274, u275, u276, u277, u278, u279, u280, u281, u282, u283, u284, u285, u286, u287, u288, u289, u290, u291, u292, u293, u294, u295, u296, u297, u298, u299, u300], []⟩ w := by
  dsimp only [Try.f5, Option.getD_some, tailN] at hT
  subst hT
  dsimp only
  have qT24 := fun (w : World) (a : Option Addr) (n c n' c' : Nat) => neqNil Try.underlying24 w a n c n' c'
  have qT57 := fun (w : World) (a : Option Addr) (n c n' c' : Nat) => neqNil Try.underlying57 w a n c n' c'
  have qE57 := fun (w : World) (a : Option Addr) (n c n' c' : Nat) => Lib.run_eql_slice_nil (P := Try.prog) w 57 _ a n c n' c' Try.underlying57
  go_wp2_with fail
  go_loopw [32] (fun i wr => ∃ k : Nat, k ≤ xs.length ∧ i = .int .i64 k ∧ SameW w wr) (fun i _ => xs.length - (intOf i).toNat)
  case atStart => exact ⟨0, Nat.zero_le _, rfl, SameW.refl _⟩
  case round =>
    obtain ⟨k, hk, rfl, hs⟩ := hrel
    have HW : Hid (SameW w wr) := hs
    have HCr : Hid (Ctx w0 wr P (.slice a1 xs.length c1) v2 v3 v5 (.slice oo os.length oc) xs acts ps bs os cs) := HC.out.chg (hs.chg P)
    have HSr : Hid (St wr N sb st oa ob gv sf accV actV vV jv rV accs' act vs rs) := HS.out.frame (by rw [hs.heap]; exact Nat.le_refl _) (fun q _ _ => hs.block q)
    clear hs
    by_cases hlt : k < xs.length
    · have hltI : (k : Int) < (xs.length : Int) := by omega
      obtain ⟨x, hx⟩ : ∃ x, xs[k]? = some x := ⟨_, List.getElem?_eq_getElem hlt⟩
      obtain ⟨⟨y1, y2⟩, hy⟩ : ∃ y, accs[k]? = some y := ⟨_, List.getElem?_eq_getElem (by rw [HAL.out]; exact hlt)⟩
      have hy' := HA.out.2 k _ hy
      have ho := HO.out.2 k hlt
      obtain ⟨ado, rfl, co, -, lo⟩ := HCr.out.out.1.at (k := k) (x := .bool (outs L (k : Int))) (by rw [List.getElem?_map, ho]; rfl)
      have hoI : (k : Int) < (os.length : Int) := by have := HO.out.1; omega
      cases hb : outs L (k : Int) with
      | true =>
        rw [hb] at co hy'
        have hy2 : accs'[k]? = some (.slice none 0 0, .slice none 0 0) := hy'
        have g30 := get30 HSr.out k _ hy2
        have g31 := get31 HSr.out k _ hy2
        clear hx hy hy' hy2 ho hb
        go_wp2_with fail
        refine g30.mono ?_
        rintro e w' ⟨rfl, rfl⟩
        go_wp2_with fail
        refine g31.mono ?_
        rintro e w' ⟨rfl, rfl⟩
        clear g30 g31
        go_wp2
        go_roundw
        case rel =>
          exact ⟨k + 1, by omega, by go_num, HW.out⟩
        case measure => simp [intOf]; omega
      | false =>
        rw [hb] at co hy'
        have hy2 : accs'[k]? = some (y1, y2) := hy'
        obtain ⟨hcs, va, m, g, ey1, ey2⟩ := HAO.out k _ hy
        simp only at hcs ey1 ey2
        subst ey1 ey2
        obtain ⟨hh1, hh2, va', ev⟩ := HCr.out.hold k _ x hcs hx
        have hmx : m = x.2.length := by simp at ev; exact ev.2
        obtain ⟨us, hus, hul⟩ := HI.out x (List.mem_of_getElem? hx)
        obtain ⟨ad1, rfl, cx, -, l1⟩ := HCr.out.acc.1.at (k := k) (x := x.1) (by rw [List.getElem?_map, hx]; rfl)
        have g30 := get30 HSr.out k _ hy2
        have g31 := get31 HSr.out k _ hy2
        have heq := eq32_any _ x.1 us wr (hus ▸ hh1.1) (hus ▸ (HCr.out.accs x (List.mem_of_getElem? hx)).1) hh2 (by omega)
        obtain ⟨x1a, x1c, ex1⟩ : ∃ x1a x1c, x.1 = .slice x1a x.2.length x1c := by
          obtain ⟨e, e2⟩ | ⟨ad, c, e, _⟩ := (HCr.out.accs x (List.mem_of_getElem? hx)).1
          · exact ⟨none, 0, by rw [e, e2]; rfl⟩
          · exact ⟨some ad, c, e⟩
        rw [ex1] at cx heq
        have hbi : Hid (∀ w', SameW wr w' → w'.cell? (ad1.add k) = some (.slice x1a x.2.length x1c)) := fun w' h => (h.cell _).trans cx
        subst hmx
        clear hx hy hy' hy2 ho hh1 hh2 ev hcs hus hb
        go_wp2_with fail
        refine g30.mono ?_
        rintro e w' ⟨rfl, rfl⟩
        go_wp2_with fail
        refine g31.mono ?_
        rintro e w' ⟨rfl, rfl⟩
        clear g30 g31
        go_wp2_with fail
        refine heq.mono ?_
        rintro e w2 ⟨rfl, hs2⟩
        have HS2 : Hid (SameW w w2) := HW.out.trans hs2
        have cx2 := hbi.out w2 hs2
        clear hs2 heq
        go_wp2
        go_roundw
        case rel =>
          exact ⟨k + 1, by omega, by go_num, HS2.out⟩
        case measure => simp [intOf]; omega
    · have hltI : ¬ (k : Int) < (xs.length : Int) := by omega
      go_wp2
      go_ret
      exact ⟨rfl, HCr.out.below⟩

end Go.Proofs.Qxb6616962a

import Derived.Test.Qxb6616962aL4
/-! The law (5): the loop of passView. -/
namespace Go.Proofs.Qxb6616962a
open Go.RowKit
set_option linter.unusedVariables false
set_option linter.unusedSimpArgs false
set_option maxRecDepth 8000

/-- The join lies aside. -/
def JoinSafe (w : World) (P : Nat → Prop) (jv : Value) (mem cuts : List Int) : Prop :=
  ∃ gj am cm ac cc, jv = .pointer (some ⟨gj, 0, none⟩) ∧ ¬ P gj ∧ w.cell? ⟨gj, 7, none⟩ = some (.slice am mem.length cm) ∧ w.cell? ⟨gj, 10, none⟩ = some (.slice ac cuts.length cc) ∧ SafeIn w P (.slice am mem.length cm) (mem.map (Value.int .i64)) ∧ SafeIn w P (.slice ac cuts.length cc) (cuts.map (Value.int .u64))

theorem JoinSafe.chg {w w' : World} {P : Nat → Prop} {jv : Value} {mem cuts : List Int} (h : JoinSafe w P jv mem cuts) (hc : Chg w w' P) : JoinSafe w' P jv mem cuts := by
  obtain ⟨gj, am, cm, ac, cc, rfl, h1, h2, h3, h4, h5⟩ := h
  have e := hc.block gj (World.block_lt_of_cell? _ _ h2) h1
  exact ⟨gj, am, cm, ac, cc, rfl, h1, (World.cell?_of_block (w := w) (a := ⟨gj, 7, none⟩) e).trans h2, (World.cell?_of_block (w := w) (a := ⟨gj, 10, none⟩) e).trans h3, h4.chg hc, h5.chg hc⟩

theorem JoinSafe.at {w : World} {P : Nat → Prop} {jv : Value} {mem cuts : List Int} (h : JoinSafe w P jv mem cuts) : JoinAt w jv mem cuts := by
  obtain ⟨gj, am, cm, ac, cc, rfl, h1, h2, h3, h4, h5⟩ := h
  exact ⟨gj, am, cm, ac, cc, rfl, h2, h3, h4.1, h5.1⟩

/-- What stands behind k runs of passView. -/
structure Run (w wr : World) (N sb st : Nat) (oa ob : Option Nat) (gv : Nat) (sf : Int) (jo : Option Addr) (accV : Value) (accs : List (Value × Value)) (acts : List Int) (V : List (Int × Value × Bool)) (mn k : Nat) (actV vV rV : Value) (accs' : List (Value × Value)) (rs : List (Int × Value × Value)) : Prop where
  stt : St wr N sb st oa ob gv sf accV actV vV (if anyJ (pr (V.take k)) then .pointer none else .pointer jo) rV accs' (actK (pr (V.take k)) acts) (V.drop k) rs
  acc : AccK (pr (V.take k)) accs accs'
  rsk : RsK sf mn (V.take k) rs
  chg : Chg w wr (Pb N sb st oa ob gv)

theorem Run.next {w wr w' : World} {N sb st : Nat} {oa ob : Option Nat} {gv : Nat} {sf p : Int} {y : Value} {b : Bool} {jo : Option Addr} {accV : Value} {accs : List (Value × Value)} {acts : List Int} {V : List (Int × Value × Bool)} {mem cuts : List Int} {k : Nat} {actV vV rV : Value} {accs' : List (Value × Value)} {rs : List (Int × Value × Value)} (h : Run w wr N sb st oa ob gv sf jo accV accs acts V mem.length k actV vV rV accs' rs) (hq : V[k]? = some (p, y, b)) (hp : b = false → 0 ≤ p) {e : Ending}
    (hh : PassPost wr N sb st oa ob gv sf p y b accV (if anyJ (pr (V.take k)) then .pointer none else .pointer jo) accs' (actK (pr (V.take k)) acts) (V.drop (k + 1)) rs mem cuts e w') : ∃ actV' vV' rV' accs'' rs', Run w w' N sb st oa ob gv sf jo accV accs acts V mem.length (k + 1) actV' vV' rV' accs'' rs' := by
  obtain ⟨actV', vV', rV', sv, _, h1, h2, h3⟩ := hh
  have et : V.take (k + 1) = V.take k ++ [(p, y, b)] := by rw [List.take_add_one, hq]; rfl
  have ep : pr (V.take (k + 1)) = pr (V.take k) ++ [(p, b)] := by rw [et]; simp [pr]
  refine ⟨actV', vV', rV', (if b then accs' else accs'.set p.toNat (.slice none 0 0, .slice none 0 0)), rs ++ [(p, y, sv)], ?_, ?_, ?_, h.chg.trans h2⟩
  · rw [ep, ← actK_next, anyJ_snoc]
    have ej : (if (anyJ (pr (V.take k)) || b) = true then Value.pointer none else Value.pointer jo) = (if b = true then Value.pointer none else if anyJ (pr (V.take k)) = true then Value.pointer none else Value.pointer jo) := by
      cases b <;> cases anyJ (pr (V.take k)) <;> rfl
    rw [ej]
    exact h1
  · rw [ep]
    exact h.acc.next hp
  · rw [et]
    exact h.rsk.next h3

set_option maxHeartbeats 8000000 in
theorem law5_t13 (w0 w : World) (N sb st : Nat) (oa ob : Option Nat) (gv : Nat) (sf f : Int) (jo : Option Addr) (j : Bool) (accV actV vV : Value) (accs : List (Value × Value)) (V : List (Int × Value × Bool)) (a1 a2 a3 a5 a7 oo ba : Option Addr) (c1 c2 c3 n5 c5 c7 oc bc : Nat) (xs : List (Value × List Value)) (acts ps mem cuts : List Int) (bs os : List Bool) (cs : List Value) (u4 u6 u8 u9 u10 u11 u12 u13 u14 u15 u16 u17 u18 u22 u23 u24 u27 u29 u30 u31 u32 u33 u34 u35 u36 u37 u38 u39 u40 u41 u42 u43 u44 u45 u46 u47 u48 u49 u50 u51 u52 u53 u54 u55 u56 u57 u58 u59 u60 u61 u62 u63 u64 u65 u66 u67 u68 u69 u70 u71 u72 u73 u74 u75 u76 u77 u78 u79 u80 u81 u82 u83 u84 u85 u86 u87 u88 u89 u90 u91 u92 u93 u94 u95 u96 u97 u98 u99 u100 u101 u102 u103 u104 u105 u106 u107 u108 u109 u110 u111 u112 u113 u114 u115 u116 u117 u118 u119 u120 u121 u122 u123 u124 u125 u126 u127 u128 u129 u130 u131 u132 u133 u134 u135 u136 u137 u138 u139 u140 u141 u142 u143 u144 u145 u146 u147 u148 u149 u150 u151 u152 u153 u154 u155 u156 u157 u158 u159 u160 u161 u162 u163 u164 u165 u166 u167 u168 u169 u170 u171 u172 u173 u174 u175 u176 u177 u178 u179 u180 u181 u182 u183 u184 u185 u186 u187 u188 u189 u190 u191 u192 u193 u194 u195 u196 u197 u198 u199 u200 u201 u202 u203 u204 u205 u206 u207 u208 u209 u210 u211 u212 u213 u214 u215 u216 u217 u218 u219 u220 u221 u222 u223 u224 u225 u226 u227 u228 u229 u230 u231 u232 u233 u234 u235 u236 u237 u238 u239 u240 u241 u242 u243 u244 u245 u246 u247 u248 u249 u250 u251 u252 u253 u254 u255 u256 u257 u258 u259 u260 u261 u262 u263 u264 u265 u266 u267 u268 u269 u270 u271 u272 u273 u274 u275 u276 u277 u278 u279 u280 u281 u282 u283 u284 u285 u286 u287 u288 u289 u290 u291 u292 u293 u294 u295 u296 u297 u298 u299 u300 : Value)
    (HC : Hid (Ctx w0 w (Pb N sb st oa ob gv) (.slice a1 xs.length c1) (.slice a2 acts.length c2) (.slice a3 ps.length c3) (.slice a5 n5 c5) (.slice oo os.length oc) xs acts ps bs os cs)) (HB : Hid (SafeIn w (Pb N sb st oa ob gv) (.slice ba ps.length bc) (V.map (·.2.1)))) (HS : Hid (St w N sb st oa ob gv sf accV actV vV (.pointer jo) (.slice none 0 0) accs acts V [])) (HV : Hid (ViewsOK ps bs V)) (HVL : Hid (V.length = ps.length)) (HAO : Hid (AccOK cs accs)) (HAL : Hid (accs.length = xs.length)) (HO : Hid (OutOK os (pr V) xs.length)) (HI : Hid (HoldInts xs)) (HG : Hid (Good sf xs.length j (pr V))) (HF : Hid (FJ (pr V) f)) (HJ : Hid (j = true → JoinSafe w (Pb N sb st oa ob gv) (.pointer jo) mem cuts)) (HM : Hid (∀ (k : Nat), (pr V)[k]? = some (sf, true) → ∀ m ∈ mem, 0 ≤ m ∧ m < (cuts.length : Int))) (hsf : -9223372036854775808 ≤ sf ∧ sf ≤ 9223372036854775807) (hxl : xs.length ≤ 65536) (hal : acts.length ≤ 131072) (hpl : ps.length ≤ 131072) (hml : mem.length ≤ 131072) (hcl : cuts.length ≤ 131072) (T : Code) (hT : T = tailN 13 (Try.f5.body.getD .skip)) :
    Code.wp Try.prog T (bodyPost Try.prog Try.f5 (TruePost w0)) ⟨#[.int .i64 sf, .slice a1 xs.length c1, .slice a2 acts.length c2, .slice a3 ps.length c3, u4, .slice a5 n5 c5, u6, .slice a7 mem.length c7, u8, u9, u10, u11, u12, u13, u14, u15, u16, u17, u18, .int .i64 (ps.length : Int), .slice oo os.length oc, .int .i64 f, u22, u23, u24, .pointer (some ⟨sb, 0, none⟩), .slice ba ps.length bc, u27, .pointer jo, u29, u30, u31, u32, u33, u34, u35, u36, u37, u38, u39, u40, u41, u42, u43, u44, u45, u46, u47, u48, u49, u50, u51, u52, u53, u54, u55, u56, u57, u58, u59, u60, u61, u62, u63, u64, u65, u66, u67, u68, u69, u70, u71, u72, u73, u74, u75, u76, u77, u78, u79, u80, u81, u82, u83, u84, u85, u86, u87, u88, u89, u90, u91, u92, u93, u94, u95, u96, u97, u98, u99, u100, u101, u102, u103, u104, u105, u106, u107, u108, u109, u110, u111, u112, u113, u114, u115, u116, u117, u118, u119, u120, u121, u122, u123, u124, u125, u126, u127, u128, u129, u130, u131, u132, u133, u134, u135, u136, u137, u138, u139, u140, u141, u142, u143, u144, u145, u146, u147, u148, u149, u150, u151, u152, u153, u154, u155, u156, u157, u158, u159, u160, u161, u162, u163, u164, u165, u166, u167, u168, u169, u170, u171, u172, u173, u174, u175, u176, u177, u178, u179, u180, u181, u182, u183, u184, u185, u186, u187, u188, u189, u190, u191, u192, u193, u194, u195, u196, u197, u198, u199, u200, u201, u202, u203, u204, u205, u206, u207, u208, u209, u210, u211, u212, u213, u214, u215, u216, u217, u218, u219, u220, u221, u222, u223, u224, u225, u226, u227, u228, u229, u230, u231, u232, u233, u234, u235, u236, u237, u238, u239, u240, u241, u242, u243, u244, u245, u246, u247, u248, u249, u250, u251, u252, u253, u254, u255, u256, u257, u258, u259, u260, u261, u262, u263, u264, u265, u266, u267, u268, u269, u270, u271, u272, u273, u274, u275, u276, u277, u278, u279, u280, u281, u282, u283, u284, u285, u286, u287, u288, u289, u290, u291, u292, u293, u294, u295, u296, u297, u298, u299, u300], []⟩ w := by
  dsimp only [Try.f5, Option.getD_some, tailN] at hT
  subst hT
  dsimp only
  have HSF : Hid (-9223372036854775808 ≤ sf ∧ sf ≤ 9223372036854775807) := hsf
  clear hsf
  go_wp2_with fail
  rename (∀ (a : Act) (w1 : World), Code.wp Try.prog (tailN 14 (Try.f5.body.getD .skip)) (bodyPost Try.prog Try.f5 (TruePost w0)) a w1 → _) => hK0
  have HK : Hid _ := hK0
  clear hK0
  go_loopw [29] (fun i wr => ∃ (k : Nat) (actV vV rV : Value) (accs' : List (Value × Value)) (rs : List (Int × Value × Value)), k ≤ ps.length ∧ i = .int .i64 k ∧ Run w wr N sb st oa ob gv sf jo accV accs acts V mem.length k actV vV rV accs' rs) (fun i _ => ps.length - (intOf i).toNat)
  case atStart =>
    refine ⟨0, actV, vV, .slice none 0 0, accs, [], Nat.zero_le _, rfl, ?_, AccK.nil _, ⟨rfl, fun i q hq => (by cases hq)⟩, Chg.refl _ _⟩
    show St w N sb st oa ob gv sf accV actV vV (if anyJ [] then .pointer none else .pointer jo) (.slice none 0 0) accs (actK [] acts) V []
    rw [actK_nil]
    exact HS.out
  case round =>
    obtain ⟨k, actV, vV, rV, accs', rs, hk, rfl, hr⟩ := hrel
    have HR : Hid (Run w wr N sb st oa ob gv sf jo accV accs acts V mem.length k actV vV rV accs' rs) := hr
    clear hr
    by_cases hlt : k < ps.length
    · have hltI : (k : Int) < (ps.length : Int) := by omega
      have hkV : k < V.length := by rw [HVL.out]; exact hlt
      obtain ⟨⟨p, y, b⟩, hq⟩ : ∃ q, V[k]? = some q := ⟨_, List.getElem?_eq_getElem hkV⟩
      obtain ⟨hp, hb, g, ey⟩ := HV.out k _ hq
      simp only at hp hb ey
      subst ey
      have hL : (pr V)[k]? = some (p, b) := by simp [pr, hq]
      have hLt : (pr V).take k = pr (V.take k) := by simp [pr, List.map_take]
      have hd : V.drop k = (p, .pointer (some ⟨g, 0, none⟩), b) :: V.drop (k + 1) := by
        rw [List.drop_eq_getElem_cons hkV, (List.getElem?_eq_some_iff.1 hq).2]
      have hal' : accs'.length = xs.length := by rw [HR.out.acc.1, HAL.out]
      have hrl : rs.length ≤ 131072 := by rw [HR.out.rsk.1]; simp; omega
      have hP : b = false → 0 ≤ p ∧ p < (accs'.length : Int) := fun e => by
        subst e
        rw [hal']
        exact HG.out.out k p hL
      have hst := HR.out.stt
      rw [hd] at hst
      have hpass := pass35 wr N sb st oa ob gv sf p (some ⟨g, 0, none⟩) b accV actV vV _ rV accs' _ _ rs mem cuts hst hrl (Nat.le_trans (actK_le _ _) (by omega)) hP HSF.out (fun e1 e2 => by
        subst e1 e2
        obtain ⟨h1, h2⟩ := HG.out.me k hL
        rw [hLt] at h1
        rw [h1]
        exact ⟨((HJ.out h2).chg HR.out.chg).at, HM.out k hL, hml, hcl⟩)
      have hP20 := pass20 wr sb _ (hpass.mono (fun e w' h => ⟨h.choose_spec.choose_spec.choose_spec.choose_spec.1, h⟩))
      have HQ : Hid (V[k]? = some (p, .pointer (some ⟨g, 0, none⟩), b)) := hq
      have HPP : Hid (b = false → 0 ≤ p) := fun e => (hP e).1
      clear hpass hst hP hrl hal' hd hLt hL hq hp hb
      go_wp2_with fail
      refine hP20.mono ?_
      intro e w' hh
      obtain rfl : e = .returned (.tuple #[]) := hh.choose_spec.choose_spec.choose_spec.choose_spec.1
      have HN : Hid (∃ actV' vV' rV' accs'' rs', Run w w' N sb st oa ob gv sf jo accV accs acts V mem.length (k + 1) actV' vV' rV' accs'' rs') := HR.out.next HQ.out HPP.out hh
      clear hh hP20
      go_wp2
      go_roundw
      case rel =>
        obtain ⟨actV', vV', rV', accs'', rs', hn⟩ := HN.out
        exact ⟨k + 1, actV', vV', rV', accs'', rs', by omega, by go_num, hn⟩
      case measure => simp [intOf]; omega
    · obtain rfl : k = ps.length := by omega
      have hltI : ¬ (ps.length : Int) < (ps.length : Int) := by omega
      go_wp2_with fail
      refine HK.out _ _ ?_
      have hr := HR.out
      have e1 : V.take ps.length = V := List.take_of_length_le (by rw [HVL.out]; exact Nat.le_refl _)
      have e2 : V.drop ps.length = [] := List.drop_eq_nil_of_le (by rw [HVL.out]; exact Nat.le_refl _)
      have h1 := hr.stt
      have h2 := hr.acc
      have h3 := hr.rsk
      rw [e1] at h1 h2 h3
      rw [e2] at h1
      exact law5_t14 w0 wr (Pb N sb st oa ob gv) N sb st oa ob gv sf f jo j accV actV vV rV accs accs' V rs (pr V) a1 a2 a3 a5 a7 oo ba c1 c2 c3 n5 c5 c7 oc bc xs acts ps mem bs os cs _ _ _ _ _ _ _ _ _ _ _ _ _ _ _ _ _ _ _ _ _ _ _ _ _ _ _ _ _ _ _ _ _ _ _ _ _ _ _ _ _ _ _ _ _ _ _ _ _ _ _ _ _ _ _ _ _ _ _ _ _ _ _ _ _ _ _ _ _ _ _ _ _ _ _ _ _ _ _ _ _ _ _ _ _ _ _ _ _ _ _ _ _ _ _ _ _ _ _ _ _ _ _ _ _ _ _ _ _ _ _ _ _ _ _ _ _ _ _ _ _ _ _ _ _ _ _ _ _ _ _ _ _ _ _ _ _ _ _ _ _ _ _ _ _ _ _ _ _ _ _ _ _ _ _ _ _ _ _ _ _ _ _ _ _ _ _ _ _ _ _ _ _ _ _ _ _ _ _ _ _ _ _ _ _ _ _ _ _ _ _ _ _ _ _ _ _ _ _ _ _ _ _ _ _ _ _ _ _ _ _ _ _ _ _ _ _ _ _ _ _ _ _ _ _ _ _ _ _ _ _ _ _ _ _ _ _ _ _ _ _ _ _ _ _ _ _ _ _ _ _ _ _ _ _ _ _ _ _ _ _ _ _ _ _ _ _ _ _ _ _ _ _ _ _ _ _ _ _ _ _ _ _ _ _ _ _ _ _ (HC.out.chg hr.chg) (HB.out.chg hr.chg) h1 HV HVL h3 h2 HAO HAL HO HI HG HF hxl hal hpl hml _ rfl

end Go.Proofs.Qxb6616962a

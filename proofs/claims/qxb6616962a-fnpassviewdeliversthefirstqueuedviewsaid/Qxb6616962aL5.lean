import Derived.Test.Qxb6616962aL6
/-! The law (5): the join and the active members. -/
namespace Go.Proofs.Qxb6616962a
open Go.RowKit
set_option linter.unusedVariables false
set_option linter.unusedSimpArgs false
set_option maxRecDepth 8000

theorem neqPtr {t e : TypeId} (h : Try.prog.underlying t = some (.pointer e)) (he : (Try.prog.info? e).isSome = true) (w : World) (a : Option Addr) : (binOp .neq t (.pointer a) (.pointer a)).run Try.prog w = .ok (.bool false) w := by
  obtain ⟨i, hi⟩ := Option.isSome_iff_exists.1 he
  have hh : ∀ d : Nat, (Op.equalIn (d + 1) t (.pointer a) (.pointer a)).run Try.prog w = .ok true w := fun d => by
    cases a <;> simp [Op.equalIn, run_underlying h, sizeOf, typeInfo, hi, run_sameAddr_same]
  simp only [binOp]
  simp [Op.equal, Op.maxDepth, hh 9999]

set_option maxHeartbeats 8000000 in
theorem law5_t16 (w0 w : World) (P : Nat → Prop) (N sb st : Nat) (oa ob : Option Nat) (gv : Nat) (sf f : Int) (jo : Option Addr) (j : Bool) (accV actV vV rV : Value) (accs accs' : List (Value × Value)) (vs : List (Int × Value × Bool)) (rs : List (Int × Value × Value)) (L : List (Int × Bool)) (a1 a2 oo : Option Addr) (c1 c2 oc : Nat) (v3 v5 : Value) (xs : List (Value × List Value)) (acts ps : List Int) (bs os : List Bool) (cs : List Value) (u0 u3 u4 u5 u6 u7 u8 u9 u10 u11 u12 u13 u14 u15 u16 u17 u18 u19 u22 u23 u24 u26 u27 u29 u30 u31 u32 u33 u34 u35 u36 u37 u38 u39 u40 u41 u42 u43 u44 u45 u46 u47 u48 u49 u50 u51 u52 u53 u54 u55 u56 u57 u58 u59 u60 u61 u62 u63 u64 u65 u66 u67 u68 u69 u70 u71 u72 u73 u74 u75 u76 u77 u78 u79 u80 u81 u82 u83 u84 u85 u86 u87 u88 u89 u90 u91 u92 u93 u94 u95 u96 u97 u98 u99 u100 u101 u102 u103 u104 u105 u106 u107 u108 u109 u110 u111 u112 u113 u114 u115 u116 u117 u118 u119 u120 u121 u122 u123 u124 u125 u126 u127 u128 u129 u130 u131 u132 u133 u134 u135 u136 u137 u138 u139 u140 u141 u142 u143 u144 u145 u146 u147 u148 u149 u150 u151 u152 u153 u154 u155 u156 u157 u158 u159 u160 u161 u162 u163 u164 u165 u166 u167 u168 u169 u170 u171 u172 u173 u174 u175 u176 u177 u178 u179 u180 u181 u182 u183 u184 u185 u186 u187 u188 u189 u190 u191 u192 u193 u194 u195 u196 u197 u198 u199 u200 u201 u202 u203 u204 u205 u206 u207 u208 u209 u210 u211 u212 u213 u214 u215 u216 u217 u218 u219 u220 u221 u222 u223 u224 u225 u226 u227 u228 u229 u230 u231 u232 u233 u234 u235 u236 u237 u238 u239 u240 u241 u242 u243 u244 u245 u246 u247 u248 u249 u250 u251 u252 u253 u254 u255 u256 u257 u258 u259 u260 u261 u262 u263 u264 u265 u266 u267 u268 u269 u270 u271 u272 u273 u274 u275 u276 u277 u278 u279 u280 u281 u282 u283 u284 u285 u286 u287 u288 u289 u290 u291 u292 u293 u294 u295 u296 u297 u298 u299 u300 : Value)
    (HC : Hid (Ctx w0 w P (.slice a1 xs.length c1) (.slice a2 acts.length c2) v3 v5 (.slice oo os.length oc) xs acts ps bs os cs)) (HS : Hid (St w N sb st oa ob gv sf accV actV vV (if anyJ L then .pointer none else .pointer jo) rV accs' (actK L acts) vs rs)) (HA : Hid (AccK L accs accs')) (HAO : Hid (AccOK cs accs)) (HAL : Hid (accs.length = xs.length)) (HO : Hid (OutOK os L xs.length)) (HI : Hid (HoldInts xs)) (HG : Hid (Good sf xs.length j L)) (HF : Hid (FJ L f)) (hxl : xs.length ≤ 65536) (hal : acts.length ≤ 131072) (T : Code) (hT : T = tailN 16 (Try.f5.body.getD .skip)) :
    Code.wp Try.prog T (bodyPost Try.prog Try.f5 (TruePost w0)) ⟨#[u0, .slice a1 xs.length c1, .slice a2 acts.length c2, u3, u4, u5, u6, u7, u8, u9, u10, u11, u12, u13, u14, u15, u16, u17, u18, u19, .slice oo os.length oc, .int .i64 f, u22, u23, u24, .pointer (some ⟨sb, 0, none⟩), u26, u27, .pointer jo, u29, u30, u31, u32, u33, u34, u35, u36, u37, u38, u39, u40, u41, u42, u43, u44, u45, u46, u47, u48, u49, u50, u51, u52, u53, u54, u55, u56, u57, u58, u59, u60, u61, u62, u63, u64, u65, u66, u67, u68, u69, u70, u71, u72, u73, u74, u75, u76, u77, u78, u79, u80, u81, u82, u83, u84, u85, u86, u87, u88, u89, u90, u91, u92, u93, u94, u95, u96, u97, u98, u99, u100, u101, u102, u103, u104, u105, u106, u107, u108, u109, u110, u111, u112, u113, u114, u115, u116, u117, u118, u119, u120, u121, u122, u123, u124, u125, u126, u127, u128, u129, u130, u131, u132, u133, u134, u135, u136, u137, u138, u139, u140, u141, u142, u143, u144, u145, u146, u147, u148, u149, u150, u151, u152, u153, u154, u155, u156, u157, u158, u159, u160, u161, u162, u163, u164, u165, u166, u167, u168, u169, u170, u171, u172, u173, u174, u175, u176, u177, u178, u179, u180, u181, u182, u183, u184, u185, u186, u187, u188, u189, u190, u191, u192, u193, u194, u195, u196, u197, u198, u199, u200, u201, u202, u203, u204, u205, u206, u207, u208, u209, u210, u211, u212, u213, u214, u215, u216, u217, u218, u219, u220, u221, u222, u223, u224, u225, u226, u227, u228, u229, u230, u231, u232, u233, u234, u235, u236, u237, u238, u239, u240, u241, u242, u243, u244, u245, u246, u247, u248, u249, u250, u251, u252, u253, u254, u255, u256, u257, u258, u259, u260, u261, u262, u263, u264, u265, u266, u267, u268, u269, u270, u271, u272, u273, u274, u275, u276, u277, u278, u279, u280, u281, u282, u283, u284, u285, u286, u287, u288, u289, u290, u291, u292, u293, u294, u295, u296, u297, u298, u299, u300], []⟩ w := by
  dsimp only [Try.f5, Option.getD_some, tailN] at hT
  subst hT
  dsimp only
  have g19 := get19 HS.out
  have g29 := get29 HS.out
  have hfa := HF.out.any
  have qN := fun (w : World) => neqPtr Try.underlying47 (by kernel_rfl) w none
  have qJ := fun (w : World) => neqPtr Try.underlying47 (by kernel_rfl) w jo
  have hact := HS.out.act
  have hL : Hid (left os acts = actK L acts) := left_actK HO.out HG.out acts
  obtain ⟨av, ac, rfl, -, -⟩ := hact.len
  rw [List.length_map, ← hL.out] at g29
  have hfilt := filt28 av a2 oo ac c2 oc acts os w (by rw [hL.out]; rw [List.length_map] at hact; exact hact.inV) HC.out.act.1 HC.out.out.1 (by omega)
  clear hact
  have HFI : Hid (Calls Try.prog 28 #[.slice av (left os acts).length ac, .slice a2 acts.length c2, .slice oo os.length oc] w (fun e w' => e = .returned (.bool true) ∧ w' = w)) := hfilt
  clear hfilt
  by_cases hf : 0 ≤ f
  · have hd : anyJ L = true := by rw [hfa]; simpa using hf
    rw [hd] at g19
    simp only [if_true] at g19
    clear hfa
    go_wp2_with fail
    refine g19.mono ?_
    rintro e w' ⟨rfl, rfl⟩
    clear g19
    go_wp2_with fail
    refine g29.mono ?_
    rintro e w' ⟨rfl, rfl⟩
    clear g29
    go_wp2_with fail
    refine HFI.out.mono ?_
    rintro e w' ⟨rfl, rfl⟩
    rename (∀ (a : Act) (w1 : World), Code.wp Try.prog (tailN 18 (Try.f5.body.getD .skip)) (bodyPost Try.prog Try.f5 (TruePost w0)) a w1 → _) => hK0
    have HK : Hid _ := hK0
    clear hK0
    go_wp2_with fail
    refine HK.out _ _ ?_
    exact law5_t18 w0 w' P N sb st oa ob gv sf accV _ vV _ rV accs accs' (actK L acts) vs rs L a1 oo c1 oc (.slice a2 acts.length c2) v3 v5 xs acts ps bs os cs _ _ _ _ _ _ _ _ _ _ _ _ _ _ _ _ _ _ _ _ _ _ _ _ _ _ _ _ _ _ _ _ _ _ _ _ _ _ _ _ _ _ _ _ _ _ _ _ _ _ _ _ _ _ _ _ _ _ _ _ _ _ _ _ _ _ _ _ _ _ _ _ _ _ _ _ _ _ _ _ _ _ _ _ _ _ _ _ _ _ _ _ _ _ _ _ _ _ _ _ _ _ _ _ _ _ _ _ _ _ _ _ _ _ _ _ _ _ _ _ _ _ _ _ _ _ _ _ _ _ _ _ _ _ _ _ _ _ _ _ _ _ _ _ _ _ _ _ _ _ _ _ _ _ _ _ _ _ _ _ _ _ _ _ _ _ _ _ _ _ _ _ _ _ _ _ _ _ _ _ _ _ _ _ _ _ _ _ _ _ _ _ _ _ _ _ _ _ _ _ _ _ _ _ _ _ _ _ _ _ _ _ _ _ _ _ _ _ _ _ _ _ _ _ _ _ _ _ _ _ _ _ _ _ _ _ _ _ _ _ _ _ _ _ _ _ _ _ _ _ _ _ _ _ _ _ _ _ _ _ _ _ _ _ _ _ _ _ _ _ _ _ _ _ _ _ _ _ _ _ _ _ _ _ _ _ _ _ _ _ _ _ _ _ _ _ _ _ HC HS HA HAO HAL HO HI hxl _ rfl
  · have hd : anyJ L = false := by rw [hfa]; simpa using hf
    rw [hd] at g19
    simp only [Bool.false_eq_true, if_false] at g19
    clear hfa
    go_wp2_with fail
    refine g19.mono ?_
    rintro e w' ⟨rfl, rfl⟩
    clear g19
    go_wp2_with fail
    refine g29.mono ?_
    rintro e w' ⟨rfl, rfl⟩
    clear g29
    go_wp2_with fail
    refine HFI.out.mono ?_
    rintro e w' ⟨rfl, rfl⟩
    rename (∀ (a : Act) (w1 : World), Code.wp Try.prog (tailN 18 (Try.f5.body.getD .skip)) (bodyPost Try.prog Try.f5 (TruePost w0)) a w1 → _) => hK0
    have HK : Hid _ := hK0
    clear hK0
    go_wp2_with fail
    refine HK.out _ _ ?_
    exact law5_t18 w0 w' P N sb st oa ob gv sf accV _ vV _ rV accs accs' (actK L acts) vs rs L a1 oo c1 oc (.slice a2 acts.length c2) v3 v5 xs acts ps bs os cs _ _ _ _ _ _ _ _ _ _ _ _ _ _ _ _ _ _ _ _ _ _ _ _ _ _ _ _ _ _ _ _ _ _ _ _ _ _ _ _ _ _ _ _ _ _ _ _ _ _ _ _ _ _ _ _ _ _ _ _ _ _ _ _ _ _ _ _ _ _ _ _ _ _ _ _ _ _ _ _ _ _ _ _ _ _ _ _ _ _ _ _ _ _ _ _ _ _ _ _ _ _ _ _ _ _ _ _ _ _ _ _ _ _ _ _ _ _ _ _ _ _ _ _ _ _ _ _ _ _ _ _ _ _ _ _ _ _ _ _ _ _ _ _ _ _ _ _ _ _ _ _ _ _ _ _ _ _ _ _ _ _ _ _ _ _ _ _ _ _ _ _ _ _ _ _ _ _ _ _ _ _ _ _ _ _ _ _ _ _ _ _ _ _ _ _ _ _ _ _ _ _ _ _ _ _ _ _ _ _ _ _ _ _ _ _ _ _ _ _ _ _ _ _ _ _ _ _ _ _ _ _ _ _ _ _ _ _ _ _ _ _ _ _ _ _ _ _ _ _ _ _ _ _ _ _ _ _ _ _ _ _ _ _ _ _ _ _ _ _ _ _ _ _ _ _ _ _ _ _ _ _ _ _ _ _ _ _ _ _ _ _ _ _ _ _ _ _ HC HS HA HAO HAL HO HI hxl _ rfl

end Go.Proofs.Qxb6616962a

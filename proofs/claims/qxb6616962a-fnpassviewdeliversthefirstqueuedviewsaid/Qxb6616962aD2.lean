import Derived.Test.Qxb6616962aD3
import Derived.Test.Qxb6616962aL2
/-! The law (4): the run of passView, and the views ahead of it. -/
namespace Go.Proofs.Qxb6616962a
open Go.RowKit
set_option linter.unusedVariables false
set_option linter.unusedSimpArgs false
set_option maxRecDepth 8000

set_option maxHeartbeats 2000000 in
theorem law4_t15 (w0 w : World) (N sb st : Nat) (oa ob : Option Nat) (gv : Nat) (sf p : Int) (jo : Option Addr) (j b : Bool) (accV actV vV : Value) (accs : List (Value × Value)) (V : List (Int × Value × Bool)) (a1 a2 a5 a7 a8 oo ba : Option Addr) (c1 c2 n5 c5 c7 c8 oc bc : Nat) (v3 : Value) (xs : List (Value × List Value)) (acts ps mem cuts : List Int) (bs os : List Bool) (cs : List Value) (t3 t4 t6 t9 t10 t11 t12 t13 t14 t15 t16 t17 t18 t22 t23 t27 t29 t30 t31 t32 t33 t34 t35 t36 t37 t38 t39 t40 t41 t42 t43 t44 t45 t46 t47 t48 t49 t50 t51 t52 t53 t54 t55 t56 t57 t58 t59 t60 t61 t62 t63 t64 t65 t66 t67 t68 t69 t70 t71 t72 t73 t74 t75 t76 t77 t78 t79 t80 t81 t82 t83 t84 t85 t86 t87 t88 t89 t90 t91 t92 t93 t94 t95 t96 t97 t98 t99 t100 t101 t102 t103 t104 t105 t106 t107 t108 t109 t110 t111 t112 t113 t114 t115 t116 t117 t118 t119 t120 t121 t122 t123 t124 t125 t126 t127 t128 t129 t130 t131 t132 t133 t134 t135 t136 t137 t138 t139 t140 t141 t142 t143 t144 t145 t146 t147 t148 t149 t150 t151 t152 t153 t154 t155 t156 t157 t158 t159 t160 t161 t162 t163 t164 t165 t166 t167 t168 t169 t170 t171 t172 t173 t174 t175 t176 t177 t178 t179 t180 t181 t182 t183 t184 t185 t186 t187 t188 t189 t190 t191 t192 t193 t194 t195 t196 t197 t198 t199 t200 t201 t202 t203 t204 t205 t206 t207 t208 t209 t210 t211 t212 t213 t214 t215 t216 t217 t218 t219 t220 t221 t222 t223 t224 t225 t226 t227 t228 t229 t230 t231 t232 t233 t234 t235 t236 t237 t238 t239 t240 t241 t242 t243 t244 t245 t246 t247 t248 t249 t250 t251 t252 t253 t254 t255 t256 t257 t258 t259 t260 t261 t262 t263 t264 t265 t266 t267 t268 t269 t270 t271 t272 t273 t274 t275 t276 t277 t278 t279 t280 t281 t282 t283 t284 t285 t286 t287 t288 t289 t290 t291 t292 t293 t294 t295 t296 t297 t298 t299 t300 t301 : Value)
    (HC : Hid (Ctx w0 w (Pb N sb st oa ob gv) (.slice a1 xs.length c1) (.slice a2 acts.length c2) v3 (.slice a5 n5 c5) (.slice oo os.length oc) xs acts ps bs os cs)) (I7 : Hid (InV w0 (.slice a7 mem.length c7) (mem.map (Value.int .i64)))) (I8 : Hid (InV w0 (.slice a8 cuts.length c8) (cuts.map (Value.int .u64)))) (HB : Hid (SafeIn w (Pb N sb st oa ob gv) (.slice ba ps.length bc) (V.map (·.2.1)))) (HS : Hid (St w N sb st oa ob gv sf accV actV vV (.pointer jo) (.slice none 0 0) accs acts V [])) (HV : Hid (ViewsOK ps bs V)) (HVL : Hid (V.length = ps.length)) (HAO : Hid (AccOK cs accs)) (HAL : Hid (accs.length = xs.length)) (HO : Hid (OutOK os [(p, b)] xs.length)) (HI : Hid (HoldInts xs)) (HG : Hid (Good sf xs.length j [(p, b)])) (HJ : Hid (j = true → JoinSafe w (Pb N sb st oa ob gv) (.pointer jo) mem cuts)) (HM : Hid (b = true → p = sf → ∀ m ∈ mem, 0 ≤ m ∧ m < (cuts.length : Int))) (hp0 : Hid (ps[0]? = some p)) (hbs : Hid (bs[0]? = some b)) (hps : 0 < ps.length) (hsf : -9223372036854775808 ≤ sf ∧ sf ≤ 9223372036854775807) (hxl : xs.length ≤ 65536) (hal : acts.length ≤ 131072) (hpl : ps.length ≤ 131072) (hml : mem.length ≤ 131072) (hcl : cuts.length ≤ 131072) (T : Code) (hT : T = tailN 15 (Try.f4.body.getD .skip)) :
    Code.wp Try.prog T (bodyPost Try.prog Try.f4 (TruePost w0)) ⟨#[.int .i64 sf, .slice a1 xs.length c1, .slice a2 acts.length c2, t3, t4, .slice a5 n5 c5, t6, .slice a7 mem.length c7, .slice a8 cuts.length c8, t9, t10, t11, t12, t13, t14, t15, t16, t17, t18, .int .i64 (ps.length : Int), .int .i64 p, .bool (b && decide (p = sf)), t22, t23, .slice oo os.length oc, .pointer (some ⟨sb, 0, none⟩), .slice ba ps.length bc, t27, .pointer jo, t29, t30, t31, t32, t33, t34, t35, t36, t37, t38, t39, t40, t41, t42, t43, t44, t45, t46, t47, t48, t49, t50, t51, t52, t53, t54, t55, t56, t57, t58, t59, t60, t61, t62, t63, t64, t65, t66, t67, t68, t69, t70, t71, t72, t73, t74, t75, t76, t77, t78, t79, t80, t81, t82, t83, t84, t85, t86, t87, t88, t89, t90, t91, t92, t93, t94, t95, t96, t97, t98, t99, t100, t101, t102, t103, t104, t105, t106, t107, t108, t109, t110, t111, t112, t113, t114, t115, t116, t117, t118, t119, t120, t121, t122, t123, t124, t125, t126, t127, t128, t129, t130, t131, t132, t133, t134, t135, t136, t137, t138, t139, t140, t141, t142, t143, t144, t145, t146, t147, t148, t149, t150, t151, t152, t153, t154, t155, t156, t157, t158, t159, t160, t161, t162, t163, t164, t165, t166, t167, t168, t169, t170, t171, t172, t173, t174, t175, t176, t177, t178, t179, t180, t181, t182, t183, t184, t185, t186, t187, t188, t189, t190, t191, t192, t193, t194, t195, t196, t197, t198, t199, t200, t201, t202, t203, t204, t205, t206, t207, t208, t209, t210, t211, t212, t213, t214, t215, t216, t217, t218, t219, t220, t221, t222, t223, t224, t225, t226, t227, t228, t229, t230, t231, t232, t233, t234, t235, t236, t237, t238, t239, t240, t241, t242, t243, t244, t245, t246, t247, t248, t249, t250, t251, t252, t253, t254, t255, t256, t257, t258, t259, t260, t261, t262, t263, t264, t265, t266, t267, t268, t269, t270, t271, t272, t273, t274, t275, t276, t277, t278, t279, t280, t281, t282, t283, t284, t285, t286, t287, t288, t289, t290, t291, t292, t293, t294, t295, t296, t297, t298, t299, t300, t301], []⟩ w := by
  dsimp only [Try.f4, Option.getD_some, tailN] at hT
  subst hT
  dsimp only
  obtain ⟨⟨p', y, b'⟩, hq⟩ : ∃ q, V[0]? = some q := ⟨_, List.getElem?_eq_getElem (by rw [HVL.out]; exact hps)⟩
  obtain ⟨hp', hb', g, ey⟩ := HV.out 0 _ hq
  simp only at hp' hb' ey
  subst ey
  obtain rfl : p' = p := by rw [hp0.out] at hp'; exact (Option.some.inj hp').symm
  obtain rfl : b' = b := by rw [hbs.out] at hb'; exact (Option.some.inj hb').symm
  have hd : V = (p', .pointer (some ⟨g, 0, none⟩), b') :: V.drop 1 := by
    cases V with
    | nil => cases hq
    | cons x V => simp at hq; rw [hq]; rfl
  have hst := HS.out
  rw [hd] at hst
  have hpass := pass35 w N sb st oa ob gv sf p' (some ⟨g, 0, none⟩) b' accV actV vV _ _ accs acts _ [] mem cuts hst (by simp) (by omega) (fun e => by
      subst e
      rw [HAL.out]
      exact HG.out.out 0 p' rfl) hsf (fun e1 e2 => by
      subst e1 e2
      obtain ⟨h1, h2⟩ := HG.out.me 0 rfl
      exact ⟨(HJ.out h2).at, HM.out rfl rfl, hml, hcl⟩)
  have hP20 := pass20 w sb _ (hpass.mono (fun e w' h => ⟨h.choose_spec.choose_spec.choose_spec.choose_spec.1, h⟩))
  have HQ0 : Hid (V[0]? = some (p', .pointer (some ⟨g, 0, none⟩), b')) := hq
  have HPP : Hid (b' = false → 0 ≤ p') := fun e => by
    subst e
    exact (HG.out.out 0 p' rfl).1
  clear hpass hst hd hq hp' hb' hsf
  go_upto_region 31 with fail
  rename (∀ (a : Act) (w1 : World), Code.wp Try.prog (tailN 16 (Try.f4.body.getD .skip)) (bodyPost Try.prog Try.f4 (TruePost w0)) a w1 → _) => hK0
  have HK : Hid _ := hK0
  clear hK0
  go_wp2_with fail
  refine hP20.mono ?_
  intro e w' hh
  obtain ⟨actV', vV', rV', sv, rfl, h1, h2, h3⟩ := hh
  have hLb : anyJ [(p', b')] = b' := by simp [anyJ]
  have hact : actK [(p', b')] acts = (if b' then acts else wo p' acts) := by
    have := actK_next [] p' b' acts
    rw [actK_nil] at this
    exact this.symm
  have hacc : AccK [(p', b')] accs (if b' then accs else accs.set p'.toNat nil2) := (AccK.nil accs).next HPP.out
  have HS1 : Hid (St w' N sb st oa ob gv sf accV actV' vV' (if anyJ [(p', b')] then .pointer none else .pointer jo) rV' (if b' then accs else accs.set p'.toNat nil2) (actK [(p', b')] acts) (V.drop 1) [(p', .pointer (some ⟨g, 0, none⟩), sv)]) := by
    rw [Hid, hLb, hact]
    exact h1
  have HC1 : Hid (Ctx w0 w' (Pb N sb st oa ob gv) (.slice a1 xs.length c1) (.slice a2 acts.length c2) v3 (.slice a5 n5 c5) (.slice oo os.length oc) xs acts ps bs os cs) := HC.out.chg h2
  have HB1 : Hid (SafeIn w' (Pb N sb st oa ob gv) (.slice ba ps.length bc) (V.map (·.2.1))) := HB.out.chg h2
  have HSO : Hid (StartsOK w' N sf p' b' mem cuts sv) := h3
  have HLB : Hid (anyJ [(p', b')] = b') := hLb
  have HACC : Hid (AccK [(p', b')] accs (if b' then accs else accs.set p'.toNat nil2)) := hacc
  clear h1 h2 h3 hP20 hLb hact hacc
  go_wp2_with fail
  refine HK.out _ _ ?_
  exact law4_t16 w0 w' (Pb N sb st oa ob gv) N sb st oa ob gv g sf p' jo j b' accV actV' vV' rV' sv accs _ V [(p', b')] a1 a2 a5 a7 a8 oo ba c1 c2 n5 c5 c7 c8 oc bc v3 xs acts ps mem cuts bs os cs _ _ _ _ _ _ _ _ _ _ _ _ _ _ _ _ _ _ _ _ _ _ _ _ _ _ _ _ _ _ _ _ _ _ _ _ _ _ _ _ _ _ _ _ _ _ _ _ _ _ _ _ _ _ _ _ _ _ _ _ _ _ _ _ _ _ _ _ _ _ _ _ _ _ _ _ _ _ _ _ _ _ _ _ _ _ _ _ _ _ _ _ _ _ _ _ _ _ _ _ _ _ _ _ _ _ _ _ _ _ _ _ _ _ _ _ _ _ _ _ _ _ _ _ _ _ _ _ _ _ _ _ _ _ _ _ _ _ _ _ _ _ _ _ _ _ _ _ _ _ _ _ _ _ _ _ _ _ _ _ _ _ _ _ _ _ _ _ _ _ _ _ _ _ _ _ _ _ _ _ _ _ _ _ _ _ _ _ _ _ _ _ _ _ _ _ _ _ _ _ _ _ _ _ _ _ _ _ _ _ _ _ _ _ _ _ _ _ _ _ _ _ _ _ _ _ _ _ _ _ _ _ _ _ _ _ _ _ _ _ _ _ _ _ _ _ _ _ _ _ _ _ _ _ _ _ _ _ _ _ _ _ _ _ _ _ _ _ _ _ _ _ _ _ _ _ _ _ _ _ _ _ _ _ _ _ _ _ _ HC1 I7 I8 HB1 HS1 HSO HM HQ0 HV HVL HACC HAO HAL HO HI HG hbs HLB hps hpl hxl hal hml _ rfl

set_option maxHeartbeats 2000000 in
theorem law4_t13 (w0 w : World) (N sb st : Nat) (oa ob : Option Nat) (gv gb : Nat) (sf p : Int) (jo : Option Addr) (j b : Bool) (accV actV vV : Value) (accs : List (Value × Value)) (V : List (Int × Value × Bool)) (a1 a2 a5 a7 a8 oo : Option Addr) (c1 c2 n5 c5 c7 c8 oc : Nat) (v3 : Value) (xs : List (Value × List Value)) (acts ps mem cuts : List Int) (bs os : List Bool) (cs : List Value) (t3 t4 t6 t9 t10 t11 t12 t13 t14 t15 t16 t17 t18 t22 t23 t27 t28 t29 t30 t31 t32 t33 t34 t35 t36 t37 t38 t39 t40 t41 t42 t43 t44 t45 t46 t47 t48 t49 t50 t51 t52 t53 t54 t55 t56 t57 t58 t59 t60 t61 t62 t63 t64 t65 t66 t67 t68 t69 t70 t71 t72 t73 t74 t75 t76 t77 t78 t79 t80 t81 t82 t83 t84 t85 t86 t87 t88 t89 t90 t91 t92 t93 t94 t95 t96 t97 t98 t99 t100 t101 t102 t103 t104 t105 t106 t107 t108 t109 t110 t111 t112 t113 t114 t115 t116 t117 t118 t119 t120 t121 t122 t123 t124 t125 t126 t127 t128 t129 t130 t131 t132 t133 t134 t135 t136 t137 t138 t139 t140 t141 t142 t143 t144 t145 t146 t147 t148 t149 t150 t151 t152 t153 t154 t155 t156 t157 t158 t159 t160 t161 t162 t163 t164 t165 t166 t167 t168 t169 t170 t171 t172 t173 t174 t175 t176 t177 t178 t179 t180 t181 t182 t183 t184 t185 t186 t187 t188 t189 t190 t191 t192 t193 t194 t195 t196 t197 t198 t199 t200 t201 t202 t203 t204 t205 t206 t207 t208 t209 t210 t211 t212 t213 t214 t215 t216 t217 t218 t219 t220 t221 t222 t223 t224 t225 t226 t227 t228 t229 t230 t231 t232 t233 t234 t235 t236 t237 t238 t239 t240 t241 t242 t243 t244 t245 t246 t247 t248 t249 t250 t251 t252 t253 t254 t255 t256 t257 t258 t259 t260 t261 t262 t263 t264 t265 t266 t267 t268 t269 t270 t271 t272 t273 t274 t275 t276 t277 t278 t279 t280 t281 t282 t283 t284 t285 t286 t287 t288 t289 t290 t291 t292 t293 t294 t295 t296 t297 t298 t299 t300 t301 : Value)
    (HC : Hid (Ctx w0 w (fun q => Pb N sb st oa ob gv q ∨ q = gb) (.slice a1 xs.length c1) (.slice a2 acts.length c2) v3 (.slice a5 n5 c5) (.slice oo os.length oc) xs acts ps bs os cs)) (I7 : Hid (InV w0 (.slice a7 mem.length c7) (mem.map (Value.int .i64)))) (I8 : Hid (InV w0 (.slice a8 cuts.length c8) (cuts.map (Value.int .u64)))) (HB : Hid (RowV w gb 45 1 ps.length (List.replicate ps.length (.pointer none)))) (hgb : Hid (¬ Pb N sb st oa ob gv gb)) (HS : Hid (St w N sb st oa ob gv sf accV actV vV (.pointer jo) (.slice none 0 0) accs acts V [])) (HV : Hid (ViewsOK ps bs V)) (HVL : Hid (V.length = ps.length)) (HAO : Hid (AccOK cs accs)) (HAL : Hid (accs.length = xs.length)) (HO : Hid (OutOK os [(p, b)] xs.length)) (HI : Hid (HoldInts xs)) (HG : Hid (Good sf xs.length j [(p, b)])) (HJ : Hid (j = true → JoinSafe w (fun q => Pb N sb st oa ob gv q ∨ q = gb) (.pointer jo) mem cuts)) (HM : Hid (b = true → p = sf → ∀ m ∈ mem, 0 ≤ m ∧ m < (cuts.length : Int))) (hp0 : Hid (ps[0]? = some p)) (hbs : Hid (bs[0]? = some b)) (hps : 0 < ps.length) (hsf : -9223372036854775808 ≤ sf ∧ sf ≤ 9223372036854775807) (hxl : xs.length ≤ 65536) (hal : acts.length ≤ 131072) (hpl : ps.length ≤ 131072) (hml : mem.length ≤ 131072) (hcl : cuts.length ≤ 131072) (T : Code) (hT : T = tailN 13 (Try.f4.body.getD .skip)) :
    Code.wp Try.prog T (bodyPost Try.prog Try.f4 (TruePost w0)) ⟨#[.int .i64 sf, .slice a1 xs.length c1, .slice a2 acts.length c2, t3, t4, .slice a5 n5 c5, t6, .slice a7 mem.length c7, .slice a8 cuts.length c8, t9, t10, t11, t12, t13, t14, t15, t16, t17, t18, .int .i64 (ps.length : Int), .int .i64 p, .bool (b && decide (p = sf)), t22, t23, .slice oo os.length oc, .pointer (some ⟨sb, 0, none⟩), .slice (some ⟨gb, 0, none⟩) ps.length ps.length, t27, t28, t29, t30, t31, t32, t33, t34, t35, t36, t37, t38, t39, t40, t41, t42, t43, t44, t45, t46, t47, t48, t49, t50, t51, t52, t53, t54, t55, t56, t57, t58, t59, t60, t61, t62, t63, t64, t65, t66, t67, t68, t69, t70, t71, t72, t73, t74, t75, t76, t77, t78, t79, t80, t81, t82, t83, t84, t85, t86, t87, t88, t89, t90, t91, t92, t93, t94, t95, t96, t97, t98, t99, t100, t101, t102, t103, t104, t105, t106, t107, t108, t109, t110, t111, t112, t113, t114, t115, t116, t117, t118, t119, t120, t121, t122, t123, t124, t125, t126, t127, t128, t129, t130, t131, t132, t133, t134, t135, t136, t137, t138, t139, t140, t141, t142, t143, t144, t145, t146, t147, t148, t149, t150, t151, t152, t153, t154, t155, t156, t157, t158, t159, t160, t161, t162, t163, t164, t165, t166, t167, t168, t169, t170, t171, t172, t173, t174, t175, t176, t177, t178, t179, t180, t181, t182, t183, t184, t185, t186, t187, t188, t189, t190, t191, t192, t193, t194, t195, t196, t197, t198, t199, t200, t201, t202, t203, t204, t205, t206, t207, t208, t209, t210, t211, t212, t213, t214, t215, t216, t217, t218, t219, t220, t221, t222, t223, t224, t225, t226, t227, t228, t229, t230, t231, t232, t233, t234, t235, t236, t237, t238, t239, t240, t241, t242, t243, t244, t245, t246, t247, t248, t249, t250, t251, t252, t253, t254, t255, t256, t257, t258, t259, t260, t261, t262, t263, t264, t265, t266, t267, t268, t269, t270, t271, t272, t273, t274, t275, t276, t277, t278, t279, t280, t281, t282, t283, t284, t285, t286, t287, t288, t289, t290, t291, t292, t293, t294, t295, t296, t297, t298, t299, t300, t301], []⟩ w := by
  dsimp only [Try.f4, Option.getD_some, tailN] at hT
  subst hT
  dsimp only
  have HSF : Hid (-9223372036854775808 ≤ sf ∧ sf ≤ 9223372036854775807) := hsf
  clear hsf
  go_wp2_with fail
  go_loopw [27] (fun i wr => ∃ (k : Nat), k ≤ ps.length ∧ i = .int .i64 k ∧ RowV wr gb 45 1 ps.length ((V.take k).map (·.2.1) ++ List.replicate (ps.length - k) (.pointer none)) ∧ Chg w wr (fun q => q = gb)) (fun i _ => ps.length - (intOf i).toNat)
  case atStart => exact ⟨0, Nat.zero_le _, rfl, HB.out, Chg.refl _ _⟩
  case round =>
    obtain ⟨k, hk, rfl, hrow, hchg⟩ := hrel
    have HROW : Hid (RowV wr gb 45 1 ps.length ((V.take k).map (·.2.1) ++ List.replicate (ps.length - k) (.pointer none))) := hrow
    have HCH : Hid (Chg w wr (fun q => q = gb)) := hchg
    have HSr : Hid (St wr N sb st oa ob gv sf accV actV vV (.pointer jo) (.slice none 0 0) accs acts V []) := HS.out.aside hgb.out hchg
    clear hrow hchg
    by_cases hlt : k < ps.length
    · have hltI : (k : Int) < (ps.length : Int) := by omega
      have hkV : k < V.length := by rw [HVL.out]; exact hlt
      obtain ⟨⟨p, y, b⟩, hq⟩ : ∃ q, V[k]? = some q := ⟨_, List.getElem?_eq_getElem hkV⟩
      obtain ⟨hp, hb, g, ey⟩ := HV.out k _ hq
      simp only at hp hb ey
      subst ey
      have g18 := get18 HSr.out k _ hq
      have hlen : ((V.take k).map (·.2.1)).length = k := by simp; omega
      have cz : wr.cell? ⟨gb, k, none⟩ = some (.pointer none) := by
        refine HROW.out.cell ?_
        rw [List.getElem?_append_right (by rw [hlen]; exact Nat.le_refl _), hlen, Nat.sub_self, List.getElem?_replicate, if_pos (by omega)]
      have cF := HROW.out.frozen k
      have HN : Hid (RowV (wr.setCell ⟨gb, k, none⟩ (.pointer (some ⟨g, 0, none⟩))) gb 45 1 ps.length ((V.take (k + 1)).map (·.2.1) ++ List.replicate (ps.length - (k + 1)) (.pointer none))) := by
        have h1 := HROW.out.set k (.pointer (some ⟨g, 0, none⟩)) (by simp; omega)
        rw [fill_nextV (Y := []) hlen hlt] at h1
        have e1 : (V.take (k + 1)).map (·.2.1) = (V.take k).map (·.2.1) ++ [.pointer (some ⟨g, 0, none⟩)] := by
          rw [List.take_add_one, hq]
          simp
        rw [e1]
        exact h1
      clear hp hb hq hlen
      go_wp2_with fail
      refine g18.mono ?_
      rintro e w' ⟨rfl, rfl⟩
      clear g18
      go_wp2
      go_roundw
      case rel => exact ⟨k + 1, by omega, by go_num, HN.out, HCH.out.trans (Chg.set _ _ rfl)⟩
      case measure => simp [intOf]; omega
    · obtain rfl : k = ps.length := by omega
      have hltI : ¬ (ps.length : Int) < (ps.length : Int) := by omega
      have g19 := get19 HSr.out
      go_wp2_with fail
      refine g19.mono ?_
      rintro e w' ⟨rfl, rfl⟩
      clear g19
      rename (∀ (a : Act) (w1 : World), Code.wp Try.prog (tailN 15 (Try.f4.body.getD .skip)) (bodyPost Try.prog Try.f4 (TruePost w0)) a w1 → _) => hK0
      have HK : Hid _ := hK0
      clear hK0
      go_wp2_with fail
      refine HK.out _ _ ?_
      have e1 : V.take ps.length = V := List.take_of_length_le (by rw [HVL.out]; exact Nat.le_refl _)
      have hrow := HROW.out
      rw [e1, Nat.sub_self, List.replicate_zero, List.append_nil] at hrow
      have hC2 : Chg w w' (fun q => Pb N sb st oa ob gv q ∨ q = gb) := HCH.out.mono (fun q h => Or.inr h)
      have hbf : SafeIn w' (Pb N sb st oa ob gv) (.slice (some ⟨gb, 0, none⟩) ps.length ps.length) (V.map (·.2.1)) := by
        refine ⟨Or.inr ⟨⟨gb, 0, none⟩, ps.length, by rw [List.length_map, HVL.out], by rw [List.length_map, HVL.out]; exact Nat.le_refl _, hrow.src⟩, fun _ g hg hq => ?_⟩
        have : gb = g := by simpa [blkOf] using hg
        exact hgb.out (this ▸ hq)
      exact law4_t15 w0 w' N sb st oa ob gv sf p jo j b accV actV vV accs V a1 a2 a5 a7 a8 oo (some ⟨gb, 0, none⟩) c1 c2 n5 c5 c7 c8 oc ps.length v3 xs acts ps mem cuts bs os cs _ _ _ _ _ _ _ _ _ _ _ _ _ _ _ _ _ _ _ _ _ _ _ _ _ _ _ _ _ _ _ _ _ _ _ _ _ _ _ _ _ _ _ _ _ _ _ _ _ _ _ _ _ _ _ _ _ _ _ _ _ _ _ _ _ _ _ _ _ _ _ _ _ _ _ _ _ _ _ _ _ _ _ _ _ _ _ _ _ _ _ _ _ _ _ _ _ _ _ _ _ _ _ _ _ _ _ _ _ _ _ _ _ _ _ _ _ _ _ _ _ _ _ _ _ _ _ _ _ _ _ _ _ _ _ _ _ _ _ _ _ _ _ _ _ _ _ _ _ _ _ _ _ _ _ _ _ _ _ _ _ _ _ _ _ _ _ _ _ _ _ _ _ _ _ _ _ _ _ _ _ _ _ _ _ _ _ _ _ _ _ _ _ _ _ _ _ _ _ _ _ _ _ _ _ _ _ _ _ _ _ _ _ _ _ _ _ _ _ _ _ _ _ _ _ _ _ _ _ _ _ _ _ _ _ _ _ _ _ _ _ _ _ _ _ _ _ _ _ _ _ _ _ _ _ _ _ _ _ _ _ _ _ _ _ _ _ _ _ _ _ _ _ _ _ _ _ _ _ _ _ _ _ _ _ _ _ _ _ ((HC.out.chg hC2).mono (fun q h => Or.inl h)) I7 I8 hbf HSr HV HVL HAO HAL HO HI HG (fun e => ((HJ.out e).chg hC2).mono (fun q h => Or.inl h)) HM hp0 hbs hps HSF.out hxl hal hpl hml hcl _ rfl

end Go.Proofs.Qxb6616962a

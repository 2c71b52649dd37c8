import Derived.Test.Qxb6616962aL5
import Derived.Test.Qxb6616962aD6
/-! The law (4): the join and the active members. -/
namespace Go.Proofs.Qxb6616962a
open Go.RowKit
set_option linter.unusedVariables false
set_option linter.unusedSimpArgs false
set_option maxRecDepth 8000

theorem addr_add0 (a : Addr) : a.add 0 = a := by
  unfold Addr.add
  simp

set_option maxHeartbeats 8000000 in
theorem law4_t21 (w0 w : World) (P : Nat → Prop) (N sb st : Nat) (oa ob : Option Nat) (gv : Nat) (sf : Int) (jo : Option Addr) (j b : Bool) (accV actV vV rV : Value) (accs accs' : List (Value × Value)) (vs : List (Int × Value × Bool)) (rs : List (Int × Value × Value)) (L : List (Int × Bool)) (a1 a2 a5 oo : Option Addr) (c1 c2 n5 c5 oc : Nat) (v3 : Value) (xs : List (Value × List Value)) (acts ps : List Int) (bs os : List Bool) (cs : List Value) (t0 t3 t4 t6 t7 t8 t9 t10 t11 t12 t13 t14 t15 t16 t17 t18 t19 t20 t21 t22 t23 t26 t27 t29 t30 t31 t32 t33 t34 t35 t36 t37 t38 t39 t40 t41 t42 t43 t44 t45 t46 t47 t48 t49 t50 t51 t52 t53 t54 t55 t56 t57 t58 t59 t60 t61 t62 t63 t64 t65 t66 t67 t68 t69 t70 t71 t72 t73 t74 t75 t76 t77 t78 t79 t80 t81 t82 t83 t84 t85 t86 t87 t88 t89 t90 t91 t92 t93 t94 t95 t96 t97 t98 t99 t100 t101 t102 t103 t104 t105 t106 t107 t108 t109 t110 t111 t112 t113 t114 t115 t116 t117 t118 t119 t120 t121 t122 t123 t124 t125 t126 t127 t128 t129 t130 t131 t132 t133 t134 t135 t136 t137 t138 t139 t140 t141 t142 t143 t144 t145 t146 t147 t148 t149 t150 t151 t152 t153 t154 t155 t156 t157 t158 t159 t160 t161 t162 t163 t164 t165 t166 t167 t168 t169 t170 t171 t172 t173 t174 t175 t176 t177 t178 t179 t180 t181 t182 t183 t184 t185 t186 t187 t188 t189 t190 t191 t192 t193 t194 t195 t196 t197 t198 t199 t200 t201 t202 t203 t204 t205 t206 t207 t208 t209 t210 t211 t212 t213 t214 t215 t216 t217 t218 t219 t220 t221 t222 t223 t224 t225 t226 t227 t228 t229 t230 t231 t232 t233 t234 t235 t236 t237 t238 t239 t240 t241 t242 t243 t244 t245 t246 t247 t248 t249 t250 t251 t252 t253 t254 t255 t256 t257 t258 t259 t260 t261 t262 t263 t264 t265 t266 t267 t268 t269 t270 t271 t272 t273 t274 t275 t276 t277 t278 t279 t280 t281 t282 t283 t284 t285 t286 t287 t288 t289 t290 t291 t292 t293 t294 t295 t296 t297 t298 t299 t300 t301 : Value)
    (HC : Hid (Ctx w0 w P (.slice a1 xs.length c1) (.slice a2 acts.length c2) v3 (.slice a5 n5 c5) (.slice oo os.length oc) xs acts ps bs os cs)) (HS : Hid (St w N sb st oa ob gv sf accV actV vV (if anyJ L then .pointer none else .pointer jo) rV accs' (actK L acts) vs rs)) (HA : Hid (AccK L accs accs')) (HAO : Hid (AccOK cs accs)) (HAL : Hid (accs.length = xs.length)) (HO : Hid (OutOK os L xs.length)) (HI : Hid (HoldInts xs)) (HG : Hid (Good sf xs.length j L)) (hbs : bs[0]? = some b) (hLb : Hid (anyJ L = b)) (hxl : xs.length ≤ 65536) (hal : acts.length ≤ 131072) (T : Code) (hT : T = tailN 21 (Try.f4.body.getD .skip)) :
    Code.wp Try.prog T (bodyPost Try.prog Try.f4 (TruePost w0)) ⟨#[t0, .slice a1 xs.length c1, .slice a2 acts.length c2, t3, t4, .slice a5 n5 c5, t6, t7, t8, t9, t10, t11, t12, t13, t14, t15, t16, t17, t18, t19, t20, t21, t22, t23, .slice oo os.length oc, .pointer (some ⟨sb, 0, none⟩), t26, t27, .pointer jo, t29, t30, t31, t32, t33, t34, t35, t36, t37, t38, t39, t40, t41, t42, t43, t44, t45, t46, t47, t48, t49, t50, t51, t52, t53, t54, t55, t56, t57, t58, t59, t60, t61, t62, t63, t64, t65, t66, t67, t68, t69, t70, t71, t72, t73, t74, t75, t76, t77, t78, t79, t80, t81, t82, t83, t84, t85, t86, t87, t88, t89, t90, t91, t92, t93, t94, t95, t96, t97, t98, t99, t100, t101, t102, t103, t104, t105, t106, t107, t108, t109, t110, t111, t112, t113, t114, t115, t116, t117, t118, t119, t120, t121, t122, t123, t124, t125, t126, t127, t128, t129, t130, t131, t132, t133, t134, t135, t136, t137, t138, t139, t140, t141, t142, t143, t144, t145, t146, t147, t148, t149, t150, t151, t152, t153, t154, t155, t156, t157, t158, t159, t160, t161, t162, t163, t164, t165, t166, t167, t168, t169, t170, t171, t172, t173, t174, t175, t176, t177, t178, t179, t180, t181, t182, t183, t184, t185, t186, t187, t188, t189, t190, t191, t192, t193, t194, t195, t196, t197, t198, t199, t200, t201, t202, t203, t204, t205, t206, t207, t208, t209, t210, t211, t212, t213, t214, t215, t216, t217, t218, t219, t220, t221, t222, t223, t224, t225, t226, t227, t228, t229, t230, t231, t232, t233, t234, t235, t236, t237, t238, t239, t240, t241, t242, t243, t244, t245, t246, t247, t248, t249, t250, t251, t252, t253, t254, t255, t256, t257, t258, t259, t260, t261, t262, t263, t264, t265, t266, t267, t268, t269, t270, t271, t272, t273, t274, t275, t276, t277, t278, t279, t280, t281, t282, t283, t284, t285, t286, t287, t288, t289, t290, t291, t292, t293, t294, t295, t296, t297, t298, t299, t300, t301], []⟩ w := by
  dsimp only [Try.f4, Option.getD_some, tailN] at hT
  subst hT
  dsimp only
  have g19 := get19 HS.out
  have g29 := get29 HS.out
  have qN := fun (w : World) => neqPtr Try.underlying47 (by kernel_rfl) w none
  have qJ := fun (w : World) => neqPtr Try.underlying47 (by kernel_rfl) w jo
  have hact := HS.out.act
  have hL : Hid (left os acts = actK L acts) := left_actK HO.out HG.out acts
  obtain ⟨av, ac, rfl, -, -⟩ := hact.len
  rw [List.length_map, ← hL.out] at g29
  have hfilt := filt28 av a2 oo ac c2 oc acts os w (by rw [hL.out]; rw [List.length_map] at hact; exact hact.inV) HC.out.act.1 HC.out.out.1 (by omega)
  clear hact
  have HFI : Hid (Calls Try.prog 28 #[.slice av (left os acts).length ac, .slice a2 acts.length c2, .slice oo os.length oc] w (fun e w' => e = .returned (.bool true) ∧ w' = w)) := hfilt
  clear hfilt
  obtain ⟨ad5, rfl, x5, e5, l5⟩ := HC.out.jns.1.at (k := 0) (x := .bool b) (by rw [List.getElem?_map, hbs]; rfl)
  have x5' : w.cell? ad5 = some (.bool b) := by rw [addr_add0] at x5; exact x5
  have h5I : (0 : Int) < (n5 : Int) := by
    have := (List.getElem?_eq_some_iff.1 hbs).1
    rw [e5, List.length_map]
    omega
  rw [hLb.out] at g19
  clear e5 hbs
  cases b with
  | true =>
    simp only [if_true] at g19
    go_wp2_with fail
    refine g19.mono ?_
    rintro e w' ⟨rfl, rfl⟩
    clear g19
    go_wp2_with fail
    refine g29.mono ?_
    rintro e w' ⟨rfl, rfl⟩
    clear g29
    go_wp2_with fail
    refine HFI.out.mono ?_
    rintro e w' ⟨rfl, rfl⟩
    rename (∀ (a : Act) (w1 : World), Code.wp Try.prog (tailN 23 (Try.f4.body.getD .skip)) (bodyPost Try.prog Try.f4 (TruePost w0)) a w1 → _) => hK0
    have HK : Hid _ := hK0
    clear hK0
    go_wp2_with fail
    refine HK.out _ _ ?_
    exact law4_t23 w0 w' P N sb st oa ob gv sf accV _ vV _ rV accs accs' (actK L acts) vs rs L a1 oo c1 oc (.slice a2 acts.length c2) v3 (.slice (some ad5) n5 c5) xs acts ps bs os cs _ _ _ _ _ _ _ _ _ _ _ _ _ _ _ _ _ _ _ _ _ _ _ _ _ _ _ _ _ _ _ _ _ _ _ _ _ _ _ _ _ _ _ _ _ _ _ _ _ _ _ _ _ _ _ _ _ _ _ _ _ _ _ _ _ _ _ _ _ _ _ _ _ _ _ _ _ _ _ _ _ _ _ _ _ _ _ _ _ _ _ _ _ _ _ _ _ _ _ _ _ _ _ _ _ _ _ _ _ _ _ _ _ _ _ _ _ _ _ _ _ _ _ _ _ _ _ _ _ _ _ _ _ _ _ _ _ _ _ _ _ _ _ _ _ _ _ _ _ _ _ _ _ _ _ _ _ _ _ _ _ _ _ _ _ _ _ _ _ _ _ _ _ _ _ _ _ _ _ _ _ _ _ _ _ _ _ _ _ _ _ _ _ _ _ _ _ _ _ _ _ _ _ _ _ _ _ _ _ _ _ _ _ _ _ _ _ _ _ _ _ _ _ _ _ _ _ _ _ _ _ _ _ _ _ _ _ _ _ _ _ _ _ _ _ _ _ _ _ _ _ _ _ _ _ _ _ _ _ _ _ _ _ _ _ _ _ _ _ _ _ _ _ _ _ _ _ _ _ _ _ _ _ _ _ _ _ _ _ _ _ _ _ _ _ _ _ _ _ HC HS HA HAO HAL HO HI hxl _ rfl
  | false =>
    simp only [Bool.false_eq_true, if_false] at g19
    go_wp2_with fail
    refine g19.mono ?_
    rintro e w' ⟨rfl, rfl⟩
    clear g19
    go_wp2_with fail
    refine g29.mono ?_
    rintro e w' ⟨rfl, rfl⟩
    clear g29
    go_wp2_with fail
    refine HFI.out.mono ?_
    rintro e w' ⟨rfl, rfl⟩
    rename (∀ (a : Act) (w1 : World), Code.wp Try.prog (tailN 23 (Try.f4.body.getD .skip)) (bodyPost Try.prog Try.f4 (TruePost w0)) a w1 → _) => hK0
    have HK : Hid _ := hK0
    clear hK0
    go_wp2_with fail
    refine HK.out _ _ ?_
    exact law4_t23 w0 w' P N sb st oa ob gv sf accV _ vV _ rV accs accs' (actK L acts) vs rs L a1 oo c1 oc (.slice a2 acts.length c2) v3 (.slice (some ad5) n5 c5) xs acts ps bs os cs _ _ _ _ _ _ _ _ _ _ _ _ _ _ _ _ _ _ _ _ _ _ _ _ _ _ _ _ _ _ _ _ _ _ _ _ _ _ _ _ _ _ _ _ _ _ _ _ _ _ _ _ _ _ _ _ _ _ _ _ _ _ _ _ _ _ _ _ _ _ _ _ _ _ _ _ _ _ _ _ _ _ _ _ _ _ _ _ _ _ _ _ _ _ _ _ _ _ _ _ _ _ _ _ _ _ _ _ _ _ _ _ _ _ _ _ _ _ _ _ _ _ _ _ _ _ _ _ _ _ _ _ _ _ _ _ _ _ _ _ _ _ _ _ _ _ _ _ _ _ _ _ _ _ _ _ _ _ _ _ _ _ _ _ _ _ _ _ _ _ _ _ _ _ _ _ _ _ _ _ _ _ _ _ _ _ _ _ _ _ _ _ _ _ _ _ _ _ _ _ _ _ _ _ _ _ _ _ _ _ _ _ _ _ _ _ _ _ _ _ _ _ _ _ _ _ _ _ _ _ _ _ _ _ _ _ _ _ _ _ _ _ _ _ _ _ _ _ _ _ _ _ _ _ _ _ _ _ _ _ _ _ _ _ _ _ _ _ _ _ _ _ _ _ _ _ _ _ _ _ _ _ _ _ _ _ _ _ _ _ _ _ _ _ _ _ _ _ _ HC HS HA HAO HAL HO HI hxl _ rfl

end Go.Proofs.Qxb6616962a

import Derived.Test.Qxb6616962aD5
/-! The law (4): the views that still wait. -/
namespace Go.Proofs.Qxb6616962a
open Go.RowKit
set_option linter.unusedVariables false
set_option linter.unusedSimpArgs false
set_option maxRecDepth 8000

set_option maxHeartbeats 2000000 in
theorem law4_t19 (w0 w : World) (P : Nat → Prop) (N sb st : Nat) (oa ob : Option Nat) (gv : Nat) (sf : Int) (jo : Option Addr) (j b : Bool) (accV actV vV rV : Value) (accs accs' : List (Value × Value)) (V : List (Int × Value × Bool)) (rs : List (Int × Value × Value)) (L : List (Int × Bool)) (a1 a2 a5 oo ba : Option Addr) (c1 c2 n5 c5 oc bc : Nat) (v3 : Value) (xs : List (Value × List Value)) (acts ps : List Int) (bs os : List Bool) (cs : List Value) (t0 t3 t4 t6 t7 t8 t9 t10 t11 t12 t13 t14 t15 t16 t17 t18 t20 t21 t22 t23 t27 t29 t30 t31 t32 t33 t34 t35 t36 t37 t38 t39 t40 t41 t42 t43 t44 t45 t46 t47 t48 t49 t50 t51 t52 t53 t54 t55 t56 t57 t58 t59 t60 t61 t62 t63 t64 t65 t66 t67 t68 t69 t70 t71 t72 t73 t74 t75 t76 t77 t78 t79 t80 t81 t82 t83 t84 t85 t86 t87 t88 t89 t90 t91 t92 t93 t94 t95 t96 t97 t98 t99 t100 t101 t102 t103 t104 t105 t106 t107 t108 t109 t110 t111 t112 t113 t114 t115 t116 t117 t118 t119 t120 t121 t122 t123 t124 t125 t126 t127 t128 t129 t130 t131 t132 t133 t134 t135 t136 t137 t138 t139 t140 t141 t142 t143 t144 t145 t146 t147 t148 t149 t150 t151 t152 t153 t154 t155 t156 t157 t158 t159 t160 t161 t162 t163 t164 t165 t166 t167 t168 t169 t170 t171 t172 t173 t174 t175 t176 t177 t178 t179 t180 t181 t182 t183 t184 t185 t186 t187 t188 t189 t190 t191 t192 t193 t194 t195 t196 t197 t198 t199 t200 t201 t202 t203 t204 t205 t206 t207 t208 t209 t210 t211 t212 t213 t214 t215 t216 t217 t218 t219 t220 t221 t222 t223 t224 t225 t226 t227 t228 t229 t230 t231 t232 t233 t234 t235 t236 t237 t238 t239 t240 t241 t242 t243 t244 t245 t246 t247 t248 t249 t250 t251 t252 t253 t254 t255 t256 t257 t258 t259 t260 t261 t262 t263 t264 t265 t266 t267 t268 t269 t270 t271 t272 t273 t274 t275 t276 t277 t278 t279 t280 t281 t282 t283 t284 t285 t286 t287 t288 t289 t290 t291 t292 t293 t294 t295 t296 t297 t298 t299 t300 t301 : Value)
    (HC : Hid (Ctx w0 w P (.slice a1 xs.length c1) (.slice a2 acts.length c2) v3 (.slice a5 n5 c5) (.slice oo os.length oc) xs acts ps bs os cs)) (HB : Hid (SafeIn w P (.slice ba ps.length bc) (V.map (·.2.1)))) (HS : Hid (St w N sb st oa ob gv sf accV actV vV (if anyJ L then .pointer none else .pointer jo) rV accs' (actK L acts) (V.drop 1) rs)) (HV : Hid (ViewsOK ps bs V)) (HVL : Hid (V.length = ps.length)) (HA : Hid (AccK L accs accs')) (HAO : Hid (AccOK cs accs)) (HAL : Hid (accs.length = xs.length)) (HO : Hid (OutOK os L xs.length)) (HI : Hid (HoldInts xs)) (HG : Hid (Good sf xs.length j L)) (hbs : Hid (bs[0]? = some b)) (hLb : Hid (anyJ L = b)) (hps : 0 < ps.length) (hpl : ps.length ≤ 131072) (hxl : xs.length ≤ 65536) (hal : acts.length ≤ 131072) (T : Code) (hT : T = tailN 19 (Try.f4.body.getD .skip)) :
    Code.wp Try.prog T (bodyPost Try.prog Try.f4 (TruePost w0)) ⟨#[t0, .slice a1 xs.length c1, .slice a2 acts.length c2, t3, t4, .slice a5 n5 c5, t6, t7, t8, t9, t10, t11, t12, t13, t14, t15, t16, t17, t18, .int .i64 (ps.length : Int), t20, t21, t22, t23, .slice oo os.length oc, .pointer (some ⟨sb, 0, none⟩), .slice ba ps.length bc, t27, .pointer jo, t29, t30, t31, t32, t33, t34, t35, t36, t37, t38, t39, t40, t41, t42, t43, t44, t45, t46, t47, t48, t49, t50, t51, t52, t53, t54, t55, t56, t57, t58, t59, t60, t61, t62, t63, t64, t65, t66, t67, t68, t69, t70, t71, t72, t73, t74, t75, t76, t77, t78, t79, t80, t81, t82, t83, t84, t85, t86, t87, t88, t89, t90, t91, t92, t93, t94, t95, t96, t97, t98, t99, t100, t101, t102, t103, t104, t105, t106, t107, t108, t109, t110, t111, t112, t113, t114, t115, t116, t117, t118, t119, t120, t121, t122, t123, t124, t125, t126, t127, t128, t129, t130, t131, t132, t133, t134, t135, t136, t137, t138, t139, t140, t141, t142, t143, t144, t145, t146, t147, t148, t149, t150, t151, t152, t153, t154, t155, t156, t157, t158, t159, t160, t161, t162, t163, t164, t165, t166, t167, t168, t169, t170, t171, t172, t173, t174, t175, t176, t177, t178, t179, t180, t181, t182, t183, t184, t185, t186, t187, t188, t189, t190, t191, t192, t193, t194, t195, t196, t197, t198, t199, t200, t201, t202, t203, t204, t205, t206, t207, t208, t209, t210, t211, t212, t213, t214, t215, t216, t217, t218, t219, t220, t221, t222, t223, t224, t225, t226, t227, t228, t229, t230, t231, t232, t233, t234, t235, t236, t237, t238, t239, t240, t241, t242, t243, t244, t245, t246, t247, t248, t249, t250, t251, t252, t253, t254, t255, t256, t257, t258, t259, t260, t261, t262, t263, t264, t265, t266, t267, t268, t269, t270, t271, t272, t273, t274, t275, t276, t277, t278, t279, t280, t281, t282, t283, t284, t285, t286, t287, t288, t289, t290, t291, t292, t293, t294, t295, t296, t297, t298, t299, t300, t301], []⟩ w := by
  dsimp only [Try.f4, Option.getD_some, tailN] at hT
  subst hT
  dsimp only
  have g27 := get27 HS.out
  have e27 : (((V.drop 1).length : Nat) : Int) = (ps.length : Int) - 1 := by
    rw [List.length_drop, HVL.out]
    omega
  rw [e27] at g27
  clear e27
  go_wp2_with fail
  refine g27.mono ?_
  rintro e w' ⟨rfl, rfl⟩
  clear g27
  go_wp2_with fail
  rename (∀ (a : Act) (w1 : World), Code.wp Try.prog (tailN 21 (Try.f4.body.getD .skip)) (bodyPost Try.prog Try.f4 (TruePost w0)) a w1 → _) => hK0
  have HK : Hid _ := hK0
  clear hK0
  go_loopw [32] (fun i wr => ∃ m : Nat, 1 ≤ m ∧ m ≤ ps.length ∧ i = .int .i64 (m : Int) ∧ SameW w' wr) (fun i _ => ps.length - (intOf i).toNat)
  case atStart => exact ⟨1, by omega, by omega, rfl, SameW.refl _⟩
  case round =>
    obtain ⟨m, hm1, hm, rfl, hs⟩ := hrel
    have HW : Hid (SameW w' wr) := hs
    have HCr : Hid (Ctx w0 wr P (.slice a1 xs.length c1) (.slice a2 acts.length c2) v3 (.slice a5 n5 c5) (.slice oo os.length oc) xs acts ps bs os cs) := HC.out.chg (hs.chg P)
    have HBr : Hid (SafeIn wr P (.slice ba ps.length bc) (V.map (·.2.1))) := HB.out.chg (hs.chg P)
    have HSr : Hid (St wr N sb st oa ob gv sf accV actV vV (if anyJ L then .pointer none else .pointer jo) rV accs' (actK L acts) (V.drop 1) rs) := HS.out.frame (by rw [hs.heap]; exact Nat.le_refl _) (fun q _ _ => hs.block q)
    clear hs
    by_cases hlt : m < ps.length
    · have hltI : (m : Int) < (ps.length : Int) := by omega
      obtain ⟨⟨p, y, b'⟩, hq⟩ : ∃ q, V[m]? = some q := ⟨_, List.getElem?_eq_getElem (by rw [HVL.out]; exact hlt)⟩
      obtain ⟨-, -, g, ey⟩ := HV.out m _ hq
      simp only at ey
      subst ey
      have hq2 : (V.drop 1)[m - 1]? = some (p, .pointer (some ⟨g, 0, none⟩), b') := by rw [List.getElem?_drop, show 1 + (m - 1) = m by omega]; exact hq
      obtain ⟨adb, rfl, xb, -, lb⟩ := HBr.out.1.at (k := m) (x := .pointer (some ⟨g, 0, none⟩)) (by rw [List.getElem?_map, hq]; rfl)
      have g18 : ∀ n, Calls Try.prog 18 #[.pointer (some ⟨sb, 0, none⟩), .int .i64 ((m : Int) - 1)] (wr.drewN n) (fun e w2 => e = .returned (.pointer (some ⟨g, 0, none⟩)) ∧ w2 = wr.drewN n) := fun n => by
        have h := get18 (w := wr.drewN n) (HSr.out.frame (Nat.le_refl _) (fun _ _ _ => rfl)) (m - 1) _ hq2
        rw [show ((m - 1 : Nat) : Int) = (m : Int) - 1 by omega] at h
        exact h
      have G18 : Hid _ := g18
      have qY := fun (w : World) => neqPtr Try.underlying45 (by kernel_rfl) w (some ⟨g, 0, none⟩)
      clear hq hq2 g18
      go_wp2_with fail
      go_quiet (first | (go_at_call 18; refine Calls.quiet_of_same (G18.out _)))
      have HWn : Hid (SameW w' (wr.drewN nq)) := HW.out.drewN nq
      clear G18
      go_wp2
      go_roundw
      case rel => exact ⟨m + 1, by omega, by omega, by go_num, HWn.out⟩
      case measure => simp [intOf]; omega
    · have hltI : ¬ (m : Int) < (ps.length : Int) := by omega
      go_wp2_with fail
      refine HK.out _ _ ?_
      exact law4_t21 w0 wr P N sb st oa ob gv sf jo j b accV actV vV rV accs accs' _ rs L a1 a2 a5 oo c1 c2 n5 c5 oc v3 xs acts ps bs os cs _ _ _ _ _ _ _ _ _ _ _ _ _ _ _ _ _ _ _ _ _ _ _ _ _ _ _ _ _ _ _ _ _ _ _ _ _ _ _ _ _ _ _ _ _ _ _ _ _ _ _ _ _ _ _ _ _ _ _ _ _ _ _ _ _ _ _ _ _ _ _ _ _ _ _ _ _ _ _ _ _ _ _ _ _ _ _ _ _ _ _ _ _ _ _ _ _ _ _ _ _ _ _ _ _ _ _ _ _ _ _ _ _ _ _ _ _ _ _ _ _ _ _ _ _ _ _ _ _ _ _ _ _ _ _ _ _ _ _ _ _ _ _ _ _ _ _ _ _ _ _ _ _ _ _ _ _ _ _ _ _ _ _ _ _ _ _ _ _ _ _ _ _ _ _ _ _ _ _ _ _ _ _ _ _ _ _ _ _ _ _ _ _ _ _ _ _ _ _ _ _ _ _ _ _ _ _ _ _ _ _ _ _ _ _ _ _ _ _ _ _ _ _ _ _ _ _ _ _ _ _ _ _ _ _ _ _ _ _ _ _ _ _ _ _ _ _ _ _ _ _ _ _ _ _ _ _ _ _ _ _ _ _ _ _ _ _ _ _ _ _ _ _ _ _ _ _ _ _ _ _ _ _ _ _ _ _ _ _ _ _ _ _ _ _ _ HCr HSr HA HAO HAL HO HI HG hbs.out hLb hxl hal _ rfl

end Go.Proofs.Qxb6616962a

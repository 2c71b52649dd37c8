import Derived.Test.Qxb6616962aL6
/-! The law (4): its last loop. -/
namespace Go.Proofs.Qxb6616962a
open Go.RowKit
set_option linter.unusedVariables false
set_option linter.unusedSimpArgs false
set_option maxRecDepth 8000

set_option maxHeartbeats 8000000 in
theorem law4_t23 (w0 w : World) (P : Nat → Prop) (N sb st : Nat) (oa ob : Option Nat) (gv : Nat) (sf : Int) (accV actV vV jv rV : Value) (accs accs' : List (Value × Value)) (act : List Int) (vs : List (Int × Value × Bool)) (rs : List (Int × Value × Value)) (L : List (Int × Bool)) (a1 oo : Option Addr) (c1 oc : Nat) (v2 v3 v5 : Value) (xs : List (Value × List Value)) (acts ps : List Int) (bs os : List Bool) (cs : List Value) (t0 t2 t3 t4 t5 t6 t7 t8 t9 t10 t11 t12 t13 t14 t15 t16 t17 t18 t19 t20 t21 t22 t23 t26 t27 t28 t29 t30 t31 t32 t33 t34 t35 t36 t37 t38 t39 t40 t41 t42 t43 t44 t45 t46 t47 t48 t49 t50 t51 t52 t53 t54 t55 t56 t57 t58 t59 t60 t61 t62 t63 t64 t65 t66 t67 t68 t69 t70 t71 t72 t73 t74 t75 t76 t77 t78 t79 t80 t81 t82 t83 t84 t85 t86 t87 t88 t89 t90 t91 t92 t93 t94 t95 t96 t97 t98 t99 t100 t101 t102 t103 t104 t105 t106 t107 t108 t109 t110 t111 t112 t113 t114 t115 t116 t117 t118 t119 t120 t121 t122 t123 t124 t125 t126 t127 t128 t129 t130 t131 t132 t133 t134 t135 t136 t137 t138 t139 t140 t141 t142 t143 t144 t145 t146 t147 t148 t149 t150 t151 t152 t153 t154 t155 t156 t157 t158 t159 t160 t161 t162 t163 t164 t165 t166 t167 t168 t169 t170 t171 t172 t173 t174 t175 t176 t177 t178 t179 t180 t181 t182 t183 t184 t185 t186 t187 t188 t189 t190 t191 t192 t193 t194 t195 t196 t197 t198 t199 t200 t201 t202 t203 t204 t205 t206 t207 t208 t209 t210 t211 t212 t213 t214 t215 t216 t217 t218 t219 t220 t221 t222 t223 t224 t225 t226 t227 t228 t229 t230 t231 t232 t233 t234 t235 t236 t237 t238 t239 t240 t241 t242 t243 t244 t245 t246 t247 t248 t249 t250 t251 t252 t253 t254 t255 t256 t257 t258 t259 t260 t261 t262 t263 t264 t265 t266 t267 t268 t269 t270 t271 t272 t273 t274 t275 t276 t277 t278 t279 t280 t281 t282 t283 t284 t285 t286 t287 t288 t289 t290 t291 t292 t293 t294 t295 t296 t297 t298 t299 t300 t301 : Value)
    (HC : Hid (Ctx w0 w P (.slice a1 xs.length c1) v2 v3 v5 (.slice oo os.length oc) xs acts ps bs os cs)) (HS : Hid (St w N sb st oa ob gv sf accV actV vV jv rV accs' act vs rs)) (HA : Hid (AccK L accs accs')) (HAO : Hid (AccOK cs accs)) (HAL : Hid (accs.length = xs.length)) (HO : Hid (OutOK os L xs.length)) (HI : Hid (HoldInts xs)) (hxl : xs.length ≤ 65536) (T : Code) (hT : T = tailN 23 (Try.f4.body.getD .skip)) :
    Code.wp Try.prog T (bodyPost Try.prog Try.f4 (TruePost w0)) ⟨#[t0, .slice a1 xs.length c1, t2, t3, t4, t5, t6, t7, t8, t9, t10, t11, t12, t13, t14, t15, t16, t17, t18, t19, t20, t21, t22, t23, .slice oo os.length oc, .pointer (some ⟨sb, 0, none⟩), t26, t27, t28, t29, t30, t31, t32, t33, t34, t35, t36, t37, t38, t39, t40, t41, t42, t43, t44, t45, t46, t47, t48, t49, t50, t51, t52, t53, t54, t55, t56, t57, t58, t59, t60, t61, t62, t63, t64, t65, t66, t67, t68, t69, t70, t71, t72, t73, t74, t75, t76, t77, t78, t79, t80, t81, t82, t83, t84, t85, t86, t87, t88, t89, t90, t91, t92, t93, t94, t95, t96, t97, t98, t99, t100, t101, t102, t103, t104, t105, t106, t107, t108, t109, t110, t111, t112, t113, t114, t115, t116, t117, t118, t119, t120, t121, t122, t123, t124, t125, t126, t127, t128, t129, t130, t131, t132, t133, t134, t135, t136, t137, t138, t139, t140, t141, t142, t143, t144, t145, t146, t147, t148, t149, t150, t151, t152, t153, t154, t155, t156, t157, t158, t159, t160, t161, t162, t163, t164, t165, t166, t167, t168, t169, t170, t171, t172, t173, t174, t175, t176, t177, t178, t179, t180, t181, t182, t183, t184, t185, t186, t187, t188, t189, t190, t191, t192, t193, t194, t195, t196, t197, t198, t199, t200, t201, t202, t203, t204, t205, t206, t207, t208, t209, t210, t211, t212, t213, t214, t215, t216, t217, t218, t219, t220, t221, t222, t223, t224, t225, t226, t227, t228, t229, t230, t231, t232, t233, t234, t235, t236, t237, t238, t239, t240, t241, t242, t243, t244, t245, t246, t247, t248, t249, t250, t251, t252, t253, t254, t255, t256, t257, t258, t259, t260, t261, t262, t263, t264, t265, t266, t267, t268, t269, t270, t271, t272, t273, t274, t275, t276, t277, t278, t279, t280, t281, t282, t283, t284, t285, t286, t287, t288, t289, t290, t291, t292, t293, t294, t295, t296, t297, t298, t299, t300, t301], []⟩ w := by
  dsimp only [Try.f4, Option.getD_some, tailN] at hT
  subst hT
  dsimp only
  have qT24 := fun (w : World) (a : Option Addr) (n c n' c' : Nat) => neqNil Try.underlying24 w a n c n' c'
  have qT57 := fun (w : World) (a : Option Addr) (n c n' c' : Nat) => neqNil Try.underlying57 w a n c n' c'
  have qE57 := fun (w : World) (a : Option Addr) (n c n' c' : Nat) => Lib.run_eql_slice_nil (P := Try.prog) w 57 _ a n c n' c' Try.underlying57
  go_wp2_with fail
  go_loopw [33] (fun i wr => ∃ k : Nat, k ≤ xs.length ∧ i = .int .i64 k ∧ SameW w wr) (fun i _ => xs.length - (intOf i).toNat)
  case atStart => exact ⟨0, Nat.zero_le _, rfl, SameW.refl _⟩
  case round =>
    obtain ⟨k, hk, rfl, hs⟩ := hrel
    have HW : Hid (SameW w wr) := hs
    have HCr : Hid (Ctx w0 wr P (.slice a1 xs.length c1) v2 v3 v5 (.slice oo os.length oc) xs acts ps bs os cs) := HC.out.chg (hs.chg P)
    have HSr : Hid (St wr N sb st oa ob gv sf accV actV vV jv rV accs' act vs rs) := HS.out.frame (by rw [hs.heap]; exact Nat.le_refl _) (fun q _ _ => hs.block q)
    clear hs
    by_cases hlt : k < xs.length
    · have hltI : (k : Int) < (xs.length : Int) := by omega
      obtain ⟨x, hx⟩ : ∃ x, xs[k]? = some x := ⟨_, List.getElem?_eq_getElem hlt⟩
      obtain ⟨⟨y1, y2⟩, hy⟩ : ∃ y, accs[k]? = some y := ⟨_, List.getElem?_eq_getElem (by rw [HAL.out]; exact hlt)⟩
      have hy' := HA.out.2 k _ hy
      have ho := HO.out.2 k hlt
      obtain ⟨ado, rfl, co, -, lo⟩ := HCr.out.out.1.at (k := k) (x := .bool (outs L (k : Int))) (by rw [List.getElem?_map, ho]; rfl)
      have hoI : (k : Int) < (os.length : Int) := by have := HO.out.1; omega
      cases hb : outs L (k : Int) with
      | true =>
        rw [hb] at co hy'
        have hy2 : accs'[k]? = some (.slice none 0 0, .slice none 0 0) := hy'
        have g30 := get30 HSr.out k _ hy2
        have g31 := get31 HSr.out k _ hy2
        clear hx hy hy' hy2 ho hb
        go_wp2_with fail
        refine g30.mono ?_
        rintro e w' ⟨rfl, rfl⟩
        go_wp2_with fail
        refine g31.mono ?_
        rintro e w' ⟨rfl, rfl⟩
        clear g30 g31
        go_wp2
        go_roundw
        case rel =>
          exact ⟨k + 1, by omega, by go_num, HW.out⟩
        case measure => simp [intOf]; omega
      | false =>
        rw [hb] at co hy'
        have hy2 : accs'[k]? = some (y1, y2) := hy'
        obtain ⟨hcs, va, m, g, ey1, ey2⟩ := HAO.out k _ hy
        simp only at hcs ey1 ey2
        subst ey1 ey2
        obtain ⟨hh1, hh2, va', ev⟩ := HCr.out.hold k _ x hcs hx
        have hmx : m = x.2.length := by simp at ev; exact ev.2
        obtain ⟨us, hus, hul⟩ := HI.out x (List.mem_of_getElem? hx)
        obtain ⟨ad1, rfl, cx, -, l1⟩ := HCr.out.acc.1.at (k := k) (x := x.1) (by rw [List.getElem?_map, hx]; rfl)
        have g30 := get30 HSr.out k _ hy2
        have g31 := get31 HSr.out k _ hy2
        have heq := eq32_any _ x.1 us wr (hus ▸ hh1.1) (hus ▸ (HCr.out.accs x (List.mem_of_getElem? hx)).1) hh2 (by omega)
        obtain ⟨x1a, x1c, ex1⟩ : ∃ x1a x1c, x.1 = .slice x1a x.2.length x1c := by
          obtain ⟨e, e2⟩ | ⟨ad, c, e, _⟩ := (HCr.out.accs x (List.mem_of_getElem? hx)).1
          · exact ⟨none, 0, by rw [e, e2]; rfl⟩
          · exact ⟨some ad, c, e⟩
        rw [ex1] at cx heq
        have hbi : Hid (∀ w', SameW wr w' → w'.cell? (ad1.add k) = some (.slice x1a x.2.length x1c)) := fun w' h => (h.cell _).trans cx
        subst hmx
        clear hx hy hy' hy2 ho hh1 hh2 ev hcs hus hb
        go_wp2_with fail
        refine g30.mono ?_
        rintro e w' ⟨rfl, rfl⟩
        go_wp2_with fail
        refine g31.mono ?_
        rintro e w' ⟨rfl, rfl⟩
        clear g30 g31
        go_wp2_with fail
        refine heq.mono ?_
        rintro e w2 ⟨rfl, hs2⟩
        have HS2 : Hid (SameW w w2) := HW.out.trans hs2
        have cx2 := hbi.out w2 hs2
        clear hs2 heq
        go_wp2
        go_roundw
        case rel =>
          exact ⟨k + 1, by omega, by go_num, HS2.out⟩
        case measure => simp [intOf]; omega
    · have hltI : ¬ (k : Int) < (xs.length : Int) := by omega
      go_wp2
      go_ret
      exact ⟨rfl, HCr.out.below⟩

end Go.Proofs.Qxb6616962a

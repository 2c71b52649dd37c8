import Derived.Test.Qxb6616962aD2
import Derived.Test.Qxb6616962aL1
/-! The law (4): the copies and the holdback. -/
namespace Go.Proofs.Qxb6616962a
open Go.RowKit
set_option linter.unusedVariables false
set_option linter.unusedSimpArgs false
set_option maxRecDepth 8000

set_option maxHeartbeats 8000000 in
theorem law4_t11 (w0 w : World) (sf p : Int) (j b : Bool) (a1 a2 a3 a4 a5 a7 a8 oo : Option Addr) (c1 c2 c3 c4 c5 c7 c8 oc : Nat) (xs : List (Value × List Value)) (acts ps us mem cuts : List Int) (bs os : List Bool) (t9 t10 t11 t12 t13 t14 t15 t16 t17 t18 t22 t23 t25 t26 t27 t28 t29 t30 t31 t32 t33 t34 t35 t36 t37 t38 t39 t40 t41 t42 t43 t44 t45 t46 t47 t48 t49 t50 t51 t52 t53 t54 t55 t56 t57 t58 t59 t60 t61 t62 t63 t64 t65 t66 t67 t68 t69 t70 t71 t72 t73 t74 t75 t76 t77 t78 t79 t80 t81 t82 t83 t84 t85 t86 t87 t88 t89 t90 t91 t92 t93 t94 t95 t96 t97 t98 t99 t100 t101 t102 t103 t104 t105 t106 t107 t108 t109 t110 t111 t112 t113 t114 t115 t116 t117 t118 t119 t120 t121 t122 t123 t124 t125 t126 t127 t128 t129 t130 t131 t132 t133 t134 t135 t136 t137 t138 t139 t140 t141 t142 t143 t144 t145 t146 t147 t148 t149 t150 t151 t152 t153 t154 t155 t156 t157 t158 t159 t160 t161 t162 t163 t164 t165 t166 t167 t168 t169 t170 t171 t172 t173 t174 t175 t176 t177 t178 t179 t180 t181 t182 t183 t184 t185 t186 t187 t188 t189 t190 t191 t192 t193 t194 t195 t196 t197 t198 t199 t200 t201 t202 t203 t204 t205 t206 t207 t208 t209 t210 t211 t212 t213 t214 t215 t216 t217 t218 t219 t220 t221 t222 t223 t224 t225 t226 t227 t228 t229 t230 t231 t232 t233 t234 t235 t236 t237 t238 t239 t240 t241 t242 t243 t244 t245 t246 t247 t248 t249 t250 t251 t252 t253 t254 t255 t256 t257 t258 t259 t260 t261 t262 t263 t264 t265 t266 t267 t268 t269 t270 t271 t272 t273 t274 t275 t276 t277 t278 t279 t280 t281 t282 t283 t284 t285 t286 t287 t288 t289 t290 t291 t292 t293 t294 t295 t296 t297 t298 t299 t300 t301 : Value)
    (HB0 : Hid (Below w0.heap.size w0 w)) (I1 : Hid (InVV w0 (.slice a1 xs.length c1) xs)) (I2 : Hid (InV w0 (.slice a2 acts.length c2) (acts.map (Value.int .i64)))) (I3 : Hid (InV w0 (.slice a3 ps.length c3) (ps.map (Value.int .i64)))) (I4 : Hid (InV w0 (.slice a4 us.length c4) (us.map (Value.int .u64)))) (I5 : Hid (InV w0 (.slice a5 bs.length c5) (bs.map Value.bool))) (I7 : Hid (InV w0 (.slice a7 mem.length c7) (mem.map (Value.int .i64)))) (I8 : Hid (InV w0 (.slice a8 cuts.length c8) (cuts.map (Value.int .u64))))
    (IQ : Hid (InV w (.slice oo os.length oc) (os.map Value.bool))) (IQB : Hid (∀ g, blkOf (.slice oo os.length oc) = some g → g < w.heap.size)) (L4 : Hid (us.length = ps.length)) (L5 : Hid (bs.length = ps.length)) (hps : 0 < ps.length) (HO : Hid (OutOK os [(p, b)] xs.length)) (HI : Hid (HoldInts xs)) (HG : Hid (Good sf xs.length j [(p, b)])) (HM : Hid (b = true → p = sf → ∀ m ∈ mem, 0 ≤ m ∧ m < (cuts.length : Int))) (hp0 : Hid (ps[0]? = some p)) (hbs : Hid (bs[0]? = some b)) (hsf : -9223372036854775808 ≤ sf ∧ sf ≤ 9223372036854775807) (hxl : xs.length ≤ 65536) (hal : acts.length ≤ 131072) (hpl : ps.length ≤ 131072) (hul : us.length ≤ 131072) (hbl : bs.length ≤ 1048576) (hml : mem.length ≤ 131072) (hcl : cuts.length ≤ 131072) (T : Code) (hT : T = tailN 11 (Try.f4.body.getD .skip)) :
    Code.wp Try.prog T (bodyPost Try.prog Try.f4 (TruePost w0)) ⟨#[.int .i64 sf, .slice a1 xs.length c1, .slice a2 acts.length c2, .slice a3 ps.length c3, .slice a4 us.length c4, .slice a5 bs.length c5, .bool j, .slice a7 mem.length c7, .slice a8 cuts.length c8, t9, t10, t11, t12, t13, t14, t15, t16, t17, t18, .int .i64 (ps.length : Int), .int .i64 p, .bool (b && decide (p = sf)), t22, t23, .slice oo os.length oc, t25, t26, t27, t28, t29, t30, t31, t32, t33, t34, t35, t36, t37, t38, t39, t40, t41, t42, t43, t44, t45, t46, t47, t48, t49, t50, t51, t52, t53, t54, t55, t56, t57, t58, t59, t60, t61, t62, t63, t64, t65, t66, t67, t68, t69, t70, t71, t72, t73, t74, t75, t76, t77, t78, t79, t80, t81, t82, t83, t84, t85, t86, t87, t88, t89, t90, t91, t92, t93, t94, t95, t96, t97, t98, t99, t100, t101, t102, t103, t104, t105, t106, t107, t108, t109, t110, t111, t112, t113, t114, t115, t116, t117, t118, t119, t120, t121, t122, t123, t124, t125, t126, t127, t128, t129, t130, t131, t132, t133, t134, t135, t136, t137, t138, t139, t140, t141, t142, t143, t144, t145, t146, t147, t148, t149, t150, t151, t152, t153, t154, t155, t156, t157, t158, t159, t160, t161, t162, t163, t164, t165, t166, t167, t168, t169, t170, t171, t172, t173, t174, t175, t176, t177, t178, t179, t180, t181, t182, t183, t184, t185, t186, t187, t188, t189, t190, t191, t192, t193, t194, t195, t196, t197, t198, t199, t200, t201, t202, t203, t204, t205, t206, t207, t208, t209, t210, t211, t212, t213, t214, t215, t216, t217, t218, t219, t220, t221, t222, t223, t224, t225, t226, t227, t228, t229, t230, t231, t232, t233, t234, t235, t236, t237, t238, t239, t240, t241, t242, t243, t244, t245, t246, t247, t248, t249, t250, t251, t252, t253, t254, t255, t256, t257, t258, t259, t260, t261, t262, t263, t264, t265, t266, t267, t268, t269, t270, t271, t272, t273, t274, t275, t276, t277, t278, t279, t280, t281, t282, t283, t284, t285, t286, t287, t288, t289, t290, t291, t292, t293, t294, t295, t296, t297, t298, t299, t300, t301], []⟩ w := by
  dsimp only [Try.f4, Option.getD_some, tailN] at hT
  subst hT
  dsimp only
  have HSF : Hid (-9223372036854775808 ≤ sf ∧ sf ≤ 9223372036854775807) := hsf
  clear hsf
  have hmk := run_mk44 ps.length (by omega)
  obtain ⟨A, hA⟩ : ∃ A, A = madeCells (Value.pointer none).cells (ps.length * 1) := ⟨_, rfl⟩
  rw [← hA] at hmk
  have HAA : Hid (A = madeCells (Value.pointer none).cells (ps.length * 1)) := hA
  clear hA
  have oI : ∀ l : List Int, ∀ v ∈ l.map (Value.int .i64), v.oneCell' = true := fun l v hv => by
    obtain ⟨x, _, rfl⟩ := List.mem_map.1 hv
    rfl
  have oU : ∀ l : List Int, ∀ v ∈ l.map (Value.int .u64), v.oneCell' = true := fun l v hv => by
    obtain ⟨x, _, rfl⟩ := List.mem_map.1 hv
    rfl
  have oB : ∀ l : List Bool, ∀ v ∈ l.map Value.bool, v.oneCell' = true := fun l v hv => by
    obtain ⟨x, _, rfl⟩ := List.mem_map.1 hv
    rfl
  have OI : Hid (∀ l : List Int, ∀ v ∈ l.map (Value.int .i64), v.oneCell' = true) := oI
  have OU : Hid (∀ l : List Int, ∀ v ∈ l.map (Value.int .u64), v.oneCell' = true) := oU
  have OB : Hid (∀ l : List Bool, ∀ v ∈ l.map Value.bool, v.oneCell' = true) := oB
  clear oI oU oB
  have hl0 : Hid (∀ x ∈ xs, x.2.length ≤ 131072) := fun x hx => by
    obtain ⟨us', e, hu⟩ := HI.out x hx
    rw [e, List.length_map]
    exact hu
  have lo : ∀ {wX : World} {v : Value} {vs : List Value}, InV w0 v vs → Below w0.heap.size w0 wX → InV wX v vs := fun h hb => h.below hb (Nat.le_refl _)
  have LO : Hid (∀ {wX : World} {v : Value} {vs : List Value}, InV w0 v vs → Below w0.heap.size w0 wX → InV wX v vs) := lo
  clear lo
  have s0 := HB0.out.size
  go_wp2_with fail
  refine (cloneS_any a1 xs.length c1 xs w rfl ⟨LO.out I1.out.1 HB0.out, fun x hx => ⟨LO.out (I1.out.2 x hx).1 HB0.out, (I1.out.2 x hx).2⟩⟩ (by omega) (fun x hx => by have := hl0.out x hx; omega)).mono ?_
  rintro e wA ⟨vaA, cs, rfl, hcl0, hoA, hhA, bA, -⟩
  have CL : Hid (cs.length = xs.length) := hcl0
  have OA : Hid (OwnV wA (.slice vaA xs.length xs.length) 24 cs) := hoA
  have HHA : Hid (HoldsOK wA (w.heap.size + 1) cs xs) := hhA
  have BA : Hid (Below w.heap.size w wA) := bA
  have B0A : Hid (Below w0.heap.size w0 wA) := HB0.out.trans (bA.mono s0)
  have sA := bA.size
  clear hcl0 hoA hhA bA
  go_wp2_with fail
  refine (cloneI_any a2 acts.length c2 (acts.map (Value.int .i64)) wA (by simp) (LO.out I2.out B0A.out) (OI.out _) (by simp; omega)).mono ?_
  rintro e wB ⟨vaB, rfl, -, hoB, bB, hbB⟩
  rw [List.length_map] at hoB hbB
  rw [List.length_map]
  have OBB : Hid (OwnV wB (.slice vaB acts.length acts.length) 3 (acts.map (Value.int .i64))) := hoB
  have BB : Hid (Below wA.heap.size wA wB) := bB
  have BBB : Hid (∀ g, blkOf (.slice vaB acts.length acts.length) = some g → g = wA.heap.size) := hbB
  have B0B : Hid (Below w0.heap.size w0 wB) := B0A.out.trans (bB.mono (by omega))
  have sB := bB.size
  clear hoB bB hbB
  go_wp2_with fail
  refine (cloneI_any a3 ps.length c3 (ps.map (Value.int .i64)) wB (by simp) (LO.out I3.out B0B.out) (OI.out _) (by simp; omega)).mono ?_
  rintro e wC ⟨vaC, rfl, -, hoC, bC, -⟩
  rw [List.length_map] at hoC
  rw [List.length_map]
  have OC : Hid (OwnV wC (.slice vaC ps.length ps.length) 3 (ps.map (Value.int .i64))) := hoC
  have BC : Hid (Below wB.heap.size wB wC) := bC
  have B0C : Hid (Below w0.heap.size w0 wC) := B0B.out.trans (bC.mono (by omega))
  have sC := bC.size
  clear hoC bC
  go_wp2_with fail
  refine (cloneU_any a4 us.length c4 (us.map (Value.int .u64)) wC (by simp) (LO.out I4.out B0C.out) (OU.out _) (by simp; omega)).mono ?_
  rintro e wD ⟨vaD, rfl, -, hoD, bD, -⟩
  rw [List.length_map] at hoD
  rw [List.length_map]
  have OD : Hid (OwnV wD (.slice vaD us.length us.length) 32 (us.map (Value.int .u64))) := hoD
  have BD : Hid (Below wC.heap.size wC wD) := bD
  have B0D : Hid (Below w0.heap.size w0 wD) := B0C.out.trans (bD.mono (by omega))
  have sD := bD.size
  clear hoD bD
  go_wp2_with fail
  refine (cloneB_any a5 bs.length c5 (bs.map Value.bool) wD (by simp) (LO.out I5.out B0D.out) (OB.out _) (by simp; omega)).mono ?_
  rintro e wE ⟨vaE, rfl, -, hoE, bE, -⟩
  rw [List.length_map] at hoE
  rw [List.length_map]
  have OE : Hid (OwnV wE (.slice vaE bs.length bs.length) 4 (bs.map Value.bool)) := hoE
  have BE : Hid (Below wD.heap.size wD wE) := bE
  have B0E : Hid (Below w0.heap.size w0 wE) := B0D.out.trans (bE.mono (by omega))
  have sE := bE.size
  clear hoE bE
  go_wp2_with fail
  refine (cloneI_any a7 mem.length c7 (mem.map (Value.int .i64)) wE (by simp) (LO.out I7.out B0E.out) (OI.out _) (by simp; omega)).mono ?_
  rintro e wF ⟨vaF, rfl, -, hoF, bF, hbF⟩
  rw [List.length_map] at hoF hbF
  rw [List.length_map]
  have OF : Hid (OwnV wF (.slice vaF mem.length mem.length) 3 (mem.map (Value.int .i64))) := hoF
  have BF : Hid (Below wE.heap.size wE wF) := bF
  have BFF : Hid (∀ g, blkOf (.slice vaF mem.length mem.length) = some g → g = wE.heap.size) := hbF
  have B0F : Hid (Below w0.heap.size w0 wF) := B0E.out.trans (bF.mono (by omega))
  have sF := bF.size
  clear hoF bF hbF
  go_wp2_with fail
  refine (cloneU_any a8 cuts.length c8 (cuts.map (Value.int .u64)) wF (by simp) (LO.out I8.out B0F.out) (OU.out _) (by simp; omega)).mono ?_
  rintro e wG ⟨vaG, rfl, -, hoG, bG, hbG⟩
  rw [List.length_map] at hoG hbG
  rw [List.length_map]
  have OG : Hid (OwnV wG (.slice vaG cuts.length cuts.length) 32 (cuts.map (Value.int .u64))) := hoG
  have BG : Hid (Below wF.heap.size wF wG) := bG
  have BGG : Hid (∀ g, blkOf (.slice vaG cuts.length cuts.length) = some g → g = wF.heap.size) := hbG
  have sG := bG.size
  clear hoG bG hbG
  have bFG : Hid (Below wF.heap.size wF wG) := BG.out
  have bEG : Hid (Below wE.heap.size wE wG) := BF.out.trans (BG.out.mono sF)
  have bDG : Hid (Below wD.heap.size wD wG) := BE.out.trans (bEG.out.mono sE)
  have bCG : Hid (Below wC.heap.size wC wG) := BD.out.trans (bDG.out.mono sD)
  have bBG : Hid (Below wB.heap.size wB wG) := BC.out.trans (bCG.out.mono sC)
  have bAG : Hid (Below wA.heap.size wA wG) := BB.out.trans (bBG.out.mono sB)
  have hcs : Hid (∀ (i : Nat) (v : Value), cs[i]? = some v → ∃ va m, v = .slice va m m ∧ m ≤ 131072) := fun i v hv => by
    obtain ⟨x, hx, hok, _⟩ := HHA.out i v hv
    obtain ⟨va, e⟩ := hok.form
    exact ⟨va, _, e, hl0.out x (List.mem_of_getElem? hx)⟩
  have hnew := new15 sf vaA vaB vaC vaD vaE vaF vaG acts.length acts.length ps.length ps.length us.length us.length bs.length bs.length mem.length mem.length cuts.length cuts.length j cs wG ps us bs (OC.out.inV.below bCG.out (Nat.le_refl _)) (OD.out.inV.below bDG.out (Nat.le_refl _)) (OE.out.inV.below bEG.out (Nat.le_refl _)) rfl L4.out L5.out (by omega) (by rw [CL.out]; exact OA.out.of_blocks (fun g hg => bAG.out.block g (OA.out.lt hg))) hcs.out (by rw [CL.out]; exact hxl)
  rw [CL.out] at hnew
  go_wp2_with fail
  refine hnew.mono ?_
  rintro e wH ⟨accV, vV, jv, accs, V, B1, B2, rfl, hst⟩
  have HST : Hid (NewSt wG wH sf cs ps bs (.slice vaB acts.length acts.length) j (.slice vaF mem.length mem.length) (.slice vaG cuts.length cuts.length) accV vV jv accs V B1 B2) := hst
  clear hst hnew
  have HCO : Hid (Copies w0 w wA wB wC wD wE wF wG (.slice a1 xs.length c1) (.slice a2 acts.length c2) (.slice a3 ps.length c3) (.slice a5 bs.length c5) (.slice oo os.length oc) (.slice vaB acts.length acts.length) (.slice vaF mem.length mem.length) (.slice vaG cuts.length cuts.length) xs acts ps mem cuts bs os cs) :=
    ⟨HB0.out, BA.out, BB.out, BC.out, BD.out, BE.out, BF.out, BG.out, I1.out, I2.out, I3.out, I5.out, IQ.out, IQB.out, HHA.out, CL.out, OBB.out, BBB.out, OF.out, BFF.out, ⟨_, _, rfl⟩, OG.out, BGG.out, ⟨_, _, rfl⟩⟩
  go_upto_region 25 with fail
  rename (∀ (a : Act) (w1 : World), Code.wp Try.prog (tailN 13 (Try.f4.body.getD .skip)) (bodyPost Try.prog Try.f4 (TruePost w0)) a w1 → _) => hK0
  have HK : Hid _ := hK0
  clear hK0
  go_wp2_with fail
  refine HK.out _ _ ?_
  obtain ⟨gv, jo, rfl, hS, hgb, hC, hJ⟩ := mkState HCO.out HST.out hps A
  have hrow : RowV (wH.alloc (.cells A 45)) wH.heap.size 45 1 ps.length (List.replicate ps.length (.pointer none)) := by
    rw [HAA.out]
    exact row_made45 wH ps.length (by unfold maxLen; omega)
  exact law4_t13 w0 (wH.alloc (.cells A 45)) (wH.heap.size + 1) (wG.heap.size + 1) wG.heap.size _ _ gv wH.heap.size sf p jo j b accV _ vV accs V a1 a2 a5 a7 a8 oo c1 c2 bs.length c5 c7 c8 oc _ xs acts ps mem cuts bs os cs _ _ _ _ _ _ _ _ _ _ _ _ _ _ _ _ _ _ _ _ _ _ _ _ _ _ _ _ _ _ _ _ _ _ _ _ _ _ _ _ _ _ _ _ _ _ _ _ _ _ _ _ _ _ _ _ _ _ _ _ _ _ _ _ _ _ _ _ _ _ _ _ _ _ _ _ _ _ _ _ _ _ _ _ _ _ _ _ _ _ _ _ _ _ _ _ _ _ _ _ _ _ _ _ _ _ _ _ _ _ _ _ _ _ _ _ _ _ _ _ _ _ _ _ _ _ _ _ _ _ _ _ _ _ _ _ _ _ _ _ _ _ _ _ _ _ _ _ _ _ _ _ _ _ _ _ _ _ _ _ _ _ _ _ _ _ _ _ _ _ _ _ _ _ _ _ _ _ _ _ _ _ _ _ _ _ _ _ _ _ _ _ _ _ _ _ _ _ _ _ _ _ _ _ _ _ _ _ _ _ _ _ _ _ _ _ _ _ _ _ _ _ _ _ _ _ _ _ _ _ _ _ _ _ _ _ _ _ _ _ _ _ _ _ _ _ _ _ _ _ _ _ _ _ _ _ _ _ _ _ _ _ _ _ _ _ _ _ _ _ _ _ _ _ _ _ _ _ _ _ _ _ _ _ _ _ _ _ _ _ hC I7 I8 hrow hgb hS HST.out.vOK HST.out.vL HST.out.accOK (HST.out.accL.trans CL.out) HO HI HG hJ HM hp0 hbs hps HSF.out hxl hal (by omega) hml hcl _ rfl

end Go.Proofs.Qxb6616962a

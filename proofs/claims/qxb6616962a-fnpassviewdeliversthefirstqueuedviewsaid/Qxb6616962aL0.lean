import Derived.Test.Qxb6616962aL1
/-! The law (5): the join's members. -/
namespace Go.Proofs.Qxb6616962a
open Go.RowKit
set_option linter.unusedVariables false
set_option linter.unusedSimpArgs false
set_option maxRecDepth 8000

theorem first_join {sf f : Int} {n k : Nat} {j : Bool} {L : List (Int × Bool)} (hg : Good sf n j L) (hf : FJ L f) (hk : L[k]? = some (sf, true)) : f = (k : Int) := by
  obtain ⟨h1, _⟩ := hg.me k hk
  obtain ⟨_, h⟩ | ⟨kf, p, rfl, h2, h3⟩ := hf
  · exfalso
    unfold anyJ at h
    rw [List.any_eq_false] at h
    exact h _ (List.mem_of_getElem? hk) rfl
  · have key : ∀ (a b : Nat) (q : Int), a < b → L[a]? = some (q, true) → anyJ (L.take b) = false → False := by
      intro a b q hab ha hb
      unfold anyJ at hb
      rw [List.any_eq_false] at hb
      refine hb (q, true) (List.mem_of_getElem? (i := a) ?_) rfl
      rw [List.getElem?_take_of_lt hab]
      exact ha
    rcases Nat.lt_trichotomy kf k with h | h | h
    · exact (key kf k p h h2 h1).elim
    · rw [h]
    · exact (key k kf sf h hk h3).elim

theorem law5_t9' (w0 w : World) (go : Nat) (sf f : Int) (j : Bool) (a1 a2 a3 a4 a5 a7 a8 : Option Addr) (c1 c2 c3 c4 c5 c7 c8 : Nat) (xs : List (Value × List Value)) (acts ps us mem cuts : List Int) (bs os : List Bool) (t9 t10 t11 t12 t13 t14 t15 t16 t17 t18 t22 t23 t24 t25 t26 t27 t28 t29 t30 t31 t32 t33 t34 t35 t36 t37 t38 t39 t40 t41 t42 t43 t44 t45 t46 t47 t48 t49 t50 t51 t52 t53 t54 t55 t56 t57 t58 t59 t60 t61 t62 t63 t64 t65 t66 t67 t68 t69 t70 t71 t72 t73 t74 t75 t76 t77 t78 t79 t80 t81 t82 t83 t84 t85 t86 t87 t88 t89 t90 t91 t92 t93 t94 t95 t96 t97 t98 t99 t100 t101 t102 t103 t104 t105 t106 t107 t108 t109 t110 t111 t112 t113 t114 t115 t116 t117 t118 t119 t120 t121 t122 t123 t124 t125 t126 t127 t128 t129 t130 t131 t132 t133 t134 t135 t136 t137 t138 t139 t140 t141 t142 t143 t144 t145 t146 t147 t148 t149 t150 t151 t152 t153 t154 t155 t156 t157 t158 t159 t160 t161 t162 t163 t164 t165 t166 t167 t168 t169 t170 t171 t172 t173 t174 t175 t176 t177 t178 t179 t180 t181 t182 t183 t184 t185 t186 t187 t188 t189 t190 t191 t192 t193 t194 t195 t196 t197 t198 t199 t200 t201 t202 t203 t204 t205 t206 t207 t208 t209 t210 t211 t212 t213 t214 t215 t216 t217 t218 t219 t220 t221 t222 t223 t224 t225 t226 t227 t228 t229 t230 t231 t232 t233 t234 t235 t236 t237 t238 t239 t240 t241 t242 t243 t244 t245 t246 t247 t248 t249 t250 t251 t252 t253 t254 t255 t256 t257 t258 t259 t260 t261 t262 t263 t264 t265 t266 t267 t268 t269 t270 t271 t272 t273 t274 t275 t276 t277 t278 t279 t280 t281 t282 t283 t284 t285 t286 t287 t288 t289 t290 t291 t292 t293 t294 t295 t296 t297 t298 t299 t300 : Value)
    (HB0 : Hid (Below w0.heap.size w0 w)) (I1 : Hid (InVV w0 (.slice a1 xs.length c1) xs)) (I2 : Hid (InV w0 (.slice a2 acts.length c2) (acts.map (Value.int .i64)))) (I3 : Hid (InV w0 (.slice a3 ps.length c3) (ps.map (Value.int .i64)))) (I4 : Hid (InV w0 (.slice a4 us.length c4) (us.map (Value.int .u64)))) (I5 : Hid (InV w0 (.slice a5 bs.length c5) (bs.map Value.bool))) (I7 : Hid (InV w0 (.slice a7 mem.length c7) (mem.map (Value.int .i64)))) (I8 : Hid (InV w0 (.slice a8 cuts.length c8) (cuts.map (Value.int .u64)))) (HROW : Hid (RowV w go 4 1 xs.length (os.map Value.bool))) (L4 : Hid (us.length = ps.length)) (L5 : Hid (bs.length = ps.length)) (hps : 0 < ps.length) (HO : Hid (OutOK os (ps.zip bs) xs.length)) (HI : Hid (HoldInts xs)) (HG : Hid (Good sf xs.length j (ps.zip bs))) (HF : Hid (FJ (ps.zip bs) f)) (HM : Hid (∀ (k : Nat), (ps.zip bs)[k]? = some (sf, true) → ∀ m ∈ mem, 0 ≤ m ∧ m < (cuts.length : Int))) (hsf : -9223372036854775808 ≤ sf ∧ sf ≤ 9223372036854775807) (hxl : xs.length ≤ 65536) (hal : acts.length ≤ 131072) (hpl : ps.length ≤ 131072) (hul : us.length ≤ 131072) (hbl : bs.length ≤ 1048576) (hml : mem.length ≤ 131072) (hcl : cuts.length ≤ 131072) (T : Code) (hT : T = tailN 9 (Try.f5.body.getD .skip)) :
    Code.wp Try.prog T (bodyPost Try.prog Try.f5 (TruePost w0)) ⟨#[.int .i64 sf, .slice a1 xs.length c1, .slice a2 acts.length c2, .slice a3 ps.length c3, .slice a4 us.length c4, .slice a5 bs.length c5, .bool j, .slice a7 mem.length c7, .slice a8 cuts.length c8, t9, t10, t11, t12, t13, t14, t15, t16, t17, t18, .int .i64 (ps.length : Int), .slice (some ⟨go, 0, none⟩) xs.length xs.length, .int .i64 f, t22, t23, t24, t25, t26, t27, t28, t29, t30, t31, t32, t33, t34, t35, t36, t37, t38, t39, t40, t41, t42, t43, t44, t45, t46, t47, t48, t49, t50, t51, t52, t53, t54, t55, t56, t57, t58, t59, t60, t61, t62, t63, t64, t65, t66, t67, t68, t69, t70, t71, t72, t73, t74, t75, t76, t77, t78, t79, t80, t81, t82, t83, t84, t85, t86, t87, t88, t89, t90, t91, t92, t93, t94, t95, t96, t97, t98, t99, t100, t101, t102, t103, t104, t105, t106, t107, t108, t109, t110, t111, t112, t113, t114, t115, t116, t117, t118, t119, t120, t121, t122, t123, t124, t125, t126, t127, t128, t129, t130, t131, t132, t133, t134, t135, t136, t137, t138, t139, t140, t141, t142, t143, t144, t145, t146, t147, t148, t149, t150, t151, t152, t153, t154, t155, t156, t157, t158, t159, t160, t161, t162, t163, t164, t165, t166, t167, t168, t169, t170, t171, t172, t173, t174, t175, t176, t177, t178, t179, t180, t181, t182, t183, t184, t185, t186, t187, t188, t189, t190, t191, t192, t193, t194, t195, t196, t197, t198, t199, t200, t201, t202, t203, t204, t205, t206, t207, t208, t209, t210, t211, t212, t213, t214, t215, t216, t217, t218, t219, t220, t221, t222, t223, t224, t225, t226, t227, t228, t229, t230, t231, t232, t233, t234, t235, t236, t237, t238, t239, t240, t241, t242, t243, t244, t245, t246, t247, t248, t249, t250, t251, t252, t253, t254, t255, t256, t257, t258, t259, t260, t261, t262, t263, t264, t265, t266, t267, t268, t269, t270, t271, t272, t273, t274, t275, t276, t277, t278, t279, t280, t281, t282, t283, t284, t285, t286, t287, t288, t289, t290, t291, t292, t293, t294, t295, t296, t297, t298, t299, t300], []⟩ w := by
  have hol := HO.out.1
  have h := law5_t9 w0 w sf f j a1 a2 a3 a4 a5 a7 a8 (some ⟨go, 0, none⟩) c1 c2 c3 c4 c5 c7 c8 xs.length xs acts ps us mem cuts bs os t9 t10 t11 t12 t13 t14 t15 t16 t17 t18 t22 t23 t24 t25 t26 t27 t28 t29 t30 t31 t32 t33 t34 t35 t36 t37 t38 t39 t40 t41 t42 t43 t44 t45 t46 t47 t48 t49 t50 t51 t52 t53 t54 t55 t56 t57 t58 t59 t60 t61 t62 t63 t64 t65 t66 t67 t68 t69 t70 t71 t72 t73 t74 t75 t76 t77 t78 t79 t80 t81 t82 t83 t84 t85 t86 t87 t88 t89 t90 t91 t92 t93 t94 t95 t96 t97 t98 t99 t100 t101 t102 t103 t104 t105 t106 t107 t108 t109 t110 t111 t112 t113 t114 t115 t116 t117 t118 t119 t120 t121 t122 t123 t124 t125 t126 t127 t128 t129 t130 t131 t132 t133 t134 t135 t136 t137 t138 t139 t140 t141 t142 t143 t144 t145 t146 t147 t148 t149 t150 t151 t152 t153 t154 t155 t156 t157 t158 t159 t160 t161 t162 t163 t164 t165 t166 t167 t168 t169 t170 t171 t172 t173 t174 t175 t176 t177 t178 t179 t180 t181 t182 t183 t184 t185 t186 t187 t188 t189 t190 t191 t192 t193 t194 t195 t196 t197 t198 t199 t200 t201 t202 t203 t204 t205 t206 t207 t208 t209 t210 t211 t212 t213 t214 t215 t216 t217 t218 t219 t220 t221 t222 t223 t224 t225 t226 t227 t228 t229 t230 t231 t232 t233 t234 t235 t236 t237 t238 t239 t240 t241 t242 t243 t244 t245 t246 t247 t248 t249 t250 t251 t252 t253 t254 t255 t256 t257 t258 t259 t260 t261 t262 t263 t264 t265 t266 t267 t268 t269 t270 t271 t272 t273 t274 t275 t276 t277 t278 t279 t280 t281 t282 t283 t284 t285 t286 t287 t288 t289 t290 t291 t292 t293 t294 t295 t296 t297 t298 t299 t300 HB0 I1 I2 I3 I4 I5 I7 I8 (Or.inr ⟨⟨go, 0, none⟩, xs.length, by rw [List.length_map], by rw [List.length_map, hol]; exact Nat.le_refl _, HROW.out.src⟩) (fun g hg => (show go = g by simpa [blkOf] using hg) ▸ HROW.out.lt) L4 L5 hps HO HI HG HF HM hsf hxl hal hpl hul hbl hml hcl T hT
  rw [hol] at h
  exact h

set_option maxHeartbeats 8000000 in
theorem law5_t8 (w0 w : World) (go : Nat) (sf f : Int) (j : Bool) (a1 a2 a3 a4 a5 a7 a8 : Option Addr) (c1 c2 c3 c4 c5 c7 c8 : Nat) (xs : List (Value × List Value)) (acts ps us mem cuts : List Int) (bs os : List Bool) (t9 t10 t11 t12 t13 t14 t15 t16 t17 t18 t22 t23 t24 t25 t26 t27 t28 t29 t30 t31 t32 t33 t34 t35 t36 t37 t38 t39 t40 t41 t42 t43 t44 t45 t46 t47 t48 t49 t50 t51 t52 t53 t54 t55 t56 t57 t58 t59 t60 t61 t62 t63 t64 t65 t66 t67 t68 t69 t70 t71 t72 t73 t74 t75 t76 t77 t78 t79 t80 t81 t82 t83 t84 t85 t86 t87 t88 t89 t90 t91 t92 t93 t94 t95 t96 t97 t98 t99 t100 t101 t102 t103 t104 t105 t106 t107 t108 t109 t110 t111 t112 t113 t114 t115 t116 t117 t118 t119 t120 t121 t122 t123 t124 t125 t126 t127 t128 t129 t130 t131 t132 t133 t134 t135 t136 t137 t138 t139 t140 t141 t142 t143 t144 t145 t146 t147 t148 t149 t150 t151 t152 t153 t154 t155 t156 t157 t158 t159 t160 t161 t162 t163 t164 t165 t166 t167 t168 t169 t170 t171 t172 t173 t174 t175 t176 t177 t178 t179 t180 t181 t182 t183 t184 t185 t186 t187 t188 t189 t190 t191 t192 t193 t194 t195 t196 t197 t198 t199 t200 t201 t202 t203 t204 t205 t206 t207 t208 t209 t210 t211 t212 t213 t214 t215 t216 t217 t218 t219 t220 t221 t222 t223 t224 t225 t226 t227 t228 t229 t230 t231 t232 t233 t234 t235 t236 t237 t238 t239 t240 t241 t242 t243 t244 t245 t246 t247 t248 t249 t250 t251 t252 t253 t254 t255 t256 t257 t258 t259 t260 t261 t262 t263 t264 t265 t266 t267 t268 t269 t270 t271 t272 t273 t274 t275 t276 t277 t278 t279 t280 t281 t282 t283 t284 t285 t286 t287 t288 t289 t290 t291 t292 t293 t294 t295 t296 t297 t298 t299 t300 : Value)
    (HB0 : Hid (Below w0.heap.size w0 w)) (I1 : Hid (InVV w0 (.slice a1 xs.length c1) xs)) (I2 : Hid (InV w0 (.slice a2 acts.length c2) (acts.map (Value.int .i64)))) (I3 : Hid (InV w0 (.slice a3 ps.length c3) (ps.map (Value.int .i64)))) (I4 : Hid (InV w0 (.slice a4 us.length c4) (us.map (Value.int .u64)))) (I5 : Hid (InV w0 (.slice a5 bs.length c5) (bs.map Value.bool))) (I7 : Hid (InV w0 (.slice a7 mem.length c7) (mem.map (Value.int .i64)))) (I8 : Hid (InV w0 (.slice a8 cuts.length c8) (cuts.map (Value.int .u64)))) (HROW : Hid (RowV w go 4 1 xs.length (os.map Value.bool))) (L4 : Hid (us.length = ps.length)) (L5 : Hid (bs.length = ps.length)) (hps : 0 < ps.length) (HO : Hid (OutOK os (ps.zip bs) xs.length)) (HI : Hid (HoldInts xs)) (HG : Hid (Good sf xs.length j (ps.zip bs))) (HF : Hid (FJ (ps.zip bs) f)) (hsf : -9223372036854775808 ≤ sf ∧ sf ≤ 9223372036854775807) (hxl : xs.length ≤ 65536) (hal : acts.length ≤ 131072) (hpl : ps.length ≤ 131072) (hul : us.length ≤ 131072) (hbl : bs.length ≤ 1048576) (hml : mem.length ≤ 131072) (hcl : cuts.length ≤ 131072) (T : Code) (hT : T = tailN 8 (Try.f5.body.getD .skip)) :
    Code.wp Try.prog T (bodyPost Try.prog Try.f5 (TruePost w0)) ⟨#[.int .i64 sf, .slice a1 xs.length c1, .slice a2 acts.length c2, .slice a3 ps.length c3, .slice a4 us.length c4, .slice a5 bs.length c5, .bool j, .slice a7 mem.length c7, .slice a8 cuts.length c8, t9, t10, t11, t12, t13, t14, t15, t16, t17, t18, .int .i64 (ps.length : Int), .slice (some ⟨go, 0, none⟩) xs.length xs.length, .int .i64 f, t22, t23, t24, t25, t26, t27, t28, t29, t30, t31, t32, t33, t34, t35, t36, t37, t38, t39, t40, t41, t42, t43, t44, t45, t46, t47, t48, t49, t50, t51, t52, t53, t54, t55, t56, t57, t58, t59, t60, t61, t62, t63, t64, t65, t66, t67, t68, t69, t70, t71, t72, t73, t74, t75, t76, t77, t78, t79, t80, t81, t82, t83, t84, t85, t86, t87, t88, t89, t90, t91, t92, t93, t94, t95, t96, t97, t98, t99, t100, t101, t102, t103, t104, t105, t106, t107, t108, t109, t110, t111, t112, t113, t114, t115, t116, t117, t118, t119, t120, t121, t122, t123, t124, t125, t126, t127, t128, t129, t130, t131, t132, t133, t134, t135, t136, t137, t138, t139, t140, t141, t142, t143, t144, t145, t146, t147, t148, t149, t150, t151, t152, t153, t154, t155, t156, t157, t158, t159, t160, t161, t162, t163, t164, t165, t166, t167, t168, t169, t170, t171, t172, t173, t174, t175, t176, t177, t178, t179, t180, t181, t182, t183, t184, t185, t186, t187, t188, t189, t190, t191, t192, t193, t194, t195, t196, t197, t198, t199, t200, t201, t202, t203, t204, t205, t206, t207, t208, t209, t210, t211, t212, t213, t214, t215, t216, t217, t218, t219, t220, t221, t222, t223, t224, t225, t226, t227, t228, t229, t230, t231, t232, t233, t234, t235, t236, t237, t238, t239, t240, t241, t242, t243, t244, t245, t246, t247, t248, t249, t250, t251, t252, t253, t254, t255, t256, t257, t258, t259, t260, t261, t262, t263, t264, t265, t266, t267, t268, t269, t270, t271, t272, t273, t274, t275, t276, t277, t278, t279, t280, t281, t282, t283, t284, t285, t286, t287, t288, t289, t290, t291, t292, t293, t294, t295, t296, t297, t298, t299, t300], []⟩ w := by
  dsimp only [Try.f5, Option.getD_some, tailN] at hT
  subst hT
  dsimp only
  have HSF : Hid (-9223372036854775808 ≤ sf ∧ sf ≤ 9223372036854775807) := hsf
  clear hsf
  go_upto_region 21 with fail
  rename (∀ (a : Act) (w1 : World), Code.wp Try.prog (tailN 9 (Try.f5.body.getD .skip)) (bodyPost Try.prog Try.f5 (TruePost w0)) a w1 → _) => hK0
  have HK : Hid _ := hK0
  clear hK0
  by_cases hf0 : 0 ≤ f
  · obtain ⟨kf, pf, rfl, hLf, -⟩ : ∃ (k : Nat) (p : Int), f = (k : Int) ∧ (ps.zip bs)[k]? = some (p, true) ∧ anyJ ((ps.zip bs).take k) = false := by
      obtain ⟨e, _⟩ | h := HF.out
      · omega
      · exact h
    obtain ⟨hpf, -⟩ := List.getElem?_zip_eq_some.1 hLf
    simp only at hpf
    have hkf := (List.getElem?_eq_some_iff.1 hpf).1
    have hkfI : (kf : Int) < (ps.length : Int) := by omega
    obtain ⟨ad3, rfl, x3, -, l3⟩ := I3.out.at (k := kf) (x := .int .i64 pf) (by rw [List.getElem?_map, hpf]; rfl)
    have x3' : w.cell? (ad3.add kf) = some (.int .i64 pf) := (World.cell?_of_block (w := w0) (HB0.out.block _ (World.block_lt_of_cell? _ _ x3))).trans x3
    have HLF : Hid ((ps.zip bs)[kf]? = some (pf, true)) := hLf
    clear hLf hpf x3
    by_cases hpe : pf = sf
    · subst hpe
      go_wp2_with fail
      go_loop [137] (fun i => ∃ k : Nat, k ≤ mem.length ∧ i = .int .i64 k ∧ ∀ m ∈ mem.take k, 0 ≤ m ∧ m < (cuts.length : Int)) (fun i => mem.length - (intOf i).toNat)
      case atStart => exact ⟨0, Nat.zero_le _, rfl, fun m hm => by simp at hm⟩
      case round =>
        obtain ⟨k, hk, rfl, hall⟩ := hrel
        have HALL : Hid (∀ m ∈ mem.take k, 0 ≤ m ∧ m < (cuts.length : Int)) := hall
        clear hall
        by_cases hlt : k < mem.length
        · have hltI : (k : Int) < (mem.length : Int) := by omega
          obtain ⟨m, hm⟩ : ∃ m, mem[k]? = some m := ⟨_, List.getElem?_eq_getElem hlt⟩
          obtain ⟨ad7, rfl, x7, -, l7⟩ := I7.out.at (k := k) (x := .int .i64 m) (by rw [List.getElem?_map, hm]; rfl)
          have x7' : w.cell? (ad7.add k) = some (.int .i64 m) := (World.cell?_of_block (w := w0) (HB0.out.block _ (World.block_lt_of_cell? _ _ x7))).trans x7
          have HMK : Hid (mem[k]? = some m) := hm
          clear hm x7
          by_cases hm0 : m < 0
          · go_wp2
            go_ret
            exact ⟨rfl, HB0.out⟩
          · by_cases hm1 : m < (cuts.length : Int)
            · go_wp2
              go_round
              case rel =>
                refine ⟨k + 1, by omega, by go_num, ?_⟩
                rw [List.take_add_one, HMK.out]
                intro x hx
                simp at hx
                rcases hx with hx | hx
                · exact HALL.out x hx
                · subst hx; omega
              case measure => simp [intOf]; omega
            · go_wp2
              go_ret
              exact ⟨rfl, HB0.out⟩
        · have hltI : ¬ (k : Int) < (mem.length : Int) := by omega
          go_wp2_with fail
          refine HK.out _ _ ?_
          exact law5_t9' w0 w go pf (kf : Int) j a1 a2 (some ad3) a4 a5 a7 a8 c1 c2 c3 c4 c5 c7 c8 xs acts ps us mem cuts bs os _ _ _ _ _ _ _ _ _ _ _ _ _ _ _ _ _ _ _ _ _ _ _ _ _ _ _ _ _ _ _ _ _ _ _ _ _ _ _ _ _ _ _ _ _ _ _ _ _ _ _ _ _ _ _ _ _ _ _ _ _ _ _ _ _ _ _ _ _ _ _ _ _ _ _ _ _ _ _ _ _ _ _ _ _ _ _ _ _ _ _ _ _ _ _ _ _ _ _ _ _ _ _ _ _ _ _ _ _ _ _ _ _ _ _ _ _ _ _ _ _ _ _ _ _ _ _ _ _ _ _ _ _ _ _ _ _ _ _ _ _ _ _ _ _ _ _ _ _ _ _ _ _ _ _ _ _ _ _ _ _ _ _ _ _ _ _ _ _ _ _ _ _ _ _ _ _ _ _ _ _ _ _ _ _ _ _ _ _ _ _ _ _ _ _ _ _ _ _ _ _ _ _ _ _ _ _ _ _ _ _ _ _ _ _ _ _ _ _ _ _ _ _ _ _ _ _ _ _ _ _ _ _ _ _ _ _ _ _ _ _ _ _ _ _ _ _ _ _ _ _ _ _ _ _ _ _ _ _ _ _ _ _ _ _ _ _ _ _ _ _ _ _ _ _ _ _ _ _ _ _ _ _ _ _ _ _ _ _ HB0 I1 I2 I3 I4 I5 I7 I8 HROW L4 L5 hps HO HI HG HF (fun _ _ m hm => HALL.out m (by rw [List.take_of_length_le (by omega)]; exact hm)) HSF.out hxl hal hpl hul hbl hml hcl _ rfl
    · have HPE : Hid (¬ pf = sf) := hpe
      go_wp2_with fail
      refine HK.out _ _ ?_
      exact law5_t9' w0 w go sf (kf : Int) j a1 a2 (some ad3) a4 a5 a7 a8 c1 c2 c3 c4 c5 c7 c8 xs acts ps us mem cuts bs os _ _ _ _ _ _ _ _ _ _ _ _ _ _ _ _ _ _ _ _ _ _ _ _ _ _ _ _ _ _ _ _ _ _ _ _ _ _ _ _ _ _ _ _ _ _ _ _ _ _ _ _ _ _ _ _ _ _ _ _ _ _ _ _ _ _ _ _ _ _ _ _ _ _ _ _ _ _ _ _ _ _ _ _ _ _ _ _ _ _ _ _ _ _ _ _ _ _ _ _ _ _ _ _ _ _ _ _ _ _ _ _ _ _ _ _ _ _ _ _ _ _ _ _ _ _ _ _ _ _ _ _ _ _ _ _ _ _ _ _ _ _ _ _ _ _ _ _ _ _ _ _ _ _ _ _ _ _ _ _ _ _ _ _ _ _ _ _ _ _ _ _ _ _ _ _ _ _ _ _ _ _ _ _ _ _ _ _ _ _ _ _ _ _ _ _ _ _ _ _ _ _ _ _ _ _ _ _ _ _ _ _ _ _ _ _ _ _ _ _ _ _ _ _ _ _ _ _ _ _ _ _ _ _ _ _ _ _ _ _ _ _ _ _ _ _ _ _ _ _ _ _ _ _ _ _ _ _ _ _ _ _ _ _ _ _ _ _ _ _ _ _ _ _ _ _ _ _ _ _ _ _ _ _ _ _ _ _ _ HB0 I1 I2 I3 I4 I5 I7 I8 HROW L4 L5 hps HO HI HG HF (fun k hk => by
        exfalso
        have e := first_join HG.out HF.out hk
        have e2 : kf = k := by omega
        rw [← e2, HLF.out] at hk
        simp at hk
        exact HPE.out hk) HSF.out hxl hal hpl hul hbl hml hcl _ rfl
  · have HF0 : Hid (¬ 0 ≤ f) := hf0
    go_wp2_with fail
    refine HK.out _ _ ?_
    exact law5_t9' w0 w go sf f j a1 a2 a3 a4 a5 a7 a8 c1 c2 c3 c4 c5 c7 c8 xs acts ps us mem cuts bs os _ _ _ _ _ _ _ _ _ _ _ _ _ _ _ _ _ _ _ _ _ _ _ _ _ _ _ _ _ _ _ _ _ _ _ _ _ _ _ _ _ _ _ _ _ _ _ _ _ _ _ _ _ _ _ _ _ _ _ _ _ _ _ _ _ _ _ _ _ _ _ _ _ _ _ _ _ _ _ _ _ _ _ _ _ _ _ _ _ _ _ _ _ _ _ _ _ _ _ _ _ _ _ _ _ _ _ _ _ _ _ _ _ _ _ _ _ _ _ _ _ _ _ _ _ _ _ _ _ _ _ _ _ _ _ _ _ _ _ _ _ _ _ _ _ _ _ _ _ _ _ _ _ _ _ _ _ _ _ _ _ _ _ _ _ _ _ _ _ _ _ _ _ _ _ _ _ _ _ _ _ _ _ _ _ _ _ _ _ _ _ _ _ _ _ _ _ _ _ _ _ _ _ _ _ _ _ _ _ _ _ _ _ _ _ _ _ _ _ _ _ _ _ _ _ _ _ _ _ _ _ _ _ _ _ _ _ _ _ _ _ _ _ _ _ _ _ _ _ _ _ _ _ _ _ _ _ _ _ _ _ _ _ _ _ _ _ _ _ _ _ _ _ _ _ _ _ _ _ _ _ _ _ _ _ _ _ _ _ HB0 I1 I2 I3 I4 I5 I7 I8 HROW L4 L5 hps HO HI HG HF (fun k hk => by
      exfalso
      have e := first_join HG.out HF.out hk
      have hneg := HF0.out
      omega) HSF.out hxl hal hpl hul hbl hml hcl _ rfl

end Go.Proofs.Qxb6616962a

import Derived.Test.Qxb6616962aD0
/-! The law: passView delivers the first queued view (4). -/
namespace Go.Proofs.Qxb6616962a
open Go.RowKit
set_option linter.unusedVariables false
set_option linter.unusedSimpArgs false
set_option maxRecDepth 8000

set_option maxHeartbeats 8000000 in
theorem law4_t5 (w0 : World) (sf p : Int) (j b : Bool) (a1 a2 a3 a4 a5 a7 a8 : Option Addr) (c1 c2 c3 c4 c5 c7 c8 : Nat) (xs : List (Value × List Value)) (acts ps us mem cuts : List Int) (bs : List Bool) (t9 t10 t11 t12 t13 t14 t15 t16 t17 t18 t20 t21 t22 t23 t24 t25 t26 t27 t28 t29 t30 t31 t32 t33 t34 t35 t36 t37 t38 t39 t40 t41 t42 t43 t44 t45 t46 t47 t48 t49 t50 t51 t52 t53 t54 t55 t56 t57 t58 t59 t60 t61 t62 t63 t64 t65 t66 t67 t68 t69 t70 t71 t72 t73 t74 t75 t76 t77 t78 t79 t80 t81 t82 t83 t84 t85 t86 t87 t88 t89 t90 t91 t92 t93 t94 t95 t96 t97 t98 t99 t100 t101 t102 t103 t104 t105 t106 t107 t108 t109 t110 t111 t112 t113 t114 t115 t116 t117 t118 t119 t120 t121 t122 t123 t124 t125 t126 t127 t128 t129 t130 t131 t132 t133 t134 t135 t136 t137 t138 t139 t140 t141 t142 t143 t144 t145 t146 t147 t148 t149 t150 t151 t152 t153 t154 t155 t156 t157 t158 t159 t160 t161 t162 t163 t164 t165 t166 t167 t168 t169 t170 t171 t172 t173 t174 t175 t176 t177 t178 t179 t180 t181 t182 t183 t184 t185 t186 t187 t188 t189 t190 t191 t192 t193 t194 t195 t196 t197 t198 t199 t200 t201 t202 t203 t204 t205 t206 t207 t208 t209 t210 t211 t212 t213 t214 t215 t216 t217 t218 t219 t220 t221 t222 t223 t224 t225 t226 t227 t228 t229 t230 t231 t232 t233 t234 t235 t236 t237 t238 t239 t240 t241 t242 t243 t244 t245 t246 t247 t248 t249 t250 t251 t252 t253 t254 t255 t256 t257 t258 t259 t260 t261 t262 t263 t264 t265 t266 t267 t268 t269 t270 t271 t272 t273 t274 t275 t276 t277 t278 t279 t280 t281 t282 t283 t284 t285 t286 t287 t288 t289 t290 t291 t292 t293 t294 t295 t296 t297 t298 t299 t300 t301 : Value)
    (I1 : Hid (InVV w0 (.slice a1 xs.length c1) xs)) (I2 : Hid (InV w0 (.slice a2 acts.length c2) (acts.map (Value.int .i64)))) (I3 : Hid (InV w0 (.slice a3 ps.length c3) (ps.map (Value.int .i64)))) (I4 : Hid (InV w0 (.slice a4 us.length c4) (us.map (Value.int .u64)))) (I5 : Hid (InV w0 (.slice a5 bs.length c5) (bs.map Value.bool))) (I7 : Hid (InV w0 (.slice a7 mem.length c7) (mem.map (Value.int .i64)))) (I8 : Hid (InV w0 (.slice a8 cuts.length c8) (cuts.map (Value.int .u64))))
    (L4 : Hid (us.length = ps.length)) (L5 : Hid (bs.length = ps.length)) (hps : 0 < ps.length) (HI : Hid (HoldInts xs)) (hp0 : Hid (ps[0]? = some p)) (hbs : Hid (bs[0]? = some b)) (hsf : -9223372036854775808 ≤ sf ∧ sf ≤ 9223372036854775807) (hxl : xs.length ≤ 65536) (hal : acts.length ≤ 131072) (hpl : ps.length ≤ 131072) (hul : us.length ≤ 131072) (hbl : bs.length ≤ 1048576) (hml : mem.length ≤ 131072) (hcl : cuts.length ≤ 131072) (T : Code) (hT : T = tailN 5 (Try.f4.body.getD .skip)) :
    Code.wp Try.prog T (bodyPost Try.prog Try.f4 (TruePost w0)) ⟨#[.int .i64 sf, .slice a1 xs.length c1, .slice a2 acts.length c2, .slice a3 ps.length c3, .slice a4 us.length c4, .slice a5 bs.length c5, .bool j, .slice a7 mem.length c7, .slice a8 cuts.length c8, t9, t10, t11, t12, t13, t14, t15, t16, t17, t18, .int .i64 (ps.length : Int), t20, t21, t22, t23, t24, t25, t26, t27, t28, t29, t30, t31, t32, t33, t34, t35, t36, t37, t38, t39, t40, t41, t42, t43, t44, t45, t46, t47, t48, t49, t50, t51, t52, t53, t54, t55, t56, t57, t58, t59, t60, t61, t62, t63, t64, t65, t66, t67, t68, t69, t70, t71, t72, t73, t74, t75, t76, t77, t78, t79, t80, t81, t82, t83, t84, t85, t86, t87, t88, t89, t90, t91, t92, t93, t94, t95, t96, t97, t98, t99, t100, t101, t102, t103, t104, t105, t106, t107, t108, t109, t110, t111, t112, t113, t114, t115, t116, t117, t118, t119, t120, t121, t122, t123, t124, t125, t126, t127, t128, t129, t130, t131, t132, t133, t134, t135, t136, t137, t138, t139, t140, t141, t142, t143, t144, t145, t146, t147, t148, t149, t150, t151, t152, t153, t154, t155, t156, t157, t158, t159, t160, t161, t162, t163, t164, t165, t166, t167, t168, t169, t170, t171, t172, t173, t174, t175, t176, t177, t178, t179, t180, t181, t182, t183, t184, t185, t186, t187, t188, t189, t190, t191, t192, t193, t194, t195, t196, t197, t198, t199, t200, t201, t202, t203, t204, t205, t206, t207, t208, t209, t210, t211, t212, t213, t214, t215, t216, t217, t218, t219, t220, t221, t222, t223, t224, t225, t226, t227, t228, t229, t230, t231, t232, t233, t234, t235, t236, t237, t238, t239, t240, t241, t242, t243, t244, t245, t246, t247, t248, t249, t250, t251, t252, t253, t254, t255, t256, t257, t258, t259, t260, t261, t262, t263, t264, t265, t266, t267, t268, t269, t270, t271, t272, t273, t274, t275, t276, t277, t278, t279, t280, t281, t282, t283, t284, t285, t286, t287, t288, t289, t290, t291, t292, t293, t294, t295, t296, t297, t298, t299, t300, t301], []⟩ w0 := by
  dsimp only [Try.f4, Option.getD_some, tailN] at hT
  subst hT
  dsimp only
  have HSF : Hid (-9223372036854775808 ≤ sf ∧ sf ≤ 9223372036854775807) := hsf
  clear hsf
  obtain ⟨ad3, rfl, x3, -, l3⟩ := I3.out.at (k := 0) (x := .int .i64 p) (by rw [List.getElem?_map, hp0.out]; rfl)
  obtain ⟨ad5, rfl, x5, -, l5⟩ := I5.out.at (k := 0) (x := .bool b) (by rw [List.getElem?_map, hbs.out]; rfl)
  rw [addr_add0] at x3 x5
  have h3I : (0 : Int) < (ps.length : Int) := by omega
  have h5I : (0 : Int) < (bs.length : Int) := by rw [L5.out]; omega
  cases b with
  | false =>
    by_cases hpn : p < 0
    · go_wp2
      go_ret
      exact ⟨rfl, Below.refl _ _⟩
    · by_cases hpx : p < (xs.length : Int)
      · have HGD : Hid (Good sf xs.length j [(p, false)]) := (Good.nil sf xs.length j).next (fun _ => ⟨by omega, hpx⟩) (fun e => by cases e)
        go_upto_if 96 with fail
        rename (∀ (a : Act) (w1 : World), Code.wp Try.prog (tailN 9 (Try.f4.body.getD .skip)) (bodyPost Try.prog Try.f4 (TruePost w0)) a w1 → _) => hK0
        have HK : Hid _ := hK0
        clear hK0
        go_wp2_with fail
        refine HK.out _ _ ?_
        exact law4_t9' w0 sf p j false false a1 a2 (some ad3) a4 (some ad5) a7 a8 c1 c2 c3 c4 c5 c7 c8 xs acts ps us mem cuts bs _ _ _ _ _ _ _ _ _ _ _ _ _ _ _ _ _ _ _ _ _ _ _ _ _ _ _ _ _ _ _ _ _ _ _ _ _ _ _ _ _ _ _ _ _ _ _ _ _ _ _ _ _ _ _ _ _ _ _ _ _ _ _ _ _ _ _ _ _ _ _ _ _ _ _ _ _ _ _ _ _ _ _ _ _ _ _ _ _ _ _ _ _ _ _ _ _ _ _ _ _ _ _ _ _ _ _ _ _ _ _ _ _ _ _ _ _ _ _ _ _ _ _ _ _ _ _ _ _ _ _ _ _ _ _ _ _ _ _ _ _ _ _ _ _ _ _ _ _ _ _ _ _ _ _ _ _ _ _ _ _ _ _ _ _ _ _ _ _ _ _ _ _ _ _ _ _ _ _ _ _ _ _ _ _ _ _ _ _ _ _ _ _ _ _ _ _ _ _ _ _ _ _ _ _ _ _ _ _ _ _ _ _ _ _ _ _ _ _ _ _ _ _ _ _ _ _ _ _ _ _ _ _ _ _ _ _ _ _ _ _ _ _ _ _ _ _ _ _ _ _ _ _ _ _ _ _ _ _ _ _ _ _ _ _ _ _ _ _ _ _ _ _ _ _ _ _ _ _ _ _ _ _ _ _ _ _ _ _ _ I1 I2 I3 I4 I5 I7 I8 L4 L5 hps HI HGD (fun e => by cases e) hp0 hbs HSF.out hxl hal hpl hul hbl hml hcl rfl _ rfl
      · go_wp2
        go_ret
        exact ⟨rfl, Below.refl _ _⟩
  | true =>
    by_cases hpe : p = sf
    · subst hpe
      cases j with
      | false =>
        go_wp2
        go_ret
        exact ⟨rfl, Below.refl _ _⟩
      | true =>
        have HGD : Hid (Good p xs.length true [(p, true)]) := (Good.nil p xs.length true).next (fun e => by cases e) (fun _ _ => ⟨rfl, rfl⟩)
        have hdt : (true && decide (p = p)) = true := by simp
        have HDT : Hid ((true && decide (p = p)) = true) := hdt
        clear hdt
        go_upto_if 96 with fail
        rename (∀ (a : Act) (w1 : World), Code.wp Try.prog (tailN 9 (Try.f4.body.getD .skip)) (bodyPost Try.prog Try.f4 (TruePost w0)) a w1 → _) => hK0
        have HK : Hid _ := hK0
        clear hK0
        go_wp2_with fail
        go_loop [101] (fun i => ∃ k : Nat, k ≤ mem.length ∧ i = .int .i64 k ∧ ∀ m ∈ mem.take k, 0 ≤ m ∧ m < (cuts.length : Int)) (fun i => mem.length - (intOf i).toNat)
        case atStart => exact ⟨0, Nat.zero_le _, rfl, fun m hm => by simp at hm⟩
        case round =>
          obtain ⟨k, hk, rfl, hall⟩ := hrel
          have HALL : Hid (∀ m ∈ mem.take k, 0 ≤ m ∧ m < (cuts.length : Int)) := hall
          clear hall
          by_cases hlt : k < mem.length
          · have hltI : (k : Int) < (mem.length : Int) := by omega
            obtain ⟨m, hm⟩ : ∃ m, mem[k]? = some m := ⟨_, List.getElem?_eq_getElem hlt⟩
            obtain ⟨ad7, rfl, x7, -, l7⟩ := I7.out.at (k := k) (x := .int .i64 m) (by rw [List.getElem?_map, hm]; rfl)
            have HMK : Hid (mem[k]? = some m) := hm
            clear hm
            by_cases hm0 : m < 0
            · go_wp2
              go_ret
              exact ⟨rfl, Below.refl _ _⟩
            · by_cases hm1 : m < (cuts.length : Int)
              · go_wp2
                go_round
                case rel =>
                  refine ⟨k + 1, by omega, by go_num, ?_⟩
                  rw [List.take_add_one, HMK.out]
                  intro x hx
                  simp at hx
                  rcases hx with hx | hx
                  · exact HALL.out x hx
                  · subst hx; omega
                case measure => simp [intOf]; omega
              · go_wp2
                go_ret
                exact ⟨rfl, Below.refl _ _⟩
          · have hltI : ¬ (k : Int) < (mem.length : Int) := by omega
            go_wp2_with fail
            refine HK.out _ _ ?_
            exact law4_t9' w0 p p true true true a1 a2 (some ad3) a4 (some ad5) a7 a8 c1 c2 c3 c4 c5 c7 c8 xs acts ps us mem cuts bs _ _ _ _ _ _ _ _ _ _ _ _ _ _ _ _ _ _ _ _ _ _ _ _ _ _ _ _ _ _ _ _ _ _ _ _ _ _ _ _ _ _ _ _ _ _ _ _ _ _ _ _ _ _ _ _ _ _ _ _ _ _ _ _ _ _ _ _ _ _ _ _ _ _ _ _ _ _ _ _ _ _ _ _ _ _ _ _ _ _ _ _ _ _ _ _ _ _ _ _ _ _ _ _ _ _ _ _ _ _ _ _ _ _ _ _ _ _ _ _ _ _ _ _ _ _ _ _ _ _ _ _ _ _ _ _ _ _ _ _ _ _ _ _ _ _ _ _ _ _ _ _ _ _ _ _ _ _ _ _ _ _ _ _ _ _ _ _ _ _ _ _ _ _ _ _ _ _ _ _ _ _ _ _ _ _ _ _ _ _ _ _ _ _ _ _ _ _ _ _ _ _ _ _ _ _ _ _ _ _ _ _ _ _ _ _ _ _ _ _ _ _ _ _ _ _ _ _ _ _ _ _ _ _ _ _ _ _ _ _ _ _ _ _ _ _ _ _ _ _ _ _ _ _ _ _ _ _ _ _ _ _ _ _ _ _ _ _ _ _ _ _ _ _ _ _ _ _ _ _ _ _ _ _ _ _ _ _ _ _ I1 I2 I3 I4 I5 I7 I8 L4 L5 hps HI HGD (fun _ _ m hm => HALL.out m (by rw [List.take_of_length_le (by omega)]; exact hm)) hp0 hbs HSF.out hxl hal hpl hul hbl hml hcl (show Hid ((true && decide (p = p)) = true) by simp [Hid]) _ rfl
    · have HGD : Hid (Good sf xs.length j [(p, true)]) := (Good.nil sf xs.length j).next (fun e => by cases e) (fun _ e => (hpe e).elim)
      have HDT : Hid ((true && decide (p = sf)) = false) := by simp [Hid, hpe]
      have HPE : Hid (¬ p = sf) := hpe
      go_upto_if 96 with fail
      rename (∀ (a : Act) (w1 : World), Code.wp Try.prog (tailN 9 (Try.f4.body.getD .skip)) (bodyPost Try.prog Try.f4 (TruePost w0)) a w1 → _) => hK0
      have HK : Hid _ := hK0
      clear hK0
      go_wp2_with fail
      refine HK.out _ _ ?_
      exact law4_t9' w0 sf p j true _ a1 a2 (some ad3) a4 (some ad5) a7 a8 c1 c2 c3 c4 c5 c7 c8 xs acts ps us mem cuts bs _ _ _ _ _ _ _ _ _ _ _ _ _ _ _ _ _ _ _ _ _ _ _ _ _ _ _ _ _ _ _ _ _ _ _ _ _ _ _ _ _ _ _ _ _ _ _ _ _ _ _ _ _ _ _ _ _ _ _ _ _ _ _ _ _ _ _ _ _ _ _ _ _ _ _ _ _ _ _ _ _ _ _ _ _ _ _ _ _ _ _ _ _ _ _ _ _ _ _ _ _ _ _ _ _ _ _ _ _ _ _ _ _ _ _ _ _ _ _ _ _ _ _ _ _ _ _ _ _ _ _ _ _ _ _ _ _ _ _ _ _ _ _ _ _ _ _ _ _ _ _ _ _ _ _ _ _ _ _ _ _ _ _ _ _ _ _ _ _ _ _ _ _ _ _ _ _ _ _ _ _ _ _ _ _ _ _ _ _ _ _ _ _ _ _ _ _ _ _ _ _ _ _ _ _ _ _ _ _ _ _ _ _ _ _ _ _ _ _ _ _ _ _ _ _ _ _ _ _ _ _ _ _ _ _ _ _ _ _ _ _ _ _ _ _ _ _ _ _ _ _ _ _ _ _ _ _ _ _ _ _ _ _ _ _ _ _ _ _ _ _ _ _ _ _ _ _ _ _ _ _ _ _ _ _ _ _ _ _ _ I1 I2 I3 I4 I5 I7 I8 L4 L5 hps HI HGD (fun _ e => (HPE.out e).elim) hp0 hbs HSF.out hxl hal hpl hul hbl hml hcl (by have h := HPE.out; simp [Hid, h]) _ rfl

set_option maxHeartbeats 8000000 in
theorem law4 (sf : Int) (a1 a2 a3 a4 a5 a7 a8 : Option Addr) (c1 c2 c3 c4 c5 c7 c8 : Nat) (j : Bool) (xs : List (Value × List Value)) (acts ps us mem cuts : List Int) (bs : List Bool) (w0 : World)
    (I1 : InVV w0 (.slice a1 xs.length c1) xs) (I2 : InV w0 (.slice a2 acts.length c2) (acts.map (Value.int .i64))) (I3 : InV w0 (.slice a3 ps.length c3) (ps.map (Value.int .i64))) (I4 : InV w0 (.slice a4 us.length c4) (us.map (Value.int .u64))) (I5 : InV w0 (.slice a5 bs.length c5) (bs.map Value.bool)) (I7 : InV w0 (.slice a7 mem.length c7) (mem.map (Value.int .i64))) (I8 : InV w0 (.slice a8 cuts.length c8) (cuts.map (Value.int .u64)))
    (hx : ∀ x ∈ xs, x.2.length ≤ maxLen) (hU : HoldU xs) (hc1 : xs.length ≤ maxLen) (hc2 : acts.length ≤ maxLen) (hc3 : ps.length ≤ maxLen) (hc4 : us.length ≤ maxLen) (hc5 : bs.length ≤ maxLen) (hc7 : mem.length ≤ maxLen) (hc8 : cuts.length ≤ maxLen) (hsf : -9223372036854775808 ≤ sf ∧ sf ≤ 9223372036854775807) :
    Calls Try.prog 4 #[.int .i64 sf, .slice a1 xs.length c1, .slice a2 acts.length c2, .slice a3 ps.length c3, .slice a4 us.length c4, .slice a5 bs.length c5, .bool j, .slice a7 mem.length c7, .slice a8 cuts.length c8] w0 (TruePost w0) := by
  have hg := guard13 sf a1 a2 a3 a4 a5 a7 a8 xs.length c1 acts.length c2 ps.length c3 us.length c4 bs.length c5 mem.length c7 cuts.length c8 j xs w0 rfl I1 hx hc1 hc2 hc3 hc4 hc5 hc7 hc8
  have ht := tooBig a1 a2 a3 a4 a5 a7 a8 xs.length c1 acts.length c2 ps.length c3 us.length c4 bs.length c5 mem.length c7 cuts.length c8 xs w0 rfl I1 hx hc1 hc2 hc3 hc4 hc5 hc7 hc8
  have J1 : Hid (InVV w0 (.slice a1 xs.length c1) xs) := I1
  have J2 : Hid (InV w0 (.slice a2 acts.length c2) (acts.map (Value.int .i64))) := I2
  have J3 : Hid (InV w0 (.slice a3 ps.length c3) (ps.map (Value.int .i64))) := I3
  have J4 : Hid (InV w0 (.slice a4 us.length c4) (us.map (Value.int .u64))) := I4
  have J5 : Hid (InV w0 (.slice a5 bs.length c5) (bs.map Value.bool)) := I5
  have J7 : Hid (InV w0 (.slice a7 mem.length c7) (mem.map (Value.int .i64))) := I7
  have J8 : Hid (InV w0 (.slice a8 cuts.length c8) (cuts.map (Value.int .u64))) := I8
  have HU : Hid (HoldU xs) := hU
  have HSF : Hid (-9223372036854775808 ≤ sf ∧ sf ≤ 9223372036854775807) := hsf
  clear I1 I2 I3 I4 I5 I7 I8 hU hx hsf hc1 hc2 hc3 hc4 hc5 hc7 hc8
  go_enter Try.func4, Try.ntmps4
  go_wp2_with fail
  refine hg.mono ?_
  rintro e w' ⟨⟨b, rfl⟩, rfl⟩
  clear hg
  cases b with
  | false =>
    go_wp2
    go_ret
    exact ⟨rfl, Below.refl _ _⟩
  | true =>
    go_wp2_with fail
    refine ht.mono ?_
    rintro e w' ⟨b, rfl, rfl, hbd⟩
    clear ht
    cases b with
    | true =>
      clear hbd
      go_wp2
      go_ret
      exact ⟨rfl, Below.refl _ _⟩
    | false =>
      obtain ⟨b1, b2, b3, b4, b5, b7, b8, bx⟩ := hbd rfl
      have BX : Hid (∀ x ∈ xs, x.2.length ≤ 131072) := bx
      clear hbd bx
      by_cases hp0 : ps.length = 0
      · have hp0I : (ps.length : Int) = 0 := by omega
        clear hp0
        go_wp2
        go_ret
        exact ⟨rfl, Below.refl _ _⟩
      · have hp0I : ¬ (ps.length : Int) = 0 := by omega
        have hp0b : ((ps.length : Int) == 0) = false := by simpa using hp0I
        by_cases hul : us.length = ps.length
        · have HUL : Hid (us.length = ps.length) := hul
          by_cases hbl : bs.length = ps.length
          · have HBL : Hid (bs.length = ps.length) := hbl
            have hulI : (us.length : Int) = (ps.length : Int) := by omega
            have hblI : (bs.length : Int) = (ps.length : Int) := by omega
            have HNP : Hid (¬ ps.length = 0) := hp0
            clear hul hbl
            go_upto_if 70 with fail
            rename (∀ (a : Act) (w1 : World), Code.wp Try.prog (tailN 5 (Try.f4.body.getD .skip)) (bodyPost Try.prog Try.f4 (TruePost w0)) a w1 → _) => hK0
            have HK : Hid _ := hK0
            clear hK0
            go_wp2_with fail
            refine HK.out _ _ ?_
            have hHI : HoldInts xs := fun x hx => by
              obtain ⟨us', e⟩ := HU.out x hx
              refine ⟨us', e, ?_⟩
              have := BX.out x hx
              rw [e, List.length_map] at this
              exact this
            have hpos : 0 < ps.length := Nat.pos_of_ne_zero HNP.out
            exact law4_t5 w0 sf ps[0] j (bs[0]'(by rw [HBL.out]; exact hpos)) a1 a2 a3 a4 a5 a7 a8 c1 c2 c3 c4 c5 c7 c8 xs acts ps us mem cuts bs _ _ _ _ _ _ _ _ _ _ _ _ _ _ _ _ _ _ _ _ _ _ _ _ _ _ _ _ _ _ _ _ _ _ _ _ _ _ _ _ _ _ _ _ _ _ _ _ _ _ _ _ _ _ _ _ _ _ _ _ _ _ _ _ _ _ _ _ _ _ _ _ _ _ _ _ _ _ _ _ _ _ _ _ _ _ _ _ _ _ _ _ _ _ _ _ _ _ _ _ _ _ _ _ _ _ _ _ _ _ _ _ _ _ _ _ _ _ _ _ _ _ _ _ _ _ _ _ _ _ _ _ _ _ _ _ _ _ _ _ _ _ _ _ _ _ _ _ _ _ _ _ _ _ _ _ _ _ _ _ _ _ _ _ _ _ _ _ _ _ _ _ _ _ _ _ _ _ _ _ _ _ _ _ _ _ _ _ _ _ _ _ _ _ _ _ _ _ _ _ _ _ _ _ _ _ _ _ _ _ _ _ _ _ _ _ _ _ _ _ _ _ _ _ _ _ _ _ _ _ _ _ _ _ _ _ _ _ _ _ _ _ _ _ _ _ _ _ _ _ _ _ _ _ _ _ _ _ _ _ _ _ _ _ _ _ _ _ _ _ _ _ _ _ _ _ _ _ _ _ _ _ _ _ _ _ _ _ _ _ _ _ J1 J2 J3 J4 J5 J7 J8 HUL HBL hpos hHI (List.getElem?_eq_getElem hpos) (List.getElem?_eq_getElem _) HSF.out b1 b2 b3 b4 b5 b7 b8 _ rfl
          · have hblI : ¬ (bs.length : Int) = (ps.length : Int) := by omega
            have hbb : ((bs.length : Int) != (ps.length : Int)) = true := by simpa using hblI
            have hulI : (us.length : Int) = (ps.length : Int) := by omega
            go_wp2
            go_ret
            exact ⟨rfl, Below.refl _ _⟩
        · have hulI : ¬ (us.length : Int) = (ps.length : Int) := by omega
          have hub : ((us.length : Int) != (ps.length : Int)) = true := by simpa using hulI
          clear hul
          go_wp2
          go_ret
          exact ⟨rfl, Below.refl _ _⟩

end Go.Proofs.Qxb6616962a

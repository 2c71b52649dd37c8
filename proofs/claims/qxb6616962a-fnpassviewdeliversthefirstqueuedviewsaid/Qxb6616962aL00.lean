import Derived.Test.Qxb6616962aL0
/-! The law (5): its first loop. -/
namespace Go.Proofs.Qxb6616962a
open Go.RowKit
set_option linter.unusedVariables false
set_option linter.unusedSimpArgs false
set_option maxRecDepth 8000

structure FR (w0 wr : World) (go : Nat) (sf : Int) (n : Nat) (j : Bool) (M : List (Int × Bool)) (f : Int) (os : List Bool) : Prop where
  row : RowV wr go 4 1 n (os.map Value.bool)
  out : OutOK os M n
  fj : FJ M f
  good : Good sf n j M
  below : Below w0.heap.size w0 wr

theorem FR.mark {w0 wr : World} {go : Nat} {sf f : Int} {n k : Nat} {j : Bool} {M : List (Int × Bool)} {os : List Bool} (h : FR w0 wr go sf n j M f os) (hk : k < n) (hgo : w0.heap.size ≤ go) : FR w0 (wr.setCell ⟨go, k, none⟩ (.bool true)) go sf n j (M ++ [((k : Int), false)]) f (os.set k true) := by
  refine ⟨?_, h.out.set hk, h.fj.same (Or.inl rfl), h.good.next (fun _ => ⟨by omega, by omega⟩) (fun e => by cases e), h.below.setCell hgo _⟩
  have := h.row.set k (.bool true) (by rw [List.length_map, h.out.1]; exact hk)
  rwa [← List.map_set] at this

theorem FR.join {w0 wr : World} {go : Nat} {sf f f' p : Int} {n : Nat} {j : Bool} {M : List (Int × Bool)} {os : List Bool} (h : FR w0 wr go sf n j M f os) (hf : (f < 0 ∧ f' = (M.length : Int)) ∨ (0 ≤ f ∧ f' = f)) (hp : p = sf → f < 0 ∧ j = true) : FR w0 wr go sf n j (M ++ [(p, true)]) f' os := by
  refine ⟨h.row, h.out.same p, ?_, ?_, h.below⟩
  · rcases hf with ⟨h1, rfl⟩ | ⟨h1, rfl⟩
    · exact (h.fj.new h1).1
    · exact h.fj.same (Or.inr h1)
  · refine h.good.next (fun e => by cases e) (fun _ e => ?_)
    obtain ⟨h1, h2⟩ := hp e
    exact ⟨(h.fj.new (p := p) h1).2, h2⟩

set_option maxHeartbeats 8000000 in
theorem law5_t7 (w0 w : World) (go : Nat) (sf : Int) (j : Bool) (a1 a2 a3 a4 a5 a7 a8 : Option Addr) (c1 c2 c3 c4 c5 c7 c8 : Nat) (xs : List (Value × List Value)) (acts ps us mem cuts : List Int) (bs : List Bool) (t9 t10 t11 t12 t13 t14 t15 t16 t17 t18 t22 t23 t24 t25 t26 t27 t28 t29 t30 t31 t32 t33 t34 t35 t36 t37 t38 t39 t40 t41 t42 t43 t44 t45 t46 t47 t48 t49 t50 t51 t52 t53 t54 t55 t56 t57 t58 t59 t60 t61 t62 t63 t64 t65 t66 t67 t68 t69 t70 t71 t72 t73 t74 t75 t76 t77 t78 t79 t80 t81 t82 t83 t84 t85 t86 t87 t88 t89 t90 t91 t92 t93 t94 t95 t96 t97 t98 t99 t100 t101 t102 t103 t104 t105 t106 t107 t108 t109 t110 t111 t112 t113 t114 t115 t116 t117 t118 t119 t120 t121 t122 t123 t124 t125 t126 t127 t128 t129 t130 t131 t132 t133 t134 t135 t136 t137 t138 t139 t140 t141 t142 t143 t144 t145 t146 t147 t148 t149 t150 t151 t152 t153 t154 t155 t156 t157 t158 t159 t160 t161 t162 t163 t164 t165 t166 t167 t168 t169 t170 t171 t172 t173 t174 t175 t176 t177 t178 t179 t180 t181 t182 t183 t184 t185 t186 t187 t188 t189 t190 t191 t192 t193 t194 t195 t196 t197 t198 t199 t200 t201 t202 t203 t204 t205 t206 t207 t208 t209 t210 t211 t212 t213 t214 t215 t216 t217 t218 t219 t220 t221 t222 t223 t224 t225 t226 t227 t228 t229 t230 t231 t232 t233 t234 t235 t236 t237 t238 t239 t240 t241 t242 t243 t244 t245 t246 t247 t248 t249 t250 t251 t252 t253 t254 t255 t256 t257 t258 t259 t260 t261 t262 t263 t264 t265 t266 t267 t268 t269 t270 t271 t272 t273 t274 t275 t276 t277 t278 t279 t280 t281 t282 t283 t284 t285 t286 t287 t288 t289 t290 t291 t292 t293 t294 t295 t296 t297 t298 t299 t300 : Value)
    (HB0 : Hid (Below w0.heap.size w0 w)) (I1 : Hid (InVV w0 (.slice a1 xs.length c1) xs)) (I2 : Hid (InV w0 (.slice a2 acts.length c2) (acts.map (Value.int .i64)))) (I3 : Hid (InV w0 (.slice a3 ps.length c3) (ps.map (Value.int .i64)))) (I4 : Hid (InV w0 (.slice a4 us.length c4) (us.map (Value.int .u64)))) (I5 : Hid (InV w0 (.slice a5 bs.length c5) (bs.map Value.bool))) (I7 : Hid (InV w0 (.slice a7 mem.length c7) (mem.map (Value.int .i64)))) (I8 : Hid (InV w0 (.slice a8 cuts.length c8) (cuts.map (Value.int .u64)))) (HROW : Hid (RowV w go 4 1 xs.length (List.replicate xs.length (.bool false)))) (hgo : w0.heap.size ≤ go) (L4 : Hid (us.length = ps.length)) (L5 : Hid (bs.length = ps.length)) (hps : 0 < ps.length) (HI : Hid (HoldInts xs)) (hsf : -9223372036854775808 ≤ sf ∧ sf ≤ 9223372036854775807) (hxl : xs.length ≤ 65536) (hal : acts.length ≤ 131072) (hpl : ps.length ≤ 131072) (hul : us.length ≤ 131072) (hbl : bs.length ≤ 1048576) (hml : mem.length ≤ 131072) (hcl : cuts.length ≤ 131072) (T : Code) (hT : T = tailN 7 (Try.f5.body.getD .skip)) :
    Code.wp Try.prog T (bodyPost Try.prog Try.f5 (TruePost w0)) ⟨#[.int .i64 sf, .slice a1 xs.length c1, .slice a2 acts.length c2, .slice a3 ps.length c3, .slice a4 us.length c4, .slice a5 bs.length c5, .bool j, .slice a7 mem.length c7, .slice a8 cuts.length c8, t9, t10, t11, t12, t13, t14, t15, t16, t17, t18, .int .i64 (ps.length : Int), .slice (some ⟨go, 0, none⟩) xs.length xs.length, .int .i64 (-1), t22, t23, t24, t25, t26, t27, t28, t29, t30, t31, t32, t33, t34, t35, t36, t37, t38, t39, t40, t41, t42, t43, t44, t45, t46, t47, t48, t49, t50, t51, t52, t53, t54, t55, t56, t57, t58, t59, t60, t61, t62, t63, t64, t65, t66, t67, t68, t69, t70, t71, t72, t73, t74, t75, t76, t77, t78, t79, t80, t81, t82, t83, t84, t85, t86, t87, t88, t89, t90, t91, t92, t93, t94, t95, t96, t97, t98, t99, t100, t101, t102, t103, t104, t105, t106, t107, t108, t109, t110, t111, t112, t113, t114, t115, t116, t117, t118, t119, t120, t121, t122, t123, t124, t125, t126, t127, t128, t129, t130, t131, t132, t133, t134, t135, t136, t137, t138, t139, t140, t141, t142, t143, t144, t145, t146, t147, t148, t149, t150, t151, t152, t153, t154, t155, t156, t157, t158, t159, t160, t161, t162, t163, t164, t165, t166, t167, t168, t169, t170, t171, t172, t173, t174, t175, t176, t177, t178, t179, t180, t181, t182, t183, t184, t185, t186, t187, t188, t189, t190, t191, t192, t193, t194, t195, t196, t197, t198, t199, t200, t201, t202, t203, t204, t205, t206, t207, t208, t209, t210, t211, t212, t213, t214, t215, t216, t217, t218, t219, t220, t221, t222, t223, t224, t225, t226, t227, t228, t229, t230, t231, t232, t233, t234, t235, t236, t237, t238, t239, t240, t241, t242, t243, t244, t245, t246, t247, t248, t249, t250, t251, t252, t253, t254, t255, t256, t257, t258, t259, t260, t261, t262, t263, t264, t265, t266, t267, t268, t269, t270, t271, t272, t273, t274, t275, t276, t277, t278, t279, t280, t281, t282, t283, t284, t285, t286, t287, t288, t289, t290, t291, t292, t293, t294, t295, t296, t297, t298, t299, t300], []⟩ w := by
  dsimp only [Try.f5, Option.getD_some, tailN] at hT
  subst hT
  dsimp only
  have HSF : Hid (-9223372036854775808 ≤ sf ∧ sf ≤ 9223372036854775807) := hsf
  clear hsf
  have hzl : Hid ((ps.zip bs).length = ps.length) := by rw [Hid, List.length_zip, L5.out, Nat.min_self]
  have HST : Hid (FR w0 w go sf xs.length j [] (-1) (List.replicate xs.length false)) := by
    refine ⟨?_, OutOK.nil _, Or.inl ⟨rfl, rfl⟩, Good.nil _ _ _, HB0.out⟩
    have := HROW.out
    rwa [List.map_replicate]
  go_wp2_with fail
  rename (∀ (a : Act) (w1 : World), Code.wp Try.prog (tailN 8 (Try.f5.body.getD .skip)) (bodyPost Try.prog Try.f5 (TruePost w0)) a w1 → _) => hK0
  have HK : Hid _ := hK0
  clear hK0
  go_loopw [21, 22] (fun ff i wr => ∃ (k : Nat) (f : Int) (os : List Bool), k ≤ ps.length ∧ i = .int .i64 k ∧ ff = .int .i64 f ∧ FR w0 wr go sf xs.length j ((ps.zip bs).take k) f os) (fun _ i _ => ps.length - (intOf i).toNat)
  case atStart => exact ⟨0, -1, List.replicate xs.length false, Nat.zero_le _, rfl, rfl, HST.out⟩
  case round =>
    obtain ⟨k, f, os, hk, rfl, rfl, hfr⟩ := hrel
    have HFR : Hid (FR w0 wr go sf xs.length j ((ps.zip bs).take k) f os) := hfr
    have hml2 : Hid (((ps.zip bs).take k).length = k) := by rw [Hid, List.length_take, hzl.out]; omega
    have hfl : f < (k : Int) := by have := hfr.fj.lt; rw [hml2.out] at this; exact this
    have hfm : -1 ≤ f := by
      obtain ⟨rfl, _⟩ | ⟨kk, _, rfl, _⟩ := hfr.fj <;> omega
    clear hfr
    by_cases hlt : k < ps.length
    · have hltI : (k : Int) < (ps.length : Int) := by omega
      obtain ⟨p, hp⟩ : ∃ p, ps[k]? = some p := ⟨_, List.getElem?_eq_getElem hlt⟩
      obtain ⟨b, hb⟩ : ∃ b, bs[k]? = some b := ⟨_, List.getElem?_eq_getElem (by rw [L5.out]; exact hlt)⟩
      have hLk : (ps.zip bs)[k]? = some (p, b) := List.getElem?_zip_eq_some.2 ⟨hp, hb⟩
      have HT : Hid ((ps.zip bs).take (k + 1) = (ps.zip bs).take k ++ [(p, b)]) := by rw [Hid, List.take_add_one, hLk]; rfl
      obtain ⟨ad3, rfl, x3, -, l3⟩ := I3.out.at (k := k) (x := .int .i64 p) (by rw [List.getElem?_map, hp]; rfl)
      obtain ⟨ad5, rfl, x5, -, l5⟩ := I5.out.at (k := k) (x := .bool b) (by rw [List.getElem?_map, hb]; rfl)
      have y3 : wr.cell? (ad3.add k) = some (.int .i64 p) := (World.cell?_of_block (w := w0) (HFR.out.below.block _ (World.block_lt_of_cell? _ _ x3))).trans x3
      have y5 : wr.cell? (ad5.add k) = some (.bool b) := (World.cell?_of_block (w := w0) (HFR.out.below.block _ (World.block_lt_of_cell? _ _ x5))).trans x5
      have h5I : (k : Int) < (bs.length : Int) := by rw [L5.out]; exact hltI
      clear hp hb hLk x3 x5
      cases b with
      | false =>
        by_cases hp0 : p < 0
        · go_wp2
          go_ret
          exact ⟨rfl, HFR.out.below⟩
        · by_cases hp1 : p < (xs.length : Int)
          · obtain ⟨n, rfl⟩ : ∃ n : Nat, p = (n : Int) := ⟨p.toNat, by omega⟩
            have hnl : n < xs.length := by omega
            have hos : Hid (os.length = xs.length) := HFR.out.out.1
            have cn : ∃ o, wr.cell? ⟨go, n, none⟩ = some (.bool o) := by
              have hl2 : n < os.length := by rw [hos.out]; exact hnl
              exact ⟨os[n], HFR.out.row.cell (by rw [List.getElem?_map, List.getElem?_eq_getElem hl2]; rfl)⟩
            obtain ⟨o, cn⟩ := cn
            have cF := HFR.out.row.frozen n
            have HN : Hid (FR w0 (wr.setCell ⟨go, n, none⟩ (.bool true)) go sf xs.length j ((ps.zip bs).take (k + 1)) f (os.set n true)) := by rw [HT.out]; exact HFR.out.mark hnl hgo
            go_wp2
            go_roundw
            case rel => exact ⟨k + 1, f, os.set n true, by omega, by go_num, rfl, HN.out⟩
            case measure => simp [intOf]; omega
          · go_wp2
            go_ret
            exact ⟨rfl, HFR.out.below⟩
      | true =>
        by_cases hf0 : f < 0
        · by_cases hps2 : p = sf
          · subst hps2
            cases j with
            | false =>
              go_wp2
              go_ret
              exact ⟨rfl, HFR.out.below⟩
            | true =>
              have HN : Hid (FR w0 wr go p xs.length true ((ps.zip bs).take (k + 1)) (k : Int) os) := by rw [HT.out]; exact HFR.out.join (Or.inl ⟨hf0, by rw [hml2.out]⟩) (fun _ => ⟨hf0, rfl⟩)
              go_wp2
              go_roundw
              case rel => exact ⟨k + 1, (k : Int), os, by omega, by go_num, rfl, HN.out⟩
              case measure => simp [intOf]; omega
          · have HN : Hid (FR w0 wr go sf xs.length j ((ps.zip bs).take (k + 1)) (k : Int) os) := by rw [HT.out]; exact HFR.out.join (Or.inl ⟨hf0, by rw [hml2.out]⟩) (fun e => (hps2 e).elim)
            go_wp2
            go_roundw
            case rel => exact ⟨k + 1, (k : Int), os, by omega, by go_num, rfl, HN.out⟩
            case measure => simp [intOf]; omega
        · by_cases hps2 : p = sf
          · subst hps2
            have hkf : ¬ (k : Int) = f := by omega
            go_wp2
            go_ret
            exact ⟨rfl, HFR.out.below⟩
          · have HN : Hid (FR w0 wr go sf xs.length j ((ps.zip bs).take (k + 1)) f os) := by rw [HT.out]; exact HFR.out.join (Or.inr ⟨by omega, rfl⟩) (fun e => (hps2 e).elim)
            go_wp2
            go_roundw
            case rel => exact ⟨k + 1, f, os, by omega, by go_num, rfl, HN.out⟩
            case measure => simp [intOf]; omega
    · obtain rfl : k = ps.length := by omega
      have hltI : ¬ (ps.length : Int) < (ps.length : Int) := by omega
      go_wp2_with fail
      refine HK.out _ _ ?_
      have hr := HFR.out
      rw [List.take_of_length_le (by rw [hzl.out]; exact Nat.le_refl _)] at hr
      exact law5_t8 w0 wr go sf f j a1 a2 a3 a4 a5 a7 a8 c1 c2 c3 c4 c5 c7 c8 xs acts ps us mem cuts bs os _ _ _ _ _ _ _ _ _ _ _ _ _ _ _ _ _ _ _ _ _ _ _ _ _ _ _ _ _ _ _ _ _ _ _ _ _ _ _ _ _ _ _ _ _ _ _ _ _ _ _ _ _ _ _ _ _ _ _ _ _ _ _ _ _ _ _ _ _ _ _ _ _ _ _ _ _ _ _ _ _ _ _ _ _ _ _ _ _ _ _ _ _ _ _ _ _ _ _ _ _ _ _ _ _ _ _ _ _ _ _ _ _ _ _ _ _ _ _ _ _ _ _ _ _ _ _ _ _ _ _ _ _ _ _ _ _ _ _ _ _ _ _ _ _ _ _ _ _ _ _ _ _ _ _ _ _ _ _ _ _ _ _ _ _ _ _ _ _ _ _ _ _ _ _ _ _ _ _ _ _ _ _ _ _ _ _ _ _ _ _ _ _ _ _ _ _ _ _ _ _ _ _ _ _ _ _ _ _ _ _ _ _ _ _ _ _ _ _ _ _ _ _ _ _ _ _ _ _ _ _ _ _ _ _ _ _ _ _ _ _ _ _ _ _ _ _ _ _ _ _ _ _ _ _ _ _ _ _ _ _ _ _ _ _ _ _ _ _ _ _ _ _ _ _ _ _ _ _ _ _ _ _ _ _ _ _ _ _ hr.below I1 I2 I3 I4 I5 I7 I8 hr.row L4 L5 hps hr.out HI hr.good hr.fj HSF.out hxl hal hpl hul hbl hml hcl _ rfl

end Go.Proofs.Qxb6616962a

import Derived.Test.Qxb6616962aD4
/-! The law (4): the delivery. -/
namespace Go.Proofs.Qxb6616962a
open Go.RowKit
set_option linter.unusedVariables false
set_option linter.unusedSimpArgs false
set_option maxRecDepth 8000

theorem talC_len (l : List (Int × Int)) : (l.flatMap talC).length = l.length * 2 := by
  induction l with
  | nil => rfl
  | cons x l ih => simp [List.flatMap_cons, talC, ih]; omega

theorem own_talC {w : World} {N : Nat} {sv : Value} {ts : List (Int × Int)} (h : w.ownsRow N 106 2 sv ts.length (ts.flatMap talC)) (hn : 0 < ts.length) : ∃ gs c, sv = .slice (some ⟨gs, 0, none⟩) ts.length c ∧ ∀ (q : Nat) (t : Int × Int), ts[q]? = some t → w.cell? ⟨gs, q * 2, none⟩ = some (.int .i64 t.1) ∧ w.cell? ⟨gs, q * 2 + 1, none⟩ = some (.int .u64 t.2) := by
  obtain ⟨e, e0, _⟩ | ⟨gs, c, rfl, h1, h2, hr⟩ := OwnR.of_own h
  · omega
  · refine ⟨gs, c, rfl, fun q t hq => ⟨hr.cell ?_, hr.cell ?_⟩⟩
    · rw [show q * 2 = q * 2 + 0 from rfl, flat_get talC 2 (fun _ => rfl) ts hq (by omega)]; rfl
    · rw [flat_get talC 2 (fun _ => rfl) ts hq (by omega)]; rfl

set_option maxHeartbeats 2000000 in
theorem law4_t16 (w0 w : World) (P : Nat → Prop) (N sb st : Nat) (oa ob : Option Nat) (gv g : Nat) (sf p : Int) (jo : Option Addr) (j b : Bool) (accV actV vV rV sv : Value) (accs accs' : List (Value × Value)) (V : List (Int × Value × Bool)) (L : List (Int × Bool)) (a1 a2 a5 a7 a8 oo ba : Option Addr) (c1 c2 n5 c5 c7 c8 oc bc : Nat) (v3 : Value) (xs : List (Value × List Value)) (acts ps mem cuts : List Int) (bs os : List Bool) (cs : List Value) (t3 t4 t6 t9 t10 t11 t12 t13 t14 t15 t16 t17 t18 t22 t23 t27 t29 t30 t31 t32 t33 t34 t35 t36 t37 t38 t39 t40 t41 t42 t43 t44 t45 t46 t47 t48 t49 t50 t51 t52 t53 t54 t55 t56 t57 t58 t59 t60 t61 t62 t63 t64 t65 t66 t67 t68 t69 t70 t71 t72 t73 t74 t75 t76 t77 t78 t79 t80 t81 t82 t83 t84 t85 t86 t87 t88 t89 t90 t91 t92 t93 t94 t95 t96 t97 t98 t99 t100 t101 t102 t103 t104 t105 t106 t107 t108 t109 t110 t111 t112 t113 t114 t115 t116 t117 t118 t119 t120 t121 t122 t123 t124 t125 t126 t127 t128 t129 t130 t131 t132 t133 t134 t135 t136 t137 t138 t139 t140 t141 t142 t143 t144 t145 t146 t147 t148 t149 t150 t151 t152 t153 t154 t155 t156 t157 t158 t159 t160 t161 t162 t163 t164 t165 t166 t167 t168 t169 t170 t171 t172 t173 t174 t175 t176 t177 t178 t179 t180 t181 t182 t183 t184 t185 t186 t187 t188 t189 t190 t191 t192 t193 t194 t195 t196 t197 t198 t199 t200 t201 t202 t203 t204 t205 t206 t207 t208 t209 t210 t211 t212 t213 t214 t215 t216 t217 t218 t219 t220 t221 t222 t223 t224 t225 t226 t227 t228 t229 t230 t231 t232 t233 t234 t235 t236 t237 t238 t239 t240 t241 t242 t243 t244 t245 t246 t247 t248 t249 t250 t251 t252 t253 t254 t255 t256 t257 t258 t259 t260 t261 t262 t263 t264 t265 t266 t267 t268 t269 t270 t271 t272 t273 t274 t275 t276 t277 t278 t279 t280 t281 t282 t283 t284 t285 t286 t287 t288 t289 t290 t291 t292 t293 t294 t295 t296 t297 t298 t299 t300 t301 : Value)
    (HC : Hid (Ctx w0 w P (.slice a1 xs.length c1) (.slice a2 acts.length c2) v3 (.slice a5 n5 c5) (.slice oo os.length oc) xs acts ps bs os cs)) (I7 : Hid (InV w0 (.slice a7 mem.length c7) (mem.map (Value.int .i64)))) (I8 : Hid (InV w0 (.slice a8 cuts.length c8) (cuts.map (Value.int .u64)))) (HB : Hid (SafeIn w P (.slice ba ps.length bc) (V.map (·.2.1)))) (HS : Hid (St w N sb st oa ob gv sf accV actV vV (if anyJ L then .pointer none else .pointer jo) rV accs' (actK L acts) (V.drop 1) [(p, .pointer (some ⟨g, 0, none⟩), sv)])) (HSO : Hid (StartsOK w N sf p b mem cuts sv)) (HMR : Hid (b = true → p = sf → ∀ m ∈ mem, 0 ≤ m ∧ m < (cuts.length : Int))) (HQ0 : Hid (V[0]? = some (p, .pointer (some ⟨g, 0, none⟩), b))) (HV : Hid (ViewsOK ps bs V)) (HVL : Hid (V.length = ps.length)) (HA : Hid (AccK L accs accs')) (HAO : Hid (AccOK cs accs)) (HAL : Hid (accs.length = xs.length)) (HO : Hid (OutOK os L xs.length)) (HI : Hid (HoldInts xs)) (HG : Hid (Good sf xs.length j L)) (hbs : Hid (bs[0]? = some b)) (hLb : Hid (anyJ L = b)) (hps : 0 < ps.length) (hpl : ps.length ≤ 131072) (hxl : xs.length ≤ 65536) (hal : acts.length ≤ 131072) (hml : mem.length ≤ 131072) (T : Code) (hT : T = tailN 16 (Try.f4.body.getD .skip)) :
    Code.wp Try.prog T (bodyPost Try.prog Try.f4 (TruePost w0)) ⟨#[.int .i64 sf, .slice a1 xs.length c1, .slice a2 acts.length c2, t3, t4, .slice a5 n5 c5, t6, .slice a7 mem.length c7, .slice a8 cuts.length c8, t9, t10, t11, t12, t13, t14, t15, t16, t17, t18, .int .i64 (ps.length : Int), .int .i64 p, .bool (b && decide (p = sf)), t22, t23, .slice oo os.length oc, .pointer (some ⟨sb, 0, none⟩), .slice ba ps.length bc, t27, .pointer jo, t29, t30, t31, t32, t33, t34, t35, t36, t37, t38, t39, t40, t41, t42, t43, t44, t45, t46, t47, t48, t49, t50, t51, t52, t53, t54, t55, t56, t57, t58, t59, t60, t61, t62, t63, t64, t65, t66, t67, t68, t69, t70, t71, t72, t73, t74, t75, t76, t77, t78, t79, t80, t81, t82, t83, t84, t85, t86, t87, t88, t89, t90, t91, t92, t93, t94, t95, t96, t97, t98, t99, t100, t101, t102, t103, t104, t105, t106, t107, t108, t109, t110, t111, t112, t113, t114, t115, t116, t117, t118, t119, t120, t121, t122, t123, t124, t125, t126, t127, t128, t129, t130, t131, t132, t133, t134, t135, t136, t137, t138, t139, t140, t141, t142, t143, t144, t145, t146, t147, t148, t149, t150, t151, t152, t153, t154, t155, t156, t157, t158, t159, t160, t161, t162, t163, t164, t165, t166, t167, t168, t169, t170, t171, t172, t173, t174, t175, t176, t177, t178, t179, t180, t181, t182, t183, t184, t185, t186, t187, t188, t189, t190, t191, t192, t193, t194, t195, t196, t197, t198, t199, t200, t201, t202, t203, t204, t205, t206, t207, t208, t209, t210, t211, t212, t213, t214, t215, t216, t217, t218, t219, t220, t221, t222, t223, t224, t225, t226, t227, t228, t229, t230, t231, t232, t233, t234, t235, t236, t237, t238, t239, t240, t241, t242, t243, t244, t245, t246, t247, t248, t249, t250, t251, t252, t253, t254, t255, t256, t257, t258, t259, t260, t261, t262, t263, t264, t265, t266, t267, t268, t269, t270, t271, t272, t273, t274, t275, t276, t277, t278, t279, t280, t281, t282, t283, t284, t285, t286, t287, t288, t289, t290, t291, t292, t293, t294, t295, t296, t297, t298, t299, t300, t301], []⟩ w := by
  dsimp only [Try.f4, Option.getD_some, tailN] at hT
  subst hT
  dsimp only
  have HSn : Hid (∀ n, St (w.drewN n) N sb st oa ob gv sf accV actV vV (if anyJ L then .pointer none else .pointer jo) rV accs' (actK L acts) (V.drop 1) [(p, .pointer (some ⟨g, 0, none⟩), sv)]) := fun n => HS.out.frame (Nat.le_refl _) (fun _ _ _ => rfl)
  have g21 : ∀ n, Calls Try.prog 21 #[.pointer (some ⟨sb, 0, none⟩)] (w.drewN n) (fun e w2 => e = .returned (.int .i64 1) ∧ w2 = w.drewN n) := fun n => get21 (HSn.out n)
  have g22 : ∀ n, Calls Try.prog 22 #[.pointer (some ⟨sb, 0, none⟩), .int .i64 0] (w.drewN n) (fun e w2 => e = .returned (.int .i64 p) ∧ w2 = w.drewN n) := fun n => get22 (HSn.out n) 0 _ rfl
  have g23 : ∀ n, Calls Try.prog 23 #[.pointer (some ⟨sb, 0, none⟩), .int .i64 0] (w.drewN n) (fun e w2 => e = .returned (.pointer (some ⟨g, 0, none⟩)) ∧ w2 = w.drewN n) := fun n => get23 (HSn.out n) 0 _ rfl
  have G21 : Hid _ := g21
  have G22 : Hid _ := g22
  have G23 : Hid _ := g23
  obtain ⟨adb, rfl, xb, -, lb⟩ := HB.out.1.at (k := 0) (x := .pointer (some ⟨g, 0, none⟩)) (by rw [List.getElem?_map, HQ0.out]; rfl)
  rw [addr_add0] at xb
  have hpsI : (0 : Int) < (ps.length : Int) := by omega
  have qY := fun (w : World) => neqPtr Try.underlying45 (by kernel_rfl) w (some ⟨g, 0, none⟩)
  clear g21 g22 g23
  go_wp2_with fail
  go_quiet (first | (go_at_call 21; refine Calls.quiet_of_same (G21.out _)) | (go_at_call 22; refine Calls.quiet_of_same (G22.out _)) | (go_at_call 23; refine Calls.quiet_of_same (G23.out _)))
  have hsame : SameW w (w.drewN nq) := (SameW.refl w).drewN nq
  have HCn : Hid (Ctx w0 (w.drewN nq) P (.slice a1 xs.length c1) (.slice a2 acts.length c2) v3 (.slice a5 n5 c5) (.slice oo os.length oc) xs acts ps bs os cs) := HC.out.chg (hsame.chg P)
  have HBn : Hid (SafeIn (w.drewN nq) P (.slice (some adb) ps.length bc) (V.map (·.2.1))) := HB.out.chg (hsame.chg P)
  have HSq : Hid (St (w.drewN nq) N sb st oa ob gv sf accV actV vV (if anyJ L then .pointer none else .pointer jo) rV accs' (actK L acts) (V.drop 1) [(p, .pointer (some ⟨g, 0, none⟩), sv)]) := HSn.out nq
  have HSOn : Hid (StartsOK (w.drewN nq) N sf p b mem cuts sv) := by
    have h := HSO.out
    unfold Hid StartsOK at *
    split at h
    · rename_i hc; rw [if_pos hc]; exact h
    · rename_i hc; rw [if_neg hc]; exact h
  obtain ⟨w9, hw9⟩ : ∃ w9, w9 = w.drewN nq := ⟨_, rfl⟩
  rw [← hw9] at HCn HBn HSq HSOn
  rw [← hw9]
  clear hw9 hsame G21 G22 G23 HSn xb
  by_cases hbp : b = true ∧ p = sf
  · have hst := HSOn.out
    unfold StartsOK at hst
    rw [if_pos hbp] at hst
    have hmr := HMR.out hbp.1 hbp.2
    obtain ⟨hb1, hb2⟩ := hbp
    subst hb1
    subst hb2
    have hlt : (mem.map (startOf cuts) ++ [(p, (1 : Int))]).length = mem.length + 1 := by simp
    rw [← hlt] at hst
    obtain ⟨gs, c0, rfl, hcell⟩ := own_talC hst (by rw [hlt]; omega)
    rw [hlt] at HSq
    have HCE : Hid (∀ (q : Nat) (t : Int × Int), (mem.map (startOf cuts) ++ [(p, (1 : Int))])[q]? = some t → w9.cell? ⟨gs, q * 2, none⟩ = some (.int .i64 t.1) ∧ w9.cell? ⟨gs, q * 2 + 1, none⟩ = some (.int .u64 t.2)) := hcell
    have HMM : Hid (∀ m ∈ mem, 0 ≤ m ∧ m < (cuts.length : Int)) := hmr
    have g24 : Calls Try.prog 24 #[.pointer (some ⟨sb, 0, none⟩), .int .i64 0] w9 (GetPost w9 (.int .i64 ((mem.length : Int) + 1))) := get24 HSq.out 0 p _ _ (mem.length + 1) c0 rfl
    clear hcell hmr hlt hst HSOn HSO
    go_wp2_with fail
    refine g24.mono ?_
    rintro e w' ⟨rfl, rfl⟩
    clear g24
    go_upto_if 177 with fail
    rename (∀ (a : Act) (w1 : World), Code.wp Try.prog (tailN 19 (Try.f4.body.getD .skip)) (bodyPost Try.prog Try.f4 (TruePost w0)) a w1 → _) => hK0
    have HK : Hid _ := hK0
    clear hK0
    have hdt : (true && decide (p = p)) = true := by simp
    go_wp2_with fail
    go_loopw [30] (fun i wr => ∃ q : Nat, q ≤ mem.length ∧ i = .int .i64 q ∧ SameW w' wr) (fun i _ => mem.length - (intOf i).toNat)
    case atStart => exact ⟨0, Nat.zero_le _, rfl, SameW.refl _⟩
    case round =>
      obtain ⟨q, hq, rfl, hs⟩ := hrel
      have HW : Hid (SameW w' wr) := hs
      have HCr : Hid (Ctx w0 wr P (.slice a1 xs.length c1) (.slice a2 acts.length c2) v3 (.slice a5 n5 c5) (.slice oo os.length oc) xs acts ps bs os cs) := HCn.out.chg (hs.chg P)
      have HSr : Hid (∀ n, St (wr.drewN n) N sb st oa ob gv p accV actV vV (if anyJ L then .pointer none else .pointer jo) rV accs' (actK L acts) (V.drop 1) [(p, .pointer (some ⟨g, 0, none⟩), .slice (some ⟨gs, 0, none⟩) (mem.length + 1) c0)]) := fun n => HSq.out.frame (by show w'.heap.size ≤ wr.heap.size; rw [hs.heap]; exact Nat.le_refl _) (fun k _ _ => hs.block k)
      clear hs
      by_cases hlt : q < mem.length
      · have hltI : (q : Int) < (mem.length : Int) := by omega
        obtain ⟨m, hm⟩ : ∃ m, mem[q]? = some m := ⟨_, List.getElem?_eq_getElem hlt⟩
        obtain ⟨hm0, hm1⟩ := HMM.out m (List.mem_of_getElem? hm)
        obtain ⟨mk, rfl⟩ : ∃ mk : Nat, m = (mk : Int) := ⟨m.toNat, by omega⟩
        obtain ⟨c, hc⟩ : ∃ c, cuts[mk]? = some c := ⟨_, List.getElem?_eq_getElem (by omega)⟩
        obtain ⟨adm, rfl, xm, -, lm⟩ := I7.out.at (k := q) (x := .int .i64 (mk : Int)) (by rw [List.getElem?_map, hm]; rfl)
        obtain ⟨adc, rfl, xc, -, lc⟩ := I8.out.at (k := mk) (x := .int .u64 c) (by rw [List.getElem?_map, hc]; rfl)
        have ym : wr.cell? (adm.add q) = some (.int .i64 (mk : Int)) := (World.cell?_of_block (w := w0) (HCr.out.below.block _ (World.block_lt_of_cell? _ _ xm))).trans xm
        have yc : wr.cell? (adc.add mk) = some (.int .u64 c) := (World.cell?_of_block (w := w0) (HCr.out.below.block _ (World.block_lt_of_cell? _ _ xc))).trans xc
        have hst : (mem.map (startOf cuts) ++ [(p, (1 : Int))])[q]? = some ((mk : Int), IntKind.u64.wrap (c + 1)) := by
          rw [List.getElem?_append_left (by simpa using hlt), List.getElem?_map, hm]
          simp [startOf, List.getD_eq_getElem?_getD, hc]
        obtain ⟨z1, z2⟩ := HCE.out q _ hst
        simp only at z1 z2
        have g25 : ∀ n, Calls Try.prog 25 #[.pointer (some ⟨sb, 0, none⟩), .int .i64 0, .int .i64 (q : Int)] (wr.drewN n) (fun e w2 => e = .returned (.int .i64 (mk : Int)) ∧ w2 = wr.drewN n) := fun n => get25 (HSr.out n) 0 q p (mk : Int) _ gs (mem.length + 1) c0 rfl (by omega) ((HW.out.cell ⟨gs, q * 2, none⟩).trans z1)
        have g26 : ∀ n, Calls Try.prog 26 #[.pointer (some ⟨sb, 0, none⟩), .int .i64 0, .int .i64 (q : Int)] (wr.drewN n) (fun e w2 => e = .returned (.int .u64 (IntKind.u64.wrap (c + 1))) ∧ w2 = wr.drewN n) := fun n => get26 (HSr.out n) 0 q p (IntKind.u64.wrap (c + 1)) _ gs (mem.length + 1) c0 rfl (by omega) ((HW.out.cell ⟨gs, q * 2 + 1, none⟩).trans z2)
        have G25 : Hid _ := g25
        have G26 : Hid _ := g26
        have hmI : (mk : Int) < (cuts.length : Int) := hm1
        clear hm hc xm xc hst z1 z2 g25 g26
        go_wp2_with fail
        go_quiet (first | (go_at_call 25; refine Calls.quiet_of_same (G25.out _)) | (go_at_call 26; refine Calls.quiet_of_same (G26.out _)))
        have HWn : Hid (SameW w' (wr.drewN nq)) := HW.out.drewN nq
        clear G25 G26
        go_wp2
        go_roundw
        case rel => exact ⟨q + 1, by omega, by go_num, HWn.out⟩
        case measure => simp [intOf]; omega
      · obtain rfl : q = mem.length := by omega
        have hltI : ¬ (mem.length : Int) < (mem.length : Int) := by omega
        have hst : (mem.map (startOf cuts) ++ [(p, (1 : Int))])[mem.length]? = some (p, 1) := by
          rw [List.getElem?_append_right (by simp)]
          simp
        obtain ⟨z1, z2⟩ := HCE.out mem.length _ hst
        have hwr0 : St wr N sb st oa ob gv p accV actV vV (if anyJ L then .pointer none else .pointer jo) rV accs' (actK L acts) (V.drop 1) [(p, .pointer (some ⟨g, 0, none⟩), .slice (some ⟨gs, 0, none⟩) (mem.length + 1) c0)] := (HSr.out 0).frame (Nat.le_refl _) (fun _ _ _ => rfl)
        have g25 : Calls Try.prog 25 #[.pointer (some ⟨sb, 0, none⟩), .int .i64 0, .int .i64 (mem.length : Int)] wr (GetPost wr (.int .i64 p)) := get25 hwr0 0 mem.length p p _ gs (mem.length + 1) c0 rfl (by omega) ((HW.out.cell ⟨gs, mem.length * 2, none⟩).trans z1)
        have g26 : Calls Try.prog 26 #[.pointer (some ⟨sb, 0, none⟩), .int .i64 0, .int .i64 (mem.length : Int)] wr (GetPost wr (.int .u64 1)) := get26 hwr0 0 mem.length p 1 _ gs (mem.length + 1) c0 rfl (by omega) ((HW.out.cell ⟨gs, mem.length * 2 + 1, none⟩).trans z2)
        have HSw : Hid (St wr N sb st oa ob gv p accV actV vV (if anyJ L then .pointer none else .pointer jo) rV accs' (actK L acts) (V.drop 1) [(p, .pointer (some ⟨g, 0, none⟩), .slice (some ⟨gs, 0, none⟩) (mem.length + 1) c0)]) := hwr0
        have HBr : Hid (SafeIn wr P (.slice (some adb) ps.length bc) (V.map (·.2.1))) := HBn.out.chg (HW.out.chg P)
        clear hst z1 z2 hwr0
        go_wp2_with fail
        refine g25.mono ?_
        rintro e w2 ⟨rfl, rfl⟩
        clear g25
        go_wp2_with fail
        refine g26.mono ?_
        rintro e w2 ⟨rfl, rfl⟩
        clear g26
        go_wp2_with fail
        refine HK.out _ _ ?_
        exact law4_t19 w0 w2 P N sb st oa ob gv p jo j true accV actV vV rV accs accs' V _ L a1 a2 a5 oo (some adb) c1 c2 n5 c5 oc bc v3 xs acts ps bs os cs _ _ _ _ _ _ _ _ _ _ _ _ _ _ _ _ _ _ _ _ _ _ _ _ _ _ _ _ _ _ _ _ _ _ _ _ _ _ _ _ _ _ _ _ _ _ _ _ _ _ _ _ _ _ _ _ _ _ _ _ _ _ _ _ _ _ _ _ _ _ _ _ _ _ _ _ _ _ _ _ _ _ _ _ _ _ _ _ _ _ _ _ _ _ _ _ _ _ _ _ _ _ _ _ _ _ _ _ _ _ _ _ _ _ _ _ _ _ _ _ _ _ _ _ _ _ _ _ _ _ _ _ _ _ _ _ _ _ _ _ _ _ _ _ _ _ _ _ _ _ _ _ _ _ _ _ _ _ _ _ _ _ _ _ _ _ _ _ _ _ _ _ _ _ _ _ _ _ _ _ _ _ _ _ _ _ _ _ _ _ _ _ _ _ _ _ _ _ _ _ _ _ _ _ _ _ _ _ _ _ _ _ _ _ _ _ _ _ _ _ _ _ _ _ _ _ _ _ _ _ _ _ _ _ _ _ _ _ _ _ _ _ _ _ _ _ _ _ _ _ _ _ _ _ _ _ _ _ _ _ _ _ _ _ _ _ _ _ _ _ _ _ _ _ _ _ _ _ _ _ _ _ _ _ _ _ _ _ _ _ _ _ _ _ HCr HBr HSw HV HVL HA HAO HAL HO HI HG hbs hLb hps hpl hxl hal _ rfl
  · have hst := HSOn.out
    unfold StartsOK at hst
    rw [if_neg hbp] at hst
    subst hst
    have g24 : Calls Try.prog 24 #[.pointer (some ⟨sb, 0, none⟩), .int .i64 0] w9 (GetPost w9 (.int .i64 0)) := get24 HSq.out 0 p _ none 0 0 rfl
    have hdt : (b && decide (p = sf)) = false := by
      cases b with
      | false => rfl
      | true => simp; exact fun e => hbp ⟨rfl, e⟩
    rw [hdt]
    clear hbp hdt
    go_wp2_with fail
    refine g24.mono ?_
    rintro e w' ⟨rfl, rfl⟩
    clear g24
    go_upto_if 177 with fail
    rename (∀ (a : Act) (w1 : World), Code.wp Try.prog (tailN 19 (Try.f4.body.getD .skip)) (bodyPost Try.prog Try.f4 (TruePost w0)) a w1 → _) => hK0
    have HK : Hid _ := hK0
    clear hK0
    go_wp2_with fail
    refine HK.out _ _ ?_
    exact law4_t19 w0 w' P N sb st oa ob gv sf jo j b accV actV vV rV accs accs' V _ L a1 a2 a5 oo (some adb) c1 c2 n5 c5 oc bc v3 xs acts ps bs os cs _ _ _ _ _ _ _ _ _ _ _ _ _ _ _ _ _ _ _ _ _ _ _ _ _ _ _ _ _ _ _ _ _ _ _ _ _ _ _ _ _ _ _ _ _ _ _ _ _ _ _ _ _ _ _ _ _ _ _ _ _ _ _ _ _ _ _ _ _ _ _ _ _ _ _ _ _ _ _ _ _ _ _ _ _ _ _ _ _ _ _ _ _ _ _ _ _ _ _ _ _ _ _ _ _ _ _ _ _ _ _ _ _ _ _ _ _ _ _ _ _ _ _ _ _ _ _ _ _ _ _ _ _ _ _ _ _ _ _ _ _ _ _ _ _ _ _ _ _ _ _ _ _ _ _ _ _ _ _ _ _ _ _ _ _ _ _ _ _ _ _ _ _ _ _ _ _ _ _ _ _ _ _ _ _ _ _ _ _ _ _ _ _ _ _ _ _ _ _ _ _ _ _ _ _ _ _ _ _ _ _ _ _ _ _ _ _ _ _ _ _ _ _ _ _ _ _ _ _ _ _ _ _ _ _ _ _ _ _ _ _ _ _ _ _ _ _ _ _ _ _ _ _ _ _ _ _ _ _ _ _ _ _ _ _ _ _ _ _ _ _ _ _ _ _ _ _ _ _ _ _ _ _ _ _ _ _ _ _ _ _ _ _ _ HCn HBn HSq HV HVL HA HAO HAL HO HI HG hbs hLb hps hpl hxl hal _ rfl

end Go.Proofs.Qxb6616962a

import Derived.Test.Qxb6616962aL5
/-! The law (5): what has been delivered. -/
namespace Go.Proofs.Qxb6616962a
open Go.RowKit
set_option linter.unusedVariables false
set_option linter.unusedSimpArgs false
set_option maxRecDepth 8000

set_option maxHeartbeats 8000000 in
theorem law5_t14 (w0 w : World) (P : Nat → Prop) (N sb st : Nat) (oa ob : Option Nat) (gv : Nat) (sf f : Int) (jo : Option Addr) (j : Bool) (accV actV vV rV : Value) (accs accs' : List (Value × Value)) (V : List (Int × Value × Bool)) (rs : List (Int × Value × Value)) (L : List (Int × Bool)) (a1 a2 a3 a5 a7 oo ba : Option Addr) (c1 c2 c3 n5 c5 c7 oc bc : Nat) (xs : List (Value × List Value)) (acts ps mem : List Int) (bs os : List Bool) (cs : List Value) (u4 u6 u8 u9 u10 u11 u12 u13 u14 u15 u16 u17 u18 u22 u23 u24 u27 u29 u30 u31 u32 u33 u34 u35 u36 u37 u38 u39 u40 u41 u42 u43 u44 u45 u46 u47 u48 u49 u50 u51 u52 u53 u54 u55 u56 u57 u58 u59 u60 u61 u62 u63 u64 u65 u66 u67 u68 u69 u70 u71 u72 u73 u74 u75 u76 u77 u78 u79 u80 u81 u82 u83 u84 u85 u86 u87 u88 u89 u90 u91 u92 u93 u94 u95 u96 u97 u98 u99 u100 u101 u102 u103 u104 u105 u106 u107 u108 u109 u110 u111 u112 u113 u114 u115 u116 u117 u118 u119 u120 u121 u122 u123 u124 u125 u126 u127 u128 u129 u130 u131 u132 u133 u134 u135 u136 u137 u138 u139 u140 u141 u142 u143 u144 u145 u146 u147 u148 u149 u150 u151 u152 u153 u154 u155 u156 u157 u158 u159 u160 u161 u162 u163 u164 u165 u166 u167 u168 u169 u170 u171 u172 u173 u174 u175 u176 u177 u178 u179 u180 u181 u182 u183 u184 u185 u186 u187 u188 u189 u190 u191 u192 u193 u194 u195 u196 u197 u198 u199 u200 u201 u202 u203 u204 u205 u206 u207 u208 u209 u210 u211 u212 u213 u214 u215 u216 u217 u218 u219 u220 u221 u222 u223 u224 u225 u226 u227 u228 u229 u230 u231 u232 u233 u234 u235 u236 u237 u238 u239 u240 u241 u242 u243 u244 u245 u246 u247 u248 u249 u250 u251 u252 u253 u254 u255 u256 u257 u258 u259 u260 u261 u262 u263 u264 u265 u266 u267 u268 u269 u270 u271 u272 u273 u274 u275 u276 u277 u278 u279 u280 u281 u282 u283 u284 u285 u286 u287 u288 u289 u290 u291 u292 u293 u294 u295 u296 u297 u298 u299 u300 : Value)
    (HC : Hid (Ctx w0 w P (.slice a1 xs.length c1) (.slice a2 acts.length c2) (.slice a3 ps.length c3) (.slice a5 n5 c5) (.slice oo os.length oc) xs acts ps bs os cs)) (HB : Hid (SafeIn w P (.slice ba ps.length bc) (V.map (·.2.1)))) (HS : Hid (St w N sb st oa ob gv sf accV actV vV (if anyJ L then .pointer none else .pointer jo) rV accs' (actK L acts) [] rs)) (HV : Hid (ViewsOK ps bs V)) (HVL : Hid (V.length = ps.length)) (HR : Hid (RsK sf mem.length V rs)) (HA : Hid (AccK L accs accs')) (HAO : Hid (AccOK cs accs)) (HAL : Hid (accs.length = xs.length)) (HO : Hid (OutOK os L xs.length)) (HI : Hid (HoldInts xs)) (HG : Hid (Good sf xs.length j L)) (HF : Hid (FJ L f)) (hxl : xs.length ≤ 65536) (hal : acts.length ≤ 131072) (hpl : ps.length ≤ 131072) (hml : mem.length ≤ 131072) (T : Code) (hT : T = tailN 14 (Try.f5.body.getD .skip)) :
    Code.wp Try.prog T (bodyPost Try.prog Try.f5 (TruePost w0)) ⟨#[.int .i64 sf, .slice a1 xs.length c1, .slice a2 acts.length c2, .slice a3 ps.length c3, u4, .slice a5 n5 c5, u6, .slice a7 mem.length c7, u8, u9, u10, u11, u12, u13, u14, u15, u16, u17, u18, .int .i64 (ps.length : Int), .slice oo os.length oc, .int .i64 f, u22, u23, u24, .pointer (some ⟨sb, 0, none⟩), .slice ba ps.length bc, u27, .pointer jo, u29, u30, u31, u32, u33, u34, u35, u36, u37, u38, u39, u40, u41, u42, u43, u44, u45, u46, u47, u48, u49, u50, u51, u52, u53, u54, u55, u56, u57, u58, u59, u60, u61, u62, u63, u64, u65, u66, u67, u68, u69, u70, u71, u72, u73, u74, u75, u76, u77, u78, u79, u80, u81, u82, u83, u84, u85, u86, u87, u88, u89, u90, u91, u92, u93, u94, u95, u96, u97, u98, u99, u100, u101, u102, u103, u104, u105, u106, u107, u108, u109, u110, u111, u112, u113, u114, u115, u116, u117, u118, u119, u120, u121, u122, u123, u124, u125, u126, u127, u128, u129, u130, u131, u132, u133, u134, u135, u136, u137, u138, u139, u140, u141, u142, u143, u144, u145, u146, u147, u148, u149, u150, u151, u152, u153, u154, u155, u156, u157, u158, u159, u160, u161, u162, u163, u164, u165, u166, u167, u168, u169, u170, u171, u172, u173, u174, u175, u176, u177, u178, u179, u180, u181, u182, u183, u184, u185, u186, u187, u188, u189, u190, u191, u192, u193, u194, u195, u196, u197, u198, u199, u200, u201, u202, u203, u204, u205, u206, u207, u208, u209, u210, u211, u212, u213, u214, u215, u216, u217, u218, u219, u220, u221, u222, u223, u224, u225, u226, u227, u228, u229, u230, u231, u232, u233, u234, u235, u236, u237, u238, u239, u240, u241, u242, u243, u244, u245, u246, u247, u248, u249, u250, u251, u252, u253, u254, u255, u256, u257, u258, u259, u260, u261, u262, u263, u264, u265, u266, u267, u268, u269, u270, u271, u272, u273, u274, u275, u276, u277, u278, u279, u280, u281, u282, u283, u284, u285, u286, u287, u288, u289, u290, u291, u292, u293, u294, u295, u296, u297, u298, u299, u300], []⟩ w := by
  dsimp only [Try.f5, Option.getD_some, tailN] at hT
  subst hT
  dsimp only
  have g21 := get21 HS.out
  have g27 := get27 HS.out
  rw [HR.out.1, HVL.out] at g21
  have g27' : Calls Try.prog 27 #[.pointer (some ⟨sb, 0, none⟩)] w (GetPost w (.int .i64 0)) := g27
  clear g27
  go_wp2_with fail
  refine g21.mono ?_
  rintro e w' ⟨rfl, rfl⟩
  clear g21
  go_wp2_with fail
  refine g27'.mono ?_
  rintro e w' ⟨rfl, rfl⟩
  clear g27'
  go_wp2_with fail
  rename (∀ (a : Act) (w1 : World), Code.wp Try.prog (tailN 16 (Try.f5.body.getD .skip)) (bodyPost Try.prog Try.f5 (TruePost w0)) a w1 → _) => hK0
  have HK : Hid _ := hK0
  clear hK0
  go_loopw [30] (fun i wr => ∃ k : Nat, k ≤ ps.length ∧ i = .int .i64 k ∧ SameW w' wr) (fun i _ => ps.length - (intOf i).toNat)
  case atStart => exact ⟨0, Nat.zero_le _, rfl, SameW.refl _⟩
  case round =>
    obtain ⟨k, hk, rfl, hs⟩ := hrel
    have HW : Hid (SameW w' wr) := hs
    have HCr : Hid (Ctx w0 wr P (.slice a1 xs.length c1) (.slice a2 acts.length c2) (.slice a3 ps.length c3) (.slice a5 n5 c5) (.slice oo os.length oc) xs acts ps bs os cs) := HC.out.chg (hs.chg P)
    have HBr : Hid (SafeIn wr P (.slice ba ps.length bc) (V.map (·.2.1))) := HB.out.chg (hs.chg P)
    have HSr : Hid (St wr N sb st oa ob gv sf accV actV vV (if anyJ L then .pointer none else .pointer jo) rV accs' (actK L acts) [] rs) := HS.out.frame (by rw [hs.heap]; exact Nat.le_refl _) (fun q _ _ => hs.block q)
    clear hs
    by_cases hlt : k < ps.length
    · have hltI : (k : Int) < (ps.length : Int) := by omega
      obtain ⟨⟨p, y, b⟩, hq⟩ : ∃ q, V[k]? = some q := ⟨_, List.getElem?_eq_getElem (by rw [HVL.out]; exact hlt)⟩
      obtain ⟨hp, hb, g, ey⟩ := HV.out k _ hq
      simp only at hp hb ey
      subst ey
      obtain ⟨sa, sc, hrk⟩ := HR.out.2 k _ hq
      simp only at hrk
      obtain ⟨ad3, rfl, x3, -, l3⟩ := HCr.out.pos.1.at (k := k) (x := .int .i64 p) (by rw [List.getElem?_map, hp]; rfl)
      obtain ⟨ad5, rfl, x5, e5, l5⟩ := HCr.out.jns.1.at (k := k) (x := .bool b) (by rw [List.getElem?_map, hb]; rfl)
      obtain ⟨adb, rfl, xb, -, lb⟩ := HBr.out.1.at (k := k) (x := .pointer (some ⟨g, 0, none⟩)) (by rw [List.getElem?_map, hq]; rfl)
      have h5I : (k : Int) < (n5 : Int) := by
        have := (List.getElem?_eq_some_iff.1 hb).1
        rw [e5, List.length_map]
        omega
      have g22 : ∀ n, Calls Try.prog 22 #[.pointer (some ⟨sb, 0, none⟩), .int .i64 (k : Int)] (wr.drewN n) (fun e w2 => e = .returned (.int .i64 p) ∧ w2 = wr.drewN n) := fun n => get22 (w := wr.drewN n) (HSr.out.frame (Nat.le_refl _) (fun _ _ _ => rfl)) k _ hrk
      have g23 : ∀ n, Calls Try.prog 23 #[.pointer (some ⟨sb, 0, none⟩), .int .i64 (k : Int)] (wr.drewN n) (fun e w2 => e = .returned (.pointer (some ⟨g, 0, none⟩)) ∧ w2 = wr.drewN n) := fun n => get23 (w := wr.drewN n) (HSr.out.frame (Nat.le_refl _) (fun _ _ _ => rfl)) k _ hrk
      have G22 : Hid _ := g22
      have G23 : Hid _ := g23
      have hrk' : Hid (rs[k]? = some (p, .pointer (some ⟨g, 0, none⟩), .slice sa (if b = true ∧ p = sf then mem.length + 1 else 0) sc)) := hrk
      have qY := fun (w : World) => neqPtr Try.underlying45 (by kernel_rfl) w (some ⟨g, 0, none⟩)
      clear hp hb hq hrk e5 g22 g23
      go_wp2_with fail
      go_quiet (first | (go_at_call 22; refine Calls.quiet_of_same (G22.out _)) | (go_at_call 23; refine Calls.quiet_of_same (G23.out _)))
      have HSn : Hid (St (wr.drewN nq) N sb st oa ob gv sf accV actV vV (if anyJ L then .pointer none else .pointer jo) rV accs' (actK L acts) [] rs) := HSr.out.frame (Nat.le_refl _) (fun _ _ _ => rfl)
      have HWn : Hid (SameW w' (wr.drewN nq)) := HW.out.drewN nq
      clear G22 G23
      by_cases hbs : b = true ∧ p = sf
      · have h24 := get24 HSn.out k p _ sa (mem.length + 1) sc (by rw [hrk'.out, if_pos hbs])
        obtain ⟨hb1, hb2⟩ := hbs
        subst hb1
        subst hb2
        have h24' : Calls Try.prog 24 #[.pointer (some ⟨sb, 0, none⟩), .int .i64 (k : Int)] (wr.drewN nq) (GetPost (wr.drewN nq) (.int .i64 ((mem.length : Int) + 1))) := h24
        clear h24
        go_wp2_with fail
        refine h24'.mono ?_
        rintro e w2 ⟨rfl, rfl⟩
        clear h24'
        go_wp2
        go_roundw
        case rel => exact ⟨k + 1, by omega, by go_num, HWn.out⟩
        case measure => simp [intOf]; omega
      · have h24 := get24 HSn.out k p _ sa 0 sc (by rw [hrk'.out, if_neg hbs])
        have h24' : Calls Try.prog 24 #[.pointer (some ⟨sb, 0, none⟩), .int .i64 (k : Int)] (wr.drewN nq) (GetPost (wr.drewN nq) (.int .i64 0)) := h24
        clear h24
        have HBS : Hid (¬ (b = true ∧ p = sf)) := hbs
        clear hbs
        cases b with
        | false =>
          clear HBS
          go_wp2_with fail
          refine h24'.mono ?_
          rintro e w2 ⟨rfl, rfl⟩
          clear h24'
          go_wp2
          go_roundw
          case rel => exact ⟨k + 1, by omega, by go_num, HWn.out⟩
          case measure => simp [intOf]; omega
        | true =>
          have hps : ¬ p = sf := fun e => HBS.out ⟨rfl, e⟩
          clear HBS
          go_wp2_with fail
          refine h24'.mono ?_
          rintro e w2 ⟨rfl, rfl⟩
          clear h24'
          go_wp2
          go_roundw
          case rel => exact ⟨k + 1, by omega, by go_num, HWn.out⟩
          case measure => simp [intOf]; omega
    · have hltI : ¬ (k : Int) < (ps.length : Int) := by omega
      go_wp2_with fail
      refine HK.out _ _ ?_
      exact law5_t16 w0 wr P N sb st oa ob gv sf f jo j accV actV vV rV accs accs' [] rs L a1 a2 oo c1 c2 oc _ _ xs acts ps bs os cs _ _ _ _ _ _ _ _ _ _ _ _ _ _ _ _ _ _ _ _ _ _ _ _ _ _ _ _ _ _ _ _ _ _ _ _ _ _ _ _ _ _ _ _ _ _ _ _ _ _ _ _ _ _ _ _ _ _ _ _ _ _ _ _ _ _ _ _ _ _ _ _ _ _ _ _ _ _ _ _ _ _ _ _ _ _ _ _ _ _ _ _ _ _ _ _ _ _ _ _ _ _ _ _ _ _ _ _ _ _ _ _ _ _ _ _ _ _ _ _ _ _ _ _ _ _ _ _ _ _ _ _ _ _ _ _ _ _ _ _ _ _ _ _ _ _ _ _ _ _ _ _ _ _ _ _ _ _ _ _ _ _ _ _ _ _ _ _ _ _ _ _ _ _ _ _ _ _ _ _ _ _ _ _ _ _ _ _ _ _ _ _ _ _ _ _ _ _ _ _ _ _ _ _ _ _ _ _ _ _ _ _ _ _ _ _ _ _ _ _ _ _ _ _ _ _ _ _ _ _ _ _ _ _ _ _ _ _ _ _ _ _ _ _ _ _ _ _ _ _ _ _ _ _ _ _ _ _ _ _ _ _ _ _ _ _ _ _ _ _ _ _ _ _ _ _ _ _ _ _ _ _ _ _ _ _ _ _ _ _ _ _ _ _ _ HCr HSr HA HAO HAL HO HI HG HF hxl hal _ rfl

end Go.Proofs.Qxb6616962a

import Derived.Test.Qxb6616962aL3
/-! The law (5): the views that wait. -/
namespace Go.Proofs.Qxb6616962a
open Go.RowKit
set_option linter.unusedVariables false
set_option linter.unusedSimpArgs false
set_option maxRecDepth 8000

theorem JoinSafe.mono {w : World} {P P' : Nat → Prop} {jv : Value} {mem cuts : List Int} (h : JoinSafe w P jv mem cuts) (hp : ∀ q, P' q → P q) : JoinSafe w P' jv mem cuts := by
  obtain ⟨gj, am, cm, ac, cc, rfl, h1, h2, h3, h4, h5⟩ := h
  exact ⟨gj, am, cm, ac, cc, rfl, fun e => h1 (hp gj e), h2, h3, h4.mono hp, h5.mono hp⟩

theorem St.aside {w w' : World} {N sb st : Nat} {oa ob : Option Nat} {gv gb : Nat} {sf : Int} {accV actV vV jv : Value} {accs : List (Value × Value)} {act : List Int} {vs : List (Int × Value × Bool)} (h : St w N sb st oa ob gv sf accV actV vV jv (.slice none 0 0) accs act vs []) (hgb : ¬ Pb N sb st oa ob gv gb) (hc : Chg w w' (fun q => q = gb)) : St w' N sb st oa ob gv sf accV actV vV jv (.slice none 0 0) accs act vs [] := by
  refine h.frame hc.size ?_
  intro q hq h2
  refine hc.block q ?_ ?_
  · rcases hq with hq | hq
    · exact Nat.lt_of_lt_of_le hq h.size
    · cases hq
  · rintro rfl
    refine hgb ?_
    rcases h2 with h2 | h2 | h2 | h2 | h2 | h2
    · exact Or.inl h2
    · exact Or.inr (Or.inl h2)
    · exact Or.inr (Or.inr (Or.inl h2))
    · exact Or.inr (Or.inr (Or.inr (Or.inl h2)))
    · exact Or.inr (Or.inr (Or.inr (Or.inr (Or.inl h2))))
    · cases h2

set_option maxHeartbeats 8000000 in
theorem law5_t11 (w0 w : World) (N sb st : Nat) (oa ob : Option Nat) (gv gb : Nat) (sf f : Int) (jo : Option Addr) (j : Bool) (accV actV vV : Value) (accs : List (Value × Value)) (V : List (Int × Value × Bool)) (a1 a2 a3 a5 a7 oo : Option Addr) (c1 c2 c3 n5 c5 c7 oc : Nat) (xs : List (Value × List Value)) (acts ps mem cuts : List Int) (bs os : List Bool) (cs : List Value) (u4 u6 u8 u9 u10 u11 u12 u13 u14 u15 u16 u17 u18 u22 u23 u24 u27 u28 u29 u30 u31 u32 u33 u34 u35 u36 u37 u38 u39 u40 u41 u42 u43 u44 u45 u46 u47 u48 u49 u50 u51 u52 u53 u54 u55 u56 u57 u58 u59 u60 u61 u62 u63 u64 u65 u66 u67 u68 u69 u70 u71 u72 u73 u74 u75 u76 u77 u78 u79 u80 u81 u82 u83 u84 u85 u86 u87 u88 u89 u90 u91 u92 u93 u94 u95 u96 u97 u98 u99 u100 u101 u102 u103 u104 u105 u106 u107 u108 u109 u110 u111 u112 u113 u114 u115 u116 u117 u118 u119 u120 u121 u122 u123 u124 u125 u126 u127 u128 u129 u130 u131 u132 u133 u134 u135 u136 u137 u138 u139 u140 u141 u142 u143 u144 u145 u146 u147 u148 u149 u150 u151 u152 u153 u154 u155 u156 u157 u158 u159 u160 u161 u162 u163 u164 u165 u166 u167 u168 u169 u170 u171 u172 u173 u174 u175 u176 u177 u178 u179 u180 u181 u182 u183 u184 u185 u186 u187 u188 u189 u190 u191 u192 u193 u194 u195 u196 u197 u198 u199 u200 u201 u202 u203 u204 u205 u206 u207 u208 u209 u210 u211 u212 u213 u214 u215 u216 u217 u218 u219 u220 u221 u222 u223 u224 u225 u226 u227 u228 u229 u230 u231 u232 u233 u234 u235 u236 u237 u238 u239 u240 u241 u242 u243 u244 u245 u246 u247 u248 u249 u250 u251 u252 u253 u254 u255 u256 u257 u258 u259 u260 u261 u262 u263 u264 u265 u266 u267 u268 u269 u270 u271 u272 u273 u274 u275 u276 u277 u278 u279 u280 u281 u282 u283 u284 u285 u286 u287 u288 u289 u290 u291 u292 u293 u294 u295 u296 u297 u298 u299 u300 : Value)
    (HC : Hid (Ctx w0 w (fun q => Pb N sb st oa ob gv q ∨ q = gb) (.slice a1 xs.length c1) (.slice a2 acts.length c2) (.slice a3 ps.length c3) (.slice a5 n5 c5) (.slice oo os.length oc) xs acts ps bs os cs)) (HB : Hid (RowV w gb 45 1 ps.length (List.replicate ps.length (.pointer none)))) (hgb : Hid (¬ Pb N sb st oa ob gv gb)) (HS : Hid (St w N sb st oa ob gv sf accV actV vV (.pointer jo) (.slice none 0 0) accs acts V [])) (HV : Hid (ViewsOK ps bs V)) (HVL : Hid (V.length = ps.length)) (HAO : Hid (AccOK cs accs)) (HAL : Hid (accs.length = xs.length)) (HO : Hid (OutOK os (pr V) xs.length)) (HI : Hid (HoldInts xs)) (HG : Hid (Good sf xs.length j (pr V))) (HF : Hid (FJ (pr V) f)) (HJ : Hid (j = true → JoinSafe w (fun q => Pb N sb st oa ob gv q ∨ q = gb) (.pointer jo) mem cuts)) (HM : Hid (∀ (k : Nat), (pr V)[k]? = some (sf, true) → ∀ m ∈ mem, 0 ≤ m ∧ m < (cuts.length : Int))) (hsf : -9223372036854775808 ≤ sf ∧ sf ≤ 9223372036854775807) (hxl : xs.length ≤ 65536) (hal : acts.length ≤ 131072) (hpl : ps.length ≤ 131072) (hml : mem.length ≤ 131072) (hcl : cuts.length ≤ 131072) (T : Code) (hT : T = tailN 11 (Try.f5.body.getD .skip)) :
    Code.wp Try.prog T (bodyPost Try.prog Try.f5 (TruePost w0)) ⟨#[.int .i64 sf, .slice a1 xs.length c1, .slice a2 acts.length c2, .slice a3 ps.length c3, u4, .slice a5 n5 c5, u6, .slice a7 mem.length c7, u8, u9, u10, u11, u12, u13, u14, u15, u16, u17, u18, .int .i64 (ps.length : Int), .slice oo os.length oc, .int .i64 f, u22, u23, u24, .pointer (some ⟨sb, 0, none⟩), .slice (some ⟨gb, 0, none⟩) ps.length ps.length, u27, u28, u29, u30, u31, u32, u33, u34, u35, u36, u37, u38, u39, u40, u41, u42, u43, u44, u45, u46, u47, u48, u49, u50, u51, u52, u53, u54, u55, u56, u57, u58, u59, u60, u61, u62, u63, u64, u65, u66, u67, u68, u69, u70, u71, u72, u73, u74, u75, u76, u77, u78, u79, u80, u81, u82, u83, u84, u85, u86, u87, u88, u89, u90, u91, u92, u93, u94, u95, u96, u97, u98, u99, u100, u101, u102, u103, u104, u105, u106, u107, u108, u109, u110, u111, u112, u113, u114, u115, u116, u117, u118, u119, u120, u121, u122, u123, u124, u125, u126, u127, u128, u129, u130, u131, u132, u133, u134, u135, u136, u137, u138, u139, u140, u141, u142, u143, u144, u145, u146, u147, u148, u149, u150, u151, u152, u153, u154, u155, u156, u157, u158, u159, u160, u161, u162, u163, u164, u165, u166, u167, u168, u169, u170, u171, u172, u173, u174, u175, u176, u177, u178, u179, u180, u181, u182, u183, u184, u185, u186, u187, u188, u189, u190, u191, u192, u193, u194, u195, u196, u197, u198, u199, u200, u201, u202, u203, u204, u205, u206, u207, u208, u209, u210, u211, u212, u213, u214, u215, u216, u217, u218, u219, u220, u221, u222, u223, u224, u225, u226, u227, u228, u229, u230, u231, u232, u233, u234, u235, u236, u237, u238, u239, u240, u241, u242, u243, u244, u245, u246, u247, u248, u249, u250, u251, u252, u253, u254, u255, u256, u257, u258, u259, u260, u261, u262, u263, u264, u265, u266, u267, u268, u269, u270, u271, u272, u273, u274, u275, u276, u277, u278, u279, u280, u281, u282, u283, u284, u285, u286, u287, u288, u289, u290, u291, u292, u293, u294, u295, u296, u297, u298, u299, u300], []⟩ w := by
  dsimp only [Try.f5, Option.getD_some, tailN] at hT
  subst hT
  dsimp only
  have HSF : Hid (-9223372036854775808 ≤ sf ∧ sf ≤ 9223372036854775807) := hsf
  clear hsf
  go_wp2_with fail
  go_loopw [27] (fun i wr => ∃ (k : Nat), k ≤ ps.length ∧ i = .int .i64 k ∧ RowV wr gb 45 1 ps.length ((V.take k).map (·.2.1) ++ List.replicate (ps.length - k) (.pointer none)) ∧ Chg w wr (fun q => q = gb)) (fun i _ => ps.length - (intOf i).toNat)
  case atStart => exact ⟨0, Nat.zero_le _, rfl, HB.out, Chg.refl _ _⟩
  case round =>
    obtain ⟨k, hk, rfl, hrow, hchg⟩ := hrel
    have HROW : Hid (RowV wr gb 45 1 ps.length ((V.take k).map (·.2.1) ++ List.replicate (ps.length - k) (.pointer none))) := hrow
    have HCH : Hid (Chg w wr (fun q => q = gb)) := hchg
    have HSr : Hid (St wr N sb st oa ob gv sf accV actV vV (.pointer jo) (.slice none 0 0) accs acts V []) := HS.out.aside hgb.out hchg
    clear hrow hchg
    by_cases hlt : k < ps.length
    · have hltI : (k : Int) < (ps.length : Int) := by omega
      have hkV : k < V.length := by rw [HVL.out]; exact hlt
      obtain ⟨⟨p, y, b⟩, hq⟩ : ∃ q, V[k]? = some q := ⟨_, List.getElem?_eq_getElem hkV⟩
      obtain ⟨hp, hb, g, ey⟩ := HV.out k _ hq
      simp only at hp hb ey
      subst ey
      have g18 := get18 HSr.out k _ hq
      have hlen : ((V.take k).map (·.2.1)).length = k := by simp; omega
      have cz : wr.cell? ⟨gb, k, none⟩ = some (.pointer none) := by
        refine HROW.out.cell ?_
        rw [List.getElem?_append_right (by rw [hlen]; exact Nat.le_refl _), hlen, Nat.sub_self, List.getElem?_replicate, if_pos (by omega)]
      have cF := HROW.out.frozen k
      have HN : Hid (RowV (wr.setCell ⟨gb, k, none⟩ (.pointer (some ⟨g, 0, none⟩))) gb 45 1 ps.length ((V.take (k + 1)).map (·.2.1) ++ List.replicate (ps.length - (k + 1)) (.pointer none))) := by
        have h1 := HROW.out.set k (.pointer (some ⟨g, 0, none⟩)) (by simp; omega)
        rw [fill_nextV (Y := []) hlen hlt] at h1
        have e1 : (V.take (k + 1)).map (·.2.1) = (V.take k).map (·.2.1) ++ [.pointer (some ⟨g, 0, none⟩)] := by
          rw [List.take_add_one, hq]
          simp
        rw [e1]
        exact h1
      clear hp hb hq hlen
      go_wp2_with fail
      refine g18.mono ?_
      rintro e w' ⟨rfl, rfl⟩
      clear g18
      go_wp2
      go_roundw
      case rel => exact ⟨k + 1, by omega, by go_num, HN.out, HCH.out.trans (Chg.set _ _ rfl)⟩
      case measure => simp [intOf]; omega
    · obtain rfl : k = ps.length := by omega
      have hltI : ¬ (ps.length : Int) < (ps.length : Int) := by omega
      have g19 := get19 HSr.out
      go_wp2_with fail
      refine g19.mono ?_
      rintro e w' ⟨rfl, rfl⟩
      clear g19
      rename (∀ (a : Act) (w1 : World), Code.wp Try.prog (tailN 13 (Try.f5.body.getD .skip)) (bodyPost Try.prog Try.f5 (TruePost w0)) a w1 → _) => hK0
      have HK : Hid _ := hK0
      clear hK0
      go_wp2_with fail
      refine HK.out _ _ ?_
      have e1 : V.take ps.length = V := List.take_of_length_le (by rw [HVL.out]; exact Nat.le_refl _)
      have hrow := HROW.out
      rw [e1, Nat.sub_self, List.replicate_zero, List.append_nil] at hrow
      have hC2 : Chg w w' (fun q => Pb N sb st oa ob gv q ∨ q = gb) := HCH.out.mono (fun q h => Or.inr h)
      have hbf : SafeIn w' (Pb N sb st oa ob gv) (.slice (some ⟨gb, 0, none⟩) ps.length ps.length) (V.map (·.2.1)) := by
        refine ⟨Or.inr ⟨⟨gb, 0, none⟩, ps.length, by rw [List.length_map, HVL.out], by rw [List.length_map, HVL.out]; exact Nat.le_refl _, hrow.src⟩, fun _ g hg hq => ?_⟩
        have : gb = g := by simpa [blkOf] using hg
        exact hgb.out (this ▸ hq)
      exact law5_t13 w0 w' N sb st oa ob gv sf f jo j accV actV vV accs V a1 a2 a3 a5 a7 oo (some ⟨gb, 0, none⟩) c1 c2 c3 n5 c5 c7 oc ps.length xs acts ps mem cuts bs os cs _ _ _ _ _ _ _ _ _ _ _ _ _ _ _ _ _ _ _ _ _ _ _ _ _ _ _ _ _ _ _ _ _ _ _ _ _ _ _ _ _ _ _ _ _ _ _ _ _ _ _ _ _ _ _ _ _ _ _ _ _ _ _ _ _ _ _ _ _ _ _ _ _ _ _ _ _ _ _ _ _ _ _ _ _ _ _ _ _ _ _ _ _ _ _ _ _ _ _ _ _ _ _ _ _ _ _ _ _ _ _ _ _ _ _ _ _ _ _ _ _ _ _ _ _ _ _ _ _ _ _ _ _ _ _ _ _ _ _ _ _ _ _ _ _ _ _ _ _ _ _ _ _ _ _ _ _ _ _ _ _ _ _ _ _ _ _ _ _ _ _ _ _ _ _ _ _ _ _ _ _ _ _ _ _ _ _ _ _ _ _ _ _ _ _ _ _ _ _ _ _ _ _ _ _ _ _ _ _ _ _ _ _ _ _ _ _ _ _ _ _ _ _ _ _ _ _ _ _ _ _ _ _ _ _ _ _ _ _ _ _ _ _ _ _ _ _ _ _ _ _ _ _ _ _ _ _ _ _ _ _ _ _ _ _ _ _ _ _ _ _ _ _ _ _ _ _ _ _ _ _ _ _ _ _ _ _ _ _ ((HC.out.chg hC2).mono (fun q h => Or.inl h)) hbf HSr HV HVL HAO HAL HO HI HG HF (fun e => ((HJ.out e).chg hC2).mono (fun q h => Or.inl h)) HM HSF.out hxl hal hpl hml hcl _ rfl

end Go.Proofs.Qxb6616962a

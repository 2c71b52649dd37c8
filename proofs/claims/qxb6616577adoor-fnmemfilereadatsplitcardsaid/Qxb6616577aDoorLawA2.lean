import Derived.Test.Qxb6616577aDoorLawA1
import Derived.Deep.DeepCutAuto
/-! The law: ReadAt splits (4): behind the reads. -/
namespace Go.Proofs.Qxb6616577aDoor
open Go.RowKit Go.MuLone
set_option linter.unusedVariables false
set_option linter.unusedSimpArgs false
set_option maxRecDepth 8000

theorem rdN_le (ok : Bool) (d p : Nat) (off : Int) : rdN ok d p off ≤ p := by unfold rdN; split <;> omega

set_option maxHeartbeats 8000000 in
theorem lawA_tail (nm : ByteArray) (da va1 va2 va3 va4 va5 va6 : Option Addr) (dc vc1 vc2 vc3 vc4 vc5 vc6 bf : Nat) (D P A C Q4 Q5 Q6 : List Int) (r wr cl b : Bool) (k N N1 N2 : Nat) (off : Int) (ev ev1 ev2 : Value) (w w10 : World)
    (u34 u35 u36 u37 u38 u39 u40 u41 u42 u43 u44 u45 u46 u47 u48 u49 u50 u51 u52 u53 u54 u55 u56 u57 u58 u59 u60 u61 u62 u63 u64 u65 u66 u67 u68 u69 u70 u71 u72 u73 u74 u75 u76 u77 u78 u79 u80 u81 u82 u83 u84 u85 u86 u87 u88 u89 u90 u91 u92 u93 u94 u95 u96 u97 u98 u99 u100 u101 u102 u103 u104 u105 u106 u107 u108 u109 u110 u111 u112 u113 u114 u115 u116 u117 u118 u119 u120 u121 u122 u123 u124 u125 u126 u127 u128 u129 u130 u131 u132 u133 u134 u135 u136 u137 u138 u139 u140 u141 u142 u143 u144 u145 u146 u147 u148 u149 u150 u151 u152 u153 u154 u155 u156 u157 u158 u159 u160 u161 u162 u163 u164 u165 u166 u167 u168 u169 u170 u171 u172 u173 u174 u175 u176 u177 u178 u179 u180 u181 u182 u183 u184 u185 u186 u187 u188 u189 u190 u191 u192 u193 u194 u195 u196 u197 u198 u199 u200 u201 u202 u203 u204 u205 u206 u207 u208 u209 u210 u211 u212 : Value)
    (hD : D.length ≤ 65536) (hP : P.length ≤ 65536) (hk : k ≤ P.length) (ho1 : -9223372036854775808 ≤ off) (ho2 : off + k ≤ 9223372036854775807)
    (hA : Hid (A = P.take k)) (hC : Hid (C = P.drop k)) (hAl : Hid (A.length = k)) (hCl : Hid (C.length = P.length - k))
    (hN : Hid (N = rdN (okC cl r off) D.length P.length off)) (hN1 : Hid (N1 = rdN (okC cl r off) D.length A.length off)) (hN2 : Hid (N2 = rdN (okC cl r (off + k)) D.length C.length (off + k)))
    (hb : Hid (b = rdOK (okC cl r off) D.length P.length off)) (hev : Hid ((b = true ∧ ev = .nilIface) ∨ (b = false ∧ ∃ t a, ev = .iface t (.pointer (some a)))))
    (hQ4 : Hid (Q4 = rdB (okC cl r off) D P off)) (hQ5 : Hid (Q5 = rdB (okC cl r off) D A off)) (hQ6 : Hid (Q6 = rdB (okC cl r (off + k)) D C (off + k)))
    (D10 : Hid (DataAt w10 (.slice va1 D.length vc1) D)) (D30 : Hid (DataAt w10 (.slice va3 P.length vc3) P)) (D40 : Hid (DataAt w10 (.slice va4 P.length vc4) Q4)) (D50 : Hid (DataAt w10 (.slice va5 A.length vc5) Q5)) (D60 : Hid (DataAt w10 (.slice va6 C.length vc6) Q6))
    (B10 : Hid (Below w.heap.size w w10)) (T : Code) (hT : T = tailN 16 (Tryd.f4.body.getD .skip)) :
    Code.wp Tryd.prog T (bodyPost Tryd.prog Tryd.f4 (TruePost w)) ⟨#[.string nm, .slice da D.length dc, .bool r, .bool wr, .bool cl, .slice va3 P.length vc3, .int .i64 (k : Int), .int .i64 off, undef, undef, undef, undef, undef, undef, undef, undef, .bool false, .slice va1 D.length vc1, .slice va2 D.length vc2, .slice va4 P.length vc4, .slice va5 A.length vc5, .slice va6 C.length vc6, .pointer (some ⟨bf, 0, none⟩), .int .i64 (N : Int), ev, .int .i64 (N1 : Int), ev1, .int .i64 (N2 : Int), ev2, .bool (okC cl r off), undef, undef, undef, undef, u34, u35, u36, u37, u38, u39, u40, u41, u42, u43, u44, u45, u46, u47, u48, u49, u50, u51, u52, u53, u54, u55, u56, u57, u58, u59, u60, u61, u62, u63, u64, u65, u66, u67, u68, u69, u70, u71, u72, u73, u74, u75, u76, u77, u78, u79, u80, u81, u82, u83, u84, u85, u86, u87, u88, u89, u90, u91, u92, u93, u94, u95, u96, u97, u98, u99, u100, u101, u102, u103, u104, u105, u106, u107, u108, u109, u110, u111, u112, u113, u114, u115, u116, u117, u118, u119, u120, u121, u122, u123, u124, u125, u126, u127, u128, u129, u130, u131, u132, u133, u134, u135, u136, u137, u138, u139, u140, u141, u142, u143, u144, u145, u146, u147, u148, u149, u150, u151, u152, u153, u154, u155, u156, u157, u158, u159, u160, u161, u162, u163, u164, u165, u166, u167, u168, u169, u170, u171, u172, u173, u174, u175, u176, u177, u178, u179, u180, u181, u182, u183, u184, u185, u186, u187, u188, u189, u190, u191, u192, u193, u194, u195, u196, u197, u198, u199, u200, u201, u202, u203, u204, u205, u206, u207, u208, u209, u210, u211, u212], []⟩ w10 := by
  dsimp only [Tryd.f4, Option.getD_some, tailN] at hT
  subst hT
  have h0 : Hid (okC cl r off = true → 0 ≤ off) := fun h => by simp [okC] at h; exact h.2
  have hA0 : Hid (0 ≤ off → okC cl r (off + k) = okC cl r off) := okC_add cl r off k
  have hn0 : Hid (off < 0 → okC cl r off = false) := fun h => by simp [okC]; omega
  generalize okC cl r off = ok at *
  have hNl : N ≤ P.length := by rw [hN.out]; exact rdN_le _ _ _ _
  have hN1l : N1 ≤ k := by rw [hN1.out, ← hAl.out]; exact rdN_le _ _ _ _
  have hN2l : N2 ≤ P.length - k := by rw [hN2.out, ← hCl.out]; exact rdN_le _ _ _ _
  obtain ⟨t, ht⟩ : ∃ t, Hid (t = (ok && decide (off < (D.length : Int)))) := ⟨_, rfl⟩
  go_upto_region 21 with fail
  go_cut [129] (fun c wx => c = .bool t ∧ w10 = wx)
  case first =>
    cases ok with
    | false => go_wp2; go_meet; exact ⟨by rw [ht.out]; rfl, rfl⟩
    | true => go_wp2; go_meet; exact ⟨by rw [ht.out]; simp, rfl⟩
  case rest =>
    obtain ⟨e129, ew10⟩ := hcut
    subst e129 ew10
    go_upto_if 129 with fail
    go_cut [30] (fun m wx => m = .int .i64 (N : Int) ∧ w10 = wx)
    case first =>
      by_cases hc : ok = true ∧ off < (D.length : Int)
      · obtain ⟨rfl, ho⟩ := hc
        obtain rfl : t = true := by rw [ht.out]; simpa using ho
        have ho0 : 0 ≤ off := h0.out rfl
        have hNe0 : N = min P.length (D.length - off.toNat) := by rw [hN.out, rdN, if_pos ⟨rfl, ho⟩]
        by_cases hr : (P.length : Int) ≤ (D.length : Int) - off
        · have hNe : Hid (N = P.length) := by rw [hNe0, Hid]; omega
          clear hNe0
          go_wp2
          go_meet
          exact ⟨by rw [hNe.out], rfl⟩
        · have hNe : Hid ((N : Int) = (D.length : Int) - off) := by rw [hNe0, Hid]; omega
          clear hNe0
          go_wp2
          go_meet
          exact ⟨by rw [hNe.out], rfl⟩
      · have hNe : Hid (N = 0) := by rw [hN.out, rdN, if_neg hc, Hid]
        obtain rfl : t = false := by
          rw [ht.out]
          cases h : ok
          · rfl
          · rw [Bool.true_and]; exact decide_eq_false (fun h' => hc ⟨h, h'⟩)
        clear hc
        go_wp2
        go_meet
        exact ⟨by rw [hNe.out]; rfl, rfl⟩
    case rest =>
      obtain ⟨e30, ew10⟩ := hcut
      subst e30 ew10
      go_upto_region 28 with fail
      go_cut [159] (fun c wx => c = .bool false ∧ w10 = wx)
      case first =>
        by_cases hc : ok = true ∧ off < (D.length : Int)
        · obtain ⟨rfl, ho⟩ := hc
          by_cases hNP : N = P.length
          · have hbt : b = true := by
              rw [hb.out, rdOK, ← hN.out]; simp [ho, hNP]
            obtain ⟨-, rfl⟩ | ⟨hbf, -⟩ := hev.out
            · have hNB : ((N : Int) == (P.length : Int)) = true := by simp [hNP]
              clear hbt hNP
              go_wp2
              go_meet
              exact ⟨rfl, rfl⟩
            · rw [hbt] at hbf; cases hbf
          · have hbt : b = false := by
              rw [hb.out, rdOK, ← hN.out]; simp [ho, hNP]
            obtain ⟨hbf, -⟩ | ⟨-, t1, a1, rfl⟩ := hev.out
            · rw [hbt] at hbf; cases hbf
            · have hNB : ((N : Int) == (P.length : Int)) = false := by simp; omega
              clear hbt
              go_wp2
              go_meet
              exact ⟨rfl, rfl⟩
        · have hbt : b = false := by
            rw [hb.out]; exact (rd_not (P := P) hc).2.1
          obtain ⟨hbf, -⟩ | ⟨-, t1, a1, rfl⟩ := hev.out
          · rw [hbt] at hbf; cases hbf
          · clear hbt
            cases ok with
            | false => go_wp2; go_meet; exact ⟨rfl, rfl⟩
            | true =>
              have ho : ¬ off < (D.length : Int) := fun h => hc ⟨rfl, h⟩
              clear hc
              go_wp2
              go_meet
              exact ⟨rfl, rfl⟩
      case rest =>
        obtain ⟨e159, ew10⟩ := hcut
        subst e159 ew10
        go_upto_region 30 with fail
        go_cut [168] (fun c wx => c = .bool false ∧ w10 = wx)
        case first =>
          by_cases ho : 0 ≤ off
          · have hs := rdN_split ok D.length P.length k off ho hk
            rw [← hA0.out ho, hA0.out ho, ← hN.out] at hs
            have hs2 : N = N1 + N2 := by
              rw [hs, hN1.out, hN2.out, hA0.out ho, hAl.out, hCl.out]
            have hNB : ((N : Int) != (N1 : Int) + (N2 : Int)) = false := by simp; omega
            clear hs hs2
            go_wp2
            go_meet
            exact ⟨rfl, rfl⟩
          · go_wp2
            go_meet
            exact ⟨rfl, rfl⟩
        case rest =>
          obtain ⟨e168, ew10⟩ := hcut
          subst e168 ew10
          go_upto_if 168 with fail
          go_cut [16] (fun v wx => v = .bool false ∧ w10 = wx)
          case first =>
            go_wp2
            go_meet
            exact ⟨rfl, rfl⟩
          case rest =>
            obtain ⟨e16, ew10⟩ := hcut
            subst e16 ew10
            have hQ6' : Hid (0 ≤ off → Q6 = rdB ok D C (off + k)) := fun h => by rw [hQ6.out, hA0.out h]
            refine (‹∀ (a : Act) (w1 : World), Code.wp Tryd.prog (tailN 21 (Tryd.f4.body.getD .skip)) (bodyPost Tryd.prog Tryd.f4 (TruePost w)) a w1 → _›) _ _ ?_
            exact lawA_loop nm da va1 va2 va3 va4 va5 va6 dc vc1 vc2 vc3 vc4 vc5 vc6 bf D P A C Q4 Q5 Q6 r wr cl ok k N N1 N2 off ev ev1 ev2 w w10
              _ _ _ _ _ _ _ _ _ _ _ _ _ _ _ _ _ _ _ _ _ _ _ _ _ _ _ _ _ _ _ _ _ _ _ _ _ _ _ _ _ _ _ _ _ _ _ _ _ _ _ _ _ _ _ _ _ _ _ _ _ _ _ _ _ _ _ _ _ _ _ _ _ _ _ _ _ _ _ _ _ _ _ _ _ _ _ _ _ _ _ _ _ _ _ _ _ _ _ _ _ _ _ _ _ _ _ _ _ _ _ _ _ _ _ _ _ _ _ _ _ _ _ _ _ _ _ _ _ _ _ _ _ _ _ _ _ _ _ _ _ _ _ _ _ _ _ _ _ _ _ _ _ _ _ _ _ _ _ _ _ _ _ _ _ _ _ _ _ _ _ _ _ _ _ _ _ _ _ _ hD hP hk ho1 ho2 hA hC hAl hCl hn0 hN hQ4 hQ5 hQ6' D10 D30 D40 D50 D60 B10 _ rfl

end Go.Proofs.Qxb6616577aDoor

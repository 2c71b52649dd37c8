import Derived.Test.Qxb6616577aDoorLawB2
import Derived.Deep.DeepCutAuto
/-! The law: what's written is read (5): from 'wrote' on. -/
namespace Go.Proofs.Qxb6616577aDoor
open Go.RowKit Go.MuLone
set_option linter.unusedVariables false
set_option linter.unusedSimpArgs false
set_option maxRecDepth 8000

set_option maxHeartbeats 8000000 in
theorem lawB_tail (nm : ByteArray) (va1 va3 va8 : Option Addr) (vc1 vc3 vc8 bm bn bf : Nat) (D Q F : List Int) (off : Int) (w0 w : World)
    (u0 u1 u2 u3 u4 u7 u8 u9 u10 u11 u12 u13 u16 u17 u19 u20 u21 u22 u23 u24 u25 u26 u27 u28 u29 u30 u31 u32 u33 u34 u35 u36 u37 u38 u39 u40 u41 u42 u43 u44 u45 u46 u47 u48 u49 u50 u51 u52 u53 u54 u55 u56 u57 u58 u59 u60 u61 u62 u63 u64 u65 u66 u67 u68 u69 u70 u71 u72 u73 u74 u75 u76 u77 u78 u79 u80 u81 u82 u83 u84 u85 u86 u87 u88 u89 u90 u91 u92 u93 u94 u95 u96 u97 u98 u99 u100 u101 u102 u103 u104 u105 u106 u107 u108 u109 u110 u111 u112 u113 u114 u115 u116 u117 u118 u119 u120 u121 u122 u123 u124 u125 u126 u127 u128 u129 u130 u131 u132 u133 u134 u135 u136 u137 u138 u139 u140 u141 u142 u143 u144 u145 u146 u147 u148 u149 u150 u151 u152 u153 u154 u155 u156 u157 u158 u159 u160 u161 u162 u163 u164 u165 u166 u167 u168 u169 u170 u171 u172 u173 u174 u175 u176 u177 u178 u179 u180 u181 u182 u183 u184 u185 u186 u187 u188 u189 u190 u191 u192 u193 u194 u195 u196 u197 u198 u199 u200 u201 u202 u203 u204 u205 u206 u207 u208 u209 u210 u211 u212 u213 u214 u215 u216 u217 u218 u219 u220 u221 u222 u223 u224 u225 u226 u227 u228 u229 : Value)
    (hD : D.length ≤ 65536) (hQ : Q.length ≤ 65536) (ho1 : -9223372036854775808 ≤ off) (ho2 : off ≤ 65536)
    (hF : Hid (F = fileB off D Q)) (hG : Hid (Globs w)) (hf : Hid (FileR w bm bn bf nm true true false (.slice va8 F.length vc8))) (D80 : Hid (DataAt w (.slice va8 F.length vc8) F)) (n4 : 4 ≤ bm) (n8 : Hid (∀ g, rowOf (.slice va8 F.length vc8) = some g → g ≠ bm))
    (D10 : Hid (DataAt w (.slice va1 D.length vc1) D)) (D30 : Hid (DataAt w (.slice va3 Q.length vc3) Q))
    (B10 : Hid (Below w0.heap.size w0 w)) (T : Code) (hT : T = tailN 14 (Tryd.f5.body.getD .skip)) :
    Code.wp Tryd.prog T (bodyPost Tryd.prog Tryd.f5 (TruePost w0)) ⟨#[u0, u1, u2, u3, u4, .slice va3 Q.length vc3, .int .i64 off, u7, u8, u9, u10, u11, u12, u13, .bool false, .slice va1 D.length vc1, u16, u17, .pointer (some ⟨bf, 0, none⟩), u19, u20, u21, u22, u23, u24, u25, u26, u27, u28, u29, u30, u31, u32, u33, u34, u35, u36, u37, u38, u39, u40, u41, u42, u43, u44, u45, u46, u47, u48, u49, u50, u51, u52, u53, u54, u55, u56, u57, u58, u59, u60, u61, u62, u63, u64, u65, u66, u67, u68, u69, u70, u71, u72, u73, u74, u75, u76, u77, u78, u79, u80, u81, u82, u83, u84, u85, u86, u87, u88, u89, u90, u91, u92, u93, u94, u95, u96, u97, u98, u99, u100, u101, u102, u103, u104, u105, u106, u107, u108, u109, u110, u111, u112, u113, u114, u115, u116, u117, u118, u119, u120, u121, u122, u123, u124, u125, u126, u127, u128, u129, u130, u131, u132, u133, u134, u135, u136, u137, u138, u139, u140, u141, u142, u143, u144, u145, u146, u147, u148, u149, u150, u151, u152, u153, u154, u155, u156, u157, u158, u159, u160, u161, u162, u163, u164, u165, u166, u167, u168, u169, u170, u171, u172, u173, u174, u175, u176, u177, u178, u179, u180, u181, u182, u183, u184, u185, u186, u187, u188, u189, u190, u191, u192, u193, u194, u195, u196, u197, u198, u199, u200, u201, u202, u203, u204, u205, u206, u207, u208, u209, u210, u211, u212, u213, u214, u215, u216, u217, u218, u219, u220, u221, u222, u223, u224, u225, u226, u227, u228, u229], []⟩ w := by
  dsimp only [Tryd.f5, Option.getD_some, tailN] at hT
  subst hT
  dsimp only
  obtain ⟨wrote, hw⟩ : ∃ wrote, Hid (wrote = wroteB off Q) := ⟨_, rfl⟩
  obtain ⟨L, hLF⟩ : ∃ L, Hid (F.length = L) := ⟨_, rfl⟩
  have hLe : Hid ((L : Int) = if wrote = true ∧ (D.length : Int) < off + (Q.length : Int) then off + (Q.length : Int) else (D.length : Int)) := by
    rw [← hLF.out, hF.out, hw.out]; exact fileB_length off D Q
  have hL2 : L ≤ 200000 := by
    have h := hLe.out
    split at h <;> omega
  have h0 : Hid (wrote = true → 0 ≤ off) := fun h => by
    rw [hw.out] at h
    simp [wroteB] at h
    exact h.1
  obtain ⟨t, ht⟩ : ∃ t, Hid (t = (wrote && decide ((D.length : Int) < off + (Q.length : Int)))) := ⟨_, rfl⟩
  go_upto_region 29 with fail
  go_cut [25] (fun c wx => c = .bool wrote ∧ w = wx)
  case first =>
    by_cases ho : 0 ≤ off
    · by_cases hq : 0 < Q.length
      · have hqI : decide ((0 : Int) < (Q.length : Int)) = true := by simp; omega
        have hwt : Hid (wrote = true) := by rw [hw.out, Hid]; simp [wroteB, ho, hq]
        go_wp2
        go_meet
        exact ⟨by rw [hwt.out], rfl⟩
      · obtain rfl : Q = [] := List.eq_nil_of_length_eq_zero (by omega)
        have hwt : Hid (wrote = false) := by rw [hw.out, Hid]; simp [wroteB]
        go_wp2
        go_meet
        exact ⟨by rw [hwt.out], rfl⟩
    · have hwt : Hid (wrote = false) := by rw [hw.out, Hid]; simp [wroteB, ho]
      go_wp2
      go_meet
      exact ⟨by rw [hwt.out], rfl⟩
  case rest =>
    obtain ⟨e25, ew⟩ := hcut
    subst e25 ew
    go_upto_region 31 with fail
    go_cut [170] (fun c wx => c = .bool t ∧ w = wx)
    case first =>
      cases wrote with
      | false =>
        have htt : Hid (t = false) := by rw [ht.out, Hid]; rfl
        go_wp2
        go_meet
        exact ⟨by rw [htt.out], rfl⟩
      | true =>
        have ho := h0.out rfl
        have htt : Hid (t = decide ((D.length : Int) < off + (Q.length : Int))) := by rw [ht.out, Hid]; simp
        go_wp2
        go_meet
        exact ⟨by rw [htt.out], rfl⟩
    case rest =>
      obtain ⟨e170, ew⟩ := hcut
      subst e170 ew
      go_upto_if 170 with fail
      go_cut [26] (fun m wx => m = .int .i64 (L : Int) ∧ w = wx)
      case first =>
        cases t with
        | true =>
          have hc : wrote = true ∧ (D.length : Int) < off + (Q.length : Int) := by
            have h := ht.out
            simp at h
            exact h
          have ho := h0.out hc.1
          have hLq : Hid ((L : Int) = off + (Q.length : Int)) := by
            have h := hLe.out
            rw [if_pos hc] at h
            exact h
          clear hc
          go_wp2
          go_meet
          exact ⟨by rw [hLq.out], rfl⟩
        | false =>
          have hLq : Hid ((L : Int) = (D.length : Int)) := by
            have h := hLe.out
            rw [if_neg (fun hc => by have h2 := ht.out; rw [hc.1, decide_eq_true hc.2] at h2; cases h2)] at h
            exact h
          go_wp2
          go_meet
          exact ⟨by rw [hLq.out], rfl⟩
      case rest =>
        obtain ⟨e26, ew⟩ := hcut
        subst e26 ew
        refine (‹∀ (a : Act) (w1 : World), Code.wp Tryd.prog (tailN 17 (Tryd.f5.body.getD .skip)) (bodyPost Tryd.prog Tryd.f5 (TruePost w0)) a w1 → _›) _ _ ?_
        exact lawB_mid nm va1 va3 va8 vc1 vc3 vc8 bm bn bf L D Q F wrote off w0 w
          _ _ _ _ _ _ _ _ _ _ _ _ _ _ _ _ _ _ _ _ _ _ _ _ _ _ _ _ _ _ _ _ _ _ _ _ _ _ _ _ _ _ _ _ _ _ _ _ _ _ _ _ _ _ _ _ _ _ _ _ _ _ _ _ _ _ _ _ _ _ _ _ _ _ _ _ _ _ _ _ _ _ _ _ _ _ _ _ _ _ _ _ _ _ _ _ _ _ _ _ _ _ _ _ _ _ _ _ _ _ _ _ _ _ _ _ _ _ _ _ _ _ _ _ _ _ _ _ _ _ _ _ _ _ _ _ _ _ _ _ _ _ _ _ _ _ _ _ _ _ _ _ _ _ _ _ _ _ _ _ _ _ _ _ _ _ _ _ _ _ _ _ _ _ _ _ _ _ _ _ _ _ _ _ _ _ _ _ _ _ _ _ _ _ _ _ _ _ _ _ _ _ _ _ _ _ _ _ _ _ _ _ _ _ _ _ _ _ _ _ _ _ _ hD hQ ho1 ho2 hL2 hw hLF hF hG hf D80 n4 n8 D10 D30 B10 _ rfl

end Go.Proofs.Qxb6616577aDoor

import Derived.Test.Qxb6616577aDoorPlainB
import Derived.Test.Qxb6616577aDoorLawA1
/-! The law: what's written is read (5): its second loop. -/
namespace Go.Proofs.Qxb6616577aDoor
open Go.RowKit Go.MuLone
set_option linter.unusedVariables false
set_option linter.unusedSimpArgs false
set_option maxRecDepth 8000

theorem wantB_in {off : Int} {D Q : List Int} {i : Nat} {x : Int} (h : wantB off D Q i = some x) (hc : wroteB off Q = true ∧ off ≤ (i : Int) ∧ (i : Int) < off + (Q.length : Int)) : Q[((i : Int) - off).toNat]? = some x := by
  rw [wantB, if_pos hc] at h; exact h

theorem wantB_out {off : Int} {D Q : List Int} {i : Nat} {x : Int} (h : wantB off D Q i = some x) (hc : ¬ (wroteB off Q = true ∧ off ≤ (i : Int) ∧ (i : Int) < off + (Q.length : Int))) : (if i < D.length then D[i]? else some 0) = some x := by
  rw [wantB, if_neg hc] at h; exact h

set_option maxHeartbeats 8000000 in
theorem lawB_loop2 (va1 va3 va7 : Option Addr) (vc1 vc3 vc7 L : Nat) (D Q : List Int) (wrote : Bool) (off : Int) (w w10 : World)
    (u0 u1 u2 u3 u4 u7 u8 u9 u10 u11 u12 u13 u16 u17 u18 u19 u20 u21 u22 u23 u24 u28 u29 u30 u31 u32 u33 u34 u35 u36 u37 u38 u39 u40 u41 u42 u43 u44 u45 u46 u47 u48 u49 u50 u51 u52 u53 u54 u55 u56 u57 u58 u59 u60 u61 u62 u63 u64 u65 u66 u67 u68 u69 u70 u71 u72 u73 u74 u75 u76 u77 u78 u79 u80 u81 u82 u83 u84 u85 u86 u87 u88 u89 u90 u91 u92 u93 u94 u95 u96 u97 u98 u99 u100 u101 u102 u103 u104 u105 u106 u107 u108 u109 u110 u111 u112 u113 u114 u115 u116 u117 u118 u119 u120 u121 u122 u123 u124 u125 u126 u127 u128 u129 u130 u131 u132 u133 u134 u135 u136 u137 u138 u139 u140 u141 u142 u143 u144 u145 u146 u147 u148 u149 u150 u151 u152 u153 u154 u155 u156 u157 u158 u159 u160 u161 u162 u163 u164 u165 u166 u167 u168 u169 u170 u171 u172 u173 u174 u175 u176 u177 u178 u179 u180 u181 u182 u183 u184 u185 u186 u187 u188 u189 u190 u191 u192 u193 u194 u195 u196 u197 u198 u199 u200 u201 u202 u203 u204 u205 u206 u207 u208 u209 u210 u211 u212 u213 u214 u215 u216 u217 u218 u219 u220 u221 u222 u223 u224 u225 u226 u227 u228 u229 : Value)
    (hD : D.length ≤ 65536) (hQ : Q.length ≤ 65536) (hL2 : L ≤ 200000) (ho1 : -9223372036854775808 ≤ off) (ho2 : off ≤ 65536)
    (hw : Hid (wrote = wroteB off Q)) (hL : Hid ((fileB off D Q).length = L))
    (D10 : Hid (DataAt w10 (.slice va1 D.length vc1) D)) (D30 : Hid (DataAt w10 (.slice va3 Q.length vc3) Q)) (D70 : Hid (DataAt w10 (.slice va7 L vc7) (fileB off D Q)))
    (B10 : Hid (Below w.heap.size w w10)) (T : Code) (hT : T = tailN 21 (Tryd.f5.body.getD .skip)) :
    Code.wp Tryd.prog T (bodyPost Tryd.prog Tryd.f5 (TruePost w)) ⟨#[u0, u1, u2, u3, u4, .slice va3 Q.length vc3, .int .i64 off, u7, u8, u9, u10, u11, u12, u13, .bool false, .slice va1 D.length vc1, u16, u17, u18, u19, u20, u21, u22, u23, u24, .bool wrote, .int .i64 (L : Int), .slice va7 L vc7, u28, u29, u30, u31, u32, u33, u34, u35, u36, u37, u38, u39, u40, u41, u42, u43, u44, u45, u46, u47, u48, u49, u50, u51, u52, u53, u54, u55, u56, u57, u58, u59, u60, u61, u62, u63, u64, u65, u66, u67, u68, u69, u70, u71, u72, u73, u74, u75, u76, u77, u78, u79, u80, u81, u82, u83, u84, u85, u86, u87, u88, u89, u90, u91, u92, u93, u94, u95, u96, u97, u98, u99, u100, u101, u102, u103, u104, u105, u106, u107, u108, u109, u110, u111, u112, u113, u114, u115, u116, u117, u118, u119, u120, u121, u122, u123, u124, u125, u126, u127, u128, u129, u130, u131, u132, u133, u134, u135, u136, u137, u138, u139, u140, u141, u142, u143, u144, u145, u146, u147, u148, u149, u150, u151, u152, u153, u154, u155, u156, u157, u158, u159, u160, u161, u162, u163, u164, u165, u166, u167, u168, u169, u170, u171, u172, u173, u174, u175, u176, u177, u178, u179, u180, u181, u182, u183, u184, u185, u186, u187, u188, u189, u190, u191, u192, u193, u194, u195, u196, u197, u198, u199, u200, u201, u202, u203, u204, u205, u206, u207, u208, u209, u210, u211, u212, u213, u214, u215, u216, u217, u218, u219, u220, u221, u222, u223, u224, u225, u226, u227, u228, u229], []⟩ w10 := by
  dsimp only [Tryd.f5, Option.getD_some, tailN] at hT
  subst hT
  go_wp2_with fail
  go_loop [30] (fun i => ∃ j : Nat, j ≤ L ∧ i = .int .i64 j) (fun i => L - (intOf i).toNat)
  case atStart => exact ⟨0, Nat.zero_le _, rfl⟩
  case round =>
    obtain ⟨j, hj, rfl⟩ := hrel
    by_cases hlt : j < L
    · have hjF : j < (fileB off D Q).length := by rw [hL.out]; exact hlt
      obtain ⟨x, hx⟩ := wantB_some off D Q j hjF
      have hltI : (j : Int) < (L : Int) := by omega
      have x7 : (fileB off D Q)[j]? = some x := by rw [fileB_get _ _ _ _ hjF]; exact hx
      obtain ⟨g7, rfl, c7, -, l7, m7⟩ := D70.out.at x7
      unfold maxLen at m7
      clear x7 hjF
      cases wrote with
      | false =>
        have HX := wantB_out hx (fun h => by rw [← hw.out] at h; exact absurd h.1 (by simp))
        clear hx
        by_cases hjd : j < D.length
        · have hjdI : (j : Int) < (D.length : Int) := by omega
          have xd : D[j]? = some x := by rw [if_pos hjd] at HX; exact HX
          obtain ⟨g1, rfl, c1, -, l1, m1⟩ := D10.out.at xd
          unfold maxLen at m1
          clear xd HX
          go_wp2
          go_round
          case rel => exact ⟨j + 1, by omega, by go_num⟩
          case measure => simp [intOf]; omega
        · have hjdI : ¬ (j : Int) < (D.length : Int) := by omega
          obtain rfl : x = 0 := by rw [if_neg hjd] at HX; exact (Option.some.inj HX).symm
          clear HX
          go_wp2
          go_round
          case rel => exact ⟨j + 1, by omega, by go_num⟩
          case measure => simp [intOf]; omega
      | true =>
        have ho : 0 ≤ off := by
          have h := hw.out
          simp [wroteB] at h
          exact h.1
        obtain ⟨o, rfl⟩ := Int.eq_ofNat_of_zero_le ho
        by_cases hjo : o ≤ j
        · have hjoI : (o : Int) ≤ (j : Int) := by omega
          by_cases hjq : j < o + Q.length
          · have hjqI : (j : Int) < (o : Int) + (Q.length : Int) := by omega
            have HX := wantB_in hx ⟨hw.out.symm, hjoI, hjqI⟩
            clear hx
            obtain ⟨t, rfl⟩ : ∃ t, j = o + t := ⟨j - o, by omega⟩
            have et : (((o + t : Nat) : Int) - (o : Int)).toNat = t := by omega
            rw [et] at HX
            obtain ⟨g3, rfl, c3, -, l3, m3⟩ := D30.out.at HX
            have htQ : t < Q.length := by omega
            have htQI : (t : Int) < (Q.length : Int) := by omega
            unfold maxLen at m3
            clear HX et
            by_cases hjd : o + t < D.length
            · have hjdI : (o : Int) + (t : Int) < (D.length : Int) := by omega
              obtain ⟨y, hy⟩ : ∃ y, D[o + t]? = some y := ⟨_, List.getElem?_eq_getElem hjd⟩
              obtain ⟨g1, rfl, c1, -, l1, m1⟩ := D10.out.at hy
              unfold maxLen at m1
              clear hy
              go_wp2
              go_round
              case rel => exact ⟨o + t + 1, by omega, by go_num⟩
              case measure => simp [intOf]; omega
            · have hjdI : ¬ (o : Int) + (t : Int) < (D.length : Int) := by omega
              go_wp2
              go_round
              case rel => exact ⟨o + t + 1, by omega, by go_num⟩
              case measure => simp [intOf]; omega
          · have hjqI : decide ((j : Int) < (o : Int) + (Q.length : Int)) = false := by simp; omega
            have HX := wantB_out hx (fun h => by have := h.2.2; omega)
            clear hx
            by_cases hjd : j < D.length
            · have hjdI : (j : Int) < (D.length : Int) := by omega
              have xd : D[j]? = some x := by rw [if_pos hjd] at HX; exact HX
              obtain ⟨g1, rfl, c1, -, l1, m1⟩ := D10.out.at xd
              unfold maxLen at m1
              clear xd HX
              go_wp2
              go_round
              case rel => exact ⟨j + 1, by omega, by go_num⟩
              case measure => simp [intOf]; omega
            · have hjdI : ¬ (j : Int) < (D.length : Int) := by omega
              obtain rfl : x = 0 := by rw [if_neg hjd] at HX; exact (Option.some.inj HX).symm
              clear HX
              go_wp2
              go_round
              case rel => exact ⟨j + 1, by omega, by go_num⟩
              case measure => simp [intOf]; omega
        · have hjoI : decide ((o : Int) ≤ (j : Int)) = false := by simp; omega
          have HX := wantB_out hx (fun h => by have := h.2.1; omega)
          clear hx
          by_cases hjd : j < D.length
          · have hjdI : (j : Int) < (D.length : Int) := by omega
            have xd : D[j]? = some x := by rw [if_pos hjd] at HX; exact HX
            obtain ⟨g1, rfl, c1, -, l1, m1⟩ := D10.out.at xd
            unfold maxLen at m1
            clear xd HX
            go_wp2
            go_round
            case rel => exact ⟨j + 1, by omega, by go_num⟩
            case measure => simp [intOf]; omega
          · have hjdI : ¬ (j : Int) < (D.length : Int) := by omega
            obtain rfl : x = 0 := by rw [if_neg hjd] at HX; exact (Option.some.inj HX).symm
            clear HX
            go_wp2
            go_round
            case rel => exact ⟨j + 1, by omega, by go_num⟩
            case measure => simp [intOf]; omega
    · have hltI : ¬ (j : Int) < (L : Int) := by omega
      go_wp2
      go_ret
      exact ⟨rfl, B10.out⟩

end Go.Proofs.Qxb6616577aDoor

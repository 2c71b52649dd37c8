import Derived.Test.Qxb6616577aDoorPlain
import Derived.Deep.DeepCutAuto
/-! The law: ReadAt splits (4): its loop. -/
namespace Go.Proofs.Qxb6616577aDoor
open Go.RowKit Go.MuLone
set_option linter.unusedVariables false
set_option linter.unusedSimpArgs false
set_option maxRecDepth 8000

/-- A body without its first statements. -/
def tailN : Nat → Code → Code
  | 0, c => c
  | n + 1, .seq _ b => tailN n b
  | _ + 1, c => c

/-- The law answers true. -/
def TruePost (w : World) (e : Ending) (w' : World) : Prop := e = .returned (.bool true) ∧ Below w.heap.size w w'

theorem want_lt {ok : Bool} {D P : List Int} {off : Int} {j : Nat} {x : Int} (h : want ok D P off j = some x) (hj : j < rdN ok D.length P.length off) : D[off.toNat + j]? = some x := by
  rw [want, if_pos hj] at h; exact h

theorem want_ge {ok : Bool} {D P : List Int} {off : Int} {j : Nat} {x : Int} (h : want ok D P off j = some x) (hj : ¬ j < rdN ok D.length P.length off) : P[j]? = some x := by
  rw [want, if_neg hj] at h; exact h

set_option maxHeartbeats 8000000 in
theorem lawA_loop (nm : ByteArray) (da va1 va2 va3 va4 va5 va6 : Option Addr) (dc vc1 vc2 vc3 vc4 vc5 vc6 bf : Nat) (D P A C Q4 Q5 Q6 : List Int) (r wr cl ok : Bool) (k N N1 N2 : Nat) (off : Int) (ev ev1 ev2 : Value) (w w10 : World)
    (u31 u34 u35 u36 u37 u38 u39 u40 u41 u42 u43 u44 u45 u46 u47 u48 u49 u50 u51 u52 u53 u54 u55 u56 u57 u58 u59 u60 u61 u62 u63 u64 u65 u66 u67 u68 u69 u70 u71 u72 u73 u74 u75 u76 u77 u78 u79 u80 u81 u82 u83 u84 u85 u86 u87 u88 u89 u90 u91 u92 u93 u94 u95 u96 u97 u98 u99 u100 u101 u102 u103 u104 u105 u106 u107 u108 u109 u110 u111 u112 u113 u114 u115 u116 u117 u118 u119 u120 u121 u122 u123 u124 u125 u126 u127 u128 u129 u130 u131 u132 u133 u134 u135 u136 u137 u138 u139 u140 u141 u142 u143 u144 u145 u146 u147 u148 u149 u150 u151 u152 u153 u154 u155 u156 u157 u158 u159 u160 u161 u162 u163 u164 u165 u166 u167 u168 u169 u170 u171 u172 u173 u174 u175 u176 u177 u178 u179 u180 u181 u182 u183 u184 u185 u186 u187 u188 u189 u190 u191 u192 u193 u194 u195 u196 u197 u198 u199 u200 u201 u202 u203 u204 u205 u206 u207 u208 u209 u210 u211 u212 : Value)
    (hD : D.length ≤ 65536) (hP : P.length ≤ 65536) (hk : k ≤ P.length) (ho1 : -9223372036854775808 ≤ off) (ho2 : off + k ≤ 9223372036854775807)
    (hA : Hid (A = P.take k)) (hC : Hid (C = P.drop k)) (hAl : Hid (A.length = k)) (hCl : Hid (C.length = P.length - k)) (hn0 : Hid (off < 0 → ok = false))
    (hN : Hid (N = rdN ok D.length P.length off))
    (hQ4 : Hid (Q4 = rdB ok D P off)) (hQ5 : Hid (Q5 = rdB ok D A off)) (hQ6 : Hid (0 ≤ off → Q6 = rdB ok D C (off + k)))
    (D10 : Hid (DataAt w10 (.slice va1 D.length vc1) D)) (D30 : Hid (DataAt w10 (.slice va3 P.length vc3) P)) (D40 : Hid (DataAt w10 (.slice va4 P.length vc4) Q4)) (D50 : Hid (DataAt w10 (.slice va5 A.length vc5) Q5)) (D60 : Hid (DataAt w10 (.slice va6 C.length vc6) Q6))
    (B10 : Hid (Below w.heap.size w w10)) (T : Code) (hT : T = tailN 21 (Tryd.f4.body.getD .skip)) :
    Code.wp Tryd.prog T (bodyPost Tryd.prog Tryd.f4 (TruePost w)) ⟨#[.string nm, .slice da D.length dc, .bool r, .bool wr, .bool cl, .slice va3 P.length vc3, .int .i64 (k : Int), .int .i64 off, undef, undef, undef, undef, undef, undef, undef, undef, .bool false, .slice va1 D.length vc1, .slice va2 D.length vc2, .slice va4 P.length vc4, .slice va5 A.length vc5, .slice va6 C.length vc6, .pointer (some ⟨bf, 0, none⟩), .int .i64 (N : Int), ev, .int .i64 (N1 : Int), ev1, .int .i64 (N2 : Int), ev2, .bool ok, .int .i64 (N : Int), u31, undef, undef, u34, u35, u36, u37, u38, u39, u40, u41, u42, u43, u44, u45, u46, u47, u48, u49, u50, u51, u52, u53, u54, u55, u56, u57, u58, u59, u60, u61, u62, u63, u64, u65, u66, u67, u68, u69, u70, u71, u72, u73, u74, u75, u76, u77, u78, u79, u80, u81, u82, u83, u84, u85, u86, u87, u88, u89, u90, u91, u92, u93, u94, u95, u96, u97, u98, u99, u100, u101, u102, u103, u104, u105, u106, u107, u108, u109, u110, u111, u112, u113, u114, u115, u116, u117, u118, u119, u120, u121, u122, u123, u124, u125, u126, u127, u128, u129, u130, u131, u132, u133, u134, u135, u136, u137, u138, u139, u140, u141, u142, u143, u144, u145, u146, u147, u148, u149, u150, u151, u152, u153, u154, u155, u156, u157, u158, u159, u160, u161, u162, u163, u164, u165, u166, u167, u168, u169, u170, u171, u172, u173, u174, u175, u176, u177, u178, u179, u180, u181, u182, u183, u184, u185, u186, u187, u188, u189, u190, u191, u192, u193, u194, u195, u196, u197, u198, u199, u200, u201, u202, u203, u204, u205, u206, u207, u208, u209, u210, u211, u212], []⟩ w10 := by
  dsimp only [Tryd.f4, Option.getD_some, tailN] at hT
  subst hT
  by_cases ho : 0 ≤ off
  · obtain ⟨o, rfl⟩ := Int.eq_ofNat_of_zero_le ho
    have HQ6 : Hid (Q6 = rdB ok D C ((o : Int) + k)) := hQ6.out ho
    go_wp2_with fail
    go_loop [32] (fun i => ∃ j : Nat, j ≤ P.length ∧ i = .int .i64 j) (fun i => P.length - (intOf i).toNat)
    case atStart => exact ⟨0, Nat.zero_le _, rfl⟩
    case round =>
      obtain ⟨j, hj, rfl⟩ := hrel
      by_cases hlt : j < P.length
      · obtain ⟨x, hx⟩ := want_some ok D P o j hlt
        have hltI : (j : Int) < (P.length : Int) := by omega
        have x4 : Q4[j]? = some x := by rw [hQ4.out, rdB_get _ _ _ _ _ hlt]; exact hx
        obtain ⟨g4, rfl, c4, -, l4, m4⟩ := D40.out.at x4
        obtain ⟨y, hy⟩ : ∃ y, P[j]? = some y := ⟨_, List.getElem?_eq_getElem hlt⟩
        obtain ⟨g3, rfl, c3, -, l3, m3⟩ := D30.out.at hy
        unfold maxLen at m3 m4
        by_cases hm : j < N
        · have hmI : (j : Int) < (N : Int) := by omega
          have xd : D[o + j]? = some x := want_lt hx (by rw [← hN.out]; exact hm)
          have ld : o + j < D.length := (List.getElem?_eq_some_iff.1 xd).1
          have ldI : (o : Int) + (j : Int) < (D.length : Int) := by omega
          obtain ⟨g1, rfl, c1, -, l1, m1⟩ := D10.out.at xd
          unfold maxLen at m1
          have HX : Hid (want ok D P o j = some x) := hx
          clear x4 hy xd hx
          by_cases hjk : j < k
          · have hjkI : (j : Int) < (k : Int) := by omega
            have x5 : Q5[j]? = some x := by rw [hQ5.out, hA.out, want_left _ _ _ _ _ _ hjk hk]; exact HX.out
            obtain ⟨g5, rfl, c5, -, l5, m5⟩ := D50.out.at x5
            have hjA : (j : Int) < (A.length : Int) := by rw [hAl.out]; exact hjkI
            have hjA' : j < A.length := by rw [hAl.out]; exact hjk
            unfold maxLen at m5
            clear x5
            go_wp2
            go_round
            case rel => exact ⟨j + 1, by omega, by go_num⟩
            case measure => simp [intOf]; omega
          · have x6 : Q6[j - k]? = some x := by rw [HQ6.out, hC.out, want_right _ _ _ _ _ _ (by omega) (by omega) hlt]; exact HX.out
            obtain ⟨t, rfl⟩ : ∃ t, j = k + t := ⟨j - k, by omega⟩
            have et : k + t - k = t := by omega
            rw [et] at x6
            have hjkI : ¬ (k : Int) + (t : Int) < (k : Int) := by omega
            obtain ⟨g6, rfl, c6, -, l6, m6⟩ := D60.out.at x6
            have hjC' : t < C.length := by rw [hCl.out]; omega
            have hjC : (t : Int) < (C.length : Int) := by omega
            unfold maxLen at m6
            clear x6 et
            go_wp2
            go_round
            case rel => exact ⟨k + t + 1, by omega, by go_num⟩
            case measure => simp [intOf]; omega
        · have hmI : ¬ (j : Int) < (N : Int) := by omega
          obtain rfl : y = x := by
            have h := want_ge hx (by rw [← hN.out]; exact hm)
            rw [h] at hy
            exact (Option.some.inj hy).symm
          have HX : Hid (want ok D P o j = some y) := hx
          clear x4 hy hx
          by_cases hjk : j < k
          · have hjkI : (j : Int) < (k : Int) := by omega
            have x5 : Q5[j]? = some y := by rw [hQ5.out, hA.out, want_left _ _ _ _ _ _ hjk hk]; exact HX.out
            obtain ⟨g5, rfl, c5, -, l5, m5⟩ := D50.out.at x5
            have hjA : (j : Int) < (A.length : Int) := by rw [hAl.out]; exact hjkI
            have hjA' : j < A.length := by rw [hAl.out]; exact hjk
            unfold maxLen at m5
            clear x5
            go_wp2
            go_round
            case rel => exact ⟨j + 1, by omega, by go_num⟩
            case measure => simp [intOf]; omega
          · have x6 : Q6[j - k]? = some y := by rw [HQ6.out, hC.out, want_right _ _ _ _ _ _ (by omega) (by omega) hlt]; exact HX.out
            obtain ⟨t, rfl⟩ : ∃ t, j = k + t := ⟨j - k, by omega⟩
            have et : k + t - k = t := by omega
            rw [et] at x6
            have hjkI : ¬ (k : Int) + (t : Int) < (k : Int) := by omega
            obtain ⟨g6, rfl, c6, -, l6, m6⟩ := D60.out.at x6
            have hjC' : t < C.length := by rw [hCl.out]; omega
            have hjC : (t : Int) < (C.length : Int) := by omega
            unfold maxLen at m6
            clear x6 et
            go_wp2
            go_round
            case rel => exact ⟨k + t + 1, by omega, by go_num⟩
            case measure => simp [intOf]; omega
      · have hltI : ¬ (j : Int) < (P.length : Int) := by omega
        go_wp2
        go_ret
        exact ⟨rfl, B10.out⟩
  · have hok := hn0.out (by omega)
    have hoI : off < 0 := by omega
    have hN0 : N = 0 := by rw [hN.out, rdN, hok]; simp
    go_wp2_with fail
    go_loop [32] (fun i => ∃ j : Nat, j ≤ P.length ∧ i = .int .i64 j) (fun i => P.length - (intOf i).toNat)
    case atStart => exact ⟨0, Nat.zero_le _, rfl⟩
    case round =>
      obtain ⟨j, hj, rfl⟩ := hrel
      by_cases hlt : j < P.length
      · obtain ⟨x, hx⟩ := want_some ok D P off j hlt
        have hltI : (j : Int) < (P.length : Int) := by omega
        have x4 : Q4[j]? = some x := by rw [hQ4.out, rdB_get _ _ _ _ _ hlt]; exact hx
        obtain ⟨g4, rfl, c4, -, l4, m4⟩ := D40.out.at x4
        have hy : P[j]? = some x := want_ge hx (by rw [← hN.out]; omega)
        obtain ⟨g3, rfl, c3, -, l3, m3⟩ := D30.out.at hy
        unfold maxLen at m3 m4
        clear x4 hy hx
        go_wp2
        go_round
        case rel => exact ⟨j + 1, by omega, by go_num⟩
        case measure => simp [intOf]; omega
      · have hltI : ¬ (j : Int) < (P.length : Int) := by omega
        go_wp2
        go_ret
        exact ⟨rfl, B10.out⟩

end Go.Proofs.Qxb6616577aDoor

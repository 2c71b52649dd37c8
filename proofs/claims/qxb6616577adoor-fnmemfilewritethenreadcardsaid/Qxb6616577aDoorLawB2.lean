import Derived.Test.Qxb6616577aDoorLawB1
import Derived.Deep.DeepCutAuto
/-! The law: what's written is read (5): from the last read on. -/
namespace Go.Proofs.Qxb6616577aDoor
open Go.RowKit Go.MuLone
set_option linter.unusedVariables false
set_option linter.unusedSimpArgs false
set_option maxRecDepth 8000

set_option maxHeartbeats 8000000 in
theorem lawB_mid (nm : ByteArray) (va1 va3 va8 : Option Addr) (vc1 vc3 vc8 bm bn bf L : Nat) (D Q F : List Int) (wrote : Bool) (off : Int) (w0 w : World)
    (u0 u1 u2 u3 u4 u7 u8 u9 u10 u11 u12 u13 u16 u17 u19 u20 u21 u22 u23 u24 u27 u28 u29 u30 u31 u32 u33 u34 u35 u36 u37 u38 u39 u40 u41 u42 u43 u44 u45 u46 u47 u48 u49 u50 u51 u52 u53 u54 u55 u56 u57 u58 u59 u60 u61 u62 u63 u64 u65 u66 u67 u68 u69 u70 u71 u72 u73 u74 u75 u76 u77 u78 u79 u80 u81 u82 u83 u84 u85 u86 u87 u88 u89 u90 u91 u92 u93 u94 u95 u96 u97 u98 u99 u100 u101 u102 u103 u104 u105 u106 u107 u108 u109 u110 u111 u112 u113 u114 u115 u116 u117 u118 u119 u120 u121 u122 u123 u124 u125 u126 u127 u128 u129 u130 u131 u132 u133 u134 u135 u136 u137 u138 u139 u140 u141 u142 u143 u144 u145 u146 u147 u148 u149 u150 u151 u152 u153 u154 u155 u156 u157 u158 u159 u160 u161 u162 u163 u164 u165 u166 u167 u168 u169 u170 u171 u172 u173 u174 u175 u176 u177 u178 u179 u180 u181 u182 u183 u184 u185 u186 u187 u188 u189 u190 u191 u192 u193 u194 u195 u196 u197 u198 u199 u200 u201 u202 u203 u204 u205 u206 u207 u208 u209 u210 u211 u212 u213 u214 u215 u216 u217 u218 u219 u220 u221 u222 u223 u224 u225 u226 u227 u228 u229 : Value)
    (hD : D.length ≤ 65536) (hQ : Q.length ≤ 65536) (ho1 : -9223372036854775808 ≤ off) (ho2 : off ≤ 65536) (hL2 : L ≤ 200000) (hw : Hid (wrote = wroteB off Q)) (hLF : Hid (F.length = L))
    (hF : Hid (F = fileB off D Q)) (hG : Hid (Globs w)) (hf : Hid (FileR w bm bn bf nm true true false (.slice va8 F.length vc8))) (D80 : Hid (DataAt w (.slice va8 F.length vc8) F)) (n4 : 4 ≤ bm) (n8 : Hid (∀ g, rowOf (.slice va8 F.length vc8) = some g → g ≠ bm))
    (D10 : Hid (DataAt w (.slice va1 D.length vc1) D)) (D30 : Hid (DataAt w (.slice va3 Q.length vc3) Q))
    (B10 : Hid (Below w0.heap.size w0 w)) (T : Code) (hT : T = tailN 17 (Tryd.f5.body.getD .skip)) :
    Code.wp Tryd.prog T (bodyPost Tryd.prog Tryd.f5 (TruePost w0)) ⟨#[u0, u1, u2, u3, u4, .slice va3 Q.length vc3, .int .i64 off, u7, u8, u9, u10, u11, u12, u13, .bool false, .slice va1 D.length vc1, u16, u17, .pointer (some ⟨bf, 0, none⟩), u19, u20, u21, u22, u23, u24, .bool wrote, .int .i64 (L : Int), u27, u28, u29, u30, u31, u32, u33, u34, u35, u36, u37, u38, u39, u40, u41, u42, u43, u44, u45, u46, u47, u48, u49, u50, u51, u52, u53, u54, u55, u56, u57, u58, u59, u60, u61, u62, u63, u64, u65, u66, u67, u68, u69, u70, u71, u72, u73, u74, u75, u76, u77, u78, u79, u80, u81, u82, u83, u84, u85, u86, u87, u88, u89, u90, u91, u92, u93, u94, u95, u96, u97, u98, u99, u100, u101, u102, u103, u104, u105, u106, u107, u108, u109, u110, u111, u112, u113, u114, u115, u116, u117, u118, u119, u120, u121, u122, u123, u124, u125, u126, u127, u128, u129, u130, u131, u132, u133, u134, u135, u136, u137, u138, u139, u140, u141, u142, u143, u144, u145, u146, u147, u148, u149, u150, u151, u152, u153, u154, u155, u156, u157, u158, u159, u160, u161, u162, u163, u164, u165, u166, u167, u168, u169, u170, u171, u172, u173, u174, u175, u176, u177, u178, u179, u180, u181, u182, u183, u184, u185, u186, u187, u188, u189, u190, u191, u192, u193, u194, u195, u196, u197, u198, u199, u200, u201, u202, u203, u204, u205, u206, u207, u208, u209, u210, u211, u212, u213, u214, u215, u216, u217, u218, u219, u220, u221, u222, u223, u224, u225, u226, u227, u228, u229], []⟩ w := by
  dsimp only [Tryd.f5, Option.getD_some, tailN] at hT
  subst hT
  dsimp only
  obtain ⟨Z, hZ⟩ : ∃ Z : List Int, Hid (Z = List.replicate L 0) := ⟨List.replicate L 0, rfl⟩
  have hZl : Z.length = L := by rw [hZ.out]; simp
  have hZF : Hid (Z.length = F.length) := by rw [hZl, hLF.out, Hid]
  have hG4 := hG.out.lt
  have hfl := hf.out.lt
  go_wp2_with (at_make; refine wp_mk _ rfl _ _ rfl L rfl rfl (by omega) ?_; intro w1 r1 b1; have R1 : Hid (RowB w1 w.heap.size L Z) := (by rw [hZ.out]; exact r1); have B1 : Hid (Below w.heap.size w w1) := b1; clear r1 b1)
  have hpz : DataAt w1 (.slice (some ⟨w.heap.size, 0, none⟩) Z.length L) Z := Or.inr ⟨w.heap.size, L, rfl, R1.out⟩
  have hrd := zzread2_row bm bn bf nm true true false (.slice va8 F.length vc8) F (some ⟨w.heap.size, 0, none⟩) L Z 0 w1 (hG.out.below B1.out hG4) (hf.out.of_blocks (B1.out.block bm hfl.1) (B1.out.block bn hfl.2.1) (B1.out.block bf hfl.2.2))
    (D80.out.of_blocks (fun g hg => B1.out.block g (D80.out.lt hg))) hpz (fun a ha => by cases ha; exact ⟨by show w.heap.size ≠ bm; omega, by show 4 ≤ w.heap.size; omega⟩) n4 (by rw [hLF.out]; omega) (by omega) (fun gd hgd => ⟨fun e => by have := D80.out.lt hgd; simp [rowOf] at e; omega, n8.out gd hgd⟩)
  rw [hZl] at hrd
  refine hrd.mono ?_
  clear hrd hpz
  intro e w2 hpost
  obtain ⟨N, ev, b, R, rfl, hN, hb, hev, hR, D72, X2⟩ := read_out hpost
  have hall := read_all F Z hZF.out
  have hokT : okC false true 0 = true := rfl
  rw [hokT] at hN hb hR
  have hNL : N = L := by rw [hN.out, hall.1]; exact hLF.out
  have hRF : R = F := by rw [hR.out]; exact hall.2.1
  have hbL : Hid (b = decide (0 < L)) := by rw [hb.out, hall.2.2, hLF.out, Hid]
  subst hNL
  subst hRF
  have D12 : Hid (DataAt w2 (.slice va1 D.length vc1) D) := (D10.out.of_blocks (fun g hg => B1.out.block g (D10.out.lt hg))).grown X2.out (fun g hg e => by have := D10.out.lt hg; simp [rowOf] at e; omega)
  have D32 : Hid (DataAt w2 (.slice va3 Q.length vc3) Q) := (D30.out.of_blocks (fun g hg => B1.out.block g (D30.out.lt hg))).grown X2.out (fun g hg e => by have := D30.out.lt hg; simp [rowOf] at e; omega)
  have B2 : Hid (Below w0.heap.size w0 w2) := (B10.out.trans (B1.out.mono B10.out.size)).grown X2.out (by have := B10.out.size; have := B1.out.size; omega) (fun k e => by simp [rowOf] at e; have := B10.out.size; omega)
  clear hpost hN hb hR hall hokT X2 hZl
  go_upto_region 37 with fail
  go_cut [190] (fun c wx => c = .bool false ∧ w2 = wx)
  case first =>
    by_cases hpos : 0 < N
    · have hposI : decide ((0 : Int) < (N : Int)) = true := by simp; omega
      obtain ⟨-, rfl⟩ | ⟨hbf, -⟩ := hev.out
      · go_wp2
        go_meet
        exact ⟨rfl, rfl⟩
      · rw [hbL.out, decide_eq_true hpos] at hbf; cases hbf
    · obtain ⟨hbt, -⟩ | ⟨-, t1, a1, rfl⟩ := hev.out
      · rw [hbL.out, decide_eq_false hpos] at hbt; cases hbt
      · have hposI : decide ((0 : Int) < (N : Int)) = false := by simp; omega
        go_wp2
        go_meet
        exact ⟨rfl, rfl⟩
  case rest =>
    obtain ⟨e190, ew⟩ := hcut
    subst e190 ew
    go_upto_if 190 with fail
    go_cut [14] (fun v wx => v = .bool false ∧ w2 = wx)
    case first =>
      go_wp2
      go_meet
      exact ⟨rfl, rfl⟩
    case rest =>
      obtain ⟨e14, ew⟩ := hcut
      subst e14 ew
      refine (‹∀ (a : Act) (w1 : World), Code.wp Tryd.prog (tailN 21 (Tryd.f5.body.getD .skip)) (bodyPost Tryd.prog Tryd.f5 (TruePost w0)) a w1 → _›) _ _ ?_
      exact lawB_loop2 va1 va3 (some ⟨w.heap.size, 0, none⟩) vc1 vc3 N N D Q wrote off w0 w2
        _ _ _ _ _ _ _ _ _ _ _ _ _ _ _ _ _ _ _ _ _ _ _ _ _ _ _ _ _ _ _ _ _ _ _ _ _ _ _ _ _ _ _ _ _ _ _ _ _ _ _ _ _ _ _ _ _ _ _ _ _ _ _ _ _ _ _ _ _ _ _ _ _ _ _ _ _ _ _ _ _ _ _ _ _ _ _ _ _ _ _ _ _ _ _ _ _ _ _ _ _ _ _ _ _ _ _ _ _ _ _ _ _ _ _ _ _ _ _ _ _ _ _ _ _ _ _ _ _ _ _ _ _ _ _ _ _ _ _ _ _ _ _ _ _ _ _ _ _ _ _ _ _ _ _ _ _ _ _ _ _ _ _ _ _ _ _ _ _ _ _ _ _ _ _ _ _ _ _ _ _ _ _ _ _ _ _ _ _ _ _ _ _ _ _ _ _ _ _ _ _ _ _ _ _ _ _ _ _ _ _ _ _ _ _ _ _ _ _ _ _ _ _ hD hQ hL2 ho1 ho2 hw (by rw [← hF.out]; exact hLF) D12 D32 (by rw [← hF.out]; exact D72) B2 _ rfl

end Go.Proofs.Qxb6616577aDoor

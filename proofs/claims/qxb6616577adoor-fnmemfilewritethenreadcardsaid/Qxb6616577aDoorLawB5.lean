import Derived.Test.Qxb6616577aDoorLawB4
/-! The law: what's written is read (5): from the write on, off below 0. -/
namespace Go.Proofs.Qxb6616577aDoor
open Go.RowKit Go.MuLone
set_option linter.unusedVariables false
set_option linter.unusedSimpArgs false
set_option maxRecDepth 8000

set_option maxHeartbeats 8000000 in
theorem lawB_neg (nm : ByteArray) (va1 va2 va3 va4 : Option Addr) (vc1 vc3 vc4 bm bn bf : Nat) (D Q : List Int) (off : Int) (w0 w : World)
    (u0 u1 u2 u3 u4 u7 u8 u9 u10 u11 u12 u13 u16 u19 u20 u21 u22 u23 u24 u25 u26 u27 u28 u29 u30 u31 u32 u33 u34 u35 u36 u37 u38 u39 u40 u41 u42 u43 u44 u45 u46 u47 u48 u49 u50 u51 u52 u53 u54 u55 u56 u57 u58 u59 u60 u61 u62 u63 u64 u65 u66 u67 u68 u69 u70 u71 u72 u73 u74 u75 u76 u77 u78 u79 u80 u81 u82 u83 u84 u85 u86 u87 u88 u89 u90 u91 u92 u93 u94 u95 u96 u97 u98 u99 u100 u101 u102 u103 u104 u105 u106 u107 u108 u109 u110 u111 u112 u113 u114 u115 u116 u117 u118 u119 u120 u121 u122 u123 u124 u125 u126 u127 u128 u129 u130 u131 u132 u133 u134 u135 u136 u137 u138 u139 u140 u141 u142 u143 u144 u145 u146 u147 u148 u149 u150 u151 u152 u153 u154 u155 u156 u157 u158 u159 u160 u161 u162 u163 u164 u165 u166 u167 u168 u169 u170 u171 u172 u173 u174 u175 u176 u177 u178 u179 u180 u181 u182 u183 u184 u185 u186 u187 u188 u189 u190 u191 u192 u193 u194 u195 u196 u197 u198 u199 u200 u201 u202 u203 u204 u205 u206 u207 u208 u209 u210 u211 u212 u213 u214 u215 u216 u217 u218 u219 u220 u221 u222 u223 u224 u225 u226 u227 u228 u229 : Value)
    (hD : D.length ≤ 65536) (hQ : Q.length ≤ 65536) (ho1 : -9223372036854775808 ≤ off) (ho : off < 0)
    (hG : Hid (Globs w)) (hf : Hid (FileAt w bm bn bf nm true true false (.slice va2 D.length D.length))) (D20 : Hid (DataAt w (.slice va2 D.length D.length) D)) (n4 : 4 ≤ bm)
    (D10 : Hid (DataAt w (.slice va1 D.length vc1) D)) (D30 : Hid (DataAt w (.slice va3 Q.length vc3) Q)) (D40 : Hid (DataAt w (.slice va4 Q.length vc4) Q))
    (hx1 : Hid (∀ g, rowOf (.slice va1 D.length vc1) = some g → g ≠ bn ∧ rowOf (.slice va2 D.length D.length) ≠ some g)) (hx3 : Hid (∀ g, rowOf (.slice va3 Q.length vc3) = some g → g ≠ bn ∧ rowOf (.slice va2 D.length D.length) ≠ some g))
    (hx2 : Hid (∀ g, rowOf (.slice va2 D.length D.length) = some g → g ≠ bm ∧ g ≠ bn ∧ g ≠ bf ∧ w0.heap.size ≤ g)) (hx4 : Hid (∀ a, va4 = some a → a.block ≠ bm)) (hbn : w0.heap.size ≤ bn) (h40 : 4 ≤ w0.heap.size)
    (B10 : Hid (Below w0.heap.size w0 w)) (T : Code) (hT : T = tailN 10 (Tryd.f5.body.getD .skip)) :
    Code.wp Tryd.prog T (bodyPost Tryd.prog Tryd.f5 (TruePost w0)) ⟨#[u0, u1, u2, u3, u4, .slice va3 Q.length vc3, .int .i64 off, u7, u8, u9, u10, u11, u12, u13, .bool false, .slice va1 D.length vc1, u16, .slice va4 Q.length vc4, .pointer (some ⟨bf, 0, none⟩), u19, u20, u21, u22, u23, u24, u25, u26, u27, u28, u29, u30, u31, u32, u33, u34, u35, u36, u37, u38, u39, u40, u41, u42, u43, u44, u45, u46, u47, u48, u49, u50, u51, u52, u53, u54, u55, u56, u57, u58, u59, u60, u61, u62, u63, u64, u65, u66, u67, u68, u69, u70, u71, u72, u73, u74, u75, u76, u77, u78, u79, u80, u81, u82, u83, u84, u85, u86, u87, u88, u89, u90, u91, u92, u93, u94, u95, u96, u97, u98, u99, u100, u101, u102, u103, u104, u105, u106, u107, u108, u109, u110, u111, u112, u113, u114, u115, u116, u117, u118, u119, u120, u121, u122, u123, u124, u125, u126, u127, u128, u129, u130, u131, u132, u133, u134, u135, u136, u137, u138, u139, u140, u141, u142, u143, u144, u145, u146, u147, u148, u149, u150, u151, u152, u153, u154, u155, u156, u157, u158, u159, u160, u161, u162, u163, u164, u165, u166, u167, u168, u169, u170, u171, u172, u173, u174, u175, u176, u177, u178, u179, u180, u181, u182, u183, u184, u185, u186, u187, u188, u189, u190, u191, u192, u193, u194, u195, u196, u197, u198, u199, u200, u201, u202, u203, u204, u205, u206, u207, u208, u209, u210, u211, u212, u213, u214, u215, u216, u217, u218, u219, u220, u221, u222, u223, u224, u225, u226, u227, u228, u229], []⟩ w := by
  dsimp only [Tryd.f5, Option.getD_some, tailN] at hT
  subst hT
  dsimp only
  have hG4 := hG.out.lt
  have hfl := hf.out.lt
  have hs0 := B10.out.size
  have hFB : Hid (D = fileB off D Q) := by
    rw [Hid, fileB, if_neg (by omega)]
  go_wp2_with fail
  refine (zzwrite_neg bm bn bf nm (.slice va2 D.length D.length) off w hG.out hf.out n4 ho va4 Q.length vc4).mono ?_
  rintro e w1 ⟨⟨t0, a0, rfl⟩, chg⟩
  have s1 := chg.size
  have HF1 : Hid (FileR w1 bm bn bf nm true true false (.slice va2 D.length D.length)) := hf.out.toR.of_blocks (chg.block bm hfl.1 (by simp)) (chg.block bn hfl.2.1 (by simp)) (chg.block bf hfl.2.2 (by simp))
  have D21 : Hid (DataAt w1 (.slice va2 D.length D.length) D) := D20.out.grown chg (by simp)
  have n21 : Hid (∀ g, rowOf (.slice va2 D.length D.length) = some g → g ≠ bm) := fun g hg => (hx2.out g hg).1
  have D11 : Hid (DataAt w1 (.slice va1 D.length vc1) D) := D10.out.grown chg (by simp)
  have D31 : Hid (DataAt w1 (.slice va3 Q.length vc3) Q) := D30.out.grown chg (by simp)
  have B11 : Hid (Below w0.heap.size w0 w1) := B10.out.grown chg hs0 (by simp)
  have G1 : Hid (Globs w1) := hG.out.of_blocks (fun k hk => chg.block k (by omega) (by simp))
  obtain ⟨Z, hZ⟩ : ∃ Z : List Int, Hid (Z = List.replicate Q.length 0) := ⟨List.replicate Q.length 0, rfl⟩
  have hZl : Z.length = Q.length := by rw [hZ.out]; simp
  have hfl1 := HF1.out.lt
  clear chg
  go_wp2_with (at_make; refine wp_mk _ rfl _ _ rfl Q.length rfl rfl (by omega) ?_; intro w2 r2 b2; have R2 : Hid (RowB w2 w1.heap.size Q.length Z) := (by rw [hZ.out]; exact r2); have B2 : Hid (Below w1.heap.size w1 w2) := b2; clear r2 b2)
  have hpz : DataAt w2 (.slice (some ⟨w1.heap.size, 0, none⟩) Z.length Q.length) Z := Or.inr ⟨w1.heap.size, Q.length, rfl, R2.out⟩
  have hrd := zzread2_row bm bn bf nm true true false (.slice va2 D.length D.length) D (some ⟨w1.heap.size, 0, none⟩) Q.length Z off w2 (G1.out.below B2.out (by omega)) (HF1.out.of_blocks (B2.out.block bm hfl1.1) (B2.out.block bn hfl1.2.1) (B2.out.block bf hfl1.2.2))
    (D21.out.of_blocks (fun g hg => B2.out.block g (D21.out.lt hg))) hpz (fun a ha => by cases ha; exact ⟨by show w1.heap.size ≠ bm; omega, by show 4 ≤ w1.heap.size; omega⟩) n4 (by omega) (by omega) (fun gd hgd => ⟨fun e => by have := D21.out.lt hgd; simp [rowOf] at e; omega, n21.out gd hgd⟩)
  rw [hZl] at hrd
  refine hrd.mono ?_
  clear hrd hpz
  intro e w3 hpost
  obtain ⟨N, ev, b, R, rfl, hN, hb, hev, hR, D73, X3⟩ := read_out hpost
  have hokF : okC false true off = false := by simp [okC]; omega
  have hnot := rd_not (D := D) (P := Z) (off := off) (ok := false) (by simp)
  rw [hokF] at hN hb hR
  have hNL : N = 0 := by rw [hN.out]; exact hnot.1
  have hbL : b = false := by rw [hb.out]; exact hnot.2.1
  subst hNL
  have s2 := B2.out.size
  have D13 : Hid (DataAt w3 (.slice va1 D.length vc1) D) := (D11.out.of_blocks (fun g hg => B2.out.block g (D11.out.lt hg))).grown X3.out (fun g hg e => by have := D11.out.lt hg; simp [rowOf] at e; omega)
  have D33 : Hid (DataAt w3 (.slice va3 Q.length vc3) Q) := (D31.out.of_blocks (fun g hg => B2.out.block g (D31.out.lt hg))).grown X3.out (fun g hg e => by have := D31.out.lt hg; simp [rowOf] at e; omega)
  have D83 : Hid (DataAt w3 (.slice va2 D.length D.length) D) := (D21.out.of_blocks (fun g hg => B2.out.block g (D21.out.lt hg))).grown X3.out (fun g hg e => by have := D21.out.lt hg; simp [rowOf] at e; omega)
  have G3 : Hid (Globs w3) := (G1.out.below B2.out (by omega)).of_blocks (fun k hk => X3.out.block k (by omega) (by simp [rowOf]; omega))
  have HF3 : Hid (FileR w3 bm bn bf nm true true false (.slice va2 D.length D.length)) := (HF1.out.of_blocks (B2.out.block bm hfl1.1) (B2.out.block bn hfl1.2.1) (B2.out.block bf hfl1.2.2)).of_blocks (X3.out.block bm (by omega) (by simp [rowOf]; omega)) (X3.out.block bn (by omega) (by simp [rowOf]; omega)) (X3.out.block bf (by omega) (by simp [rowOf]; omega))
  have B3 : Hid (Below w0.heap.size w0 w3) := (B11.out.trans (B2.out.mono B11.out.size)).grown X3.out (by omega) (fun k e => by simp [rowOf] at e; omega)
  obtain ⟨t2, a2, rfl⟩ : ∃ t a, ev = .iface t (.pointer (some a)) := by
    obtain ⟨hbt, -⟩ | ⟨-, t, a, e⟩ := hev.out
    · rw [hbL] at hbt; cases hbt
    · exact ⟨t, a, e⟩
  clear hpost hN hb hR hnot hokF X3 hZl hbL D10 D11 D20 D30 D31 D40 D21 HF1 G1 B2 B11 B10 hG hf R2 hx1 hx2 hx3 hx4
  go_upto_if 97 with fail
  go_cut [14] (fun v wx => v = .bool false ∧ w3 = wx)
  case first =>
    go_wp2
    go_meet
    exact ⟨rfl, rfl⟩
  case rest =>
    obtain ⟨e14, ew⟩ := hcut
    subst e14 ew
    refine (‹∀ (a : Act) (w1 : World), Code.wp Tryd.prog (tailN 14 (Tryd.f5.body.getD .skip)) (bodyPost Tryd.prog Tryd.f5 (TruePost w0)) a w1 → _›) _ _ ?_
    exact lawB_tail nm va1 va3 va2 vc1 vc3 D.length bm bn bf D Q D off w0 w3
      _ _ _ _ _ _ _ _ _ _ _ _ _ _ _ _ _ _ _ _ _ _ _ _ _ _ _ _ _ _ _ _ _ _ _ _ _ _ _ _ _ _ _ _ _ _ _ _ _ _ _ _ _ _ _ _ _ _ _ _ _ _ _ _ _ _ _ _ _ _ _ _ _ _ _ _ _ _ _ _ _ _ _ _ _ _ _ _ _ _ _ _ _ _ _ _ _ _ _ _ _ _ _ _ _ _ _ _ _ _ _ _ _ _ _ _ _ _ _ _ _ _ _ _ _ _ _ _ _ _ _ _ _ _ _ _ _ _ _ _ _ _ _ _ _ _ _ _ _ _ _ _ _ _ _ _ _ _ _ _ _ _ _ _ _ _ _ _ _ _ _ _ _ _ _ _ _ _ _ _ _ _ _ _ _ _ _ _ _ _ _ _ _ _ _ _ _ _ _ _ _ _ _ _ _ _ _ _ _ _ _ _ _ _ _ _ _ _ _ _ _ _ _ _ _ hD hQ ho1 (by omega) hFB G3 HF3 D83 n4 n21 D13 D33 B3 _ rfl

end Go.Proofs.Qxb6616577aDoor

import Derived.Test.Qxb6616577aDoorLawB3
import Derived.Deep.QuietTactic
import Derived.BigQuiet
/-! The law: what's written is read (5): from the write on, off at least 0. -/
namespace Go.Proofs.Qxb6616577aDoor
open Go.RowKit Go.MuLone
set_option linter.unusedVariables false
set_option linter.unusedSimpArgs false
set_option maxRecDepth 8000

/-- The same memory: a draw apart. -/
structure SameW (w w' : World) : Prop where
  heap : w'.heap = w.heap
  os : w'.os = w.os
  tape : w'.tape = w.tape
  output : w'.output = w.output

theorem SameW.refl (w : World) : SameW w w := ⟨rfl, rfl, rfl, rfl⟩
theorem SameW.drewN {w w' : World} (h : SameW w w') (n : Nat) : SameW w (w'.drewN n) := ⟨h.heap, h.os, h.tape, h.output⟩
theorem SameW.block {w w' : World} (h : SameW w w') (k : Nat) : w'.heap[k]? = w.heap[k]? := by rw [h.heap]
theorem SameW.below {w w' : World} (h : SameW w w') (B : Nat) : Below B w w' := ⟨h.os, h.tape, h.output, by rw [h.heap]; exact Nat.le_refl _, fun k _ => h.block k⟩

set_option maxHeartbeats 8000000 in
theorem lawB_pos (nm : ByteArray) (va1 va2 va3 va4 : Option Addr) (vc1 vc3 vc4 bm bn bf : Nat) (D Q : List Int) (o : Nat) (w0 w : World)
    (u0 u1 u2 u3 u4 u7 u8 u9 u10 u11 u12 u13 u16 u19 u20 u21 u22 u23 u24 u25 u26 u27 u28 u29 u30 u31 u32 u33 u34 u35 u36 u37 u38 u39 u40 u41 u42 u43 u44 u45 u46 u47 u48 u49 u50 u51 u52 u53 u54 u55 u56 u57 u58 u59 u60 u61 u62 u63 u64 u65 u66 u67 u68 u69 u70 u71 u72 u73 u74 u75 u76 u77 u78 u79 u80 u81 u82 u83 u84 u85 u86 u87 u88 u89 u90 u91 u92 u93 u94 u95 u96 u97 u98 u99 u100 u101 u102 u103 u104 u105 u106 u107 u108 u109 u110 u111 u112 u113 u114 u115 u116 u117 u118 u119 u120 u121 u122 u123 u124 u125 u126 u127 u128 u129 u130 u131 u132 u133 u134 u135 u136 u137 u138 u139 u140 u141 u142 u143 u144 u145 u146 u147 u148 u149 u150 u151 u152 u153 u154 u155 u156 u157 u158 u159 u160 u161 u162 u163 u164 u165 u166 u167 u168 u169 u170 u171 u172 u173 u174 u175 u176 u177 u178 u179 u180 u181 u182 u183 u184 u185 u186 u187 u188 u189 u190 u191 u192 u193 u194 u195 u196 u197 u198 u199 u200 u201 u202 u203 u204 u205 u206 u207 u208 u209 u210 u211 u212 u213 u214 u215 u216 u217 u218 u219 u220 u221 u222 u223 u224 u225 u226 u227 u228 u229 : Value)
    (hD : D.length ≤ 65536) (hQ : Q.length ≤ 65536) (ho : o ≤ 65536)
    (hG : Hid (Globs w)) (hf : Hid (FileAt w bm bn bf nm true true false (.slice va2 D.length D.length))) (D20 : Hid (DataAt w (.slice va2 D.length D.length) D)) (n4 : 4 ≤ bm)
    (D10 : Hid (DataAt w (.slice va1 D.length vc1) D)) (D30 : Hid (DataAt w (.slice va3 Q.length vc3) Q)) (D40 : Hid (DataAt w (.slice va4 Q.length vc4) Q))
    (hx1 : Hid (∀ g, rowOf (.slice va1 D.length vc1) = some g → g ≠ bn ∧ rowOf (.slice va2 D.length D.length) ≠ some g)) (hx3 : Hid (∀ g, rowOf (.slice va3 Q.length vc3) = some g → g ≠ bn ∧ rowOf (.slice va2 D.length D.length) ≠ some g))
    (hx2 : Hid (∀ g, rowOf (.slice va2 D.length D.length) = some g → g ≠ bm ∧ g ≠ bn ∧ g ≠ bf ∧ w0.heap.size ≤ g)) (hx4 : Hid (∀ a, va4 = some a → a.block ≠ bm)) (hbn : w0.heap.size ≤ bn) (h40 : 4 ≤ w0.heap.size)
    (B10 : Hid (Below w0.heap.size w0 w)) (T : Code) (hT : T = tailN 10 (Tryd.f5.body.getD .skip)) :
    Code.wp Tryd.prog T (bodyPost Tryd.prog Tryd.f5 (TruePost w0)) ⟨#[u0, u1, u2, u3, u4, .slice va3 Q.length vc3, .int .i64 (o : Int), u7, u8, u9, u10, u11, u12, u13, .bool false, .slice va1 D.length vc1, u16, .slice va4 Q.length vc4, .pointer (some ⟨bf, 0, none⟩), u19, u20, u21, u22, u23, u24, u25, u26, u27, u28, u29, u30, u31, u32, u33, u34, u35, u36, u37, u38, u39, u40, u41, u42, u43, u44, u45, u46, u47, u48, u49, u50, u51, u52, u53, u54, u55, u56, u57, u58, u59, u60, u61, u62, u63, u64, u65, u66, u67, u68, u69, u70, u71, u72, u73, u74, u75, u76, u77, u78, u79, u80, u81, u82, u83, u84, u85, u86, u87, u88, u89, u90, u91, u92, u93, u94, u95, u96, u97, u98, u99, u100, u101, u102, u103, u104, u105, u106, u107, u108, u109, u110, u111, u112, u113, u114, u115, u116, u117, u118, u119, u120, u121, u122, u123, u124, u125, u126, u127, u128, u129, u130, u131, u132, u133, u134, u135, u136, u137, u138, u139, u140, u141, u142, u143, u144, u145, u146, u147, u148, u149, u150, u151, u152, u153, u154, u155, u156, u157, u158, u159, u160, u161, u162, u163, u164, u165, u166, u167, u168, u169, u170, u171, u172, u173, u174, u175, u176, u177, u178, u179, u180, u181, u182, u183, u184, u185, u186, u187, u188, u189, u190, u191, u192, u193, u194, u195, u196, u197, u198, u199, u200, u201, u202, u203, u204, u205, u206, u207, u208, u209, u210, u211, u212, u213, u214, u215, u216, u217, u218, u219, u220, u221, u222, u223, u224, u225, u226, u227, u228, u229], []⟩ w := by
  dsimp only [Tryd.f5, Option.getD_some, tailN] at hT
  subst hT
  dsimp only
  have hG4 := hG.out.lt
  have hfl := hf.out.lt
  have hs0 := B10.out.size
  go_wp2_with fail
  refine (zzwrite_pos bm bn bf nm va2 D va4 vc4 Q o w hG.out hf.out D20.out D40.out n4 hx4.out (fun g hg => ⟨(hx2.out g hg).1, (hx2.out g hg).2.1, (hx2.out g hg).2.2.1⟩) hD hQ ho).mono ?_
  rintro e w1 ⟨rfl, ⟨va8, c8, f8, d8, r8⟩, chg⟩
  obtain ⟨F, hF⟩ : ∃ F, Hid (F = wrQ D Q o) := ⟨_, rfl⟩
  rw [← hF.out] at f8 d8 r8
  have hFB : Hid (F = fileB (o : Int) D Q) := by
    rw [hF.out, fileB, if_pos (by omega)]; rfl
  have hFl : F.length ≤ 200000 := by
    have h := fileB_length (o : Int) D Q
    rw [← hFB.out] at h
    split at h <;> omega
  have s1 := chg.size
  have HF1 : Hid (FileR w1 bm bn bf nm true true false (.slice va8 F.length c8)) := f8
  have D81 : Hid (DataAt w1 (.slice va8 F.length c8) F) := d8
  have n81 : Hid (∀ g, rowOf (.slice va8 F.length c8) = some g → g ≠ bm) := fun g hg => by
    rcases r8 g hg with h | h
    · omega
    · exact (hx2.out g h).1
  have D11 : Hid (DataAt w1 (.slice va1 D.length vc1) D) := D10.out.of_blocks (fun g hg => chg.block g (D10.out.lt hg) (fun e => by rcases e with e | e; exact (hx1.out g hg).1 e; exact (hx1.out g hg).2 e))
  have D31 : Hid (DataAt w1 (.slice va3 Q.length vc3) Q) := D30.out.of_blocks (fun g hg => chg.block g (D30.out.lt hg) (fun e => by rcases e with e | e; exact (hx3.out g hg).1 e; exact (hx3.out g hg).2 e))
  have B11 : Hid (Below w0.heap.size w0 w1) := B10.out.trans (chg.toBelow hs0 (fun k e => by rcases e with e | e; omega; exact (hx2.out k e).2.2.2))
  have G1 : Hid (Globs w1) := hG.out.of_blocks (fun k hk => chg.block k (by omega) (fun e => by
    rcases e with e | e
    · omega
    · have := (hx2.out k e).2.2.2; omega))
  obtain ⟨Z, hZ⟩ : ∃ Z : List Int, Hid (Z = List.replicate Q.length 0) := ⟨List.replicate Q.length 0, rfl⟩
  have hZl : Z.length = Q.length := by rw [hZ.out]; simp
  have hfl1 := f8.lt
  clear f8 d8 r8 chg
  go_wp2_with (at_make; refine wp_mk _ rfl _ _ rfl Q.length rfl rfl (by omega) ?_; intro w2 r2 b2; have R2 : Hid (RowB w2 w1.heap.size Q.length Z) := (by rw [hZ.out]; exact r2); have B2 : Hid (Below w1.heap.size w1 w2) := b2; clear r2 b2)
  have hpz : DataAt w2 (.slice (some ⟨w1.heap.size, 0, none⟩) Z.length Q.length) Z := Or.inr ⟨w1.heap.size, Q.length, rfl, R2.out⟩
  have hrd := zzread2_row bm bn bf nm true true false (.slice va8 F.length c8) F (some ⟨w1.heap.size, 0, none⟩) Q.length Z (o : Int) w2 (G1.out.below B2.out (by omega)) (HF1.out.of_blocks (B2.out.block bm hfl1.1) (B2.out.block bn hfl1.2.1) (B2.out.block bf hfl1.2.2))
    (D81.out.of_blocks (fun g hg => B2.out.block g (D81.out.lt hg))) hpz (fun a ha => by cases ha; exact ⟨by show w1.heap.size ≠ bm; omega, by show 4 ≤ w1.heap.size; omega⟩) n4 (by omega) (by omega) (fun gd hgd => ⟨fun e => by have := D81.out.lt hgd; simp [rowOf] at e; omega, n81.out gd hgd⟩)
  have hback := read_back D Q o Z hZl
  rw [hZl] at hrd
  refine hrd.mono ?_
  clear hrd hpz
  intro e w3 hpost
  obtain ⟨N, ev, b, R, rfl, hN, hb, hev, hR, D73, X3⟩ := read_out hpost
  have hokT : okC false true (o : Int) = true := by simp [okC]
  rw [hokT, hF.out] at hN hb hR
  have hNL : N = Q.length := by rw [hN.out]; exact hback.1
  have hRF : R = Q := by rw [hR.out]; exact hback.2.1
  have hbL : Hid (b = (decide (0 < Q.length) || decide ((o : Int) < (D.length : Int)))) := by rw [hb.out]; exact hback.2.2
  subst hNL
  subst hRF
  have s2 := B2.out.size
  have D13 : Hid (DataAt w3 (.slice va1 D.length vc1) D) := (D11.out.of_blocks (fun g hg => B2.out.block g (D11.out.lt hg))).grown X3.out (fun g hg e => by have := D11.out.lt hg; simp [rowOf] at e; omega)
  have D33 : Hid (DataAt w3 (.slice va3 R.length vc3) R) := (D31.out.of_blocks (fun g hg => B2.out.block g (D31.out.lt hg))).grown X3.out (fun g hg e => by have := D31.out.lt hg; simp [rowOf] at e; omega)
  have D83 : Hid (DataAt w3 (.slice va8 F.length c8) F) := (D81.out.of_blocks (fun g hg => B2.out.block g (D81.out.lt hg))).grown X3.out (fun g hg e => by have := D81.out.lt hg; simp [rowOf] at e; omega)
  have G3 : Hid (Globs w3) := (G1.out.below B2.out (by omega)).of_blocks (fun k hk => X3.out.block k (by omega) (by simp [rowOf]; omega))
  have HF3 : Hid (FileR w3 bm bn bf nm true true false (.slice va8 F.length c8)) := (HF1.out.of_blocks (B2.out.block bm hfl1.1) (B2.out.block bn hfl1.2.1) (B2.out.block bf hfl1.2.2)).of_blocks (X3.out.block bm (by omega) (by simp [rowOf]; omega)) (X3.out.block bn (by omega) (by simp [rowOf]; omega)) (X3.out.block bf (by omega) (by simp [rowOf]; omega))
  have B3 : Hid (Below w0.heap.size w0 w3) := (B11.out.trans (B2.out.mono B11.out.size)).grown X3.out (by omega) (fun k e => by simp [rowOf] at e; omega)
  clear hpost hN hb hR hback hokT X3 hZl D10 D11 D20 D30 D31 D40 D81 HF1 G1 B2 B11 B10 hG hf R2 hx1 hx2 hx3 hx4
  go_upto_if 97 with fail
  go_cut [14] (fun v wx => v = .bool false ∧ SameW w3 wx)
  case first =>
    go_upto_region 22 with fail
    go_cut [137] (fun c wx => c = .bool false ∧ w3 = wx)
    case first =>
      by_cases hq : 0 < R.length
      · have hqI : decide ((0 : Int) < (R.length : Int)) = true := by simp; omega
        obtain ⟨-, rfl⟩ | ⟨hbf, -⟩ := hev.out
        · go_wp2
          go_meet
          exact ⟨rfl, rfl⟩
        · rw [hbL.out, decide_eq_true hq] at hbf; cases hbf
      · have hqI : decide ((0 : Int) < (R.length : Int)) = false := by rw [decide_eq_false_iff_not]; omega
        by_cases hod : (o : Int) < (D.length : Int)
        · obtain ⟨-, rfl⟩ | ⟨hbf, -⟩ := hev.out
          · go_wp2
            go_meet
            exact ⟨rfl, rfl⟩
          · rw [hbL.out, decide_eq_false hq, decide_eq_true hod] at hbf; cases hbf
        · have hodI : decide ((o : Int) < (D.length : Int)) = false := by rw [decide_eq_false_iff_not]; exact hod
          obtain ⟨hbt, -⟩ | ⟨-, t1, a1, rfl⟩ := hev.out
          · rw [hbL.out, decide_eq_false hq, decide_eq_false hod] at hbt; cases hbt
          · go_wp2
            go_meet
            exact ⟨rfl, rfl⟩
    case rest =>
      obtain ⟨e137, ew⟩ := hcut
      subst e137 ew
      go_wp2_with fail
      go_loopw [14, 24] (fun v i wr => v = .bool false ∧ ∃ j : Nat, j ≤ R.length ∧ i = .int .i64 j ∧ SameW w3 wr) (fun _ i _ => R.length - (intOf i).toNat)
      case atStart => exact ⟨rfl, 0, Nat.zero_le _, rfl, SameW.refl _⟩
      case round =>
        obtain ⟨rfl, j, hj, rfl, hsm⟩ := hrel
        have HSM : Hid (SameW w3 wr) := hsm
        by_cases hlt : j < R.length
        · obtain ⟨x, hx⟩ : ∃ x, R[j]? = some x := ⟨_, List.getElem?_eq_getElem hlt⟩
          have hltI : (j : Int) < (R.length : Int) := by omega
          obtain ⟨g7, e7, c7, -, l7, m7⟩ := (D73.out.of_blocks (fun g _ => hsm.block g)).at hx
          obtain ⟨g3, e3, c3, -, l3, m3⟩ := (D33.out.of_blocks (fun g _ => hsm.block g)).at hx
          simp at e7
          subst e7 e3
          unfold maxLen at m7 m3
          clear hx hsm
          go_wp2
          go_quiet (fail)
          go_wp2
          go_roundw
          case rel => exact ⟨rfl, j + 1, by omega, by go_num, HSM.out.drewN _⟩
          case measure => simp [intOf]; omega
        · have hltI : ¬ (j : Int) < (R.length : Int) := by omega
          clear hsm
          go_wp2
          go_meet
          exact ⟨rfl, HSM.out⟩
  case rest =>
    obtain ⟨e14, hsame⟩ := hcut
    subst e14
    refine (‹∀ (a : Act) (w1 : World), Code.wp Tryd.prog (tailN 14 (Tryd.f5.body.getD .skip)) (bodyPost Tryd.prog Tryd.f5 (TruePost w0)) a w1 → _›) _ _ ?_
    exact lawB_tail nm va1 va3 va8 vc1 vc3 c8 bm bn bf D R F (o : Int) w0 wc
      _ _ _ _ _ _ _ _ _ _ _ _ _ _ _ _ _ _ _ _ _ _ _ _ _ _ _ _ _ _ _ _ _ _ _ _ _ _ _ _ _ _ _ _ _ _ _ _ _ _ _ _ _ _ _ _ _ _ _ _ _ _ _ _ _ _ _ _ _ _ _ _ _ _ _ _ _ _ _ _ _ _ _ _ _ _ _ _ _ _ _ _ _ _ _ _ _ _ _ _ _ _ _ _ _ _ _ _ _ _ _ _ _ _ _ _ _ _ _ _ _ _ _ _ _ _ _ _ _ _ _ _ _ _ _ _ _ _ _ _ _ _ _ _ _ _ _ _ _ _ _ _ _ _ _ _ _ _ _ _ _ _ _ _ _ _ _ _ _ _ _ _ _ _ _ _ _ _ _ _ _ _ _ _ _ _ _ _ _ _ _ _ _ _ _ _ _ _ _ _ _ _ _ _ _ _ _ _ _ _ _ _ _ _ _ _ _ _ _ _ _ _ _ _ _ hD hQ (by omega) (by omega) hFB (G3.out.of_blocks (fun k _ => hsame.block k)) (HF3.out.of_blocks (hsame.block _) (hsame.block _) (hsame.block _)) (D83.out.of_blocks (fun g _ => hsame.block g)) n4 n81 (D13.out.of_blocks (fun g _ => hsame.block g)) (D33.out.of_blocks (fun g _ => hsame.block g)) (B3.out.trans (hsame.below _)) _ rfl

end Go.Proofs.Qxb6616577aDoor

import Derived.Test.Qxb6616577aDoorLawA2
import Derived.Deep.DeepCutAuto
/-! The law: ReadAt splits (4). -/
namespace Go.Proofs.Qxb6616577aDoor
open Go.RowKit Go.MuLone
set_option linter.unusedVariables false
set_option linter.unusedSimpArgs false
set_option maxRecDepth 8000

set_option maxHeartbeats 8000000 in
theorem lawA_main (nm : ByteArray) (da pa : Option Addr) (dc pc : Nat) (D P : List Int) (r wr cl : Bool) (k : Nat) (off : Int) (w : World)
    (hG : Globs w) (hd : InAt w (.slice da D.length dc) D) (hp : InAt w (.slice pa P.length pc) P) (hdc : D.length ≤ dc ∧ dc ≤ maxLen) (hpc : P.length ≤ pc ∧ pc ≤ maxLen)
    (hn : nm.size ≤ 65536) (hD : D.length ≤ 65536) (hP : P.length ≤ 65536) (hk : k ≤ P.length) (ho1 : -9223372036854775808 ≤ off) (ho2 : off + k ≤ 9223372036854775807) :
    Calls Tryd.prog 4 #[.string nm, .slice da D.length dc, .bool r, .bool wr, .bool cl, .slice pa P.length pc, .int .i64 (k : Int), .int .i64 off] w (TruePost w) := by
  have hg9 := guard9 nm da pa D.length dc P.length pc r wr cl k off w hdc hpc (by unfold maxLen; omega)
  have h1 : decide (nm.size + D.length + P.length ≤ 1048576) = true := by simp; omega
  rw [h1] at hg9
  have HG : Hid (Globs w) := hG
  have HD : Hid (InAt w (.slice da D.length dc) D) := hd
  have HP : Hid (InAt w (.slice pa P.length pc) P) := hp
  unfold maxLen at hdc hpc
  have ho3 : ¬ (9223372036854775807 - (k : Int) < off) := by omega
  clear hG hd hp h1
  go_enter Tryd.func4, Tryd.ntmps4
  go_wp2_with fail
  refine hg9.mono ?_
  rintro e w' ⟨rfl, rfl⟩
  go_wp2_with fail
  refine (clone_any da D.length dc D _ rfl HD.out (by omega)).mono ?_
  rintro e w1 ⟨va1, vc1, rfl, d1, b1, r1⟩
  have D1 : Hid (DataAt w1 (.slice va1 D.length vc1) D) := d1
  have B1 : Hid (Below w.heap.size w w1) := b1
  have R1 : Hid (Rng (.slice va1 D.length vc1) w.heap.size w1.heap.size) := fun g hg => ⟨by rw [r1 g hg]; exact Nat.le_refl _, d1.lt hg⟩
  have s1 := b1.size
  have HD1 : Hid (InAt w1 (.slice da D.length dc) D) := HD.out.below b1 (Nat.le_refl _)
  have HP1 : Hid (InAt w1 (.slice pa P.length pc) P) := HP.out.below b1 (Nat.le_refl _)
  clear d1 b1 r1 HD HP
  go_wp2_with fail
  refine (clone_any da D.length dc D _ rfl HD1.out (by omega)).mono ?_
  rintro e w2 ⟨va2, vc2, rfl, d2, b2, r2⟩
  have D2 : Hid (DataAt w2 (.slice va2 D.length vc2) D) := d2
  have D12 : Hid (DataAt w2 (.slice va1 D.length vc1) D) := D1.out.of_blocks (fun g hg => b2.block g (R1.out g hg).2)
  have B2 : Hid (Below w.heap.size w w2) := B1.out.trans (b2.mono s1)
  have R2 : Hid (Rng (.slice va2 D.length vc2) w1.heap.size w2.heap.size) := fun g hg => ⟨by rw [r2 g hg]; exact Nat.le_refl _, d2.lt hg⟩
  have s2 := b2.size
  have HP2 : Hid (InAt w2 (.slice pa P.length pc) P) := HP1.out.below b2 (Nat.le_refl _)
  clear d2 b2 r2 HD1 HP1 D1 B1
  go_wp2_with fail
  refine (clone_any pa P.length pc P _ rfl HP2.out (by omega)).mono ?_
  rintro e w3 ⟨va3, vc3, rfl, d3, b3, r3⟩
  have D3 : Hid (DataAt w3 (.slice va3 P.length vc3) P) := d3
  have D13 : Hid (DataAt w3 (.slice va1 D.length vc1) D) := D12.out.of_blocks (fun g hg => b3.block g (Nat.lt_of_lt_of_le (R1.out g hg).2 s2))
  have D23 : Hid (DataAt w3 (.slice va2 D.length vc2) D) := D2.out.of_blocks (fun g hg => b3.block g (R2.out g hg).2)
  have B3 : Hid (Below w.heap.size w w3) := B2.out.trans (b3.mono (by omega))
  have R3 : Hid (Rng (.slice va3 P.length vc3) w2.heap.size w3.heap.size) := fun g hg => ⟨by rw [r3 g hg]; exact Nat.le_refl _, d3.lt hg⟩
  have s3 := b3.size
  clear d3 b3 r3 HP2 D12 D2 B2
  go_wp2_with fail
  refine (clone_any va3 P.length vc3 P _ rfl D3.out.inAt (by omega)).mono ?_
  rintro e w4 ⟨va4, vc4, rfl, d4, b4, r4⟩
  have D4 : Hid (DataAt w4 (.slice va4 P.length vc4) P) := d4
  have D34 : Hid (DataAt w4 (.slice va3 P.length vc3) P) := D3.out.of_blocks (fun g hg => b4.block g (R3.out g hg).2)
  have D14 : Hid (DataAt w4 (.slice va1 D.length vc1) D) := D13.out.of_blocks (fun g hg => b4.block g (by have := (R1.out g hg).2; omega))
  have D24 : Hid (DataAt w4 (.slice va2 D.length vc2) D) := D23.out.of_blocks (fun g hg => b4.block g (by have := (R2.out g hg).2; omega))
  have B4 : Hid (Below w.heap.size w w4) := B3.out.trans (b4.mono (by omega))
  have R4 : Hid (Rng (.slice va4 P.length vc4) w3.heap.size w4.heap.size) := fun g hg => ⟨by rw [r4 g hg]; exact Nat.le_refl _, d4.lt hg⟩
  have s4 := b4.size
  clear d4 b4 r4 D13 D23 D3 B3
  obtain ⟨A, hA⟩ : ∃ A, Hid (A = P.take k) := ⟨_, rfl⟩
  obtain ⟨C, hC⟩ : ∃ C, Hid (C = P.drop k) := ⟨_, rfl⟩
  have hAl : Hid (A.length = k) := by rw [hA.out, Hid]; simp; omega
  have hCl : Hid (C.length = P.length - k) := by rw [hC.out, Hid]; simp
  go_upto_region 13 with fail
  go_cut [20] (fun v wx => ClonePost A w4 (.returned v) wx)
  case first =>
    obtain ⟨e3, e3'⟩ | ⟨g3, c3, e3, hr3⟩ := D34.out
    · subst e3'
      simp at e3 hk
      obtain ⟨rfl, rfl⟩ := e3
      subst hk
      go_wp2_with fail
      refine (clone_any none 0 0 A _ hAl.out.symm (Or.inl ⟨rfl, List.eq_nil_of_length_eq_zero hAl.out⟩) (by rw [hAl.out]; omega)).mono ?_
      rintro e w5 ⟨va5, vc5, rfl, d5, b5, r5⟩
      have HH : Hid (ClonePost A w4 (.returned (.slice va5 A.length vc5)) w5) := ⟨va5, vc5, rfl, d5, b5, r5⟩
      clear d5 b5 r5
      go_wp2
      go_meet
      exact HH.out
    · simp at e3
      obtain ⟨rfl, rfl⟩ := e3
      have l3 := hr3.len
      unfold maxLen at l3
      have HI : Hid (InAt w4 (.slice (some ⟨g3, 0, none⟩) k vc3) A) := by rw [hA.out]; exact D34.out.inAt.take k hk
      clear hr3
      go_wp2_with fail
      refine (clone_any (some ⟨g3, 0, none⟩) k vc3 A _ hAl.out.symm HI.out (by rw [hAl.out]; omega)).mono ?_
      rintro e w5 ⟨va5, vc5, rfl, d5, b5, r5⟩
      have HH : Hid (ClonePost A w4 (.returned (.slice va5 A.length vc5)) w5) := ⟨va5, vc5, rfl, d5, b5, r5⟩
      clear d5 b5 r5
      go_wp2
      go_meet
      exact HH.out
  case rest =>
    obtain ⟨va5, vc5, e5, d5, b5, r5⟩ := hcut
    cases e5
    have ew : ∃ w5, w5 = wc := ⟨_, rfl⟩
    obtain ⟨w5, rfl⟩ := ew
    have D5 : Hid (DataAt w5 (.slice va5 A.length vc5) A) := d5
    have D15 : Hid (DataAt w5 (.slice va1 D.length vc1) D) := D14.out.of_blocks (fun g hg => b5.block g (by have := (R1.out g hg).2; omega))
    have D25 : Hid (DataAt w5 (.slice va2 D.length vc2) D) := D24.out.of_blocks (fun g hg => b5.block g (by have := (R2.out g hg).2; omega))
    have D35 : Hid (DataAt w5 (.slice va3 P.length vc3) P) := D34.out.of_blocks (fun g hg => b5.block g (by have := (R3.out g hg).2; omega))
    have D45 : Hid (DataAt w5 (.slice va4 P.length vc4) P) := D4.out.of_blocks (fun g hg => b5.block g (by have := (R4.out g hg).2; omega))
    have B5 : Hid (Below w.heap.size w w5) := B4.out.trans (b5.mono (by omega))
    have R5 : Hid (Rng (.slice va5 A.length vc5) w4.heap.size w5.heap.size) := fun g hg => ⟨by rw [r5 g hg]; exact Nat.le_refl _, d5.lt hg⟩
    have s5 := b5.size
    clear d5 b5 r5 D14 D24 D34 D4 B4
    go_upto_region 14 with fail
    go_cut [21] (fun v wx => ClonePost C w5 (.returned v) wx)
    case first =>
      obtain ⟨e3, e3'⟩ | ⟨g3, c3, e3, hr3⟩ := D35.out
      · subst e3'
        simp at e3 hk
        obtain ⟨rfl, rfl⟩ := e3
        subst hk
        go_wp2_with fail
        refine (clone_any none 0 0 C _ hCl.out.symm (Or.inl ⟨rfl, List.eq_nil_of_length_eq_zero hCl.out⟩) (by rw [hCl.out]; simp)).mono ?_
        rintro e w6 ⟨va6, vc6, rfl, d6, b6, r6⟩
        have HH : Hid (ClonePost C w5 (.returned (.slice va6 C.length vc6)) w6) := ⟨va6, vc6, rfl, d6, b6, r6⟩
        clear d6 b6 r6
        go_wp2
        go_meet
        exact HH.out
      · simp at e3
        obtain ⟨rfl, rfl⟩ := e3
        have l3 := hr3.len
        unfold maxLen at l3
        have HI : Hid (SrcB w5 ⟨g3, k, none⟩ C) := by rw [hC.out]; have := hr3.src.drop k; simpa [Hid] using this
        have HI0 : Hid (vc3 ≤ k → C = []) := fun h => by rw [hC.out]; exact List.drop_of_length_le (by omega)
        clear hr3
        by_cases hkc : vc3 ≤ k
        · obtain rfl : vc3 = k := by omega
          go_wp2_with fail
          refine (clone_any (some ⟨g3, 0, none⟩) 0 0 C _ (by rw [HI0.out (Nat.le_refl _)]; rfl) (Or.inr ⟨⟨g3, 0, none⟩, 0, ?_, ?_, ?_⟩) (by rw [hCl.out]; omega)).mono ?_
          · rw [HI0.out (Nat.le_refl _)]; rfl
          · rw [HI0.out (Nat.le_refl _)]; simp
          · rw [HI0.out (Nat.le_refl _)]; intro j x hj; cases hj
          rintro e w6 ⟨va6, vc6, rfl, d6, b6, r6⟩
          have HH : Hid (ClonePost C w5 (.returned (.slice va6 C.length vc6)) w6) := ⟨va6, vc6, rfl, d6, b6, r6⟩
          clear d6 b6 r6
          go_wp2
          go_meet
          exact HH.out
        · have hkc' : k < vc3 := by omega
          go_wp2_with fail
          refine (clone_any (some ⟨g3, k, none⟩) (P.length - k) (vc3 - k) C _ hCl.out.symm (Or.inr ⟨_, vc3 - k, ?_, ?_, HI.out⟩) (by rw [hCl.out]; omega)).mono ?_
          · rw [hCl.out]
          · rw [hCl.out]; omega
          rintro e w6 ⟨va6, vc6, rfl, d6, b6, r6⟩
          have HH : Hid (ClonePost C w5 (.returned (.slice va6 C.length vc6)) w6) := ⟨va6, vc6, rfl, d6, b6, r6⟩
          clear d6 b6 r6
          go_wp2
          go_meet
          exact HH.out
    case rest =>
      obtain ⟨va6, vc6, e6, d6, b6, r6⟩ := hcut
      cases e6
      have ew : ∃ w6, w6 = wc := ⟨_, rfl⟩
      obtain ⟨w6, rfl⟩ := ew
      have D6 : Hid (DataAt w6 (.slice va6 C.length vc6) C) := d6
      have D16 : Hid (DataAt w6 (.slice va1 D.length vc1) D) := D15.out.of_blocks (fun g hg => b6.block g (by have := (R1.out g hg).2; omega))
      have D26 : Hid (DataAt w6 (.slice va2 D.length vc2) D) := D25.out.of_blocks (fun g hg => b6.block g (by have := (R2.out g hg).2; omega))
      have D36 : Hid (DataAt w6 (.slice va3 P.length vc3) P) := D35.out.of_blocks (fun g hg => b6.block g (by have := (R3.out g hg).2; omega))
      have D46 : Hid (DataAt w6 (.slice va4 P.length vc4) P) := D45.out.of_blocks (fun g hg => b6.block g (by have := (R4.out g hg).2; omega))
      have D56 : Hid (DataAt w6 (.slice va5 A.length vc5) A) := D5.out.of_blocks (fun g hg => b6.block g (by have := (R5.out g hg).2; omega))
      have B6 : Hid (Below w.heap.size w w6) := B5.out.trans (b6.mono (by omega))
      have R6 : Hid (Rng (.slice va6 C.length vc6) w5.heap.size w6.heap.size) := fun g hg => ⟨by rw [r6 g hg]; exact Nat.le_refl _, d6.lt hg⟩
      have s6 := b6.size
      have g4 := HG.out.lt
      clear d6 b6 r6 D15 D25 D35 D45 D5 B5
      go_wp2_with fail
      refine (new_any nm r wr cl va2 D.length vc2 _).mono ?_
      rintro e w7 ⟨bm, bn, bf, rfl, m1, m2, m3, f7, b7⟩
      have F7 : Hid (FileAt w7 bm bn bf nm r wr cl (.slice va2 D.length vc2)) := f7
      have D17 : Hid (DataAt w7 (.slice va1 D.length vc1) D) := D16.out.of_blocks (fun g hg => b7.block g (by have := (R1.out g hg).2; omega))
      have D27 : Hid (DataAt w7 (.slice va2 D.length vc2) D) := D26.out.of_blocks (fun g hg => b7.block g (by have := (R2.out g hg).2; omega))
      have D37 : Hid (DataAt w7 (.slice va3 P.length vc3) P) := D36.out.of_blocks (fun g hg => b7.block g (by have := (R3.out g hg).2; omega))
      have D47 : Hid (DataAt w7 (.slice va4 P.length vc4) P) := D46.out.of_blocks (fun g hg => b7.block g (by have := (R4.out g hg).2; omega))
      have D57 : Hid (DataAt w7 (.slice va5 A.length vc5) A) := D56.out.of_blocks (fun g hg => b7.block g (by have := (R5.out g hg).2; omega))
      have D67 : Hid (DataAt w7 (.slice va6 C.length vc6) C) := D6.out.of_blocks (fun g hg => b7.block g (by have := (R6.out g hg).2; omega))
      have B7 : Hid (Below w.heap.size w w7) := B6.out.trans (b7.mono (by omega))
      have G7 : Hid (Globs w7) := HG.out.below B7.out g4
      have s7 := b7.size
      clear f7 b7 D16 D26 D36 D46 D56 D6 B6
      go_wp2_with fail
      refine (zzread_row bm bn bf nm r wr cl _ D va4 vc4 P off _ G7.out F7.out D27.out D47.out (fun a ha => by have := R4.out _ (D47.out.off a ha); omega) (by omega) (by omega) (by omega) (fun gd hgd => ⟨R2.out.ne R4.out (by omega) gd hgd, by have := R2.out gd hgd; omega⟩)).mono ?_
      intro e w8 hpost
      obtain ⟨N, ev, b, Q4, rfl, hN, hb, hev, hQ4, D48, X8⟩ := read_out hpost
      have s8 := X8.out.size
      have D18 : Hid (DataAt w8 (.slice va1 D.length vc1) D) := D17.out.grown X8.out (R1.out.ne R4.out (by omega))
      have D28 : Hid (DataAt w8 (.slice va2 D.length vc2) D) := D27.out.grown X8.out (R2.out.ne R4.out (by omega))
      have D38 : Hid (DataAt w8 (.slice va3 P.length vc3) P) := D37.out.grown X8.out (R3.out.ne R4.out (by omega))
      have D58 : Hid (DataAt w8 (.slice va5 A.length vc5) A) := D57.out.grown X8.out (R5.out.ne R4.out (by omega))
      have D68 : Hid (DataAt w8 (.slice va6 C.length vc6) C) := D67.out.grown X8.out (R6.out.ne R4.out (by omega))
      have F8 : Hid (FileAt w8 bm bn bf nm r wr cl (.slice va2 D.length vc2)) := F7.out.grown X8.out R4.out (by omega)
      have G8 : Hid (Globs w8) := G7.out.grown X8.out R4.out (by omega)
      have B8 : Hid (Below w.heap.size w w8) := Below.read B7.out X8.out R4.out (by omega) (by omega)
      clear hpost D17 D27 D37 D47 D57 D67 F7 G7 B7 X8
      go_wp2_with fail
      refine (zzread_row bm bn bf nm r wr cl _ D va5 vc5 A off _ G8.out F8.out D28.out D58.out (fun a ha => by have := R5.out _ (D58.out.off a ha); omega) (by omega) (by omega) (by rw [hAl.out]; omega) (fun gd hgd => ⟨R2.out.ne R5.out (by omega) gd hgd, by have := R2.out gd hgd; omega⟩)).mono ?_
      intro e w9 hpost
      obtain ⟨N1, ev1, b1', Q5, rfl, hN1, -, -, hQ5, D59, X9⟩ := read_out hpost
      have s9 := X9.out.size
      have D19 : Hid (DataAt w9 (.slice va1 D.length vc1) D) := D18.out.grown X9.out (R1.out.ne R5.out (by omega))
      have D29 : Hid (DataAt w9 (.slice va2 D.length vc2) D) := D28.out.grown X9.out (R2.out.ne R5.out (by omega))
      have D39 : Hid (DataAt w9 (.slice va3 P.length vc3) P) := D38.out.grown X9.out (R3.out.ne R5.out (by omega))
      have D49 : Hid (DataAt w9 (.slice va4 P.length vc4) Q4) := D48.out.grown X9.out (R4.out.ne R5.out (by omega))
      have D69 : Hid (DataAt w9 (.slice va6 C.length vc6) C) := D68.out.grown X9.out (R6.out.ne R5.out (by omega))
      have F9 : Hid (FileAt w9 bm bn bf nm r wr cl (.slice va2 D.length vc2)) := F8.out.grown X9.out R5.out (by omega)
      have G9 : Hid (Globs w9) := G8.out.grown X9.out R5.out (by omega)
      have B9 : Hid (Below w.heap.size w w9) := Below.read B8.out X9.out R5.out (by omega) (by omega)
      clear hpost D18 D28 D38 D48 D58 D68 F8 G8 B8 X9
      go_wp2_with fail
      refine (zzread_row bm bn bf nm r wr cl _ D va6 vc6 C (off + k) _ G9.out F9.out D29.out D69.out (fun a ha => by have := R6.out _ (D69.out.off a ha); omega) (by omega) (by omega) (by rw [hCl.out]; omega) (fun gd hgd => ⟨R2.out.ne R6.out (by omega) gd hgd, by have := R2.out gd hgd; omega⟩)).mono ?_
      intro e w10 hpost
      obtain ⟨N2, ev2, b2', Q6, rfl, hN2, -, -, hQ6, D60, X10⟩ := read_out hpost
      have D10 : Hid (DataAt w10 (.slice va1 D.length vc1) D) := D19.out.grown X10.out (R1.out.ne R6.out (by omega))
      have D30 : Hid (DataAt w10 (.slice va3 P.length vc3) P) := D39.out.grown X10.out (R3.out.ne R6.out (by omega))
      have D40 : Hid (DataAt w10 (.slice va4 P.length vc4) Q4) := D49.out.grown X10.out (R4.out.ne R6.out (by omega))
      have D50 : Hid (DataAt w10 (.slice va5 A.length vc5) Q5) := D59.out.grown X10.out (R5.out.ne R6.out (by omega))
      have B10 : Hid (Below w.heap.size w w10) := Below.read B9.out X10.out R6.out (by omega) (by omega)
      clear hpost D19 D29 D39 D49 D59 D69 F9 G9 B9 X10 R1 R2 R3 R4 R5 R6
      go_upto_region 19 with fail
      go_cut [29] (fun c wx => c = .bool (okC cl r off) ∧ w10 = wx)
      case first =>
        cases cl with
        | true => go_wp2; go_meet; exact ⟨rfl, rfl⟩
        | false =>
          cases r with
          | false => go_wp2; go_meet; exact ⟨rfl, rfl⟩
          | true =>
            by_cases ho : 0 ≤ off
            · have HO : Hid (okC false true off = true) := by simp [okC, Hid]; exact ho
              go_wp2
              go_meet
              exact ⟨by rw [HO.out], rfl⟩
            · have HO : Hid (okC false true off = false) := by simp [okC, Hid]; omega
              go_wp2
              go_meet
              exact ⟨by rw [HO.out], rfl⟩
      case rest =>
        obtain ⟨e29, ew10⟩ := hcut
        subst e29 ew10
        refine (‹∀ (a : Act) (w1 : World), Code.wp Tryd.prog (tailN 16 (Tryd.f4.body.getD .skip)) (bodyPost Tryd.prog Tryd.f4 (TruePost w)) a w1 → _›) _ _ ?_
        exact lawA_tail nm da va1 va2 va3 va4 va5 va6 dc vc1 vc2 vc3 vc4 vc5 vc6 bf D P A C Q4 Q5 Q6 r wr cl b k N N1 N2 off ev ev1 ev2 w w10
          _ _ _ _ _ _ _ _ _ _ _ _ _ _ _ _ _ _ _ _ _ _ _ _ _ _ _ _ _ _ _ _ _ _ _ _ _ _ _ _ _ _ _ _ _ _ _ _ _ _ _ _ _ _ _ _ _ _ _ _ _ _ _ _ _ _ _ _ _ _ _ _ _ _ _ _ _ _ _ _ _ _ _ _ _ _ _ _ _ _ _ _ _ _ _ _ _ _ _ _ _ _ _ _ _ _ _ _ _ _ _ _ _ _ _ _ _ _ _ _ _ _ _ _ _ _ _ _ _ _ _ _ _ _ _ _ _ _ _ _ _ _ _ _ _ _ _ _ _ _ _ _ _ _ _ _ _ _ _ _ _ _ _ _ _ _ _ _ _ _ _ _ _ _ _ _ _ _ _ hD hP hk ho1 ho2 hA hC hAl hCl hN hN1 hN2 hb hev hQ4 hQ5 hQ6 D10 D30 D40 D50 D60 B10 _ rfl

end Go.Proofs.Qxb6616577aDoor

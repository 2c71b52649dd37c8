import Derived.Test.Qxb6616577aDoorLawB5
/-! The law: what's written is read (5): every input. -/
namespace Go.Proofs.Qxb6616577aDoor
open Go.RowKit Go.MuLone
set_option linter.unusedVariables false
set_option linter.unusedSimpArgs false
set_option maxRecDepth 8000

set_option maxHeartbeats 8000000 in
theorem lawB_main (nm : ByteArray) (da pa : Option Addr) (dc pc : Nat) (D Q : List Int) (off : Int) (w : World)
    (hG : Globs w) (hd : InAt w (.slice da D.length dc) D) (hp : InAt w (.slice pa Q.length pc) Q) (hdc : D.length ≤ dc ∧ dc ≤ maxLen) (hpc : Q.length ≤ pc ∧ pc ≤ maxLen)
    (hn : nm.size ≤ 65536) (hD : D.length ≤ 65536) (hQ : Q.length ≤ 65536) (ho1 : -9223372036854775808 ≤ off) (ho2 : off ≤ 65536) :
    Calls Tryd.prog 5 #[.string nm, .slice da D.length dc, .bool true, .bool true, .bool false, .slice pa Q.length pc, .int .i64 off] w (TruePost w) := by
  have hg13 := guard13 nm da pa D.length dc Q.length pc true true false off w hdc hpc (by unfold maxLen; omega)
  have h1 : decide (nm.size + D.length + Q.length ≤ 1048576) = true := by simp; omega
  rw [h1] at hg13
  have HG : Hid (Globs w) := hG
  have HD : Hid (InAt w (.slice da D.length dc) D) := hd
  have HP : Hid (InAt w (.slice pa Q.length pc) Q) := hp
  unfold maxLen at hdc hpc
  have h40 := hG.lt
  clear hG hd hp h1
  go_enter Tryd.func5, Tryd.ntmps5
  go_wp2_with fail
  refine hg13.mono ?_
  rintro e w' ⟨rfl, rfl⟩
  go_wp2_with fail
  refine (clone_any da D.length dc D _ rfl HD.out (by omega)).mono ?_
  rintro e w1 ⟨va1, vc1, rfl, d1, b1, r1⟩
  have D1 : Hid (DataAt w1 (.slice va1 D.length vc1) D) := d1
  have B1 : Hid (Below w.heap.size w w1) := b1
  have R1 : Hid (Rng (.slice va1 D.length vc1) w.heap.size w1.heap.size) := fun g hg => ⟨by rw [r1 g hg]; exact Nat.le_refl _, d1.lt hg⟩
  have s1 := b1.size
  have HD1 : Hid (InAt w1 (.slice da D.length dc) D) := HD.out.below b1 (Nat.le_refl _)
  have HP1 : Hid (InAt w1 (.slice pa Q.length pc) Q) := HP.out.below b1 (Nat.le_refl _)
  clear d1 b1 r1 HD HP
  go_wp2_with fail
  refine (clone2_any da D.length dc D _ rfl HD1.out (by omega)).mono ?_
  rintro e w2 ⟨va2, rfl, d2, b2, r2⟩
  have D2 : Hid (DataAt w2 (.slice va2 D.length D.length) D) := d2
  have D12 : Hid (DataAt w2 (.slice va1 D.length vc1) D) := D1.out.of_blocks (fun g hg => b2.block g (R1.out g hg).2)
  have B2 : Hid (Below w.heap.size w w2) := B1.out.trans (b2.mono s1)
  have R2 : Hid (Rng (.slice va2 D.length D.length) w1.heap.size w2.heap.size) := fun g hg => ⟨by rw [r2 g hg]; exact Nat.le_refl _, d2.lt hg⟩
  have s2 := b2.size
  have HP2 : Hid (InAt w2 (.slice pa Q.length pc) Q) := HP1.out.below b2 (Nat.le_refl _)
  clear d2 b2 r2 HD1 HP1 D1 B1
  go_wp2_with fail
  refine (clone_any pa Q.length pc Q _ rfl HP2.out (by omega)).mono ?_
  rintro e w3 ⟨va3, vc3, rfl, d3, b3, r3⟩
  have D3 : Hid (DataAt w3 (.slice va3 Q.length vc3) Q) := d3
  have D13 : Hid (DataAt w3 (.slice va1 D.length vc1) D) := D12.out.of_blocks (fun g hg => b3.block g (Nat.lt_of_lt_of_le (R1.out g hg).2 s2))
  have D23 : Hid (DataAt w3 (.slice va2 D.length D.length) D) := D2.out.of_blocks (fun g hg => b3.block g (R2.out g hg).2)
  have B3 : Hid (Below w.heap.size w w3) := B2.out.trans (b3.mono (by omega))
  have R3 : Hid (Rng (.slice va3 Q.length vc3) w2.heap.size w3.heap.size) := fun g hg => ⟨by rw [r3 g hg]; exact Nat.le_refl _, d3.lt hg⟩
  have s3 := b3.size
  clear d3 b3 r3 HP2 D12 D2 B2
  go_wp2_with fail
  refine (clone_any va3 Q.length vc3 Q _ rfl D3.out.inAt (by omega)).mono ?_
  rintro e w4 ⟨va4, vc4, rfl, d4, b4, r4⟩
  have D4 : Hid (DataAt w4 (.slice va4 Q.length vc4) Q) := d4
  have D34 : Hid (DataAt w4 (.slice va3 Q.length vc3) Q) := D3.out.of_blocks (fun g hg => b4.block g (R3.out g hg).2)
  have D14 : Hid (DataAt w4 (.slice va1 D.length vc1) D) := D13.out.of_blocks (fun g hg => b4.block g (by have := (R1.out g hg).2; omega))
  have D24 : Hid (DataAt w4 (.slice va2 D.length D.length) D) := D23.out.of_blocks (fun g hg => b4.block g (by have := (R2.out g hg).2; omega))
  have B4 : Hid (Below w.heap.size w w4) := B3.out.trans (b4.mono (by omega))
  have R4 : Hid (Rng (.slice va4 Q.length vc4) w3.heap.size w4.heap.size) := fun g hg => ⟨by rw [r4 g hg]; exact Nat.le_refl _, d4.lt hg⟩
  have s4 := b4.size
  clear d4 b4 r4 D13 D23 D3 B3
  go_upto_region 13 with fail
  go_cut [18] (fun v wx => NewPost nm true true false (.slice va2 D.length D.length) w4 (.returned v) wx)
  case first =>
    go_wp2_with fail
    refine (new_any nm true true false va2 D.length D.length _).mono ?_
    rintro e w5 ⟨bm, bn, bf, rfl, m1, m2, m3, f5, b5⟩
    have HH : Hid (NewPost nm true true false (.slice va2 D.length D.length) w4 (.returned (.pointer (some ⟨bf, 0, none⟩))) w5) := ⟨bm, bn, bf, rfl, m1, m2, m3, f5, b5⟩
    clear m1 m2 m3 f5 b5
    go_wp2
    go_meet
    exact HH.out
  case rest =>
    obtain ⟨bm, bn, bf, e18, m1, m2, m3, f5, b5⟩ := hcut
    cases e18
    have hG5 : Hid (Globs wc) := HG.out.below (B4.out.trans (b5.mono (by omega))) h40
    have D15 : Hid (DataAt wc (.slice va1 D.length vc1) D) := D14.out.of_blocks (fun g hg => b5.block g (by have := (R1.out g hg).2; omega))
    have D25 : Hid (DataAt wc (.slice va2 D.length D.length) D) := D24.out.of_blocks (fun g hg => b5.block g (by have := (R2.out g hg).2; omega))
    have D35 : Hid (DataAt wc (.slice va3 Q.length vc3) Q) := D34.out.of_blocks (fun g hg => b5.block g (by have := (R3.out g hg).2; omega))
    have D45 : Hid (DataAt wc (.slice va4 Q.length vc4) Q) := D4.out.of_blocks (fun g hg => b5.block g (by have := (R4.out g hg).2; omega))
    have B5 : Hid (Below w.heap.size w wc) := B4.out.trans (b5.mono (by omega))
    have HF5 : Hid (FileAt wc bm bn bf nm true true false (.slice va2 D.length D.length)) := f5
    have hx1 : Hid (∀ g, rowOf (.slice va1 D.length vc1) = some g → g ≠ bn ∧ rowOf (.slice va2 D.length D.length) ≠ some g) := fun g hg => ⟨by have := R1.out g hg; omega, fun e => by have := R1.out g hg; have := R2.out g e; omega⟩
    have hx3 : Hid (∀ g, rowOf (.slice va3 Q.length vc3) = some g → g ≠ bn ∧ rowOf (.slice va2 D.length D.length) ≠ some g) := fun g hg => ⟨by have := R3.out g hg; omega, fun e => by have := R3.out g hg; have := R2.out g e; omega⟩
    have hx2 : Hid (∀ g, rowOf (.slice va2 D.length D.length) = some g → g ≠ bm ∧ g ≠ bn ∧ g ≠ bf ∧ w.heap.size ≤ g) := fun g hg => by have := R2.out g hg; omega
    have hx4 : Hid (∀ a, va4 = some a → a.block ≠ bm) := fun a ha => by have := R4.out _ (D4.out.off a ha); omega
    refine (‹∀ (a : Act) (w1 : World), Code.wp Tryd.prog (tailN 10 (Tryd.f5.body.getD .skip)) (bodyPost Tryd.prog Tryd.f5 (TruePost w)) a w1 → _›) _ _ ?_
    by_cases ho : 0 ≤ off
    · obtain ⟨o, rfl⟩ := Int.eq_ofNat_of_zero_le ho
      exact lawB_pos nm va1 va2 va3 va4 vc1 vc3 vc4 bm bn bf D Q o w wc
        _ _ _ _ _ _ _ _ _ _ _ _ _ _ _ _ _ _ _ _ _ _ _ _ _ _ _ _ _ _ _ _ _ _ _ _ _ _ _ _ _ _ _ _ _ _ _ _ _ _ _ _ _ _ _ _ _ _ _ _ _ _ _ _ _ _ _ _ _ _ _ _ _ _ _ _ _ _ _ _ _ _ _ _ _ _ _ _ _ _ _ _ _ _ _ _ _ _ _ _ _ _ _ _ _ _ _ _ _ _ _ _ _ _ _ _ _ _ _ _ _ _ _ _ _ _ _ _ _ _ _ _ _ _ _ _ _ _ _ _ _ _ _ _ _ _ _ _ _ _ _ _ _ _ _ _ _ _ _ _ _ _ _ _ _ _ _ _ _ _ _ _ _ _ _ _ _ _ _ _ _ _ _ _ _ _ _ _ _ _ _ _ _ _ _ _ _ _ _ _ _ _ _ _ _ _ _ _ _ _ _ _ _ _ _ _ _ _ _ _ _ _ _ _ hD hQ (by omega) hG5 HF5 D25 (by omega) D15 D35 D45 hx1 hx3 hx2 hx4 (by omega) h40 B5 _ rfl
    · exact lawB_neg nm va1 va2 va3 va4 vc1 vc3 vc4 bm bn bf D Q off w wc
        _ _ _ _ _ _ _ _ _ _ _ _ _ _ _ _ _ _ _ _ _ _ _ _ _ _ _ _ _ _ _ _ _ _ _ _ _ _ _ _ _ _ _ _ _ _ _ _ _ _ _ _ _ _ _ _ _ _ _ _ _ _ _ _ _ _ _ _ _ _ _ _ _ _ _ _ _ _ _ _ _ _ _ _ _ _ _ _ _ _ _ _ _ _ _ _ _ _ _ _ _ _ _ _ _ _ _ _ _ _ _ _ _ _ _ _ _ _ _ _ _ _ _ _ _ _ _ _ _ _ _ _ _ _ _ _ _ _ _ _ _ _ _ _ _ _ _ _ _ _ _ _ _ _ _ _ _ _ _ _ _ _ _ _ _ _ _ _ _ _ _ _ _ _ _ _ _ _ _ _ _ _ _ _ _ _ _ _ _ _ _ _ _ _ _ _ _ _ _ _ _ _ _ _ _ _ _ _ _ _ _ _ _ _ _ _ _ _ _ _ _ _ _ _ hD hQ ho1 (by omega) hG5 HF5 D25 (by omega) D15 D35 D45 hx1 hx3 hx2 hx4 (by omega) h40 B5 _ rfl

set_option maxHeartbeats 4000000 in
theorem lawB_any (nm : ByteArray) (da pa : Option Addr) (dc pc : Nat) (D Q : List Int) (r wr cl : Bool) (off : Int) (w : World)
    (hG : Globs w) (hd : InAt w (.slice da D.length dc) D) (hp : InAt w (.slice pa Q.length pc) Q) (hdc : D.length ≤ dc ∧ dc ≤ maxLen) (hpc : Q.length ≤ pc ∧ pc ≤ maxLen)
    (hn : nm.size ≤ maxLen) (ho1 : -9223372036854775808 ≤ off) (ho2 : off ≤ 9223372036854775807) :
    Calls Tryd.prog 5 #[.string nm, .slice da D.length dc, .bool r, .bool wr, .bool cl, .slice pa Q.length pc, .int .i64 off] w (TruePost w) := by
  have hg13 := guard13 nm da pa D.length dc Q.length pc r wr cl off w hdc hpc hn
  by_cases h1 : nm.size + D.length + Q.length ≤ 1048576
  · rw [decide_eq_true h1] at hg13
    by_cases h2 : nm.size ≤ 65536
    · by_cases h3 : D.length ≤ 65536
      · by_cases h4 : Q.length ≤ 65536
        · by_cases h5 : off ≤ 65536
          · cases r with
            | false =>
              unfold maxLen at hdc hpc hn
              clear hd hp hG
              go_enter Tryd.func5, Tryd.ntmps5
              go_wp2_with fail
              refine hg13.mono ?_
              rintro e w' ⟨rfl, rfl⟩
              go_wp2
              go_ret
              exact ⟨rfl, Below.refl _ _⟩
            | true =>
              cases wr with
              | false =>
                unfold maxLen at hdc hpc hn
                clear hd hp hG
                go_enter Tryd.func5, Tryd.ntmps5
                go_wp2_with fail
                refine hg13.mono ?_
                rintro e w' ⟨rfl, rfl⟩
                go_wp2
                go_ret
                exact ⟨rfl, Below.refl _ _⟩
              | true =>
                cases cl with
                | true =>
                  unfold maxLen at hdc hpc hn
                  clear hd hp hG
                  go_enter Tryd.func5, Tryd.ntmps5
                  go_wp2_with fail
                  refine hg13.mono ?_
                  rintro e w' ⟨rfl, rfl⟩
                  go_wp2
                  go_ret
                  exact ⟨rfl, Below.refl _ _⟩
                | false => exact lawB_main nm da pa dc pc D Q off w hG hd hp hdc hpc h2 h3 h4 ho1 h5
          · unfold maxLen at hdc hpc hn
            clear hd hp hG
            go_enter Tryd.func5, Tryd.ntmps5
            go_wp2_with fail
            refine hg13.mono ?_
            rintro e w' ⟨rfl, rfl⟩
            go_wp2
            go_ret
            exact ⟨rfl, Below.refl _ _⟩
        · unfold maxLen at hdc hpc hn
          clear hd hp hG
          go_enter Tryd.func5, Tryd.ntmps5
          go_wp2_with fail
          refine hg13.mono ?_
          rintro e w' ⟨rfl, rfl⟩
          go_wp2
          go_ret
          exact ⟨rfl, Below.refl _ _⟩
      · unfold maxLen at hdc hpc hn
        clear hd hp hG
        go_enter Tryd.func5, Tryd.ntmps5
        go_wp2_with fail
        refine hg13.mono ?_
        rintro e w' ⟨rfl, rfl⟩
        go_wp2
        go_ret
        exact ⟨rfl, Below.refl _ _⟩
    · unfold maxLen at hdc hpc hn
      clear hd hp hG
      go_enter Tryd.func5, Tryd.ntmps5
      go_wp2_with fail
      refine hg13.mono ?_
      rintro e w' ⟨rfl, rfl⟩
      go_wp2
      go_ret
      exact ⟨rfl, Below.refl _ _⟩
  · rw [decide_eq_false h1] at hg13
    clear hd hp hG
    go_enter Tryd.func5, Tryd.ntmps5
    go_wp2_with fail
    refine hg13.mono ?_
    rintro e w' ⟨rfl, rfl⟩
    go_wp2
    go_ret
    exact ⟨rfl, Below.refl _ _⟩

end Go.Proofs.Qxb6616577aDoor

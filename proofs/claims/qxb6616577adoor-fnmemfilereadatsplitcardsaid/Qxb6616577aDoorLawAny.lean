import Derived.Test.Qxb6616577aDoorLawA
/-! The law: ReadAt splits (4): every input. -/
namespace Go.Proofs.Qxb6616577aDoor
open Go.RowKit Go.MuLone
set_option linter.unusedVariables false
set_option linter.unusedSimpArgs false
set_option maxRecDepth 8000

set_option maxHeartbeats 4000000 in
theorem lawA_any (nm : ByteArray) (da pa : Option Addr) (dc pc : Nat) (D P : List Int) (r wr cl : Bool) (k off : Int) (w : World)
    (hG : Globs w) (hd : InAt w (.slice da D.length dc) D) (hp : InAt w (.slice pa P.length pc) P) (hdc : D.length ≤ dc ∧ dc ≤ maxLen) (hpc : P.length ≤ pc ∧ pc ≤ maxLen)
    (hn : nm.size ≤ maxLen) (hk1 : -9223372036854775808 ≤ k) (hk2 : k ≤ 9223372036854775807) (ho1 : -9223372036854775808 ≤ off) (ho2 : off ≤ 9223372036854775807) :
    Calls Tryd.prog 4 #[.string nm, .slice da D.length dc, .bool r, .bool wr, .bool cl, .slice pa P.length pc, .int .i64 k, .int .i64 off] w (TruePost w) := by
  have hg9 := guard9 nm da pa D.length dc P.length pc r wr cl k off w hdc hpc hn
  by_cases h1 : nm.size + D.length + P.length ≤ 1048576
  · rw [decide_eq_true h1] at hg9
    by_cases h2 : nm.size ≤ 65536
    · by_cases h3 : D.length ≤ 65536
      · by_cases h4 : P.length ≤ 65536
        · by_cases h5 : 0 ≤ k
          · obtain ⟨j, rfl⟩ := Int.eq_ofNat_of_zero_le h5
            by_cases h6 : j ≤ P.length
            · by_cases h7 : off + j ≤ 9223372036854775807
              · exact lawA_main nm da pa dc pc D P r wr cl j off w hG hd hp hdc hpc h2 h3 h4 h6 ho1 h7
              · unfold maxLen at hdc hpc hn
                have h7' : 9223372036854775807 - (j : Int) < off := by omega
                clear hd hp hG
                go_enter Tryd.func4, Tryd.ntmps4
                go_wp2_with fail
                refine hg9.mono ?_
                rintro e w' ⟨rfl, rfl⟩
                go_wp2
                go_ret
                exact ⟨rfl, Below.refl _ _⟩
            · unfold maxLen at hdc hpc hn
              clear hd hp hG
              go_enter Tryd.func4, Tryd.ntmps4
              go_wp2_with fail
              refine hg9.mono ?_
              rintro e w' ⟨rfl, rfl⟩
              go_wp2
              go_ret
              exact ⟨rfl, Below.refl _ _⟩
          · unfold maxLen at hdc hpc hn
            clear hd hp hG
            go_enter Tryd.func4, Tryd.ntmps4
            go_wp2_with fail
            refine hg9.mono ?_
            rintro e w' ⟨rfl, rfl⟩
            go_wp2
            go_ret
            exact ⟨rfl, Below.refl _ _⟩
        · unfold maxLen at hdc hpc hn
          clear hd hp hG
          go_enter Tryd.func4, Tryd.ntmps4
          go_wp2_with fail
          refine hg9.mono ?_
          rintro e w' ⟨rfl, rfl⟩
          go_wp2
          go_ret
          exact ⟨rfl, Below.refl _ _⟩
      · unfold maxLen at hdc hpc hn
        clear hd hp hG
        go_enter Tryd.func4, Tryd.ntmps4
        go_wp2_with fail
        refine hg9.mono ?_
        rintro e w' ⟨rfl, rfl⟩
        go_wp2
        go_ret
        exact ⟨rfl, Below.refl _ _⟩
    · unfold maxLen at hdc hpc hn
      clear hd hp hG
      go_enter Tryd.func4, Tryd.ntmps4
      go_wp2_with fail
      refine hg9.mono ?_
      rintro e w' ⟨rfl, rfl⟩
      go_wp2
      go_ret
      exact ⟨rfl, Below.refl _ _⟩
  · rw [decide_eq_false h1] at hg9
    clear hd hp hG
    go_enter Tryd.func4, Tryd.ntmps4
    go_wp2_with fail
    refine hg9.mono ?_
    rintro e w' ⟨rfl, rfl⟩
    go_wp2
    go_ret
    exact ⟨rfl, Below.refl _ _⟩

end Go.Proofs.Qxb6616577aDoor

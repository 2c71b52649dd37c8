import Derived.Test.Qxb6616962aClone2
/-! The bounds on the lengths (33, 13), zzHoldbackTooBig (14). -/
namespace Go.Proofs.Qxb6616962a
open Go.RowKit
set_option linter.unusedVariables false
set_option linter.unusedSimpArgs false
set_option maxRecDepth 8000

/-- A bool, the world as before. -/
def BoolPost (w : World) (e : Ending) (w' : World) : Prop := (∃ b, e = .returned (.bool b)) ∧ w = w'

/-- The value and the length of one of them. -/
theorem InVV.at {w : World} {a : Option Addr} {n c : Nat} {xs : List (Value × List Value)} {k : Nat} {x : Value × List Value} (h : InVV w (.slice a n c) xs) (hx : xs[k]? = some x) :
    ∃ ad av cv, a = some ad ∧ w.cell? (ad.add k) = some (.slice av x.2.length cv) ∧ x.1 = .slice av x.2.length cv ∧ x.2.length ≤ cv := by
  obtain ⟨⟨e, e2⟩ | ⟨ad, c', e, hc, h2⟩, hx2⟩ := h
  · have : xs = [] := by simpa using e2
    rw [this] at hx; cases hx
  · simp at e
    obtain ⟨rfl, rfl, rfl⟩ := e
    have h3 := h2 k x.1 (by rw [List.getElem?_map, hx]; rfl)
    obtain ⟨e1, e2⟩ | ⟨a', c', e1, hc', _⟩ := (hx2 x (List.mem_of_getElem? hx)).1
    · exact ⟨ad, none, 0, rfl, by rw [e2]; rw [e1] at h3; exact h3, by rw [e2]; exact e1, by rw [e2]; simp⟩
    · exact ⟨ad, some a', c', rfl, by rw [e1] at h3; exact h3, e1, hc'⟩

set_option maxHeartbeats 4000000 in
theorem guard33 (self : Int) (a1 a2 a3 a4 a5 a7 a8 : Option Addr) (n1 c1 n2 c2 n3 c3 n4 c4 n5 c5 n7 c7 n8 c8 : Nat) (j : Bool) (xs : List (Value × List Value)) (w : World) (hn1 : n1 = xs.length)
    (h1 : InVV w (.slice a1 n1 c1) xs) (hx : ∀ x ∈ xs, x.2.length ≤ maxLen) (hc1 : n1 ≤ maxLen) (hc2 : n2 ≤ maxLen) (hc3 : n3 ≤ maxLen) (hc4 : n4 ≤ maxLen) (hc5 : n5 ≤ maxLen) (hc7 : n7 ≤ maxLen) (hc8 : n8 ≤ maxLen) :
    Calls Try.prog 33 #[.int .i64 self, .slice a1 n1 c1, .slice a2 n2 c2, .slice a3 n3 c3, .slice a4 n4 c4, .slice a5 n5 c5, .bool j, .slice a7 n7 c7, .slice a8 n8 c8] w (BoolPost w) := by
  subst hn1
  unfold maxLen at hc1 hc2 hc3 hc4 hc5 hc7 hc8
  have H1 : Hid (InVV w (.slice a1 xs.length c1) xs) := h1
  have HX : Hid (∀ x ∈ xs, x.2.length ≤ maxLen) := hx
  clear h1 hx
  by_cases hbig : xs.length ≤ 1048576
  · go_enter Try.func33, Try.ntmps33
    go_wp2_with fail
    go_loop [19, 20] (fun t i => ∃ (k : Nat) (T : Int), k ≤ xs.length ∧ i = .int .i64 k ∧ t = .int .i64 T ∧ 0 ≤ T ∧ T ≤ 1048576) (fun _ i => xs.length - (intOf i).toNat)
    case atStart => exact ⟨0, _, Nat.zero_le _, rfl, rfl, by omega, by omega⟩
    case round =>
      obtain ⟨k, T, hk, rfl, rfl, hT0, hT1⟩ := hrel
      by_cases hlt : k < xs.length
      · obtain ⟨x, hxk⟩ : ∃ x, xs[k]? = some x := ⟨_, List.getElem?_eq_getElem hlt⟩
        have hltI : (k : Int) < (xs.length : Int) := by omega
        obtain ⟨ad, av, cv, rfl, cx, -, -⟩ := H1.out.at hxk
        have hl := HX.out x (List.mem_of_getElem? hxk)
        unfold maxLen at hl
        clear hxk
        by_cases hl1 : x.2.length ≤ 1048576
        · by_cases hl2 : T + (x.2.length : Int) ≤ 1048576
          · go_wp2
            go_round
            case rel => exact ⟨k + 1, T + (x.2.length : Int), by omega, by go_num, rfl, by omega, by omega⟩
            case measure => simp [intOf]; omega
          · go_wp2
            go_ret
            exact ⟨⟨_, rfl⟩, rfl⟩
        · go_wp2
          go_ret
          exact ⟨⟨_, rfl⟩, rfl⟩
      · have hltI : ¬ (k : Int) < (xs.length : Int) := by omega
        go_wp2
        all_goals
          go_ret
          exact ⟨⟨_, rfl⟩, rfl⟩
  · go_enter Try.func33, Try.ntmps33
    go_wp2
    go_ret
    exact ⟨⟨_, rfl⟩, rfl⟩

set_option maxHeartbeats 4000000 in
theorem guard13 (self : Int) (a1 a2 a3 a4 a5 a7 a8 : Option Addr) (n1 c1 n2 c2 n3 c3 n4 c4 n5 c5 n7 c7 n8 c8 : Nat) (j : Bool) (xs : List (Value × List Value)) (w : World) (hn1 : n1 = xs.length)
    (h1 : InVV w (.slice a1 n1 c1) xs) (hx : ∀ x ∈ xs, x.2.length ≤ maxLen) (hc1 : n1 ≤ maxLen) (hc2 : n2 ≤ maxLen) (hc3 : n3 ≤ maxLen) (hc4 : n4 ≤ maxLen) (hc5 : n5 ≤ maxLen) (hc7 : n7 ≤ maxLen) (hc8 : n8 ≤ maxLen) :
    Calls Try.prog 13 #[.int .i64 self, .slice a1 n1 c1, .slice a2 n2 c2, .slice a3 n3 c3, .slice a4 n4 c4, .slice a5 n5 c5, .bool j, .slice a7 n7 c7, .slice a8 n8 c8] w (BoolPost w) := by
  subst hn1
  unfold maxLen at hc1 hc2 hc3 hc4 hc5 hc7 hc8
  have H1 : Hid (InVV w (.slice a1 xs.length c1) xs) := h1
  have HX : Hid (∀ x ∈ xs, x.2.length ≤ maxLen) := hx
  clear h1 hx
  by_cases hbig : xs.length ≤ 1048576
  · go_enter Try.func13, Try.ntmps13
    go_wp2_with fail
    go_loop [19, 20] (fun t i => ∃ (k : Nat) (T : Int), k ≤ xs.length ∧ i = .int .i64 k ∧ t = .int .i64 T ∧ 0 ≤ T ∧ T ≤ 1048576) (fun _ i => xs.length - (intOf i).toNat)
    case atStart => exact ⟨0, _, Nat.zero_le _, rfl, rfl, by omega, by omega⟩
    case round =>
      obtain ⟨k, T, hk, rfl, rfl, hT0, hT1⟩ := hrel
      by_cases hlt : k < xs.length
      · obtain ⟨x, hxk⟩ : ∃ x, xs[k]? = some x := ⟨_, List.getElem?_eq_getElem hlt⟩
        have hltI : (k : Int) < (xs.length : Int) := by omega
        obtain ⟨ad, av, cv, rfl, cx, -, -⟩ := H1.out.at hxk
        have hl := HX.out x (List.mem_of_getElem? hxk)
        unfold maxLen at hl
        clear hxk
        by_cases hl1 : x.2.length ≤ 1048576
        · by_cases hl2 : T + (x.2.length : Int) ≤ 1048576
          · go_wp2
            go_round
            case rel => exact ⟨k + 1, T + (x.2.length : Int), by omega, by go_num, rfl, by omega, by omega⟩
            case measure => simp [intOf]; omega
          · go_wp2
            go_ret
            exact ⟨⟨_, rfl⟩, rfl⟩
        · go_wp2
          go_ret
          exact ⟨⟨_, rfl⟩, rfl⟩
      · have hltI : ¬ (k : Int) < (xs.length : Int) := by omega
        go_wp2
        all_goals
          go_ret
          exact ⟨⟨_, rfl⟩, rfl⟩
  · go_enter Try.func13, Try.ntmps13
    go_wp2
    go_ret
    exact ⟨⟨_, rfl⟩, rfl⟩

/-- How zzHoldbackTooBig ends. -/
def TooPost (xs : List (Value × List Value)) (n2 n3 n4 n5 n7 n8 : Nat) (w : World) (e : Ending) (w' : World) : Prop :=
  ∃ b, e = .returned (.bool b) ∧ w = w' ∧ (b = false → xs.length ≤ 65536 ∧ n2 ≤ 131072 ∧ n3 ≤ 131072 ∧ n4 ≤ 131072 ∧ n5 ≤ 1048576 ∧ n7 ≤ 131072 ∧ n8 ≤ 131072 ∧ ∀ x ∈ xs, x.2.length ≤ 131072)

set_option maxHeartbeats 4000000 in
theorem tooBig (a1 a2 a3 a4 a5 a7 a8 : Option Addr) (n1 c1 n2 c2 n3 c3 n4 c4 n5 c5 n7 c7 n8 c8 : Nat) (xs : List (Value × List Value)) (w : World) (hn1 : n1 = xs.length)
    (h1 : InVV w (.slice a1 n1 c1) xs) (hx : ∀ x ∈ xs, x.2.length ≤ maxLen) (hc1 : n1 ≤ maxLen) (hc2 : n2 ≤ maxLen) (hc3 : n3 ≤ maxLen) (hc4 : n4 ≤ maxLen) (hc5 : n5 ≤ maxLen) (hc7 : n7 ≤ maxLen) (hc8 : n8 ≤ maxLen) :
    Calls Try.prog 14 #[.slice a1 n1 c1, .slice a2 n2 c2, .slice a3 n3 c3, .slice a4 n4 c4, .slice a5 n5 c5, .slice a7 n7 c7, .slice a8 n8 c8] w (TooPost xs n2 n3 n4 n5 n7 n8 w) := by
  subst hn1
  unfold maxLen at hc1 hc2 hc3 hc4 hc5 hc7 hc8
  have H1 : Hid (InVV w (.slice a1 xs.length c1) xs) := h1
  have HX : Hid (∀ x ∈ xs, x.2.length ≤ maxLen) := hx
  clear h1 hx
  by_cases q0 : xs.length ≤ 65536
  · have q0I : decide ((65536 : Int) < (xs.length : Int)) = false := by simp; omega
    by_cases q1 : n2 ≤ 131072
    · have q1I : decide ((131072 : Int) < (n2 : Int)) = false := by simp; omega
      by_cases q2 : n3 ≤ 131072
      · have q2I : decide ((131072 : Int) < (n3 : Int)) = false := by simp; omega
        by_cases q3 : n4 ≤ 131072
        · have q3I : decide ((131072 : Int) < (n4 : Int)) = false := by simp; omega
          by_cases q4 : n5 ≤ 1048576
          · have q4I : decide ((1048576 : Int) < (n5 : Int)) = false := by simp; omega
            by_cases q5 : n7 ≤ 131072
            · have q5I : decide ((131072 : Int) < (n7 : Int)) = false := by simp; omega
              by_cases q6 : n8 ≤ 131072
              · have q6I : decide ((131072 : Int) < (n8 : Int)) = false := by simp; omega
                by_cases qt : 24 * xs.length + 8 * n2 + 8 * n3 + 8 * n4 + n5 + 8 * n7 + 8 * n8 ≤ 1048576
                · go_enter Try.func14, Try.ntmps14
                  go_wp2_with fail
                  go_loop [15, 81] (fun t i => ∃ (k : Nat) (T : Int), k ≤ xs.length ∧ i = .int .i64 k ∧ t = .int .i64 T ∧ 0 ≤ T ∧ T ≤ 1048576 ∧ ∀ x ∈ xs.take k, x.2.length ≤ 131072) (fun _ i => xs.length - (intOf i).toNat)
                  case atStart => exact ⟨0, _, Nat.zero_le _, rfl, rfl, by omega, by omega, by simp⟩
                  case round =>
                    obtain ⟨k, T, hk, rfl, rfl, hT0, hT1, hall⟩ := hrel
                    have HALL : Hid (∀ x ∈ xs.take k, x.2.length ≤ 131072) := hall
                    by_cases hlt : k < xs.length
                    · obtain ⟨x, hxk⟩ : ∃ x, xs[k]? = some x := ⟨_, List.getElem?_eq_getElem hlt⟩
                      have hltI : (k : Int) < (xs.length : Int) := by omega
                      obtain ⟨ad, av, cv, rfl, cx, -, -⟩ := H1.out.at hxk
                      have hl := HX.out x (List.mem_of_getElem? hxk)
                      unfold maxLen at hl
                      have HXK : Hid (xs[k]? = some x) := hxk
                      clear hxk hall
                      by_cases hl1 : x.2.length ≤ 131072
                      · by_cases hl2 : T + 8 * (x.2.length : Int) ≤ 1048576
                        · go_wp2
                          go_round
                          case rel =>
                            refine ⟨k + 1, T + 8 * (x.2.length : Int), by omega, by go_num, rfl, by omega, by omega, ?_⟩
                            intro y hy
                            rw [List.take_add_one, HXK.out] at hy
                            simp at hy
                            rcases hy with hy | rfl
                            · exact HALL.out y hy
                            · exact hl1
                          case measure => simp [intOf]; omega
                        · go_wp2
                          go_ret
                          exact ⟨true, rfl, rfl, fun h => by cases h⟩
                      · go_wp2
                        go_ret
                        exact ⟨true, rfl, rfl, fun h => by cases h⟩
                    · have hltI : ¬ (k : Int) < (xs.length : Int) := by omega
                      have HF : Hid (∀ x ∈ xs, x.2.length ≤ 131072) := by
                        rw [List.take_of_length_le (by omega)] at hall
                        exact hall
                      clear hall
                      go_wp2
                      go_ret
                      exact ⟨false, rfl, rfl, fun _ => ⟨q0, q1, q2, q3, q4, q5, q6, HF.out⟩⟩
                · go_enter Try.func14, Try.ntmps14
                  go_wp2
                  go_ret
                  exact ⟨true, rfl, rfl, fun h => by cases h⟩
              · have q6I : decide ((131072 : Int) < (n8 : Int)) = true := by simp; omega
                go_enter Try.func14, Try.ntmps14
                go_wp2
                go_ret
                exact ⟨true, rfl, rfl, fun h => by cases h⟩
            · have q5I : decide ((131072 : Int) < (n7 : Int)) = true := by simp; omega
              go_enter Try.func14, Try.ntmps14
              go_wp2
              go_ret
              exact ⟨true, rfl, rfl, fun h => by cases h⟩
          · have q4I : decide ((1048576 : Int) < (n5 : Int)) = true := by simp; omega
            go_enter Try.func14, Try.ntmps14
            go_wp2
            go_ret
            exact ⟨true, rfl, rfl, fun h => by cases h⟩
        · have q3I : decide ((131072 : Int) < (n4 : Int)) = true := by simp; omega
          go_enter Try.func14, Try.ntmps14
          go_wp2
          go_ret
          exact ⟨true, rfl, rfl, fun h => by cases h⟩
      · have q2I : decide ((131072 : Int) < (n3 : Int)) = true := by simp; omega
        go_enter Try.func14, Try.ntmps14
        go_wp2
        go_ret
        exact ⟨true, rfl, rfl, fun h => by cases h⟩
    · have q1I : decide ((131072 : Int) < (n2 : Int)) = true := by simp; omega
      go_enter Try.func14, Try.ntmps14
      go_wp2
      go_ret
      exact ⟨true, rfl, rfl, fun h => by cases h⟩
  · have q0I : decide ((65536 : Int) < (xs.length : Int)) = true := by simp; omega
    go_enter Try.func14, Try.ntmps14
    go_wp2
    go_ret
    exact ⟨true, rfl, rfl, fun h => by cases h⟩

end Go.Proofs.Qxb6616962a

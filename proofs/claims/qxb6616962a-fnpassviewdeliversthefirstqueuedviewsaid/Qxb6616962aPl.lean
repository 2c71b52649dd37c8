import Derived.Test.Qxb6616962aP1
import Derived.Test.Qxb6616962aEq
import Derived.Test.Qxb6616962aGet
import Derived.Test.Qxb6616962aNew5
/-! The plain side of the two laws; what lies aside while passView runs. -/
namespace Go.Proofs.Qxb6616962a
open Go.RowKit
set_option linter.unusedVariables false
set_option linter.unusedSimpArgs false
set_option maxRecDepth 8000

/-- The law answers true. -/
def TruePost (w : World) (e : Ending) (w' : World) : Prop := e = .returned (.bool true) ∧ Below w.heap.size w w'

/-- Some view takes x out. -/
def outs (L : List (Int × Bool)) (x : Int) : Bool := L.any (fun q => !q.2 && decide (q.1 = x))
/-- Some view lets a member in. -/
def anyJ (L : List (Int × Bool)) : Bool := L.any (·.2)
def pr (V : List (Int × Value × Bool)) : List (Int × Bool) := V.map (fun q => (q.1, q.2.2))
def nil2 : Value × Value := (.slice none 0 0, .slice none 0 0)

theorem outs_snoc (L : List (Int × Bool)) (p : Int) (b : Bool) (x : Int) : outs (L ++ [(p, b)]) x = (outs L x || (!b && decide (p = x))) := by simp [outs, List.any_append]
theorem anyJ_snoc (L : List (Int × Bool)) (p : Int) (b : Bool) : anyJ (L ++ [(p, b)]) = (anyJ L || b) := by simp [anyJ, List.any_append]

def actK (L : List (Int × Bool)) (act : List Int) : List Int := act.filter (fun x => !outs L x)

theorem actK_nil (act : List Int) : actK [] act = act := by simp [actK, outs]

theorem actK_next (L : List (Int × Bool)) (p : Int) (b : Bool) (act : List Int) : (if b then actK L act else wo p (actK L act)) = actK (L ++ [(p, b)]) act := by
  cases b with
  | true =>
    simp only [if_true]
    unfold actK
    congr 1
    funext x
    rw [outs_snoc]
    simp
  | false =>
    simp only [Bool.false_eq_true, if_false]
    unfold wo actK
    rw [List.filter_filter]
    congr 1
    funext x
    rw [outs_snoc]
    cases outs L x <;> by_cases h : p = x <;> simp [h, eq_comm]

theorem actK_le (L : List (Int × Bool)) (act : List Int) : (actK L act).length ≤ act.length := List.length_filter_le _ _

def AccK (L : List (Int × Bool)) (accs accs' : List (Value × Value)) : Prop := accs'.length = accs.length ∧ ∀ (i : Nat) (x : Value × Value), accs[i]? = some x → accs'[i]? = some (if outs L (i : Int) then nil2 else x)

theorem AccK.nil (accs : List (Value × Value)) : AccK [] accs accs := ⟨rfl, fun i x hx => by simpa [outs] using hx⟩

theorem AccK.next {L : List (Int × Bool)} {accs accs' : List (Value × Value)} {p : Int} {b : Bool} (h : AccK L accs accs') (hp : b = false → 0 ≤ p) : AccK (L ++ [(p, b)]) accs (if b then accs' else accs'.set p.toNat nil2) := by
  cases b with
  | true =>
    simp only [if_true]
    refine ⟨h.1, fun i x hx => ?_⟩
    rw [outs_snoc]
    simpa using h.2 i x hx
  | false =>
    simp only [Bool.false_eq_true, if_false]
    refine ⟨by simpa using h.1, fun i x hx => ?_⟩
    have hi := h.2 i x hx
    have hp0 := hp rfl
    rw [outs_snoc]
    by_cases hpi : p = (i : Int)
    · subst hpi
      have hlt := (List.getElem?_eq_some_iff.1 hi).1
      simp only [Int.toNat_natCast]
      rw [List.getElem?_set_self hlt]
      simp
    · rw [List.getElem?_set_ne (by omega)]
      simpa [hpi] using hi

def RsK (sf : Int) (mn : Nat) (V : List (Int × Value × Bool)) (rs : List (Int × Value × Value)) : Prop := rs.length = V.length ∧ ∀ (i : Nat) (q : Int × Value × Bool), V[i]? = some q → ∃ a c, rs[i]? = some (q.1, q.2.1, .slice a (if q.2.2 = true ∧ q.1 = sf then mn + 1 else 0) c)

theorem startsOK_form {w' : World} {N : Nat} {sf p : Int} {b : Bool} {mem cuts : List Int} {sv : Value} (h : StartsOK w' N sf p b mem cuts sv) : ∃ a c, sv = .slice a (if b = true ∧ p = sf then mem.length + 1 else 0) c := by
  unfold StartsOK at h
  split at h
  · rename_i hb
    rw [if_pos hb]
    obtain ⟨g, c, e⟩ := own_form h (by omega)
    exact ⟨_, c, e⟩
  · rename_i hb
    rw [if_neg hb]
    exact ⟨none, 0, h⟩

theorem RsK.next {sf : Int} {V : List (Int × Value × Bool)} {rs : List (Int × Value × Value)} {p : Int} {y : Value} {b : Bool} {sv : Value} {w' : World} {N : Nat} {mem cuts : List Int} (h : RsK sf mem.length V rs) (hs : StartsOK w' N sf p b mem cuts sv) : RsK sf mem.length (V ++ [(p, y, b)]) (rs ++ [(p, y, sv)]) := by
  refine ⟨by simp [h.1], fun i q hq => ?_⟩
  by_cases hi : i < V.length
  · rw [List.getElem?_append_left hi] at hq
    rw [List.getElem?_append_left (by rw [h.1]; exact hi)]
    exact h.2 i q hq
  · have hil : i < (V ++ [(p, y, b)]).length := (List.getElem?_eq_some_iff.1 hq).1
    simp at hil
    obtain rfl : i = V.length := by omega
    rw [List.getElem?_append_right (Nat.le_refl _)] at hq
    rw [List.getElem?_append_right (by rw [h.1]; exact Nat.le_refl _), h.1]
    simp at hq
    subst hq
    obtain ⟨a, c, rfl⟩ := startsOK_form hs
    exact ⟨a, c, by simp⟩

/-- What the law has looked at ahead of the run. -/
structure Good (sf : Int) (n : Nat) (jOn : Bool) (L : List (Int × Bool)) : Prop where
  out : ∀ (k : Nat) (p : Int), L[k]? = some (p, false) → 0 ≤ p ∧ p < (n : Int)
  me : ∀ (k : Nat), L[k]? = some (sf, true) → anyJ (L.take k) = false ∧ jOn = true

theorem Good.nil (sf : Int) (n : Nat) (jOn : Bool) : Good sf n jOn [] := ⟨fun k p h => (by cases h), fun k h => (by cases h)⟩

theorem Good.next {sf : Int} {n : Nat} {jOn : Bool} {L : List (Int × Bool)} {p : Int} {b : Bool} (h : Good sf n jOn L) (h1 : b = false → 0 ≤ p ∧ p < (n : Int)) (h2 : b = true → p = sf → anyJ L = false ∧ jOn = true) : Good sf n jOn (L ++ [(p, b)]) := by
  refine ⟨fun k q hk => ?_, fun k hk => ?_⟩
  · by_cases hi : k < L.length
    · rw [List.getElem?_append_left hi] at hk
      exact h.out k q hk
    · have hil : k < (L ++ [(p, b)]).length := (List.getElem?_eq_some_iff.1 hk).1
      simp at hil
      obtain rfl : k = L.length := by omega
      rw [List.getElem?_append_right (Nat.le_refl _)] at hk
      simp at hk
      obtain ⟨rfl, rfl⟩ := hk
      exact h1 rfl
  · by_cases hi : k < L.length
    · rw [List.getElem?_append_left hi] at hk
      rw [List.take_append_of_le_length (by omega)]
      exact h.me k hk
    · have hil : k < (L ++ [(p, b)]).length := (List.getElem?_eq_some_iff.1 hk).1
      simp at hil
      obtain rfl : k = L.length := by omega
      rw [List.getElem?_append_right (Nat.le_refl _)] at hk
      simp at hk
      obtain ⟨rfl, rfl⟩ := hk
      rw [List.take_append_of_le_length (Nat.le_refl _), List.take_of_length_le (Nat.le_refl _)]
      exact h2 rfl rfl

/-- Which view lets a member in first. -/
def FJ (L : List (Int × Bool)) (f : Int) : Prop := (f = -1 ∧ anyJ L = false) ∨ ∃ (k : Nat) (p : Int), f = (k : Int) ∧ L[k]? = some (p, true) ∧ anyJ (L.take k) = false

theorem FJ.lt {L : List (Int × Bool)} {f : Int} (h : FJ L f) : f < (L.length : Int) := by
  obtain ⟨rfl, _⟩ | ⟨k, p, rfl, h1, _⟩ := h
  · omega
  · have := (List.getElem?_eq_some_iff.1 h1).1
    omega

theorem FJ.any {L : List (Int × Bool)} {f : Int} (h : FJ L f) : anyJ L = decide (0 ≤ f) := by
  obtain ⟨rfl, h⟩ | ⟨k, p, rfl, h1, _⟩ := h
  · simp [h]
  · have : anyJ L = true := by
      unfold anyJ
      rw [List.any_eq_true]
      exact ⟨(p, true), List.mem_of_getElem? h1, rfl⟩
    rw [this]
    simp

theorem FJ.same {L : List (Int × Bool)} {f p : Int} {b : Bool} (h : FJ L f) (hb : b = false ∨ 0 ≤ f) : FJ (L ++ [(p, b)]) f := by
  obtain ⟨rfl, h⟩ | ⟨k, q, rfl, h1, h2⟩ := h
  · rcases hb with rfl | hb
    · exact Or.inl ⟨rfl, by rw [anyJ_snoc, h]; rfl⟩
    · omega
  · have hlt := (List.getElem?_eq_some_iff.1 h1).1
    exact Or.inr ⟨k, q, rfl, by rw [List.getElem?_append_left hlt]; exact h1, by rw [List.take_append_of_le_length (by omega)]; exact h2⟩

theorem FJ.new {L : List (Int × Bool)} {f p : Int} (h : FJ L f) (hf : f < 0) : FJ (L ++ [(p, true)]) (L.length : Int) ∧ anyJ L = false := by
  have ha : anyJ L = false := by rw [h.any]; simp; omega
  exact ⟨Or.inr ⟨L.length, p, rfl, by simp, by rw [List.take_append_of_le_length (Nat.le_refl _), List.take_of_length_le (Nat.le_refl _)]; exact ha⟩, ha⟩

/-- The marks. -/
def OutOK (os : List Bool) (L : List (Int × Bool)) (n : Nat) : Prop := os.length = n ∧ ∀ i, i < n → os[i]? = some (outs L (i : Int))

theorem OutOK.nil (n : Nat) : OutOK (List.replicate n false) [] n := ⟨by simp, fun i hi => by simp [outs, hi]⟩
theorem OutOK.same {os : List Bool} {L : List (Int × Bool)} {n : Nat} (h : OutOK os L n) (p : Int) : OutOK os (L ++ [(p, true)]) n := ⟨h.1, fun i hi => by rw [outs_snoc]; simpa using h.2 i hi⟩
theorem OutOK.set {os : List Bool} {L : List (Int × Bool)} {n k : Nat} (h : OutOK os L n) (hk : k < n) : OutOK (os.set k true) (L ++ [((k : Int), false)]) n := by
  refine ⟨by simpa using h.1, fun i hi => ?_⟩
  rw [outs_snoc]
  have hl := h.1
  by_cases hik : k = i
  · subst hik
    rw [List.getElem?_set_self (by omega)]
    simp
  · rw [List.getElem?_set_ne hik, h.2 i hi]
    have : ¬ ((k : Int) = (i : Int)) := by omega
    simp [this]

theorem marked_outs {os : List Bool} {L : List (Int × Bool)} {n : Nat} {sf : Int} {jOn : Bool} (h : OutOK os L n) (hg : Good sf n jOn L) (x : Int) : marked os x = outs L x := by
  by_cases hx : 0 ≤ x ∧ x < (n : Int)
  · obtain ⟨k, rfl⟩ : ∃ k : Nat, x = (k : Int) := ⟨x.toNat, by omega⟩
    simp [marked, List.getD_eq_getElem?_getD, h.2 k (by omega)]
  · have h1 : outs L x = false := by
      unfold outs
      rw [List.any_eq_false]
      rintro ⟨p, b⟩ hm
      obtain ⟨k, hk⟩ := List.getElem?_of_mem hm
      cases b with
      | true => simp
      | false =>
        have := hg.out k p hk
        simp
        intro e
        subst e
        exact hx this
    rw [h1]
    by_cases h0 : 0 ≤ x
    · have : os.length ≤ x.toNat := by have := h.1; omega
      simp [marked, List.getD_eq_getElem?_getD, List.getElem?_eq_none this]
    · simp [marked]
      omega

theorem left_actK {os : List Bool} {L : List (Int × Bool)} {n : Nat} {sf : Int} {jOn : Bool} (h : OutOK os L n) (hg : Good sf n jOn L) (act : List Int) : left os act = actK L act := by
  unfold left actK
  congr 1
  funext x
  rw [marked_outs h hg]

/-- A slice that is read and that the blocks P do not touch. -/
def SafeIn (w : World) (P : Nat → Prop) (v : Value) (vs : List Value) : Prop := InV w v vs ∧ (vs ≠ [] → ∀ g, blkOf v = some g → ¬ P g)

theorem SafeIn.chg {w w' : World} {P : Nat → Prop} {v : Value} {vs : List Value} (h : SafeIn w P v vs) (hc : Chg w w' P) : SafeIn w' P v vs := by
  refine ⟨?_, h.2⟩
  obtain h1 | ⟨ad, c, rfl, h1, h2⟩ := h.1
  · exact Or.inl h1
  · refine Or.inr ⟨ad, c, rfl, h1, ?_⟩
    intro j x hj
    have hx := h2 j x hj
    have hb : (ad.add j).block = ad.block := by unfold Addr.add; split <;> rfl
    have hne : vs ≠ [] := by intro e; rw [e] at hj; cases hj
    rw [World.cell?_of_block (w := w) (hc.block _ (World.block_lt_of_cell? _ _ hx) (by rw [hb]; exact h.2 hne _ rfl))]
    exact hx

theorem SafeIn.mono {w : World} {P P' : Nat → Prop} {v : Value} {vs : List Value} (h : SafeIn w P v vs) (hp : ∀ q, P' q → P q) : SafeIn w P' v vs := ⟨h.1, fun hn g hg hq => h.2 hn g hg (hp g hq)⟩

theorem SafeIn.low {w : World} {P : Nat → Prop} {v : Value} {vs : List Value} {B : Nat} (h : InV w v vs) (hB : w.heap.size ≤ B) (hP : ∀ q, P q → B ≤ q) : SafeIn w P v vs := by
  refine ⟨h, fun hn g hg hq => ?_⟩
  obtain ⟨_, e⟩ | ⟨ad, c, rfl, h1, h2⟩ := h
  · exact hn e
  · cases vs with
    | nil => exact hn rfl
    | cons x l =>
      have hx := h2 0 x rfl
      have hb : (ad.add 0).block = ad.block := by unfold Addr.add; split <;> rfl
      have := World.block_lt_of_cell? _ _ hx
      have hg' : ad.block = g := by simpa [blkOf] using hg
      have := hP g hq
      omega

end Go.Proofs.Qxb6616962a

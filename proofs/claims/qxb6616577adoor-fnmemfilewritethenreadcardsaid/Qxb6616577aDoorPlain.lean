import Derived.Test.Qxb6616577aDoorZz
/-! Plain laws of what a read leaves; slices that come in. -/
namespace Go.Proofs.Qxb6616577aDoor
open Go.RowKit Go.MuLone
set_option linter.unusedVariables false
set_option linter.unusedSimpArgs false

/-- A slice of bytes that is only read. -/
def InAt (w : World) (v : Value) (X : List Int) : Prop := (v = .slice none 0 0 ∧ X = []) ∨ ∃ ad c, v = .slice (some ad) X.length c ∧ X.length ≤ c ∧ SrcB w ad X

theorem InAt.below {w w' : World} {v : Value} {X : List Int} {B : Nat} (h : InAt w v X) (hb : Below B w w') (hB : w.heap.size ≤ B) : InAt w' v X := by
  obtain h | ⟨ad, c, rfl, h1, h2⟩ := h
  · exact Or.inl h
  · refine Or.inr ⟨ad, c, rfl, h1, ?_⟩
    intro j x hj
    have := h2 j x hj
    rw [hb.cell (Nat.lt_of_lt_of_le (World.block_lt_of_cell? _ _ this) hB)]
    exact this

theorem DataAt.inAt {w : World} {v : Value} {X : List Int} (h : DataAt w v X) : InAt w v X := by
  obtain h | ⟨gd, cd, rfl, h⟩ := h
  · exact Or.inl h
  · exact Or.inr ⟨_, cd, rfl, h.len.1, h.src⟩

theorem clone_any (a : Option Addr) (n c : Nat) (X : List Int) (w : World) (hn : n = X.length) (h : InAt w (.slice a n c) X) (hlen : X.length ≤ 1000000) :
    Calls Tryd.prog 10 #[.slice a n c] w (ClonePost X w) := by
  subst hn
  obtain ⟨e, rfl⟩ | ⟨ad, c', e, h1, h2⟩ := h
  · rw [e]; exact clone_nil w
  · rw [e]
    simp at e
    exact clone_row ad c' X w h2 hlen h1

theorem InAt.take {w : World} {ad : Addr} {n c : Nat} {X : List Int} (h : InAt w (.slice (some ad) n c) X) (k : Nat) (hk : k ≤ X.length) : InAt w (.slice (some ad) k c) (X.take k) := by
  obtain ⟨e, rfl⟩ | ⟨ad', c', e, h1, h2⟩ := h
  · cases e
  · simp at e
    obtain ⟨rfl, rfl, rfl⟩ := e
    exact Or.inr ⟨ad, c, by congr 1; simp; omega, by simp; omega, h2.take k⟩

theorem SrcB.drop {w : World} {g o : Nat} {ns : List Int} (h : SrcB w ⟨g, o, none⟩ ns) (k : Nat) : SrcB w ⟨g, o + k, none⟩ (ns.drop k) := by
  intro j x hj
  rw [List.getElem?_drop] at hj
  have ea : ∀ o j, (⟨g, o, none⟩ : Addr).add j = ⟨g, o + j, none⟩ := by intro o j; unfold Addr.add; split <;> simp_all
  have e : (⟨g, o + k, none⟩ : Addr).add j = (⟨g, o, none⟩ : Addr).add (k + j) := by rw [ea, ea, Nat.add_assoc]
  rw [e]
  exact h _ x hj

/-- The block of what a clone makes lies between. -/
def Rng (v : Value) (lo hi : Nat) : Prop := ∀ g, rowOf v = some g → lo ≤ g ∧ g < hi

theorem DataAt.lt {w : World} {v : Value} {X : List Int} (h : DataAt w v X) {g : Nat} (hg : rowOf v = some g) : g < w.heap.size := by
  obtain ⟨rfl, rfl⟩ | ⟨gd, cd, rfl, h⟩ := h
  · cases hg
  · simp [rowOf] at hg; subst hg; exact h.lt

theorem Rng.ne {v v' : Value} {lo hi lo' hi' : Nat} (h : Rng v lo hi) (h' : Rng v' lo' hi') (hh : hi ≤ lo' ∨ hi' ≤ lo) : ∀ g, rowOf v = some g → some g ≠ rowOf v' := by
  intro g hg e
  have a1 := h g hg
  have a2 := h' g e.symm
  omega

theorem DataAt.off {w : World} {a : Option Addr} {n c : Nat} {X : List Int} (h : DataAt w (.slice a n c) X) : ∀ b, a = some b → rowOf (.slice a n c) = some b.block := by
  intro b e; subst e; rfl

/-- What the law wants at i. -/
def want (ok : Bool) (D P : List Int) (off : Int) (i : Nat) : Option Int := if i < rdN ok D.length P.length off then D[off.toNat + i]? else P[i]?

theorem rdB_get (ok : Bool) (D P : List Int) (off : Int) (i : Nat) (hi : i < P.length) : (rdB ok D P off)[i]? = want ok D P off i := by
  have hN : rdN ok D.length P.length off ≤ P.length ∧ (D.drop off.toNat).length ≥ rdN ok D.length P.length off := by
    unfold rdN; split <;> simp <;> omega
  unfold rdB want
  by_cases h : i < rdN ok D.length P.length off
  · rw [if_pos h, List.getElem?_append_left (by rw [List.length_take]; omega), List.getElem?_take_of_lt h, List.getElem?_drop]
  · rw [if_neg h, List.getElem?_append_right (by rw [List.length_take]; omega), List.getElem?_drop, List.length_take]
    congr 1
    omega

theorem rdB_length (ok : Bool) (D P : List Int) (off : Int) : (rdB ok D P off).length = P.length := by
  have hN : rdN ok D.length P.length off ≤ P.length ∧ (D.drop off.toNat).length ≥ rdN ok D.length P.length off := by
    unfold rdN; split <;> simp <;> omega
  unfold rdB
  simp only [List.length_append, List.length_take, List.length_drop] at hN ⊢
  omega

theorem okC_add (cl r : Bool) (off : Int) (k : Nat) (h : 0 ≤ off) : okC cl r (off + k) = okC cl r off := by
  have e : decide (0 ≤ off + k) = decide (0 ≤ off) := by rw [decide_eq_decide]; omega
  rw [okC, okC, e]

/-- The count splits. -/
theorem rdN_split (ok : Bool) (d p k : Nat) (off : Int) (h : 0 ≤ off) (hk : k ≤ p) : rdN ok d p off = rdN ok d k off + rdN ok d (p - k) (off + k) := by
  unfold rdN
  cases ok
  · simp
  · simp only [true_and]
    by_cases h1 : off < (d : Int)
    · rw [if_pos h1, if_pos h1]
      split <;> omega
    · rw [if_neg h1, if_neg h1, if_neg (by omega)]

theorem want_left (ok : Bool) (D P : List Int) (off : Int) (i k : Nat) (hi : i < k) (hk : k ≤ P.length) : (rdB ok D (P.take k) off)[i]? = want ok D P off i := by
  have hl : (P.take k).length = k := by simp; omega
  rw [rdB_get _ _ _ _ _ (by omega)]
  unfold want
  rw [hl]
  have hc : i < rdN ok D.length k off ↔ i < rdN ok D.length P.length off := by
    unfold rdN; split <;> omega
  by_cases h : i < rdN ok D.length k off
  · rw [if_pos h, if_pos (hc.1 h)]
  · rw [if_neg h, if_neg (fun e => h (hc.2 e)), List.getElem?_take_of_lt hi]

theorem want_right (ok : Bool) (D P : List Int) (off : Int) (i k : Nat) (h0 : 0 ≤ off) (hi : k ≤ i) (hip : i < P.length) : (rdB ok D (P.drop k) (off + k))[i - k]? = want ok D P off i := by
  rw [rdB_get _ _ _ _ _ (by simp; omega)]
  unfold want
  have hl : (P.drop k).length = P.length - k := by simp
  rw [hl]
  have hs := rdN_split ok D.length P.length k off h0 (by omega)
  have hkN : 0 < rdN ok D.length (P.length - k) (off + k) → rdN ok D.length k off = k := by
    unfold rdN
    intro h
    split at h
    · rename_i h2; rw [if_pos ⟨h2.1, by omega⟩]; omega
    · omega
  have hkL : rdN ok D.length k off ≤ k := by unfold rdN; split <;> omega
  by_cases h : i < rdN ok D.length P.length off
  · have h3 : 0 < rdN ok D.length (P.length - k) (off + k) := by omega
    have h4 := hkN h3
    rw [if_pos h, if_pos (by omega)]
    congr 1
    omega
  · rw [if_neg h, if_neg, List.getElem?_drop]
    · congr 1; omega
    · intro h5
      have h4 := hkN (by omega)
      omega

theorem want_some (ok : Bool) (D P : List Int) (off : Int) (i : Nat) (hip : i < P.length) : ∃ x, want ok D P off i = some x := by
  rw [← rdB_get ok D P off i hip]
  exact ⟨_, List.getElem?_eq_getElem (by rw [rdB_length]; exact hip)⟩


theorem FileAt.grown {w w' : World} {bm bn bf : Nat} {name : ByteArray} {r wr cl : Bool} {dv v : Value} {lo hi : Nat} (h : FileAt w bm bn bf name r wr cl dv)
    (hg : w.grownBy w' (rowOf v)) (hR : Rng v lo hi) (hb : hi ≤ bm ∧ hi ≤ bn ∧ hi ≤ bf) : FileAt w' bm bn bf name r wr cl dv := by
  obtain ⟨l1, l2, l3⟩ := h.lt
  refine h.of_blocks (hg.block bm l1 ?_) (hg.block bn l2 ?_) (hg.block bf l3 ?_) <;> (intro e; have := hR _ e.symm; omega)

theorem Globs.grown {w w' : World} {v : Value} {lo hi : Nat} (h : Globs w) (hg : w.grownBy w' (rowOf v)) (hR : Rng v lo hi) (hb : 4 ≤ lo) : Globs w' := by
  have := h.lt
  refine h.of_blocks (fun k hk => hg.block k (by omega) ?_)
  intro e; have := hR _ e.symm; omega

theorem Below.read {B : Nat} {w w1 w2 : World} {v : Value} {lo hi : Nat} (h : Below B w w1) (hg : w1.grownBy w2 (rowOf v)) (hR : Rng v lo hi) (hlo : B ≤ lo) (hB : B ≤ w1.heap.size) : Below B w w2 :=
  h.grown hg hB (fun k e => by have := hR k e; omega)

/-- What a read leaves, with names. -/
theorem read_out {ok : Bool} {D P : List Int} {off : Int} {pv : Value} {w w' : World} {e : Ending} (h : ReadPost ok D P off pv w e w') :
    ∃ (N : Nat) (ev : Value) (b : Bool) (R : List Int), e = .returned (.tuple #[.int .i64 (N : Int), ev]) ∧ Hid (N = rdN ok D.length P.length off) ∧ Hid (b = rdOK ok D.length P.length off) ∧ Hid ((b = true ∧ ev = .nilIface) ∨ (b = false ∧ ∃ t a, ev = .iface t (.pointer (some a)))) ∧
      Hid (R = rdB ok D P off) ∧ Hid (DataAt w' pv R) ∧ Hid (w.grownBy w' (rowOf pv)) := by
  obtain ⟨h1, h2, (⟨h3, rfl⟩ | ⟨h3, t, a, rfl⟩)⟩ := h
  · exact ⟨_, .nilIface, true, _, rfl, rfl, h3.symm, Or.inl ⟨rfl, rfl⟩, rfl, h1, h2⟩
  · exact ⟨_, .iface t (.pointer (some a)), false, _, rfl, rfl, h3.symm, Or.inr ⟨rfl, t, a, rfl⟩, rfl, h1, h2⟩

theorem DataAt.at {w : World} {a : Option Addr} {n c : Nat} {X : List Int} {i : Nat} {x : Int} (h : DataAt w (.slice a n c) X) (hx : X[i]? = some x) :
    ∃ g, a = some ⟨g, 0, none⟩ ∧ w.cell? ⟨g, i, none⟩ = some (.int .u8 x) ∧ n = X.length ∧ n ≤ c ∧ c ≤ maxLen := by
  obtain ⟨_, rfl⟩ | ⟨gd, cd, e, h⟩ := h
  · cases hx
  · simp at e
    obtain ⟨rfl, rfl, rfl⟩ := e
    exact ⟨gd, rfl, h.cell hx, rfl, h.len.1, h.len.2⟩

end Go.Proofs.Qxb6616577aDoor

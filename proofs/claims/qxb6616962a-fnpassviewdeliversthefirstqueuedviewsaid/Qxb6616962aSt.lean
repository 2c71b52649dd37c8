import Derived.Test.Qxb6616962aNew2
/-! The holdback as a state. -/
namespace Go.Proofs.Qxb6616962a
open Go.RowKit
set_option linter.unusedVariables false
set_option linter.unusedSimpArgs false
set_option maxRecDepth 8000

/-- nil, or a whole row of n elements of sz cells. -/
def OwnR (w : World) (v : Value) (t : TypeId) (sz n : Nat) (vs : List Value) : Prop := (v = .slice none 0 0 ∧ n = 0 ∧ vs = []) ∨ ∃ g c, v = .slice (some ⟨g, 0, none⟩) n c ∧ n ≤ c ∧ c ≤ maxLen ∧ RowV w g t sz c vs

theorem OwnR.of_blocks {w w' : World} {v : Value} {t : TypeId} {sz n : Nat} {vs : List Value} (h : OwnR w v t sz n vs) (e : ∀ g, blkOf v = some g → w'.heap[g]? = w.heap[g]?) : OwnR w' v t sz n vs := by
  obtain h | ⟨g, c, rfl, h1, h2, hr⟩ := h
  · exact Or.inl h
  · exact Or.inr ⟨g, c, rfl, h1, h2, hr.of_block (e g rfl)⟩

theorem OwnR.lt {w : World} {v : Value} {t : TypeId} {sz n : Nat} {vs : List Value} (h : OwnR w v t sz n vs) {g : Nat} (hg : blkOf v = some g) : g < w.heap.size := by
  obtain ⟨rfl, _⟩ | ⟨g', c, rfl, h1, h2, hr⟩ := h
  · cases hg
  · simp [blkOf] at hg; subst hg; exact hr.lt

theorem OwnR.of_own {w : World} {base : Nat} {t : TypeId} {sz : Nat} {v : Value} {n : Nat} {xs : List Value} (h : w.ownsRow base t sz v n xs) : OwnR w v t sz n xs := by
  obtain ⟨hl, ⟨rfl, rfl⟩ | ⟨g, cap, cur, rfl, hb, hg, h1, h2, h3, h4⟩⟩ := h
  · exact Or.inl ⟨rfl, rfl, List.eq_nil_of_length_eq_zero (by simpa using hl)⟩
  · refine Or.inr ⟨g, cap, rfl, h1, h2, cur, hg, ?_, h2, h3, ?_⟩
    · rw [hl]; exact Nat.mul_le_mul_right _ h1
    · rw [hl]; exact h4

theorem own_blk {v : Value} : v.ownBlock = blkOf v := by
  cases v with
  | slice a n c => cases a <;> rfl
  | _ => rfl

/-- The views that wait. -/
def VwAt (w : World) (gv : Nat) (vV : Value) (vs : List (Int × Value × Bool)) : Prop :=
  ∃ o c, vV = .slice (some ⟨gv, o, none⟩) vs.length c ∧ vs.length ≤ c ∧ c ≤ maxLen ∧ (∀ j, w.frozen? ⟨gv, j, none⟩ = false) ∧ SrcV w ⟨gv, o, none⟩ (vs.flatMap viewC)

theorem SrcV.of_block {w w' : World} {a : Addr} {vs : List Value} (h : SrcV w a vs) (e : ∀ g, g = a.block → w'.heap[g]? = w.heap[g]?) : SrcV w' a vs := by
  intro j x hj
  have hb : (a.add j).block = a.block := by unfold Addr.add; split <;> rfl
  rw [World.cell?_of_block (w := w) (e _ hb)]
  exact h j x hj

theorem VwAt.of_block {w w' : World} {gv : Nat} {vV : Value} {vs : List (Int × Value × Bool)} (h : VwAt w gv vV vs) (e : w'.heap[gv]? = w.heap[gv]?) : VwAt w' gv vV vs := by
  obtain ⟨o, c, rfl, h1, h2, h3, h4⟩ := h
  exact ⟨o, c, rfl, h1, h2, fun j => by rw [World.frozen?_of_block (w := w) e]; exact h3 j, h4.of_block (fun g hg => by rw [hg]; exact e)⟩

/-- The blocks lie apart. -/
structure Lay (N sb st : Nat) (oa ob : Option Nat) (gv : Nat) : Prop where
  sbN : sb < N
  stN : st < N
  gvN : gv < N
  oaN : ∀ g, oa = some g → g < N
  obN : ∀ g, ob = some g → g < N
  n1 : sb ≠ st
  n2 : gv ≠ sb
  n3 : gv ≠ st
  a1 : oa ≠ some sb
  a2 : oa ≠ some st
  a3 : oa ≠ some gv
  b1 : ob ≠ some sb
  b2 : ob ≠ some st
  b3 : ob ≠ some gv
  ab : ∀ g, oa = some g → ob ≠ some g

/-- What passView may turn. -/
def Pb (N sb st : Nat) (oa ob : Option Nat) (gv q : Nat) : Prop := q = sb ∨ q = st ∨ oa = some q ∨ ob = some q ∨ q = gv ∨ N ≤ q

structure St (w : World) (N sb st : Nat) (oa ob : Option Nat) (gv : Nat) (sf : Int) (accV actV vV jv rV : Value) (accs : List (Value × Value)) (act : List Int) (vs : List (Int × Value × Bool)) (rs : List (Int × Value × Value)) : Prop where
  lay : Lay N sb st oa ob gv
  size : N ≤ w.heap.size
  hb : HB w sb st sf accV actV vV jv rV
  accB : blkOf accV = oa
  acc : OwnR w accV 83 4 accs.length (accs.flatMap accC)
  actB : blkOf actV = ob
  act : OwnV w actV 3 (act.map (Value.int .i64))
  vws : VwAt w gv vV vs
  rdy : w.ownsRow N 104 10 rV rs.length (rs.flatMap delC)

theorem St.frame {w w' : World} {N sb st : Nat} {oa ob : Option Nat} {gv : Nat} {sf : Int} {accV actV vV jv rV : Value} {accs : List (Value × Value)} {act : List Int} {vs : List (Int × Value × Bool)} {rs : List (Int × Value × Value)}
    (h : St w N sb st oa ob gv sf accV actV vV jv rV accs act vs rs) (hs : w.heap.size ≤ w'.heap.size) (e : ∀ q, q < N ∨ rV.ownBlock = some q → (q = sb ∨ q = st ∨ oa = some q ∨ ob = some q ∨ q = gv ∨ rV.ownBlock = some q) → w'.heap[q]? = w.heap[q]?) :
    St w' N sb st oa ob gv sf accV actV vV jv rV accs act vs rs := by
  have l := h.lay
  refine ⟨h.lay, Nat.le_trans h.size hs, h.hb.of_blocks (e _ (Or.inl l.sbN) (Or.inl rfl)) (e _ (Or.inl l.stN) (Or.inr (Or.inl rfl))), h.accB, h.acc.of_blocks ?_, h.actB, h.act.of_blocks ?_, h.vws.of_block (e _ (Or.inl l.gvN) ?_), own_of h.rdy ?_⟩
  · intro g hg
    rw [h.accB] at hg
    exact e g (Or.inl (l.oaN g hg)) (Or.inr (Or.inr (Or.inl hg)))
  · intro g hg
    rw [h.actB] at hg
    exact e g (Or.inl (l.obN g hg)) (Or.inr (Or.inr (Or.inr (Or.inl hg))))
  · exact Or.inr (Or.inr (Or.inr (Or.inr (Or.inl rfl))))
  · intro g hg
    exact e g (Or.inr hg) (Or.inr (Or.inr (Or.inr (Or.inr (Or.inr hg)))))

/-- What is wanted of the view at k. -/
theorem VwAt.cell {w : World} {gv : Nat} {vV : Value} {vs : List (Int × Value × Bool)} {k : Nat} {x : Int × Value × Bool} (h : VwAt w gv vV vs) (hk : vs[k]? = some x) : ∃ o c, vV = .slice (some ⟨gv, o, none⟩) vs.length c ∧ vs.length ≤ c ∧ c ≤ maxLen ∧ w.cell? ⟨gv, o + k * 3, none⟩ = some (.int .i64 x.1) ∧ w.cell? ⟨gv, o + k * 3 + 1, none⟩ = some x.2.1 ∧ w.cell? ⟨gv, o + k * 3 + 2, none⟩ = some (.bool x.2.2) := by
  obtain ⟨o, c, rfl, h1, h2, h3, h4⟩ := h
  have hc : ∀ (j : Nat) (y : Value), j < 3 → (viewC x)[j]? = some y → w.cell? ⟨gv, o + k * 3 + j, none⟩ = some y := by
    intro j y hj hy
    have := h4 (k * 3 + j) y (by rw [flat_get viewC 3 (fun _ => rfl) vs hk hj]; exact hy)
    rw [addr_add, ← Nat.add_assoc] at this
    exact this
  exact ⟨o, c, rfl, h1, h2, hc 0 _ (by omega) rfl, hc 1 _ (by omega) rfl, hc 2 _ (by omega) rfl⟩

theorem OwnR.cellA {w : World} {accV : Value} {accs : List (Value × Value)} {k : Nat} {x : Value × Value} (h : OwnR w accV 83 4 accs.length (accs.flatMap accC)) (hk : accs[k]? = some x) : ∃ g c, accV = .slice (some ⟨g, 0, none⟩) accs.length c ∧ accs.length ≤ c ∧ c ≤ maxLen ∧ RowV w g 83 4 c (accs.flatMap accC) ∧ w.cell? ⟨g, k * 4, none⟩ = some x.1 ∧ w.cell? ⟨g, k * 4 + 1, none⟩ = some x.2 := by
  obtain ⟨_, _, e⟩ | ⟨g, c, rfl, h1, h2, hr⟩ := h
  · have := accC_len accs
    rw [e] at this
    cases accs with
    | nil => cases hk
    | cons a l => simp at this
  · exact ⟨g, c, rfl, h1, h2, hr, hr.cell (by rw [show k * 4 = k * 4 + 0 from rfl, flat_get accC 4 (fun _ => rfl) accs hk (by omega)]; rfl), hr.cell (by rw [flat_get accC 4 (fun _ => rfl) accs hk (by omega)]; rfl)⟩

theorem own_cellR {w : World} {N : Nat} {rV : Value} {rs : List (Int × Value × Value)} {k : Nat} {x : Int × Value × Value} (h : w.ownsRow N 104 10 rV rs.length (rs.flatMap delC)) (hk : rs[k]? = some x) : ∃ g c, rV = .slice (some ⟨g, 0, none⟩) rs.length c ∧ rs.length ≤ c ∧ c ≤ maxLen ∧ w.cell? ⟨g, k * 10, none⟩ = some (.int .i64 x.1) ∧ w.cell? ⟨g, k * 10 + 4, none⟩ = some x.2.1 ∧ w.cell? ⟨g, k * 10 + 8, none⟩ = some x.2.2 := by
  have hR := OwnR.of_own h
  obtain ⟨_, _, e⟩ | ⟨g, c, rfl, h1, h2, hr⟩ := hR
  · have := delC_len rs
    rw [e] at this
    cases rs with
    | nil => cases hk
    | cons a l => simp at this
  · exact ⟨g, c, rfl, h1, h2, hr.cell (by rw [show k * 10 = k * 10 + 0 from rfl, flat_get delC 10 (fun _ => rfl) rs hk (by omega)]; rfl), hr.cell (by rw [flat_get delC 10 (fun _ => rfl) rs hk (by omega)]; rfl), hr.cell (by rw [flat_get delC 10 (fun _ => rfl) rs hk (by omega)]; rfl)⟩

end Go.Proofs.Qxb6616962a

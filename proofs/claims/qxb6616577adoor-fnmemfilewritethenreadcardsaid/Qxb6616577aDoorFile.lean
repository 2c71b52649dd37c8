import Derived.Test.Qxb6616577aDoorRow
import Derived.Test.Qxb6616577aDoorLocks
import Derived.Deep.QuietTactic
import Derived.BigQuiet
/-! The file in memory; ZZnewMemFile (11), check (24), zzCloneBytes (10). -/
namespace Go.Proofs.Qxb6616577aDoor
open Go.RowKit Go.MuLone
set_option linter.unusedVariables false
set_option linter.unusedSimpArgs false

/-- The four sentinels: each holds an error of errors.New's make. -/
structure Globs (w : World) : Prop where
  g0 : ∃ a, w.cell? ⟨0, 0, none⟩ = some (.iface 103 (.pointer (some a)))
  g1 : ∃ a, w.cell? ⟨1, 0, none⟩ = some (.iface 103 (.pointer (some a)))
  g2 : ∃ a, w.cell? ⟨2, 0, none⟩ = some (.iface 103 (.pointer (some a)))
  g3 : ∃ a, w.cell? ⟨3, 0, none⟩ = some (.iface 103 (.pointer (some a)))

theorem Globs.of_blocks {w w' : World} (h : Globs w) (e : ∀ k, k < 4 → w'.heap[k]? = w.heap[k]?) : Globs w' := by
  obtain ⟨⟨a0, h0⟩, ⟨a1, h1⟩, ⟨a2, h2⟩, ⟨a3, h3⟩⟩ := h
  exact ⟨⟨a0, by rw [World.cell?_of_block (w := w) (e 0 (by omega))]; exact h0⟩, ⟨a1, by rw [World.cell?_of_block (w := w) (e 1 (by omega))]; exact h1⟩,
    ⟨a2, by rw [World.cell?_of_block (w := w) (e 2 (by omega))]; exact h2⟩, ⟨a3, by rw [World.cell?_of_block (w := w) (e 3 (by omega))]; exact h3⟩⟩

theorem Globs.lt {w : World} (h : Globs w) : 4 ≤ w.heap.size := by
  obtain ⟨_, _, _, ⟨a3, h3⟩⟩ := h
  have := World.block_lt_of_cell? _ _ h3
  exact this

theorem Globs.below {B : Nat} {w w' : World} (h : Globs w) (hb : Below B w w') (hB : 4 ≤ B) : Globs w' := h.of_blocks (fun k hk => hb.block k (by omega))

/-- A file: its file system's block bm, its node's bn, its own bf; dv: the contents' slice. -/
structure FileAt (w : World) (bm bn bf : Nat) (name : ByteArray) (r wr cl : Bool) (dv : Value) : Prop where
  lock : w.cell? ⟨bm, 0, none⟩ = some (.int .i32 0)
  lockF : w.frozen? ⟨bm, 0, none⟩ = false
  werr : w.cell? ⟨bm, 5, none⟩ = some .nilIface
  fm : w.cell? ⟨bf, 0, none⟩ = some (.pointer (some ⟨bm, 0, none⟩))
  fname : w.cell? ⟨bf, 1, none⟩ = some (.string name)
  fnode : w.cell? ⟨bf, 2, none⟩ = some (.pointer (some ⟨bn, 0, none⟩))
  fr : w.cell? ⟨bf, 3, none⟩ = some (.bool r)
  fw : w.cell? ⟨bf, 4, none⟩ = some (.bool wr)
  fc : w.cell? ⟨bf, 5, none⟩ = some (.bool cl)
  nd : w.cell? ⟨bn, 1, none⟩ = some dv
  np : w.cell? ⟨bn, 3, none⟩ = some (.slice none 0 0)
  nu : w.cell? ⟨bn, 4, none⟩ = some (.int .i64 0)
  nF : ∀ j, w.frozen? ⟨bn, j, none⟩ = false
  mn : bm ≠ bn
  mf : bm ≠ bf
  nf : bn ≠ bf

theorem FileAt.of_blocks {w w' : World} {bm bn bf : Nat} {name : ByteArray} {r wr cl : Bool} {dv : Value} (h : FileAt w bm bn bf name r wr cl dv)
    (e1 : w'.heap[bm]? = w.heap[bm]?) (e2 : w'.heap[bn]? = w.heap[bn]?) (e3 : w'.heap[bf]? = w.heap[bf]?) : FileAt w' bm bn bf name r wr cl dv := by
  refine ⟨?_, ?_, ?_, ?_, ?_, ?_, ?_, ?_, ?_, ?_, ?_, ?_, ?_, h.mn, h.mf, h.nf⟩
  · rw [World.cell?_of_block (w := w) e1]; exact h.lock
  · rw [World.frozen?_of_block (w := w) e1]; exact h.lockF
  · rw [World.cell?_of_block (w := w) e1]; exact h.werr
  · rw [World.cell?_of_block (w := w) e3]; exact h.fm
  · rw [World.cell?_of_block (w := w) e3]; exact h.fname
  · rw [World.cell?_of_block (w := w) e3]; exact h.fnode
  · rw [World.cell?_of_block (w := w) e3]; exact h.fr
  · rw [World.cell?_of_block (w := w) e3]; exact h.fw
  · rw [World.cell?_of_block (w := w) e3]; exact h.fc
  · rw [World.cell?_of_block (w := w) e2]; exact h.nd
  · rw [World.cell?_of_block (w := w) e2]; exact h.np
  · rw [World.cell?_of_block (w := w) e2]; exact h.nu
  · intro j; rw [World.frozen?_of_block (w := w) e2]; exact h.nF j

theorem FileAt.lt {w : World} {bm bn bf : Nat} {name : ByteArray} {r wr cl : Bool} {dv : Value} (h : FileAt w bm bn bf name r wr cl dv) : bm < w.heap.size ∧ bn < w.heap.size ∧ bf < w.heap.size :=
  ⟨World.block_lt_of_cell? _ _ h.lock, World.block_lt_of_cell? _ _ h.nd, World.block_lt_of_cell? _ _ h.fm⟩

/-- A cell turned and turned back. -/
theorem turn_back (w w2 : World) (a : Addr) (x y : Value) (hc : w.cell? a = some x) (e : w2.heap[a.block]? = (w.setCell a y).heap[a.block]?) : (w2.setCell a x).heap[a.block]? = w.heap[a.block]? := by
  unfold World.cell? at hc
  cases hb : w.heap[a.block]? with
  | none => rw [hb] at hc; cases hc
  | some o =>
    rw [hb] at hc
    cases o <;> simp at hc
    rename_i c t fr
    obtain ⟨hs, hc⟩ := hc
    have e1 : (w.setCell a y).heap[a.block]? = some (.cells (c.setIfInBounds a.off y) t fr) := by simp [World.setCell, Array.getElem?_modify, hb, hs]
    rw [e1] at e
    simp only [World.setCell, Array.getElem?_modify, if_true, e, Option.map_some, hs, Option.isSome_none, Bool.false_eq_true, if_false]
    congr 2
    apply Array.ext_getElem?
    intro i
    rw [Array.getElem?_setIfInBounds]
    by_cases h : a.off = i
    · subst h
      have hl : a.off < c.size := (Array.getElem?_eq_some_iff.1 hc).1
      simp [hl, hc]
      have := (Array.getElem?_eq_some_iff.1 hc).2
      exact this.symm
    · rw [if_neg h, Array.getElem?_setIfInBounds, if_neg h]

/-! ZZnewMemFile -/
def NewPost (name : ByteArray) (r wr cl : Bool) (dv : Value) (w : World) (e : Ending) (w' : World) : Prop :=
  ∃ bm bn bf, e = .returned (.pointer (some ⟨bf, 0, none⟩)) ∧ w.heap.size ≤ bm ∧ w.heap.size ≤ bn ∧ w.heap.size ≤ bf ∧ FileAt w' bm bn bf name r wr cl dv ∧ Below w.heap.size w w'

set_option maxHeartbeats 400000 in
theorem new_any (name : ByteArray) (r wr cl : Bool) (a : Option Addr) (n c : Nat) (w : World) :
    Calls Tryd.prog 11 #[.string name, .slice a n c, .bool r, .bool wr, .bool cl] w (NewPost name r wr cl (.slice a n c) w) := by
  go_enter Tryd.func11, Tryd.ntmps11
  go_wp2
  go_ret
  refine ⟨w.heap.size, w.heap.size + 1, w.heap.size + 2, rfl, Nat.le_refl _, by omega, by omega, ?_, ?_⟩
  · refine ⟨?_, ?_, ?_, ?_, ?_, ?_, ?_, ?_, ?_, ?_, ?_, ?_, ?_, ?_, ?_, ?_⟩
    all_goals (try intro j)
    all_goals (first | (simp; done) | (go_simp; done) | omega)
  · exact (((Below.refl _ w).alloc (Nat.le_refl _) _).alloc (by simp) _).alloc (by simp; omega) _

/-! check -/
def okC (cl al : Bool) (off : Int) : Bool := !cl && al && decide (0 ≤ off)

def CheckPost (ok : Bool) (w : World) (e : Ending) (w' : World) : Prop :=
  (ok = true ∧ e = .returned .nilIface ∧ w = w') ∨ (ok = false ∧ (∃ p, e = .returned (.iface 72 (.pointer (some p)))) ∧ Below w.heap.size w w')

set_option maxHeartbeats 1000000 in
theorem check_any (op : ByteArray) (al : Bool) (off : Int) (bm bn bf : Nat) (name : ByteArray) (r wr cl : Bool) (dv : Value) (w : World)
    (hG : Globs w) (fn : w.cell? ⟨bf, 1, none⟩ = some (.string name)) (fc : w.cell? ⟨bf, 5, none⟩ = some (.bool cl)) :
    Calls Tryd.prog 24 #[.pointer (some ⟨bf, 0, none⟩), .string op, .bool al, .int .i64 off] w (CheckPost (okC cl al off) w) := by
  obtain ⟨_, ⟨a1, h1⟩, ⟨a2, h2⟩, ⟨a3, h3⟩⟩ := hG
  cases cl with
  | true =>
    have HO : Hid (okC true al off = false) := rfl
    go_enter Tryd.func24, Tryd.ntmps24
    go_wp2
    go_ret
    exact Or.inr ⟨HO.out, ⟨_, rfl⟩, (Below.refl _ w).alloc (Nat.le_refl _) _⟩
  | false =>
    cases al with
    | false =>
      have HO : Hid (okC false false off = false) := rfl
      go_enter Tryd.func24, Tryd.ntmps24
      go_wp2
      go_ret
      exact Or.inr ⟨HO.out, ⟨_, rfl⟩, (Below.refl _ w).alloc (Nat.le_refl _) _⟩
    | true =>
      by_cases ho : off < 0
      · have HO : Hid (okC false true off = false) := by simp [okC, Hid]; omega
        go_enter Tryd.func24, Tryd.ntmps24
        go_wp2
        go_ret
        exact Or.inr ⟨HO.out, ⟨_, rfl⟩, (Below.refl _ w).alloc (Nat.le_refl _) _⟩
      · have HO : Hid (okC false true off = true) := by simp [okC, Hid]; omega
        go_enter Tryd.func24, Tryd.ntmps24
        go_wp2
        go_ret
        exact Or.inl ⟨HO.out, rfl, rfl⟩

end Go.Proofs.Qxb6616577aDoor

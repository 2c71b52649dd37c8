import Derived.Test.Qxb6616962aGuard
import Derived.Deep.DeepCutAuto
/-! The holdback in memory; an append of structs in a region that draws. -/
namespace Go.Proofs.Qxb6616962a
open Go.RowKit
set_option linter.unusedVariables false
set_option linter.unusedSimpArgs false
set_option maxRecDepth 8000

theorem Try.info128 : (Try.prog.info? 128).map (fun i => (i.zero, i.size, i.bytes)) = some (some (.agg #[.int .u64 0, .bool false, .bool false]), 3, 16) := by kernel_rfl
theorem Try.info83 : (Try.prog.info? 83).map (fun i => (i.zero, i.size, i.bytes)) = some (some (.agg #[.slice none 0 0, .slice none 0 0, .bool false, .bool false]), 4, 56) := by kernel_rfl
theorem Try.info87 : (Try.prog.info? 87).map (fun i => (i.zero, i.size, i.bytes)) = some (some (.agg #[.int .i64 0, .pointer none, .bool false]), 3, 24) := by kernel_rfl
theorem Try.info106 : (Try.prog.info? 106).map (fun i => (i.zero, i.size, i.bytes)) = some (some (.agg #[.int .i64 0, .int .u64 0]), 2, 16) := by kernel_rfl
theorem Try.info104 : (Try.prog.info? 104).map (fun i => (i.zero, i.size)) = some (some (.agg #[.int .i64 0, .string ⟨#[]⟩, .int .u64 0, .slice none 0 0, .pointer none, .pointer none, .pointer none, .pointer none, .slice none 0 0, .slice none 0 0]), 10) := by kernel_rfl
theorem Try.bytes104 : (Try.prog.info? 104).map (fun i => decide (i.bytes ≤ 400)) = some true := by kernel_rfl

/-- 'append' to a row of the call's own, room or not, as one step of a region that draws. -/
theorem step_app {ops : Array Oper} {o : Oper} {a : Act} {w : World} {K : Act → World → Prop} {Q : Exit → Act → World → Prop} {E : Prop}
    (hg : o.guard = none) (s x : Operand) (t : TypeId) (hop : o.op = Op.call { callee := Callee.builtin Builtin.append, args := #[s, x], argTypes := #[t, t] })
    (base : Nat) (e : TypeId) (i : TypeInfo) (z : Value) (size bytes : Nat) (h1 : Try.prog.underlying t = some (.slice e)) (h2 : Try.prog.info? e = some i) (h3 : i.zero = some z) (h4 : i.size = size) (h5 : i.bytes = bytes) (h6 : z.cells.size = size) (h7 : 0 < size)
    (v : Value) (n : Nat) (xs : List Value) (hs : a.eval s = v) (hown : w.ownsRow base e size v n xs)
    (ad : Addr) (m c : Nat) (news : List Value) (hx : a.eval x = .slice (some ad) m c) (hn : news.length = m * size) (hc : ∀ j u, news[j]? = some u → w.cell? (ad.add j) = some u) (h1c : ∀ u ∈ news, u.oneCell' = true)
    (b1 : n + m ≤ maxLen) (b2 : (n + m) * bytes ≤ 140737488355328) (hbase : base ≤ w.heap.size)
    (hK : ∀ v' w', w'.ownsRow base e size v' (n + m) (xs ++ news) → w.grownBy w' v.ownBlock → K (a.put o.dst v') w') :
    if Region.wanted o (yielded ops a.tmps) = true then Oper.wp Try.prog o a w K Q else E := by
  have hw : Region.wanted o (yielded ops a.tmps) = true := by simp [Region.wanted, hg]
  rw [if_pos hw]
  obtain ⟨v', w', hrun, r1, r2, _⟩ := run_append_own (P := Try.prog) w base t o.type e i z size bytes h1 h2 h3 h4 h5 h6 h7 v n xs hown ad m c news hn hc h1c b1 b2 hbase
  unfold Oper.wp
  simp [execOp, hop, resolve, invoke, builtin, hs, hx, hrun, Result.andThen]
  exact hK v' w' r1 r2

/-- The slice's value, written out. -/
theorem own_form {w : World} {base : Nat} {e : TypeId} {sz : Nat} {v : Value} {n : Nat} {vs : List Value} (h : w.ownsRow base e sz v n vs) (hn : 0 < n) : ∃ g cap, v = .slice (some ⟨g, 0, none⟩) n cap := by
  obtain ⟨_, ⟨_, h0⟩ | ⟨g, cap, cur, e, _⟩⟩ := h
  · omega
  · exact ⟨g, cap, e⟩

/-- One account's cells; one view's; one delivery's. -/
def accC (p : Value × Value) : List Value := [p.1, p.2, .bool false, .bool false]
def viewC (p : Int × Value × Bool) : List Value := [.int .i64 p.1, p.2.1, .bool p.2.2]
def delC (p : Int × Value × Value) : List Value := [.int .i64 p.1, .string ⟨#[]⟩, .int .u64 0, .slice none 0 0, p.2.1, .pointer none, .pointer none, .pointer none, p.2.2, .slice none 0 0]

theorem accC_len (l : List (Value × Value)) : (l.flatMap accC).length = l.length * 4 := by
  induction l with
  | nil => rfl
  | cons x l ih => simp [List.flatMap_cons, accC, ih]; omega

theorem viewC_len (l : List (Int × Value × Bool)) : (l.flatMap viewC).length = l.length * 3 := by
  induction l with
  | nil => rfl
  | cons x l ih => simp [List.flatMap_cons, viewC, ih]; omega

theorem delC_len (l : List (Int × Value × Value)) : (l.flatMap delC).length = l.length * 10 := by
  induction l with
  | nil => rfl
  | cons x l ih => simp [List.flatMap_cons, delC, ih]; omega

theorem flat_get {α : Type} (f : α → List Value) (sz : Nat) (hf : ∀ x, (f x).length = sz) (l : List α) {k : Nat} {x : α} (hk : l[k]? = some x) {j : Nat} (hj : j < sz) : (l.flatMap f)[k * sz + j]? = (f x)[j]? := by
  induction l generalizing k with
  | nil => cases hk
  | cons y l ih =>
    cases k with
    | zero =>
      simp at hk
      subst hk
      rw [List.flatMap_cons, List.getElem?_append_left (by rw [hf]; omega)]
      simp
    | succ k =>
      simp at hk
      rw [List.flatMap_cons, List.getElem?_append_right (by rw [hf, Nat.succ_mul]; omega), hf]
      rw [← ih hk]
      congr 1
      rw [Nat.succ_mul]
      omega

end Go.Proofs.Qxb6616962a

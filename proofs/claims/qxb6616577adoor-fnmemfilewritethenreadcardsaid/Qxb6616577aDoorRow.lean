import Derived.Test.Qxb6616577aDoorRows
import Derived.WalkKit
import Derived.WalkSpells
import Derived.WalkLawsBesides
import Derived.Laws.CopyOwn
/-! Rows of bytes that the call itself owns: at a known block, with what they hold. -/
namespace Go.Proofs.Qxb6616577aDoor
open Go.RowKit
set_option linter.unusedVariables false
set_option linter.unusedSimpArgs false

theorem Tryd.info5 : (Tryd.prog.info? 5).map (fun i => (i.zero, i.size, i.bytes)) = some (some (.int .u8 0), 1, 1) := by kernel_rfl

/-- Block g is a row of cap bytes, none frozen, the first of them bs. -/
def RowB (w : World) (g cap : Nat) (bs : List Int) : Prop :=
  ∃ cur : Array Value, w.heap[g]? = some (.cells cur 5 (0, 0)) ∧ bs.length ≤ cap ∧ cap ≤ maxLen ∧ cur.size = cap ∧ cur.toList.take bs.length = bs.map (Value.int .u8)

theorem RowB.lt {w : World} {g cap : Nat} {bs : List Int} (h : RowB w g cap bs) : g < w.heap.size := by
  obtain ⟨cur, hg, _⟩ := h
  exact (Array.getElem?_eq_some_iff.1 hg).1

theorem RowB.len {w : World} {g cap : Nat} {bs : List Int} (h : RowB w g cap bs) : bs.length ≤ cap ∧ cap ≤ maxLen := by
  obtain ⟨cur, hg, h1, h2, _⟩ := h
  exact ⟨h1, h2⟩

theorem RowB.cell {w : World} {g cap : Nat} {bs : List Int} (h : RowB w g cap bs) {j : Nat} {x : Int} (hj : bs[j]? = some x) : w.cell? ⟨g, j, none⟩ = some (.int .u8 x) := by
  obtain ⟨cur, hg, _, _, _, ht⟩ := h
  have hl : j < bs.length := (List.getElem?_eq_some_iff.1 hj).1
  have h1 : (cur.toList.take bs.length)[j]? = some (.int .u8 x) := by rw [ht, List.getElem?_map, hj]; rfl
  rw [List.getElem?_take_of_lt hl] at h1
  simp only [World.cell?, hg]
  simpa using h1

theorem RowB.frozen {w : World} {g cap : Nat} {bs : List Int} (h : RowB w g cap bs) (j : Nat) : w.frozen? ⟨g, j, none⟩ = false := by
  obtain ⟨cur, hg, _⟩ := h
  simp [World.frozen?, hg]

theorem RowB.of_block {w w' : World} {g cap : Nat} {bs : List Int} (h : RowB w g cap bs) (e : w'.heap[g]? = w.heap[g]?) : RowB w' g cap bs := by
  obtain ⟨cur, hg, r⟩ := h
  exact ⟨cur, e.trans hg, r⟩

theorem RowB.later {B : Nat} {w w' : World} {g cap : Nat} {bs : List Int} (h : RowB w g cap bs) (hb : Below B w w') (hg : g < B) : RowB w' g cap bs := h.of_block (hb.block g hg)

theorem RowB.alloc {w : World} {g cap : Nat} {bs : List Int} (h : RowB w g cap bs) (o : Obj) : RowB (w.alloc o) g cap bs := h.of_block (Below.heap_alloc w o g h.lt)

theorem RowB.grown {w w' : World} {g cap : Nat} {bs : List Int} {row : Option Nat} (h : RowB w g cap bs) (hg : w.grownBy w' row) (hne : some g ≠ row) : RowB w' g cap bs := h.of_block (hg.block g h.lt hne)

theorem RowB.set {w : World} {g cap : Nat} {bs : List Int} (h : RowB w g cap bs) (i : Nat) (x : Int) (hi : i < bs.length) : RowB (w.setCell ⟨g, i, none⟩ (.int .u8 x)) g cap (bs.set i x) := by
  obtain ⟨cur, hg, h1, h2, h3, h4⟩ := h
  refine ⟨cur.setIfInBounds i (.int .u8 x), ?_, by simpa using h1, h2, by simpa using h3, ?_⟩
  · simp [World.setCell, Array.getElem?_modify, hg]
  · rw [List.length_set, Array.toList_setIfInBounds, List.take_set, h4, List.map_set]

/-- A slice literal of bytes: a new block. -/
theorem RowB.lit (w : World) (vs : Array Value) (bs : List Int) (h : vs = (bs.map (Value.int .u8)).toArray) (hl : bs.length ≤ maxLen) : RowB (w.alloc (.cells vs 5)) w.heap.size bs.length bs := by
  subst h
  exact ⟨_, heap_alloc_new w _, Nat.le_refl _, hl, by simp, by rw [List.take_of_length_le (by simp)]⟩

theorem RowB.owns {w : World} {g cap base : Nat} {bs : List Int} (h : RowB w g cap bs) (hb : base ≤ g) : w.ownsRow base 5 1 (.slice (some ⟨g, 0, none⟩) bs.length cap) bs.length (bs.map (Value.int .u8)) := by
  obtain ⟨cur, hg, h1, h2, h3, h4⟩ := h
  exact ⟨by simp, Or.inr ⟨g, cap, cur, rfl, hb, hg, h1, h2, by simpa using h3, by simpa using h4⟩⟩

theorem RowB.of_owns {w : World} {base n : Nat} {v : Value} {bs : List Int} (h : w.ownsRow base 5 1 v n (bs.map (Value.int .u8))) (hv : v ≠ .slice none 0 0) :
    ∃ g cap, v = .slice (some ⟨g, 0, none⟩) bs.length cap ∧ base ≤ g ∧ RowB w g cap bs := by
  obtain ⟨hl, ⟨rfl, _⟩ | ⟨g, cap, cur, rfl, hb, hg, h1, h2, h3, h4⟩⟩ := h
  · exact absurd rfl hv
  · have : n = bs.length := by simpa using hl.symm
    subst this
    exact ⟨g, cap, rfl, hb, cur, hg, h1, h2, by simpa using h3, by simpa using h4⟩

/-- What is appended: bytes at an address. -/
def SrcB (w : World) (a : Addr) (ns : List Int) : Prop := ∀ j x, ns[j]? = some x → w.cell? (a.add j) = some (.int .u8 x)

theorem SrcB.lt {w : World} {a : Addr} {ns : List Int} (h : SrcB w a ns) (hn : 0 < ns.length) : a.block < w.heap.size := by
  have := h 0 _ (List.getElem?_eq_getElem hn)
  have h2 := World.block_lt_of_cell? _ _ this
  simpa [Addr.add] using h2

theorem SrcB.below {B : Nat} {w w' : World} {a : Addr} {ns : List Int} (h : SrcB w a ns) (hb : Below B w w') (ha : a.block < B) : SrcB w' a ns := by
  intro j x hj
  rw [hb.cell (p := a.add j) (by unfold Addr.add; split <;> exact ha)]
  exact h j x hj

theorem SrcB.alloc {w : World} {a : Addr} {ns : List Int} (h : SrcB w a ns) (o : Obj) : SrcB (w.alloc o) a ns := by
  intro j x hj
  have h1 := h j x hj
  have hb : Below w.heap.size w (w.alloc o) := (Below.refl _ w).alloc (Nat.le_refl _) o
  rw [hb.cell (World.block_lt_of_cell? _ _ h1)]
  exact h1

theorem RowB.src {w : World} {g cap : Nat} {bs : List Int} (h : RowB w g cap bs) : SrcB w ⟨g, 0, none⟩ bs := by
  intro j x hj
  have e : (⟨g, 0, none⟩ : Addr).add j = ⟨g, j, none⟩ := by unfold Addr.add; split <;> simp_all
  rw [e]
  exact h.cell hj

theorem SrcB.take {w : World} {a : Addr} {ns : List Int} (h : SrcB w a ns) (k : Nat) : SrcB w a (ns.take k) := by
  intro j x hj
  rw [List.getElem?_take] at hj
  split at hj
  · exact h j x hj
  · cases hj

section
variable {ops : Array Oper} {rest : List Oper} {o : Oper} {a : Act} {Q : Exit → Act → World → Prop} (w : World)

/-- 'append(b, x...)', b a row of the call's own. -/
theorem wp_app (hgd : o.guard = none) (s x : Operand) (ho : o.op = .call { callee := .builtin .append, args := #[s, x], argTypes := #[23, 23] })
    (base g cap n : Nat) (bs : List Int) (hs : a.eval s = .slice (some ⟨g, 0, none⟩) n cap) (hn : n = bs.length) (hrow : RowB w g cap bs) (hb : base ≤ g)
    (ad : Addr) (m c : Nat) (ns : List Int) (hx : a.eval x = .slice (some ad) m c) (hm : m = ns.length) (hsrc : SrcB w ad ns) (hlen : bs.length + ns.length ≤ 1000000) (hbase : base ≤ w.heap.size)
    (h : ∀ g' cap' w', base ≤ g' → RowB w' g' cap' (bs ++ ns) → w.grownBy w' (some g) → wpList Tryd.prog ops Q rest (a.put o.dst (.slice (some ⟨g', 0, none⟩) (bs ++ ns).length cap')) w') :
    wpList Tryd.prog ops Q (o :: rest) a w := by
  subst hn hm
  obtain ⟨i0, hi, hz0, hz1, hz2⟩ := info_parts Tryd.info5
  refine wpList_append_own w hgd s x 23 ho base 5 i0 (.int .u8 0) 1 1 Tryd.underlying23 hi hz0 hz1 hz2 rfl (by decide) _ _ _ hs (hrow.owns hb) ad ns.length c (ns.map (Value.int .u8)) hx (by simp)
    (fun j u hu => ?_) (fun u hu => ?_) (by unfold maxLen; omega) (by omega) hbase ?_
  · rw [List.getElem?_map] at hu
    obtain ⟨z, hz, rfl⟩ := Option.map_eq_some_iff.1 hu
    exact hsrc j z hz
  · obtain ⟨z, _, rfl⟩ := List.mem_map.1 hu
    rfl
  · intro v' w' h2 h3 h4
    rw [← List.map_append] at h2
    obtain ⟨g', cap', rfl, hb', hr⟩ := RowB.of_owns h2 (fun e => by have := (h4.1 e).1; cases this)
    exact h g' cap' w' hb' hr h3

/-- 'append(nil, x...)', x not empty. -/
theorem wp_app_nil (hgd : o.guard = none) (s x : Operand) (ho : o.op = .call { callee := .builtin .append, args := #[s, x], argTypes := #[23, 23] })
    (base : Nat) (hs : a.eval s = .slice none 0 0)
    (ad : Addr) (m c : Nat) (ns : List Int) (hx : a.eval x = .slice (some ad) m c) (hm : m = ns.length) (hpos : 0 < ns.length) (hsrc : SrcB w ad ns) (hlen : ns.length ≤ 1000000) (hbase : base ≤ w.heap.size)
    (h : ∀ g' cap' w', base ≤ g' → RowB w' g' cap' ns → w.grownBy w' none → wpList Tryd.prog ops Q rest (a.put o.dst (.slice (some ⟨g', 0, none⟩) ns.length cap')) w') :
    wpList Tryd.prog ops Q (o :: rest) a w := by
  subst hm
  obtain ⟨i0, hi, hz0, hz1, hz2⟩ := info_parts Tryd.info5
  refine wpList_append_own w hgd s x 23 ho base 5 i0 (.int .u8 0) 1 1 Tryd.underlying23 hi hz0 hz1 hz2 rfl (by decide) _ _ _ hs (World.ownsRow_nil w base 5 1) ad ns.length c (ns.map (Value.int .u8)) hx (by simp)
    (fun j u hu => ?_) (fun u hu => ?_) (by unfold maxLen; omega) (by omega) hbase ?_
  · rw [List.getElem?_map] at hu
    obtain ⟨z, hz, rfl⟩ := Option.map_eq_some_iff.1 hu
    exact hsrc j z hz
  · obtain ⟨z, _, rfl⟩ := List.mem_map.1 hu
    rfl
  · intro v' w' h2 h3 h4
    rw [List.nil_append] at h2
    obtain ⟨g', cap', rfl, hb', hr⟩ := RowB.of_owns h2 (fun e => by have := (h4.1 e).2; omega)
    exact h g' cap' w' hb' hr h3

/-- What a copy leaves. -/
def spl (bs : List Int) (off : Nat) (ns : List Int) : List Int := bs.take off ++ (ns ++ bs.drop (off + ns.length))

theorem spl_length (bs : List Int) (off : Nat) (ns : List Int) (h : off + ns.length ≤ bs.length) : (spl bs off ns).length = bs.length := by
  simp [spl]; omega

theorem take_splice {α : Type} (B T N : List α) (off : Nat) (h : off + N.length ≤ B.length) :
    ((B ++ T).take off ++ (N ++ (B ++ T).drop (off + N.length))).take B.length = B.take off ++ (N ++ B.drop (off + N.length)) := by
  rw [List.take_append_of_le_length (by omega : off ≤ B.length), List.drop_append_of_le_length (by omega)]
  have e : B.take off ++ (N ++ (B.drop (off + N.length) ++ T)) = (B.take off ++ (N ++ B.drop (off + N.length))) ++ T := by simp [List.append_assoc]
  rw [e]
  exact List.take_left' (by simp; omega)

/-- 'copy(d, s)', d inside a row of the call's own. -/
theorem wp_copy (hgd : o.guard = none) (d s : Operand) (ho : o.op = .call { callee := .builtin .copy, args := #[d, s], argTypes := #[23, 23] })
    (dp sp : Option Addr) (dLen dCap sLen sCap : Nat) (hd : a.eval d = .slice dp dLen dCap) (hs : a.eval s = .slice sp sLen sCap)
    (g cap : Nat) (bs : List Int) (hrow : RowB w g cap bs) (off : Nat) (ns : List Int) (hn : ns.length = min sLen dLen)
    (hpos : 0 < ns.length → dp = some ⟨g, off, none⟩ ∧ ∃ ad, sp = some ad ∧ SrcB w ad ns) (hfit : off + ns.length ≤ bs.length) (m : Nat) (hm : m = ns.length)
    (h : ∀ w', RowB w' g cap (spl bs off ns) → w.grownBy w' (some g) → w'.heap.size = w.heap.size → wpList Tryd.prog ops Q rest (a.put o.dst (.int .i64 (m : Int))) w') :
    wpList Tryd.prog ops Q (o :: rest) a w := by
  subst hm
  have hsz : (Tryd.prog.info? 5).map (·.size) = some 1 := by kernel_rfl
  by_cases h0 : ns.length = 0
  · obtain rfl : ns = [] := List.eq_nil_of_length_eq_zero h0
    refine wpList_copy_nothing hgd d s 23 23 ho 5 Tryd.underlying23 hsz dp sp dLen dCap sLen sCap hd hs (by simpa using hn.symm) ?_
    refine h w ?_ ⟨rfl, rfl, rfl, Nat.le_refl _, fun _ _ _ => rfl⟩ rfl
    simpa [spl] using hrow
  · obtain ⟨rfl, ad, rfl, hsrc⟩ := hpos (by omega)
    obtain ⟨cur, hg, h1, h2, h3, h4⟩ := hrow
    refine wpList_copy_own hgd d s 23 23 ho 5 Tryd.underlying23 hsz g off dLen dCap ad sLen sCap hd hs cur 5 hg (ns.map (Value.int .u8)) (by simpa using hn) (fun j v hj => ?_) (by simp; omega) (fun v hv => ?_) ?_
    · rw [List.getElem?_map] at hj
      obtain ⟨z, hz, rfl⟩ := Option.map_eq_some_iff.1 hj
      exact hsrc j z hz
    · obtain ⟨z, _, rfl⟩ := List.mem_map.1 hv
      rfl
    · have e := h (w.setRow g (cur.toList.take off ++ (ns.map (Value.int .u8) ++ cur.toList.drop (off + (ns.map (Value.int .u8)).length))).toArray) ?_ ⟨rfl, rfl, rfl, by simp [World.setRow], fun k hk hne => setRow_other w g k _ (fun e => hne (by rw [e]))⟩ (by simp [World.setRow])
      · simpa [goInt] using e
      · refine ⟨_, setRow_heap w g cur _ 5 _ hg, ?_, h2, ?_, ?_⟩
        · rw [spl_length bs off ns hfit]; exact h1
        · simp; omega
        · rw [spl_length bs off ns hfit]
          have hl : (bs.map (Value.int .u8)).length = bs.length := by simp
          have hcur : cur.toList = bs.map (Value.int .u8) ++ cur.toList.drop bs.length := by rw [← h4, List.take_append_drop]
          rw [hcur]
          have ht := take_splice (bs.map (Value.int .u8)) (cur.toList.drop bs.length) (ns.map (Value.int .u8)) off (by simpa using hfit)
          rw [hl] at ht
          rw [ht]
          simp only [spl, List.map_append, List.map_take, List.map_drop, List.length_map]

end
end Go.Proofs.Qxb6616577aDoor

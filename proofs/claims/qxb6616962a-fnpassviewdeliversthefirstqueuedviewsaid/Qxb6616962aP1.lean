import Derived.Test.Qxb6616962aP2
/-! passView (35) and its wrapper (20). -/
namespace Go.Proofs.Qxb6616962a
open Go.RowKit
set_option linter.unusedVariables false
set_option linter.unusedSimpArgs false
set_option maxRecDepth 8000

theorem cell_alloc_at {w : World} {g : Nat} (h : w.heap.size = g) (cur : Array Value) (t : TypeId) (j : Nat) (v : Value) (hv : cur[j]? = some v) : (w.alloc (.cells cur t)).cell? ⟨g, j, none⟩ = some v := by
  subst h
  simp only [World.cell?]
  rw [heap_alloc_new]
  simp [hv]

/-- The view's copy; the delivery. -/
def vObj (p : Int) (yo : Option Addr) (b : Bool) : Obj := .cells #[.int .i64 p, .pointer yo, .bool b] 87
def dObj (p : Int) (yo : Option Addr) : Obj := .cells #[.int .i64 p, .string ⟨#[]⟩, .int .u64 0, .slice none 0 0, .pointer yo, .pointer none, .pointer none, .pointer none, .slice none 0 0, .slice none 0 0] 104

/-- passView has delivered the view (p, y, b). -/
def PassPost (w : World) (N sb st : Nat) (oa ob : Option Nat) (gv : Nat) (sf p : Int) (y : Value) (b : Bool) (accV jv : Value) (accs : List (Value × Value)) (act : List Int) (vs : List (Int × Value × Bool)) (rs : List (Int × Value × Value)) (mem cuts : List Int) (e : Ending) (w' : World) : Prop :=
  ∃ actV' vV' rV' sv, e = .returned (.tuple #[]) ∧ St w' N sb st oa ob gv sf accV actV' vV' (if b then .pointer none else jv) rV' (if b then accs else accs.set p.toNat (.slice none 0 0, .slice none 0 0)) (if b then act else wo p act) vs (rs ++ [(p, y, sv)]) ∧ Chg w w' (Pb N sb st oa ob gv) ∧ StartsOK w' N sf p b mem cuts sv

set_option maxHeartbeats 4000000 in
theorem pass35 (w : World) (N sb st : Nat) (oa ob : Option Nat) (gv : Nat) (sf p : Int) (yo : Option Addr) (b : Bool) (accV actV vV jv rV : Value) (accs : List (Value × Value)) (act : List Int) (vs : List (Int × Value × Bool)) (rs : List (Int × Value × Value)) (mem cuts : List Int)
    (hS : St w N sb st oa ob gv sf accV actV vV jv rV accs act ((p, .pointer yo, b) :: vs) rs) (hrs : rs.length ≤ 131072) (hacl : act.length ≤ 1048576) (hp : b = false → 0 ≤ p ∧ p < (accs.length : Int)) (hsf : -9223372036854775808 ≤ sf ∧ sf ≤ 9223372036854775807)
    (hJ : b = true → p = sf → JoinAt w jv mem cuts ∧ (∀ m ∈ mem, 0 ≤ m ∧ m < (cuts.length : Int)) ∧ mem.length ≤ 131072 ∧ cuts.length ≤ 131072) :
    Calls Try.prog 35 #[.pointer (some ⟨sb, 0, none⟩)] w (PassPost w N sb st oa ob gv sf p (.pointer yo) b accV jv accs act vs rs mem cuts) := by
  have HS : Hid (St w N sb st oa ob gv sf accV actV vV jv rV accs act ((p, .pointer yo, b) :: vs) rs) := hS
  have HJ : Hid (b = true → p = sf → JoinAt w jv mem cuts ∧ (∀ m ∈ mem, 0 ≤ m ∧ m < (cuts.length : Int)) ∧ mem.length ≤ 131072 ∧ cuts.length ≤ 131072) := hJ
  have HP : Hid (b = false → 0 ≤ p ∧ p < (accs.length : Int)) := hp
  obtain ⟨o, c, rfl, v1, v2, c0, c1, c2⟩ := hS.vws.cell (k := 0) (x := (p, .pointer yo, b)) rfl
  simp only [Nat.zero_mul, Nat.add_zero] at c0 c1 c2
  have s4 := hS.hb.s4
  have hN := hS.size
  have hpos : (0 : Int) < (vs.length : Int) + 1 := by omega
  clear hS hJ hp
  go_enter Try.func35, Try.ntmps35
  go_upto_region 1 with fail
  rename (∀ (a : Act) (w1 : World), Code.wp Try.prog (tailN 2 (Try.f35.body.getD .skip)) (bodyPost Try.prog Try.f35 (PassPost w N sb st oa ob gv sf p (.pointer yo) b accV jv accs act vs rs mem cuts)) a w1 → _) => hK0
  have HK : Hid _ := hK0
  clear hK0
  go_wp2_with fail
  refine HK.out _ _ ?_
  have HS' := HS.out
  have hb : ∀ q, q < w.heap.size → ((w.alloc (vObj p yo b)).alloc (dObj p yo)).heap[q]? = w.heap[q]? := fun q hq => blk2 w _ _ q hq
  have hrl : ∀ q, rV.ownBlock = some q → q < w.heap.size := fun q hq => (HS'.rdy.lt q hq).2
  have hsz : ((w.alloc (vObj p yo b)).alloc (dObj p yo)).heap.size = w.heap.size + 2 := by simp
  have hB : Below w.heap.size w ((w.alloc (vObj p yo b)).alloc (dObj p yo)) := ⟨rfl, rfl, rfl, by omega, hb⟩
  have hv : ∀ (j : Nat) (u : Value), (#[Value.int .i64 p, .pointer yo, .bool b] : Array Value)[j]? = some u → ((w.alloc (vObj p yo b)).alloc (dObj p yo)).cell? ⟨w.heap.size, j, none⟩ = some u := fun j u hu => (World.cell?_of_block (w := w.alloc (vObj p yo b)) (a := ⟨w.heap.size, j, none⟩) (Below.heap_alloc _ _ _ (by simp))).trans (cell_alloc_at rfl _ _ j u hu)
  have hd : DelAt ((w.alloc (vObj p yo b)).alloc (dObj p yo)) (w.heap.size + 1) p yo (.slice none 0 0) := by
    refine ⟨fun j u hu => cell_alloc_at (by simp) _ _ j u (by unfold delC at hu; simpa using hu), fun j => ?_⟩
    have h1 := heap_alloc_new (w.alloc (vObj p yo b)) (dObj p yo)
    have h2 : (w.alloc (vObj p yo b)).heap.size = w.heap.size + 1 := by simp
    rw [h2] at h1
    simp only [World.frozen?]
    rw [h1]
    simp [dObj]
  refine pass_t2 w ((w.alloc (vObj p yo b)).alloc (dObj p yo)) N sb st oa ob gv w.heap.size (w.heap.size + 1) sf p yo b accV actV _ jv rV accs act vs rs mem cuts _ _ _ _ _ _ _ _ _ _ _ _ _ _ _ _ _ _ _ _ _ _ _ _ _ _ _ _ _ _ _ _ _ _ _ _ _ _ _ _ _ _ _ _ _ _ _ _ _ _ _ _ _ _ _ _ _ _ _ _ _ _ _ _ _ _ _ _ _ _ _ _ _ _ _ _ _ _ _ _ _ _ _ _ _ _ _ _ _ _ _ _ _ _ _ _ _ _ _ _ _ _ _ _ _ _ _ _ _ _ _ _ _ _ _ _ _ _ _ _ _ _ _ _ _ _ _ _ _ _ _ _ (HS'.frame (by omega) ?_) (hv 0 _ rfl) (hv 2 _ rfl) hN (fun e => by have := hrl _ e; omega) hd (by omega) (fun e => by have := hrl _ e; omega) (by omega) (by omega) hrs hacl HP.out hB (by omega) hsf HJ _ ?_ _ rfl
  · intro q hq _
    rcases hq with hq | hq
    · exact hb q (by omega)
    · exact hb q (hrl q hq)
  · intro actV' vV' rV' sv w' h1 h2 h3
    refine ⟨actV', vV', rV', sv, rfl, h1, ((Chg.below hB).trans (h2.mono ?_)), h3⟩
    rintro q (h | h | h | h | h | h | h)
    · right; right; right; right; right; omega
    · exact Or.inl h
    · exact Or.inr (Or.inl h)
    · exact Or.inr (Or.inr (Or.inr (Or.inr (Or.inl h))))
    · exact Or.inr (Or.inr (Or.inl h))
    · exact Or.inr (Or.inr (Or.inr (Or.inl h)))
    · have := (HS'.rdy.lt q h).1
      right; right; right; right; right; exact this

set_option maxHeartbeats 1000000 in
theorem pass20 (w : World) (sb : Nat) (Q : Ending → World → Prop) (h : Calls Try.prog 35 #[.pointer (some ⟨sb, 0, none⟩)] w (fun e w' => e = .returned (.tuple #[]) ∧ Q e w')) : Calls Try.prog 20 #[.pointer (some ⟨sb, 0, none⟩)] w Q := by
  go_enter Try.func20, Try.ntmps20
  go_wp2_with fail
  refine h.mono ?_
  rintro e w' ⟨rfl, hq⟩
  have HQ : Hid (Q (.returned (.tuple #[])) w') := hq
  clear hq
  go_wp2
  refine bodyPost_end (results_none rfl _ _ _) rfl ?_
  exact HQ.out

end Go.Proofs.Qxb6616962a

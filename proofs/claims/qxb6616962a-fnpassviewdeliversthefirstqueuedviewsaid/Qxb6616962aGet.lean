import Derived.Test.Qxb6616962aSt
/-! The getters. -/
namespace Go.Proofs.Qxb6616962a
open Go.RowKit
set_option linter.unusedVariables false
set_option linter.unusedSimpArgs false
set_option maxRecDepth 8000

/-- It answers v and leaves the memory alone. -/
def GetPost (w : World) (v : Value) (e : Ending) (w' : World) : Prop := e = .returned v ∧ w' = w

section
variable {w : World} {N sb st : Nat} {oa ob : Option Nat} {gv : Nat} {sf : Int} {accV actV vV jv rV : Value} {accs : List (Value × Value)} {act : List Int} {vs : List (Int × Value × Bool)} {rs : List (Int × Value × Value)}

set_option maxHeartbeats 1000000 in
theorem get18 (h : St w N sb st oa ob gv sf accV actV vV jv rV accs act vs rs) (k : Nat) (x : Int × Value × Bool) (hk : vs[k]? = some x) : Calls Try.prog 18 #[.pointer (some ⟨sb, 0, none⟩), .int .i64 (k : Int)] w (GetPost w x.2.1) := by
  obtain ⟨o, c, rfl, h1, h2, c0, c1, c2⟩ := h.vws.cell hk
  have s4 := h.hb.s4
  have hlt : (k : Int) < (vs.length : Int) := by have := (List.getElem?_eq_some_iff.1 hk).1; omega
  clear hk
  go_enter Try.func18, Try.ntmps18
  go_wp2
  go_ret
  exact ⟨rfl, rfl⟩

set_option maxHeartbeats 1000000 in
theorem get19 (h : St w N sb st oa ob gv sf accV actV vV jv rV accs act vs rs) : Calls Try.prog 19 #[.pointer (some ⟨sb, 0, none⟩)] w (GetPost w jv) := by
  have s5 := h.hb.s5
  go_enter Try.func19, Try.ntmps19
  go_wp2
  go_ret
  exact ⟨rfl, rfl⟩

set_option maxHeartbeats 1000000 in
theorem get21 (h : St w N sb st oa ob gv sf accV actV vV jv rV accs act vs rs) : Calls Try.prog 21 #[.pointer (some ⟨sb, 0, none⟩)] w (GetPost w (.int .i64 (rs.length : Int))) := by
  have s0 := h.hb.s0
  have t2 := h.hb.t2
  obtain ⟨ra, rc, rfl⟩ : ∃ ra rc, rV = .slice ra rs.length rc := by
    obtain ⟨_, ⟨rfl, e⟩ | ⟨g, c, cur, e, _⟩⟩ := h.rdy
    · exact ⟨none, 0, by rw [e]⟩
    · exact ⟨_, c, e⟩
  go_enter Try.func21, Try.ntmps21
  go_wp2
  go_ret
  exact ⟨rfl, rfl⟩

set_option maxHeartbeats 1000000 in
theorem get22 (h : St w N sb st oa ob gv sf accV actV vV jv rV accs act vs rs) (k : Nat) (x : Int × Value × Value) (hk : rs[k]? = some x) : Calls Try.prog 22 #[.pointer (some ⟨sb, 0, none⟩), .int .i64 (k : Int)] w (GetPost w (.int .i64 x.1)) := by
  have s0 := h.hb.s0
  have t2 := h.hb.t2
  obtain ⟨g, c, rfl, h1, h2, c0, c1, c2⟩ := own_cellR h.rdy hk
  have hlt : (k : Int) < (rs.length : Int) := by have := (List.getElem?_eq_some_iff.1 hk).1; omega
  clear hk
  go_enter Try.func22, Try.ntmps22
  go_wp2
  go_ret
  exact ⟨rfl, rfl⟩

set_option maxHeartbeats 1000000 in
theorem get23 (h : St w N sb st oa ob gv sf accV actV vV jv rV accs act vs rs) (k : Nat) (x : Int × Value × Value) (hk : rs[k]? = some x) : Calls Try.prog 23 #[.pointer (some ⟨sb, 0, none⟩), .int .i64 (k : Int)] w (GetPost w x.2.1) := by
  have s0 := h.hb.s0
  have t2 := h.hb.t2
  obtain ⟨g, c, rfl, h1, h2, c0, c1, c2⟩ := own_cellR h.rdy hk
  have hlt : (k : Int) < (rs.length : Int) := by have := (List.getElem?_eq_some_iff.1 hk).1; omega
  clear hk
  go_enter Try.func23, Try.ntmps23
  go_wp2
  go_ret
  exact ⟨rfl, rfl⟩

set_option maxHeartbeats 1000000 in
theorem get24 (h : St w N sb st oa ob gv sf accV actV vV jv rV accs act vs rs) (k : Nat) (p : Int) (y : Value) (a : Option Addr) (m ca : Nat) (hk : rs[k]? = some (p, y, .slice a m ca)) : Calls Try.prog 24 #[.pointer (some ⟨sb, 0, none⟩), .int .i64 (k : Int)] w (GetPost w (.int .i64 (m : Int))) := by
  have s0 := h.hb.s0
  have t2 := h.hb.t2
  obtain ⟨g, c, rfl, h1, h2, c0, c1, c2⟩ := own_cellR h.rdy hk
  have hlt : (k : Int) < (rs.length : Int) := by have := (List.getElem?_eq_some_iff.1 hk).1; omega
  clear hk
  go_enter Try.func24, Try.ntmps24
  go_wp2
  go_ret
  exact ⟨rfl, rfl⟩

set_option maxHeartbeats 1000000 in
theorem get25 (h : St w N sb st oa ob gv sf accV actV vV jv rV accs act vs rs) (k q : Nat) (p x : Int) (y : Value) (gs m ca : Nat) (hk : rs[k]? = some (p, y, .slice (some ⟨gs, 0, none⟩) m ca)) (hq : (q : Int) < (m : Int)) (hx : w.cell? ⟨gs, q * 2, none⟩ = some (.int .i64 x)) : Calls Try.prog 25 #[.pointer (some ⟨sb, 0, none⟩), .int .i64 (k : Int), .int .i64 (q : Int)] w (GetPost w (.int .i64 x)) := by
  have s0 := h.hb.s0
  have t2 := h.hb.t2
  obtain ⟨g, c, rfl, h1, h2, c0, c1, c2⟩ := own_cellR h.rdy hk
  have hlt : (k : Int) < (rs.length : Int) := by have := (List.getElem?_eq_some_iff.1 hk).1; omega
  clear hk
  go_enter Try.func25, Try.ntmps25
  go_wp2
  go_ret
  exact ⟨rfl, rfl⟩

set_option maxHeartbeats 1000000 in
theorem get26 (h : St w N sb st oa ob gv sf accV actV vV jv rV accs act vs rs) (k q : Nat) (p x : Int) (y : Value) (gs m ca : Nat) (hk : rs[k]? = some (p, y, .slice (some ⟨gs, 0, none⟩) m ca)) (hq : (q : Int) < (m : Int)) (hx : w.cell? ⟨gs, q * 2 + 1, none⟩ = some (.int .u64 x)) : Calls Try.prog 26 #[.pointer (some ⟨sb, 0, none⟩), .int .i64 (k : Int), .int .i64 (q : Int)] w (GetPost w (.int .u64 x)) := by
  have s0 := h.hb.s0
  have t2 := h.hb.t2
  obtain ⟨g, c, rfl, h1, h2, c0, c1, c2⟩ := own_cellR h.rdy hk
  have hlt : (k : Int) < (rs.length : Int) := by have := (List.getElem?_eq_some_iff.1 hk).1; omega
  clear hk
  go_enter Try.func26, Try.ntmps26
  go_wp2
  go_ret
  exact ⟨rfl, rfl⟩

set_option maxHeartbeats 1000000 in
theorem get27 (h : St w N sb st oa ob gv sf accV actV vV jv rV accs act vs rs) : Calls Try.prog 27 #[.pointer (some ⟨sb, 0, none⟩)] w (GetPost w (.int .i64 (vs.length : Int))) := by
  have s4 := h.hb.s4
  obtain ⟨o, c, rfl, _⟩ := h.vws
  go_enter Try.func27, Try.ntmps27
  go_wp2
  go_ret
  exact ⟨rfl, rfl⟩

set_option maxHeartbeats 1000000 in
theorem get29 (h : St w N sb st oa ob gv sf accV actV vV jv rV accs act vs rs) : Calls Try.prog 29 #[.pointer (some ⟨sb, 0, none⟩)] w (GetPost w actV) := by
  have s2 := h.hb.s2
  go_enter Try.func29, Try.ntmps29
  go_wp2
  go_ret
  exact ⟨rfl, rfl⟩

set_option maxHeartbeats 1000000 in
theorem get30 (h : St w N sb st oa ob gv sf accV actV vV jv rV accs act vs rs) (k : Nat) (x : Value × Value) (hk : accs[k]? = some x) : Calls Try.prog 30 #[.pointer (some ⟨sb, 0, none⟩), .int .i64 (k : Int)] w (GetPost w x.1) := by
  have s1 := h.hb.s1
  obtain ⟨g, c, rfl, h1, h2, hr, c0, c1⟩ := h.acc.cellA hk
  have hlt : (k : Int) < (accs.length : Int) := by have := (List.getElem?_eq_some_iff.1 hk).1; omega
  clear hk hr
  go_enter Try.func30, Try.ntmps30
  go_wp2
  go_ret
  exact ⟨rfl, rfl⟩

set_option maxHeartbeats 1000000 in
theorem get31 (h : St w N sb st oa ob gv sf accV actV vV jv rV accs act vs rs) (k : Nat) (x : Value × Value) (hk : accs[k]? = some x) : Calls Try.prog 31 #[.pointer (some ⟨sb, 0, none⟩), .int .i64 (k : Int)] w (GetPost w x.2) := by
  have s1 := h.hb.s1
  obtain ⟨g, c, rfl, h1, h2, hr, c0, c1⟩ := h.acc.cellA hk
  have hlt : (k : Int) < (accs.length : Int) := by have := (List.getElem?_eq_some_iff.1 hk).1; omega
  clear hk hr
  go_enter Try.func31, Try.ntmps31
  go_wp2
  go_ret
  exact ⟨rfl, rfl⟩

end

end Go.Proofs.Qxb6616962a

import Derived.Test.Qxb6616962aNew2
/-! ZZnewHoldback (15): its end. -/
namespace Go.Proofs.Qxb6616962a
open Go.RowKit
set_option linter.unusedVariables false
set_option linter.unusedSimpArgs false
set_option maxRecDepth 8000

theorem cell_alloc_at' {w : World} {g : Nat} (h : w.heap.size = g) (cur : Array Value) (t : TypeId) (j : Nat) (v : Value) (hv : cur[j]? = some v) : (w.alloc (.cells cur t)).cell? ⟨g, j, none⟩ = some v := by
  subst h
  simp only [World.cell?]
  rw [heap_alloc_new]
  simp [hv]

/-- The join's struct. -/
def joinO (a7 a8 : Option Addr) (n7 c7 n8 c8 : Nat) : Obj := .cells #[.int .i64 0, .int .u64 0, .int .u64 0, .int .u64 0, .int .u64 0, .int .u64 0, .slice none 0 0, .slice a7 n7 c7, .map none, .slice none 0 0, .slice a8 n8 c8, .map none, .bool false, .bool false] 95

set_option maxHeartbeats 4000000 in
theorem new_tail5 (sf : Int) (a7 a8 : Option Addr) (n7 c7 n8 c8 : Nat) (j : Bool) (cs : List Value) (ps : List Int) (bs : List Bool) (av accV vV : Value) (accs : List (Value × Value)) (vs : List (Int × Value × Bool)) (w w1 wx : World) (u0 u1 u2 u3 u4 u5 u9 u10 u11 u12 u13 u14 u15 u16 u17 u18 u20 u21 u22 u23 u24 u25 u26 u27 u28 u29 u30 u31 u32 u33 u34 u35 u36 u37 u38 u39 u40 u41 u42 u43 u44 u45 u46 u47 u48 u49 u50 u51 u52 u53 u54 u55 u56 u57 u58 u59 u60 u61 u62 u63 u64 u65 u66 u67 u68 u69 u70 u71 u72 u73 u74 u75 u76 u77 u78 u79 u80 u81 u82 u83 u84 u85 u86 u87 u88 u89 u90 u91 u92 u93 u94 : Value)
    (HR : Hid (R1 w w1 sf av cs cs.length accV accs)) (HR2 : Hid (R2 w1 wx (w.heap.size + 1) w.heap.size sf accV av ps bs ps.length vV vs)) (T : Code) (hT : T = tailN 5 (Try.f15.body.getD .skip)) :
    Code.wp Try.prog T (bodyPost Try.prog Try.f15 (NewPost w sf cs ps bs av j (.slice a7 n7 c7) (.slice a8 n8 c8))) ⟨#[u0, u1, u2, u3, u4, u5, .bool j, .slice a7 n7 c7, .slice a8 n8 c8, u9, u10, u11, u12, u13, u14, u15, u16, u17, u18, .pointer (some ⟨w.heap.size + 1, 0, none⟩), u20, u21, u22, u23, u24, u25, u26, u27, u28, u29, u30, u31, u32, u33, u34, u35, u36, u37, u38, u39, u40, u41, u42, u43, u44, u45, u46, u47, u48, u49, u50, u51, u52, u53, u54, u55, u56, u57, u58, u59, u60, u61, u62, u63, u64, u65, u66, u67, u68, u69, u70, u71, u72, u73, u74, u75, u76, u77, u78, u79, u80, u81, u82, u83, u84, u85, u86, u87, u88, u89, u90, u91, u92, u93, u94], []⟩ wx := by
  dsimp only [Try.f15, Option.getD_some, tailN] at hT
  subst hT
  dsimp only
  have g5 := HR2.out.hb.s5
  have gF5 := HR2.out.hb.sF 5
  have hlt := HR2.out.hb.lt.1
  have hlt2 := HR2.out.hb.lt.2
  have hne : ¬ w.heap.size + 1 = wx.heap.size := by omega
  cases j with
  | false =>
    go_wp2
    go_ret
    exact ⟨accV, vV, .pointer none, accs, vs, _, _, rfl, NewSt.mk' HR.out HR2.out HR2.out.hb (Chg.refl _ _) (Or.inl ⟨rfl, rfl⟩)⟩
  | true =>
    go_wp2
    go_ret
    have hX : HB ((wx.setCell ⟨w.heap.size + 1, 5, none⟩ (.pointer (some ⟨wx.heap.size, 0, none⟩))).alloc (joinO a7 a8 n7 c7 n8 c8)) (w.heap.size + 1) w.heap.size sf accV av vV (.pointer (some ⟨wx.heap.size, 0, none⟩)) (.slice none 0 0) :=
      (HR2.out.hb.set5 _).of_blocks (Below.heap_alloc _ _ _ (by simp [World.setCell]; omega)) (Below.heap_alloc _ _ _ (by simp [World.setCell]; omega))
    refine ⟨accV, vV, .pointer (some ⟨wx.heap.size, 0, none⟩), accs, vs, _, _, rfl, NewSt.mk' HR.out HR2.out hX ?_ (Or.inr ⟨rfl, wx.heap.size, rfl, Nat.le_refl _, ?_, ?_⟩)⟩
    · refine ⟨rfl, rfl, rfl, by simp [World.setCell], fun q hq hx => ?_⟩
      rw [Below.heap_alloc _ _ _ (by simp [World.setCell]; omega)]
      exact Below.heap_setCell _ _ _ _ hx
    · exact cell_alloc_at' (by simp [World.setCell]) _ _ 7 _ rfl
    · exact cell_alloc_at' (by simp [World.setCell]) _ _ 10 _ rfl

end Go.Proofs.Qxb6616962a

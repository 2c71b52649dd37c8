import Derived.Test.Qxb6616962aL2
/-! The copies, the holdback and the row of views: what stands behind them. -/
namespace Go.Proofs.Qxb6616962a
open Go.RowKit
set_option linter.unusedVariables false
set_option linter.unusedSimpArgs false
set_option maxRecDepth 8000

theorem InV.lower {w w' : World} {v : Value} {vs : List Value} {B : Nat} (h : InV w v vs) (hb : Below B w w') (hB : w.heap.size ≤ B) : InV w' v vs := h.below hb hB

theorem SafeIn.of_low {w0 w : World} {P : Nat → Prop} {v : Value} {vs : List Value} (h : InV w0 v vs) (hb : Below w0.heap.size w0 w) (hP : ∀ q, P q → w0.heap.size ≤ q) : SafeIn w P v vs :=
  ⟨h.below hb (Nat.le_refl _), (SafeIn.low h (Nat.le_refl _) hP).2⟩

theorem SafeIn.of_own {w w' : World} {P : Nat → Prop} {v : Value} {t : TypeId} {vs : List Value} (h : OwnV w v t vs) (hb : Below w.heap.size w w') (hP : ∀ g, g < w.heap.size → blkOf v = some g → ¬ P g) : SafeIn w' P v vs :=
  ⟨h.inV.below hb (Nat.le_refl _), fun _ g hg => hP g (h.lt hg) hg⟩

/-- What the copies' calls have left, in their order. -/
structure Copies (w0 w wA wB wC wD wE wF wG : World) (v1 v2 v3 v5 oV aV mV kV : Value) (xs : List (Value × List Value)) (acts ps mem cuts : List Int) (bs os : List Bool) (cs : List Value) : Prop where
  b0 : Below w0.heap.size w0 w
  bA : Below w.heap.size w wA
  bB : Below wA.heap.size wA wB
  bC : Below wB.heap.size wB wC
  bD : Below wC.heap.size wC wD
  bE : Below wD.heap.size wD wE
  bF : Below wE.heap.size wE wF
  bG : Below wF.heap.size wF wG
  i1 : InVV w0 v1 xs
  i2 : InV w0 v2 (acts.map (Value.int .i64))
  i3 : InV w0 v3 (ps.map (Value.int .i64))
  i5 : InV w0 v5 (bs.map Value.bool)
  out : InV w oV (os.map Value.bool)
  outB : ∀ g, blkOf oV = some g → g < w.heap.size
  hold : HoldsOK wA (w.heap.size + 1) cs xs
  holdL : cs.length = xs.length
  act : OwnV wB aV 3 (acts.map (Value.int .i64))
  actB : ∀ g, blkOf aV = some g → g = wA.heap.size
  memO : OwnV wF mV 3 (mem.map (Value.int .i64))
  memB : ∀ g, blkOf mV = some g → g = wE.heap.size
  memF : ∃ a c, mV = .slice a mem.length c
  cut : OwnV wG kV 32 (cuts.map (Value.int .u64))
  cutB : ∀ g, blkOf kV = some g → g = wF.heap.size
  cutF : ∃ a c, kV = .slice a cuts.length c

theorem mkState {w0 w wA wB wC wD wE wF wG wH : World} {v1 v2 v3 v5 oV aV mV kV : Value} {xs : List (Value × List Value)} {acts ps mem cuts : List Int} {bs os : List Bool} {cs : List Value} {sf : Int} {j : Bool} {accV vV jv : Value} {accs : List (Value × Value)} {V : List (Int × Value × Bool)} {B1 B2 : Nat}
    (h : Copies w0 w wA wB wC wD wE wF wG v1 v2 v3 v5 oV aV mV kV xs acts ps mem cuts bs os cs) (hn : NewSt wG wH sf cs ps bs aV j mV kV accV vV jv accs V B1 B2) (hps : 0 < ps.length) (cur : Array Value) :
    ∃ gv jo, jv = .pointer jo ∧ St (wH.alloc (.cells cur 45)) (wH.heap.size + 1) (wG.heap.size + 1) wG.heap.size (blkOf accV) (blkOf aV) gv sf accV aV vV (.pointer jo) (.slice none 0 0) accs acts V [] ∧ ¬ Pb (wH.heap.size + 1) (wG.heap.size + 1) wG.heap.size (blkOf accV) (blkOf aV) gv wH.heap.size ∧
      Ctx w0 (wH.alloc (.cells cur 45)) (fun q => Pb (wH.heap.size + 1) (wG.heap.size + 1) wG.heap.size (blkOf accV) (blkOf aV) gv q ∨ q = wH.heap.size) v1 v2 v3 v5 oV xs acts ps bs os cs ∧
      (j = true → JoinSafe (wH.alloc (.cells cur 45)) (fun q => Pb (wH.heap.size + 1) (wG.heap.size + 1) wG.heap.size (blkOf accV) (blkOf aV) gv q ∨ q = wH.heap.size) (.pointer jo) mem cuts) := by
  have s0 := h.b0.size
  have sA := h.bA.size
  have sB := h.bB.size
  have sC := h.bC.size
  have sD := h.bD.size
  have sE := h.bE.size
  have sF := h.bF.size
  have sG := h.bG.size
  have sH := hn.below.size
  have hlt := hn.hb.lt
  have bBG : Below wB.heap.size wB wG := (((((h.bC.trans (h.bD.mono sC)).trans (h.bE.mono (by omega))).trans (h.bF.mono (by omega))).trans (h.bG.mono (by omega))))
  have bBH : Below wB.heap.size wB wH := bBG.trans (hn.below.mono (by omega))
  have bal : ∀ B, B ≤ wH.heap.size → Below B wH (wH.alloc (.cells cur 45)) := fun B hB => (Below.refl B wH).alloc hB _
  have bB9 : Below wB.heap.size wB (wH.alloc (.cells cur 45)) := bBH.trans (bal _ (by omega))
  have bA9 : Below wA.heap.size wA (wH.alloc (.cells cur 45)) := h.bB.trans (bB9.mono sB)
  have bw9 : Below w.heap.size w (wH.alloc (.cells cur 45)) := h.bA.trans (bA9.mono sA)
  have b09 : Below w0.heap.size w0 (wH.alloc (.cells cur 45)) := h.b0.trans (bw9.mono s0)
  have bF9 : Below wF.heap.size wF (wH.alloc (.cells cur 45)) := (h.bG.trans (hn.below.mono sG)).trans (bal _ (by omega))
  have bG9 : Below wG.heap.size wG (wH.alloc (.cells cur 45)) := hn.below.trans (bal _ (by omega))
  have hob : ∀ g, blkOf aV = some g → wA.heap.size ≤ g ∧ g < wB.heap.size := fun g hg => ⟨by rw [h.actB g hg]; exact Nat.le_refl _, h.act.lt hg⟩
  have hoa : ∀ g, blkOf accV = some g → wG.heap.size + 2 ≤ g ∧ g < B1 ∧ g < wH.heap.size := fun g hg => ⟨(hn.acc.lt g (by rw [own_blk]; exact hg)).1, hn.accB g (by rw [own_blk]; exact hg), (hn.acc.lt g (by rw [own_blk]; exact hg)).2⟩
  have hb1 := hn.b1
  have hb2 := hn.b2
  obtain ⟨gv, cv, rfl⟩ := own_form hn.vws (by rw [hn.vL]; exact hps)
  have hgv := hn.vws.lt gv rfl
  have hgB := hn.vB gv rfl
  obtain ⟨jo, rfl⟩ : ∃ jo, jv = .pointer jo := by
    obtain ⟨_, e⟩ | ⟨_, gj, e, _⟩ := hn.jn
    · exact ⟨none, e⟩
    · exact ⟨_, e⟩
  have hblk : ∀ q, q < wH.heap.size → (wH.alloc (.cells cur 45)).heap[q]? = wH.heap[q]? := fun q hq => Below.heap_alloc wH _ q hq
  have hlay : Lay (wH.heap.size + 1) (wG.heap.size + 1) wG.heap.size (blkOf accV) (blkOf aV) gv := by
    refine ⟨by omega, by omega, by omega, fun g hg => by have := hoa g hg; omega, fun g hg => by have := hob g hg; omega, by omega, by omega, by omega, ?_, ?_, ?_, ?_, ?_, ?_, ?_⟩
    · intro e; have := hoa _ e; omega
    · intro e; have := hoa _ e; omega
    · intro e; have := hoa _ e; omega
    · intro e; have := hob _ e; omega
    · intro e; have := hob _ e; omega
    · intro e; have := hob _ e; omega
    · intro g e1 e2; have := hoa _ e1; have := hob _ e2; omega
  have hPs : ∀ q, (Pb (wH.heap.size + 1) (wG.heap.size + 1) wG.heap.size (blkOf accV) (blkOf aV) gv q ∨ q = wH.heap.size) → blkOf aV = some q ∨ wG.heap.size ≤ q := by
    rintro q ((h1 | h1 | h1 | h1 | h1 | h1) | h1)
    · right; omega
    · right; omega
    · right; have := hoa q h1; omega
    · left; exact h1
    · right; omega
    · right; omega
    · right; omega
  have hPw : ∀ q, (Pb (wH.heap.size + 1) (wG.heap.size + 1) wG.heap.size (blkOf accV) (blkOf aV) gv q ∨ q = wH.heap.size) → wA.heap.size ≤ q := by
    intro q hq
    rcases hPs q hq with h1 | h1
    · exact (hob q h1).1
    · omega
  refine ⟨gv, jo, rfl, ?_, ?_, ?_, ?_⟩
  · refine ⟨hlay, by simp, hn.hb.of_blocks (hblk _ hlt.1) (hblk _ hlt.2), rfl, (OwnR.of_own hn.acc).of_blocks (fun g hg => hblk g (hoa g hg).2.2), rfl, ?_, ?_, World.ownsRow_nil _ _ _ _⟩
    · exact h.act.of_blocks (fun g hg => bB9.block g (hob g hg).2)
    · have hR := OwnR.of_own hn.vws
      obtain ⟨e, _⟩ | ⟨g, c, e, h1, h2, hr⟩ := hR
      · cases e
      · simp at e
        obtain ⟨rfl, rfl⟩ := e
        have hr9 := hr.of_block (hblk gv hgv.2)
        exact ⟨0, cv, rfl, h1, h2, fun j => hr9.frozen j, hr9.src⟩
  · rintro (h1 | h1 | h1 | h1 | h1 | h1)
    · omega
    · omega
    · have := hoa _ h1; omega
    · have := hob _ h1; omega
    · omega
    · omega
  · refine ⟨b09, fun q hq => by have := hPw q hq; omega, SafeIn.of_low h.i1.1 b09 (fun q hq => by have := hPw q hq; omega), fun x hx => SafeIn.of_low (h.i1.2 x hx).1 b09 (fun q hq => by have := hPw q hq; omega), SafeIn.of_low h.i2 b09 (fun q hq => by have := hPw q hq; omega), SafeIn.of_low h.i3 b09 (fun q hq => by have := hPw q hq; omega), SafeIn.of_low h.i5 b09 (fun q hq => by have := hPw q hq; omega), ?_, ?_⟩
    · exact ⟨h.out.below bw9 (Nat.le_refl _), fun _ g hg hq => by have := hPw g hq; have := h.outB g hg; omega⟩
    · intro k v x hv hx
      obtain ⟨x', hx', hok, hlo⟩ := h.hold k v hv
      obtain rfl : x' = x := by rw [hx] at hx'; exact (Option.some.inj hx').symm
      refine ⟨SafeIn.of_own hok.own bA9 (fun g hg1 hg2 hq => ?_), hok.nil, hok.form⟩
      have := hPw g hq
      omega
  · intro hj
    obtain ⟨e, _⟩ | ⟨_, gj, e, hg, c7, c10⟩ := hn.jn
    · rw [hj] at e; cases e
    · obtain ⟨am, cm, rfl⟩ := h.memF
      obtain ⟨ac, cc, rfl⟩ := h.cutF
      have hgj : gj < wH.heap.size := World.block_lt_of_cell? _ _ c7
      refine ⟨gj, am, cm, ac, cc, e, ?_, (World.cell?_of_block (w := wH) (a := ⟨gj, 7, none⟩) (hblk gj hgj)).trans c7, (World.cell?_of_block (w := wH) (a := ⟨gj, 10, none⟩) (hblk gj hgj)).trans c10, ?_, ?_⟩
      · rintro ((h1 | h1 | h1 | h1 | h1 | h1) | h1)
        · omega
        · omega
        · have := hoa _ h1; omega
        · have := hob _ h1; omega
        · omega
        · omega
        · omega
      · refine SafeIn.of_own h.memO bF9 (fun g hg1 hg2 hq => ?_)
        have := h.memB g hg2
        rcases hPs g hq with h1 | h1
        · have := hob g h1; omega
        · omega
      · refine SafeIn.of_own h.cut bG9 (fun g hg1 hg2 hq => ?_)
        have := h.cutB g hg2
        rcases hPs g hq with h1 | h1
        · have := hob g h1; omega
        · omega

end Go.Proofs.Qxb6616962a

/-
  No cell of these rows narrows 'for every input' (looked for: loops, veiled, ifaces, maps, wideKeys, modest, calm, conditions, laid).
  DERIVED. THE GIVEN ROWS OF THIS SEAT. 3 by the template 'for every input the law returns true; each argument reads behind the call as it read before'; 0 by the template 'total and deterministic' (their statements: Qxb6616962aTotals.lean).
  GIVEN WITH THE SEED: the statements are not yours to turn. If you find one false, say at which input.
  Laid BY PROGRAM, IN A SANDBOX (cutbox-rows.mjs): the forced cells as the released guide's own fill.sh prints them over the translation a411549b327c4c6e… (all of the seat's roots in one cut). By AI agents, Wed Nov 11 2026. No macro, syntax, notation, axiom, sorry.
-/
import Derived.Test.Qxb6616962aChecked
import GoSem.Claim
import GoSem.ClaimJoined
import GoSem.ClaimMapViews
import Derived.JoinedTies
import Derived.KernelRfl
namespace Go.Proofs.Qxb6616962a
/- THE CELL 'sum', in the pinned program and in every row, IS THE sha256 OF THE DUMP (.gsa) THAT Qxb6616962aProg.lean LOADS. Nothing in Lean hashes anything: it is a label: what it is worth is what the hold of that sum in a sandbox is worth. -/
noncomputable def Try.pinned : Pinned := { name := "qxb6616962a", sum := "a411549b327c4c6e946cfd58465b8a7813488affba6c3f2ca9e019c2dc03d155", checked := Try.checked }
namespace Rows
def none {H : Type} : Left H := { results := [], args := [] }

/-- 'zzlaws_root_b1.FnIdTellsMessagesApart': WHATEVER THE INPUT: true; the input reads as it did. -/
def fnIdTellsMessagesApartSpec : ChangeSpec := { name := "fnIdTellsMessagesApart", fn := fun _ => fun
  | [d1, d2, d3, d4, d5] => { results := [.lit (.bool true)], args := [d1, d2, d3, d4, d5] }
  | _ => none }
def fnIdTellsMessagesApartRow : OpenClaim := { program := "qxb6616962a", sum := "a411549b327c4c6e946cfd58465b8a7813488affba6c3f2ca9e019c2dc03d155", func := "example.com/orderwise/orderwise/zzlaws_root_b1.FnIdTellsMessagesApart", spec := "fnIdTellsMessagesApart", apart := false }
def FnIdTellsMessagesApartSaid : Prop := fnIdTellsMessagesApartRow.holds Try.pinned (OpenSpec.ofChange fnIdTellsMessagesApartSpec)

/-- ITS FALSE NEIGHBOUR: 'it returns false'. Refute it at one input. -/
def fnIdTellsMessagesApartWrong : ChangeSpec := { name := "fnIdTellsMessagesApart", fn := fun _ => fun
  | [d1, d2, d3, d4, d5] => { results := [.lit (.bool false)], args := [d1, d2, d3, d4, d5] }
  | _ => none }
def FnIdTellsMessagesApartWrongFalsely : Prop := fnIdTellsMessagesApartRow.holds Try.pinned (OpenSpec.ofChange fnIdTellsMessagesApartWrong)

/-- 'zzlaws_root_b1.FnPassViewDeliversTheFirstQueuedView': WHATEVER THE INPUT: true; the input reads as it did. -/
def fnPassViewDeliversTheFirstQueuedViewSpec : ChangeSpec := { name := "fnPassViewDeliversTheFirstQueuedView", fn := fun _ => fun
  | [d1, d2, d3, d4, d5, d6, d7, d8, d9] => { results := [.lit (.bool true)], args := [d1, d2, d3, d4, d5, d6, d7, d8, d9] }
  | _ => none }
def fnPassViewDeliversTheFirstQueuedViewRow : OpenClaim := { program := "qxb6616962a", sum := "a411549b327c4c6e946cfd58465b8a7813488affba6c3f2ca9e019c2dc03d155", func := "example.com/orderwise/orderwise/zzlaws_root_b1.FnPassViewDeliversTheFirstQueuedView", spec := "fnPassViewDeliversTheFirstQueuedView", unfollowed := true, recurses := true, apart := false }
def FnPassViewDeliversTheFirstQueuedViewSaid : Prop := fnPassViewDeliversTheFirstQueuedViewRow.holds Try.pinned (OpenSpec.ofChange fnPassViewDeliversTheFirstQueuedViewSpec)

/-- ITS FALSE NEIGHBOUR: 'it returns false'. Refute it at one input. -/
def fnPassViewDeliversTheFirstQueuedViewWrong : ChangeSpec := { name := "fnPassViewDeliversTheFirstQueuedView", fn := fun _ => fun
  | [d1, d2, d3, d4, d5, d6, d7, d8, d9] => { results := [.lit (.bool false)], args := [d1, d2, d3, d4, d5, d6, d7, d8, d9] }
  | _ => none }
def FnPassViewDeliversTheFirstQueuedViewWrongFalsely : Prop := fnPassViewDeliversTheFirstQueuedViewRow.holds Try.pinned (OpenSpec.ofChange fnPassViewDeliversTheFirstQueuedViewWrong)

/-- 'zzlaws_root_b1.FnPassViewDrainsTheQueueInOrder': WHATEVER THE INPUT: true; the input reads as it did. -/
def fnPassViewDrainsTheQueueInOrderSpec : ChangeSpec := { name := "fnPassViewDrainsTheQueueInOrder", fn := fun _ => fun
  | [d1, d2, d3, d4, d5, d6, d7, d8, d9] => { results := [.lit (.bool true)], args := [d1, d2, d3, d4, d5, d6, d7, d8, d9] }
  | _ => none }
def fnPassViewDrainsTheQueueInOrderRow : OpenClaim := { program := "qxb6616962a", sum := "a411549b327c4c6e946cfd58465b8a7813488affba6c3f2ca9e019c2dc03d155", func := "example.com/orderwise/orderwise/zzlaws_root_b1.FnPassViewDrainsTheQueueInOrder", spec := "fnPassViewDrainsTheQueueInOrder", unfollowed := true, recurses := true, apart := false }
def FnPassViewDrainsTheQueueInOrderSaid : Prop := fnPassViewDrainsTheQueueInOrderRow.holds Try.pinned (OpenSpec.ofChange fnPassViewDrainsTheQueueInOrderSpec)

/-- ITS FALSE NEIGHBOUR: 'it returns false'. Refute it at one input. -/
def fnPassViewDrainsTheQueueInOrderWrong : ChangeSpec := { name := "fnPassViewDrainsTheQueueInOrder", fn := fun _ => fun
  | [d1, d2, d3, d4, d5, d6, d7, d8, d9] => { results := [.lit (.bool false)], args := [d1, d2, d3, d4, d5, d6, d7, d8, d9] }
  | _ => none }
def FnPassViewDrainsTheQueueInOrderWrongFalsely : Prop := fnPassViewDrainsTheQueueInOrderRow.holds Try.pinned (OpenSpec.ofChange fnPassViewDrainsTheQueueInOrderWrong)

end Rows
end Go.Proofs.Qxb6616962a

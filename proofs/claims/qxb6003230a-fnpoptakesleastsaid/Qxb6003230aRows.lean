/-
  No cell of these rows narrows 'for every input' (looked for: loops, veiled, ifaces, maps, wideKeys, modest, calm, conditions, laid).
  DERIVED. THE GIVEN ROWS OF THIS SEAT. 4 by the template 'for every input the law returns true; each argument reads behind the call as it read before'; 0 by the template 'total and deterministic' (their statements: Qxb6003230aTotals.lean).
  GIVEN WITH THE SEED: the statements are not yours to turn. If you find one false, say at which input.
  Laid BY PROGRAM, IN A SANDBOX (cutbox-rows.mjs): the forced cells as the released guide's own fill.sh prints them over the translation cd48c5d54a15c3d9… (all of the seat's roots in one cut). By AI agents, Wed Nov 11 2026. No macro, syntax, notation, axiom, sorry.
-/
import Derived.Test.Qxb6003230aChecked
import GoSem.Claim
import GoSem.ClaimJoined
import GoSem.ClaimMapViews
import Derived.JoinedTies
import Derived.KernelRfl
namespace Go.Proofs.Qxb6003230a
/- THE CELL 'sum', in the pinned program and in every row, IS THE sha256 OF THE DUMP (.gsa) THAT Qxb6003230aProg.lean LOADS. Nothing in Lean hashes anything: it is a label: what it is worth is what the hold of that sum in a sandbox is worth. -/
noncomputable def Try.pinned : Pinned := { name := "qxb6003230a", sum := "cd48c5d54a15c3d97cb7f73ba9bd7fd22b32ac0904150690a7368592d9d268d2", checked := Try.checked }
namespace Rows
def none {H : Type} : Left H := { results := [], args := [] }

/-- 'zzlaws_internal_sim_b1.FnQueueDrainsInOrder': WHATEVER THE INPUT: true; the input reads as it did. -/
def fnQueueDrainsInOrderSpec : ChangeSpec := { name := "fnQueueDrainsInOrder", fn := fun _ => fun
  | [d] => { results := [.lit (.bool true)], args := [d] }
  | _ => none }
def fnQueueDrainsInOrderRow : OpenClaim := { program := "qxb6003230a", sum := "cd48c5d54a15c3d97cb7f73ba9bd7fd22b32ac0904150690a7368592d9d268d2", func := "example.com/taskcrier/taskcrier/zzlaws_internal_sim_b1.FnQueueDrainsInOrder", spec := "fnQueueDrainsInOrder", apart := false }
def FnQueueDrainsInOrderSaid : Prop := fnQueueDrainsInOrderRow.holds Try.pinned (OpenSpec.ofChange fnQueueDrainsInOrderSpec)

/-- ITS FALSE NEIGHBOUR: 'it returns false'. Refute it at one input. -/
def fnQueueDrainsInOrderWrong : ChangeSpec := { name := "fnQueueDrainsInOrder", fn := fun _ => fun
  | [d] => { results := [.lit (.bool false)], args := [d] }
  | _ => none }
def FnQueueDrainsInOrderWrongFalsely : Prop := fnQueueDrainsInOrderRow.holds Try.pinned (OpenSpec.ofChange fnQueueDrainsInOrderWrong)

/-- 'zzlaws_internal_sim_b1.FnPushKeepsHeap': WHATEVER THE INPUT: true; the input reads as it did. -/
def fnPushKeepsHeapSpec : ChangeSpec := { name := "fnPushKeepsHeap", fn := fun _ => fun
  | [d1, d2] => { results := [.lit (.bool true)], args := [d1, d2] }
  | _ => none }
def fnPushKeepsHeapRow : OpenClaim := { program := "qxb6003230a", sum := "cd48c5d54a15c3d97cb7f73ba9bd7fd22b32ac0904150690a7368592d9d268d2", func := "example.com/taskcrier/taskcrier/zzlaws_internal_sim_b1.FnPushKeepsHeap", spec := "fnPushKeepsHeap", apart := false }
def FnPushKeepsHeapSaid : Prop := fnPushKeepsHeapRow.holds Try.pinned (OpenSpec.ofChange fnPushKeepsHeapSpec)

/-- ITS FALSE NEIGHBOUR: 'it returns false'. Refute it at one input. -/
def fnPushKeepsHeapWrong : ChangeSpec := { name := "fnPushKeepsHeap", fn := fun _ => fun
  | [d1, d2] => { results := [.lit (.bool false)], args := [d1, d2] }
  | _ => none }
def FnPushKeepsHeapWrongFalsely : Prop := fnPushKeepsHeapRow.holds Try.pinned (OpenSpec.ofChange fnPushKeepsHeapWrong)

/-- 'zzlaws_internal_sim_b1.FnPopTakesLeast': WHATEVER THE INPUT: true; the input reads as it did. -/
def fnPopTakesLeastSpec : ChangeSpec := { name := "fnPopTakesLeast", fn := fun _ => fun
  | [d] => { results := [.lit (.bool true)], args := [d] }
  | _ => none }
def fnPopTakesLeastRow : OpenClaim := { program := "qxb6003230a", sum := "cd48c5d54a15c3d97cb7f73ba9bd7fd22b32ac0904150690a7368592d9d268d2", func := "example.com/taskcrier/taskcrier/zzlaws_internal_sim_b1.FnPopTakesLeast", spec := "fnPopTakesLeast", apart := false }
def FnPopTakesLeastSaid : Prop := fnPopTakesLeastRow.holds Try.pinned (OpenSpec.ofChange fnPopTakesLeastSpec)

/-- ITS FALSE NEIGHBOUR: 'it returns false'. Refute it at one input. -/
def fnPopTakesLeastWrong : ChangeSpec := { name := "fnPopTakesLeast", fn := fun _ => fun
  | [d] => { results := [.lit (.bool false)], args := [d] }
  | _ => none }
def FnPopTakesLeastWrongFalsely : Prop := fnPopTakesLeastRow.holds Try.pinned (OpenSpec.ofChange fnPopTakesLeastWrong)

/-- 'zzlaws_internal_sim_b1.FnCapacityIsCapabilityOverCost': WHATEVER THE INPUT: true; the input reads as it did. -/
def fnCapacityIsCapabilityOverCostSpec : ChangeSpec := { name := "fnCapacityIsCapabilityOverCost", fn := fun _ => fun
  | [d1, d2] => { results := [.lit (.bool true)], args := [d1, d2] }
  | _ => none }
def fnCapacityIsCapabilityOverCostRow : OpenClaim := { program := "qxb6003230a", sum := "cd48c5d54a15c3d97cb7f73ba9bd7fd22b32ac0904150690a7368592d9d268d2", func := "example.com/taskcrier/taskcrier/zzlaws_internal_sim_b1.FnCapacityIsCapabilityOverCost", spec := "fnCapacityIsCapabilityOverCost", apart := false }
def FnCapacityIsCapabilityOverCostSaid : Prop := fnCapacityIsCapabilityOverCostRow.holds Try.pinned (OpenSpec.ofChange fnCapacityIsCapabilityOverCostSpec)

/-- ITS FALSE NEIGHBOUR: 'it returns false'. Refute it at one input. -/
def fnCapacityIsCapabilityOverCostWrong : ChangeSpec := { name := "fnCapacityIsCapabilityOverCost", fn := fun _ => fun
  | [d1, d2] => { results := [.lit (.bool false)], args := [d1, d2] }
  | _ => none }
def FnCapacityIsCapabilityOverCostWrongFalsely : Prop := fnCapacityIsCapabilityOverCostRow.holds Try.pinned (OpenSpec.ofChange fnCapacityIsCapabilityOverCostWrong)

end Rows
end Go.Proofs.Qxb6003230a

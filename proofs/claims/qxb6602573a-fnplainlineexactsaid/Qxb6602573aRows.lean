/-
  No cell of these rows narrows 'for every input' (looked for: loops, veiled, ifaces, maps, wideKeys, modest, calm, conditions, laid).
  DERIVED. THE GIVEN ROWS OF THIS SEAT. 3 by the template 'for every input the law returns true; each argument reads behind the call as it read before'; 0 by the template 'total and deterministic' (their statements: Qxb6602573aTotals.lean).
  GIVEN WITH THE SEED: the statements are not yours to turn. If you find one false, say at which input.
  Laid BY PROGRAM, IN A SANDBOX (cutbox-rows.mjs): the forced cells as the released guide's own fill.sh prints them over the translation c3445868262ec976… (all of the seat's roots in one cut). By AI agents, Wed Nov 11 2026. No macro, syntax, notation, axiom, sorry.
-/
import Derived.Test.Qxb6602573aChecked
import GoSem.Claim
import GoSem.ClaimJoined
import GoSem.ClaimMapViews
import Derived.JoinedTies
import Derived.KernelRfl
namespace Go.Proofs.Qxb6602573a
/- THE CELL 'sum', in the pinned program and in every row, IS THE sha256 OF THE DUMP (.gsa) THAT Qxb6602573aProg.lean LOADS. Nothing in Lean hashes anything: it is a label: what it is worth is what the hold of that sum in a sandbox is worth. -/
noncomputable def Try.pinned : Pinned := { name := "qxb6602573a", sum := "c3445868262ec97695a81cf9bc8b40f6149ad9638d54ffb14c0c2701d3282fce", checked := Try.checked }
namespace Rows
def none {H : Type} : Left H := { results := [], args := [] }

/-- 'zzlaws_pkg_terms_b1.FnPlainLineExact': WHATEVER THE INPUT: true; the input reads as it did. -/
def fnPlainLineExactSpec : ChangeSpec := { name := "fnPlainLineExact", fn := fun _ => fun
  | [d1, d2, d3, d4, d5] => { results := [.lit (.bool true)], args := [d1, d2, d3, d4, d5] }
  | _ => none }
def fnPlainLineExactRow : OpenClaim := { program := "qxb6602573a", sum := "c3445868262ec97695a81cf9bc8b40f6149ad9638d54ffb14c0c2701d3282fce", func := "example.com/tuoguan/tuoguan/zzlaws_pkg_terms_b1.FnPlainLineExact", spec := "fnPlainLineExact", apart := false }
def FnPlainLineExactSaid : Prop := fnPlainLineExactRow.holds Try.pinned (OpenSpec.ofChange fnPlainLineExactSpec)

/-- ITS FALSE NEIGHBOUR: 'it returns false'. Refute it at one input. -/
def fnPlainLineExactWrong : ChangeSpec := { name := "fnPlainLineExact", fn := fun _ => fun
  | [d1, d2, d3, d4, d5] => { results := [.lit (.bool false)], args := [d1, d2, d3, d4, d5] }
  | _ => none }
def FnPlainLineExactWrongFalsely : Prop := fnPlainLineExactRow.holds Try.pinned (OpenSpec.ofChange fnPlainLineExactWrong)

/-- 'zzlaws_pkg_terms_b1.FnPlainLineShiftInvariant': WHATEVER THE INPUT: true; the input reads as it did. -/
def fnPlainLineShiftInvariantSpec : ChangeSpec := { name := "fnPlainLineShiftInvariant", fn := fun _ => fun
  | [d1, d2, d3] => { results := [.lit (.bool true)], args := [d1, d2, d3] }
  | _ => none }
def fnPlainLineShiftInvariantRow : OpenClaim := { program := "qxb6602573a", sum := "c3445868262ec97695a81cf9bc8b40f6149ad9638d54ffb14c0c2701d3282fce", func := "example.com/tuoguan/tuoguan/zzlaws_pkg_terms_b1.FnPlainLineShiftInvariant", spec := "fnPlainLineShiftInvariant", apart := false }
def FnPlainLineShiftInvariantSaid : Prop := fnPlainLineShiftInvariantRow.holds Try.pinned (OpenSpec.ofChange fnPlainLineShiftInvariantSpec)

/-- ITS FALSE NEIGHBOUR: 'it returns false'. Refute it at one input. -/
def fnPlainLineShiftInvariantWrong : ChangeSpec := { name := "fnPlainLineShiftInvariant", fn := fun _ => fun
  | [d1, d2, d3] => { results := [.lit (.bool false)], args := [d1, d2, d3] }
  | _ => none }
def FnPlainLineShiftInvariantWrongFalsely : Prop := fnPlainLineShiftInvariantRow.holds Try.pinned (OpenSpec.ofChange fnPlainLineShiftInvariantWrong)

/-- 'zzlaws_pkg_terms_b1.FnPlainLineFlowStopsNoLater': WHATEVER THE INPUT: true; the input reads as it did. -/
def fnPlainLineFlowStopsNoLaterSpec : ChangeSpec := { name := "fnPlainLineFlowStopsNoLater", fn := fun _ => fun
  | [d1, d2] => { results := [.lit (.bool true)], args := [d1, d2] }
  | _ => none }
def fnPlainLineFlowStopsNoLaterRow : OpenClaim := { program := "qxb6602573a", sum := "c3445868262ec97695a81cf9bc8b40f6149ad9638d54ffb14c0c2701d3282fce", func := "example.com/tuoguan/tuoguan/zzlaws_pkg_terms_b1.FnPlainLineFlowStopsNoLater", spec := "fnPlainLineFlowStopsNoLater", apart := false }
def FnPlainLineFlowStopsNoLaterSaid : Prop := fnPlainLineFlowStopsNoLaterRow.holds Try.pinned (OpenSpec.ofChange fnPlainLineFlowStopsNoLaterSpec)

/-- ITS FALSE NEIGHBOUR: 'it returns false'. Refute it at one input. -/
def fnPlainLineFlowStopsNoLaterWrong : ChangeSpec := { name := "fnPlainLineFlowStopsNoLater", fn := fun _ => fun
  | [d1, d2] => { results := [.lit (.bool false)], args := [d1, d2] }
  | _ => none }
def FnPlainLineFlowStopsNoLaterWrongFalsely : Prop := fnPlainLineFlowStopsNoLaterRow.holds Try.pinned (OpenSpec.ofChange fnPlainLineFlowStopsNoLaterWrong)

end Rows
end Go.Proofs.Qxb6602573a

/-
  No cell of these rows narrows 'for every input' (looked for: loops, veiled, ifaces, maps, wideKeys, modest, calm, conditions, laid).
  DERIVED. THE GIVEN ROWS OF THIS SEAT. 3 by the template 'for every input the law returns true; each argument reads behind the call as it read before'; 0 by the template 'total and deterministic' (their statements: Qxb6604193aTotals.lean).
  GIVEN WITH THE SEED: the statements are not yours to turn. If you find one false, say at which input.
  Laid BY PROGRAM, IN A SANDBOX (cutbox-rows.mjs): the forced cells as the released guide's own fill.sh prints them over the translation c1d1afcccd2cd49c… (all of the seat's roots in one cut). By AI agents, Wed Nov 11 2026. No macro, syntax, notation, axiom, sorry.
-/
import Derived.Test.Qxb6604193aChecked
import GoSem.Claim
import GoSem.ClaimJoined
import GoSem.ClaimMapViews
import Derived.JoinedTies
import Derived.KernelRfl
namespace Go.Proofs.Qxb6604193a
/- THE CELL 'sum', in the pinned program and in every row, IS THE sha256 OF THE DUMP (.gsa) THAT Qxb6604193aProg.lean LOADS. Nothing in Lean hashes anything: it is a label: what it is worth is what the hold of that sum in a sandbox is worth. -/
noncomputable def Try.pinned : Pinned := { name := "qxb6604193a", sum := "c1d1afcccd2cd49ccc99a2e4de31714b8ccf706997e1524b77830f8c3eb6a116", checked := Try.checked }
namespace Rows
def none {H : Type} : Left H := { results := [], args := [] }

/-- 'zzlaws_root_b1.FnCapacityMergeEmptySides': WHATEVER THE INPUT: true; the input reads as it did. -/
def fnCapacityMergeEmptySidesSpec : ChangeSpec := { name := "fnCapacityMergeEmptySides", fn := fun _ => fun
  | [d1, d2, d3, d4] => { results := [.lit (.bool true)], args := [d1, d2, d3, d4] }
  | _ => none }
def fnCapacityMergeEmptySidesRow : OpenClaim := { program := "qxb6604193a", sum := "c1d1afcccd2cd49ccc99a2e4de31714b8ccf706997e1524b77830f8c3eb6a116", func := "example.com/mimosa/mimosa/zzlaws_root_b1.FnCapacityMergeEmptySides", spec := "fnCapacityMergeEmptySides", apart := false }
def FnCapacityMergeEmptySidesSaid : Prop := fnCapacityMergeEmptySidesRow.holds Try.pinned (OpenSpec.ofChange fnCapacityMergeEmptySidesSpec)

/-- ITS FALSE NEIGHBOUR: 'it returns false'. Refute it at one input. -/
def fnCapacityMergeEmptySidesWrong : ChangeSpec := { name := "fnCapacityMergeEmptySides", fn := fun _ => fun
  | [d1, d2, d3, d4] => { results := [.lit (.bool false)], args := [d1, d2, d3, d4] }
  | _ => none }
def FnCapacityMergeEmptySidesWrongFalsely : Prop := fnCapacityMergeEmptySidesRow.holds Try.pinned (OpenSpec.ofChange fnCapacityMergeEmptySidesWrong)

/-- 'zzlaws_root_b1.FnCapacityMergeBounds': WHATEVER THE INPUT: true; the input reads as it did. -/
def fnCapacityMergeBoundsSpec : ChangeSpec := { name := "fnCapacityMergeBounds", fn := fun _ => fun
  | [d1, d2, d3, d4] => { results := [.lit (.bool true)], args := [d1, d2, d3, d4] }
  | _ => none }
def fnCapacityMergeBoundsRow : OpenClaim := { program := "qxb6604193a", sum := "c1d1afcccd2cd49ccc99a2e4de31714b8ccf706997e1524b77830f8c3eb6a116", func := "example.com/mimosa/mimosa/zzlaws_root_b1.FnCapacityMergeBounds", spec := "fnCapacityMergeBounds", apart := false }
def FnCapacityMergeBoundsSaid : Prop := fnCapacityMergeBoundsRow.holds Try.pinned (OpenSpec.ofChange fnCapacityMergeBoundsSpec)

/-- ITS FALSE NEIGHBOUR: 'it returns false'. Refute it at one input. -/
def fnCapacityMergeBoundsWrong : ChangeSpec := { name := "fnCapacityMergeBounds", fn := fun _ => fun
  | [d1, d2, d3, d4] => { results := [.lit (.bool false)], args := [d1, d2, d3, d4] }
  | _ => none }
def FnCapacityMergeBoundsWrongFalsely : Prop := fnCapacityMergeBoundsRow.holds Try.pinned (OpenSpec.ofChange fnCapacityMergeBoundsWrong)

/-- 'zzlaws_root_b1.FnCapacityMergeCommutes': WHATEVER THE INPUT: true; the input reads as it did. -/
def fnCapacityMergeCommutesSpec : ChangeSpec := { name := "fnCapacityMergeCommutes", fn := fun _ => fun
  | [d1, d2, d3, d4] => { results := [.lit (.bool true)], args := [d1, d2, d3, d4] }
  | _ => none }
def fnCapacityMergeCommutesRow : OpenClaim := { program := "qxb6604193a", sum := "c1d1afcccd2cd49ccc99a2e4de31714b8ccf706997e1524b77830f8c3eb6a116", func := "example.com/mimosa/mimosa/zzlaws_root_b1.FnCapacityMergeCommutes", spec := "fnCapacityMergeCommutes", apart := false }
def FnCapacityMergeCommutesSaid : Prop := fnCapacityMergeCommutesRow.holds Try.pinned (OpenSpec.ofChange fnCapacityMergeCommutesSpec)

/-- ITS FALSE NEIGHBOUR: 'it returns false'. Refute it at one input. -/
def fnCapacityMergeCommutesWrong : ChangeSpec := { name := "fnCapacityMergeCommutes", fn := fun _ => fun
  | [d1, d2, d3, d4] => { results := [.lit (.bool false)], args := [d1, d2, d3, d4] }
  | _ => none }
def FnCapacityMergeCommutesWrongFalsely : Prop := fnCapacityMergeCommutesRow.holds Try.pinned (OpenSpec.ofChange fnCapacityMergeCommutesWrong)

end Rows
end Go.Proofs.Qxb6604193a

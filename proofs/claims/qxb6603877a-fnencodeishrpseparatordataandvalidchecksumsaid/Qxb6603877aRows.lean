/-
  No cell of these rows narrows 'for every input' (looked for: loops, veiled, ifaces, maps, wideKeys, modest, calm, conditions, laid).
  DERIVED. THE GIVEN ROWS OF THIS SEAT. 5 by the template 'for every input the law returns true; each argument reads behind the call as it read before'; 0 by the template 'total and deterministic' (their statements: Qxb6603877aTotals.lean).
  GIVEN WITH THE SEED: the statements are not yours to turn. If you find one false, say at which input.
  Laid BY PROGRAM, IN A SANDBOX (cutbox-rows.mjs): the forced cells as the released guide's own fill.sh prints them over the translation b0c55481af4b1098… (all of the seat's roots in one cut). By AI agents, Wed Nov 11 2026. No macro, syntax, notation, axiom, sorry.
-/
import Derived.Test.Qxb6603877aChecked
import GoSem.Claim
import GoSem.ClaimJoined
import GoSem.ClaimMapViews
import Derived.JoinedTies
import Derived.KernelRfl
namespace Go.Proofs.Qxb6603877a
/- THE CELL 'sum', in the pinned program and in every row, IS THE sha256 OF THE DUMP (.gsa) THAT Qxb6603877aProg.lean LOADS. Nothing in Lean hashes anything: it is a label: what it is worth is what the hold of that sum in a sandbox is worth. -/
noncomputable def Try.pinned : Pinned := { name := "qxb6603877a", sum := "b0c55481af4b109844560d31b50e5ff8b1a2c3335aad5444420b565dcd97f46e", checked := Try.checked }
namespace Rows
def none {H : Type} : Left H := { results := [], args := [] }

/-- 'zzlaws_bech32_b1.FnPolymodDetectsEveryBurstOfSix': WHATEVER THE INPUT: true; the input reads as it did. -/
def fnPolymodDetectsEveryBurstOfSixSpec : ChangeSpec := { name := "fnPolymodDetectsEveryBurstOfSix", fn := fun _ => fun
  | [d1, d2, d3] => { results := [.lit (.bool true)], args := [d1, d2, d3] }
  | _ => none }
def fnPolymodDetectsEveryBurstOfSixRow : OpenClaim := { program := "qxb6603877a", sum := "b0c55481af4b109844560d31b50e5ff8b1a2c3335aad5444420b565dcd97f46e", func := "example.com/satstall/satstall/zzlaws_bech32_b1.FnPolymodDetectsEveryBurstOfSix", spec := "fnPolymodDetectsEveryBurstOfSix", apart := false }
def FnPolymodDetectsEveryBurstOfSixSaid : Prop := fnPolymodDetectsEveryBurstOfSixRow.holds Try.pinned (OpenSpec.ofChange fnPolymodDetectsEveryBurstOfSixSpec)

/-- ITS FALSE NEIGHBOUR: 'it returns false'. Refute it at one input. -/
def fnPolymodDetectsEveryBurstOfSixWrong : ChangeSpec := { name := "fnPolymodDetectsEveryBurstOfSix", fn := fun _ => fun
  | [d1, d2, d3] => { results := [.lit (.bool false)], args := [d1, d2, d3] }
  | _ => none }
def FnPolymodDetectsEveryBurstOfSixWrongFalsely : Prop := fnPolymodDetectsEveryBurstOfSixRow.holds Try.pinned (OpenSpec.ofChange fnPolymodDetectsEveryBurstOfSixWrong)

/-- 'zzlaws_bech32_b1.FnRegroupIsBitStreamRecut': WHATEVER THE INPUT: true; the input reads as it did. -/
def fnRegroupIsBitStreamRecutSpec : ChangeSpec := { name := "fnRegroupIsBitStreamRecut", fn := fun _ => fun
  | [d1, d2, d3] => { results := [.lit (.bool true)], args := [d1, d2, d3] }
  | _ => none }
def fnRegroupIsBitStreamRecutRow : OpenClaim := { program := "qxb6603877a", sum := "b0c55481af4b109844560d31b50e5ff8b1a2c3335aad5444420b565dcd97f46e", func := "example.com/satstall/satstall/zzlaws_bech32_b1.FnRegroupIsBitStreamRecut", spec := "fnRegroupIsBitStreamRecut", apart := false }
def FnRegroupIsBitStreamRecutSaid : Prop := fnRegroupIsBitStreamRecutRow.holds Try.pinned (OpenSpec.ofChange fnRegroupIsBitStreamRecutSpec)

/-- ITS FALSE NEIGHBOUR: 'it returns false'. Refute it at one input. -/
def fnRegroupIsBitStreamRecutWrong : ChangeSpec := { name := "fnRegroupIsBitStreamRecut", fn := fun _ => fun
  | [d1, d2, d3] => { results := [.lit (.bool false)], args := [d1, d2, d3] }
  | _ => none }
def FnRegroupIsBitStreamRecutWrongFalsely : Prop := fnRegroupIsBitStreamRecutRow.holds Try.pinned (OpenSpec.ofChange fnRegroupIsBitStreamRecutWrong)

/-- 'zzlaws_bech32_b1.FnRegroupBackAndForthKeepsInput': WHATEVER THE INPUT: true; the input reads as it did. -/
def fnRegroupBackAndForthKeepsInputSpec : ChangeSpec := { name := "fnRegroupBackAndForthKeepsInput", fn := fun _ => fun
  | [d1, d2, d3] => { results := [.lit (.bool true)], args := [d1, d2, d3] }
  | _ => none }
def fnRegroupBackAndForthKeepsInputRow : OpenClaim := { program := "qxb6603877a", sum := "b0c55481af4b109844560d31b50e5ff8b1a2c3335aad5444420b565dcd97f46e", func := "example.com/satstall/satstall/zzlaws_bech32_b1.FnRegroupBackAndForthKeepsInput", spec := "fnRegroupBackAndForthKeepsInput", apart := false }
def FnRegroupBackAndForthKeepsInputSaid : Prop := fnRegroupBackAndForthKeepsInputRow.holds Try.pinned (OpenSpec.ofChange fnRegroupBackAndForthKeepsInputSpec)

/-- ITS FALSE NEIGHBOUR: 'it returns false'. Refute it at one input. -/
def fnRegroupBackAndForthKeepsInputWrong : ChangeSpec := { name := "fnRegroupBackAndForthKeepsInput", fn := fun _ => fun
  | [d1, d2, d3] => { results := [.lit (.bool false)], args := [d1, d2, d3] }
  | _ => none }
def FnRegroupBackAndForthKeepsInputWrongFalsely : Prop := fnRegroupBackAndForthKeepsInputRow.holds Try.pinned (OpenSpec.ofChange fnRegroupBackAndForthKeepsInputWrong)

/-- 'zzlaws_bech32_b1.FnEncodeIsHrpSeparatorDataAndValidChecksum': WHATEVER THE INPUT: true; the input reads as it did. -/
def fnEncodeIsHrpSeparatorDataAndValidChecksumSpec : ChangeSpec := { name := "fnEncodeIsHrpSeparatorDataAndValidChecksum", fn := fun _ => fun
  | [d1, d2] => { results := [.lit (.bool true)], args := [d1, d2] }
  | _ => none }
def fnEncodeIsHrpSeparatorDataAndValidChecksumRow : OpenClaim := { program := "qxb6603877a", sum := "b0c55481af4b109844560d31b50e5ff8b1a2c3335aad5444420b565dcd97f46e", func := "example.com/satstall/satstall/zzlaws_bech32_b1.FnEncodeIsHrpSeparatorDataAndValidChecksum", spec := "fnEncodeIsHrpSeparatorDataAndValidChecksum", apart := false }
def FnEncodeIsHrpSeparatorDataAndValidChecksumSaid : Prop := fnEncodeIsHrpSeparatorDataAndValidChecksumRow.holds Try.pinned (OpenSpec.ofChange fnEncodeIsHrpSeparatorDataAndValidChecksumSpec)

/-- ITS FALSE NEIGHBOUR: 'it returns false'. Refute it at one input. -/
def fnEncodeIsHrpSeparatorDataAndValidChecksumWrong : ChangeSpec := { name := "fnEncodeIsHrpSeparatorDataAndValidChecksum", fn := fun _ => fun
  | [d1, d2] => { results := [.lit (.bool false)], args := [d1, d2] }
  | _ => none }
def FnEncodeIsHrpSeparatorDataAndValidChecksumWrongFalsely : Prop := fnEncodeIsHrpSeparatorDataAndValidChecksumRow.holds Try.pinned (OpenSpec.ofChange fnEncodeIsHrpSeparatorDataAndValidChecksumWrong)

/-- 'zzlaws_bech32_b1.FnEncodeDecodesBackAndVerifiesByPolymod': WHATEVER THE INPUT: true; the input reads as it did. -/
def fnEncodeDecodesBackAndVerifiesByPolymodSpec : ChangeSpec := { name := "fnEncodeDecodesBackAndVerifiesByPolymod", fn := fun _ => fun
  | [d1, d2] => { results := [.lit (.bool true)], args := [d1, d2] }
  | _ => none }
def fnEncodeDecodesBackAndVerifiesByPolymodRow : OpenClaim := { program := "qxb6603877a", sum := "b0c55481af4b109844560d31b50e5ff8b1a2c3335aad5444420b565dcd97f46e", func := "example.com/satstall/satstall/zzlaws_bech32_b1.FnEncodeDecodesBackAndVerifiesByPolymod", spec := "fnEncodeDecodesBackAndVerifiesByPolymod", apart := false }
def FnEncodeDecodesBackAndVerifiesByPolymodSaid : Prop := fnEncodeDecodesBackAndVerifiesByPolymodRow.holds Try.pinned (OpenSpec.ofChange fnEncodeDecodesBackAndVerifiesByPolymodSpec)

/-- ITS FALSE NEIGHBOUR: 'it returns false'. Refute it at one input. -/
def fnEncodeDecodesBackAndVerifiesByPolymodWrong : ChangeSpec := { name := "fnEncodeDecodesBackAndVerifiesByPolymod", fn := fun _ => fun
  | [d1, d2] => { results := [.lit (.bool false)], args := [d1, d2] }
  | _ => none }
def FnEncodeDecodesBackAndVerifiesByPolymodWrongFalsely : Prop := fnEncodeDecodesBackAndVerifiesByPolymodRow.holds Try.pinned (OpenSpec.ofChange fnEncodeDecodesBackAndVerifiesByPolymodWrong)

end Rows
end Go.Proofs.Qxb6603877a

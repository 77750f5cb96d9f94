/-
  No cell of these rows narrows 'for every input' (looked for: loops, veiled, ifaces, maps, wideKeys, modest, calm, conditions, laid).
  DERIVED. THE GIVEN ROWS OF THIS SEAT. 7 by the template 'for every input the law returns true; each argument reads behind the call as it read before'; 0 by the template 'total and deterministic' (their statements: Qxb6003357aTotals.lean).
  GIVEN WITH THE SEED: the statements are not yours to turn. If you find one false, say at which input.
  Laid BY PROGRAM, IN A SANDBOX (cutbox-rows.mjs): the forced cells as the released guide's own fill.sh prints them over the translation c92cdb1d388060b6… (all of the seat's roots in one cut). By AI agents, Wed Nov 11 2026. No macro, syntax, notation, axiom, sorry.
-/
import Derived.Test.Qxb6003357aChecked
import GoSem.Claim
import GoSem.ClaimJoined
import GoSem.ClaimMapViews
import Derived.JoinedTies
import Derived.KernelRfl
namespace Go.Proofs.Qxb6003357a
/- THE CELL 'sum', in the pinned program and in every row, IS THE sha256 OF THE DUMP (.gsa) THAT Qxb6003357aProg.lean LOADS. Nothing in Lean hashes anything: it is a label: what it is worth is what the hold of that sum in a sandbox is worth. -/
noncomputable def Try.pinned : Pinned := { name := "qxb6003357a", sum := "c92cdb1d388060b61ce8d8334ef862916573619374df4af9b72a4d7b44c0ef48", checked := Try.checked }
namespace Rows
def none {H : Type} : Left H := { results := [], args := [] }

/-- 'zzlaws_transport_g1.FnValidateUpwardClosed': WHATEVER THE INPUT: true; the input reads as it did. -/
def fnValidateUpwardClosedSpec : ChangeSpec := { name := "fnValidateUpwardClosed", fn := fun _ => fun
  | [d1, d2, d3, d4, d5, d6] => { results := [.lit (.bool true)], args := [d1, d2, d3, d4, d5, d6] }
  | _ => none }
def fnValidateUpwardClosedRow : OpenClaim := { program := "qxb6003357a", sum := "c92cdb1d388060b61ce8d8334ef862916573619374df4af9b72a4d7b44c0ef48", func := "example.com/zoneglass/zoneglass/zzlaws_transport_g1.FnValidateUpwardClosed", spec := "fnValidateUpwardClosed", apart := false }
def FnValidateUpwardClosedSaid : Prop := fnValidateUpwardClosedRow.holds Try.pinned (OpenSpec.ofChange fnValidateUpwardClosedSpec)

/-- ITS FALSE NEIGHBOUR: 'it returns false'. Refute it at one input. -/
def fnValidateUpwardClosedWrong : ChangeSpec := { name := "fnValidateUpwardClosed", fn := fun _ => fun
  | [d1, d2, d3, d4, d5, d6] => { results := [.lit (.bool false)], args := [d1, d2, d3, d4, d5, d6] }
  | _ => none }
def FnValidateUpwardClosedWrongFalsely : Prop := fnValidateUpwardClosedRow.holds Try.pinned (OpenSpec.ofChange fnValidateUpwardClosedWrong)

/-- 'zzlaws_wire_g1.FnEqualFoldEquivalence': WHATEVER THE INPUT: true; the input reads as it did. -/
def fnEqualFoldEquivalenceSpec : ChangeSpec := { name := "fnEqualFoldEquivalence", fn := fun _ => fun
  | [d1, d2, d3] => { results := [.lit (.bool true)], args := [d1, d2, d3] }
  | _ => none }
def fnEqualFoldEquivalenceRow : OpenClaim := { program := "qxb6003357a", sum := "c92cdb1d388060b61ce8d8334ef862916573619374df4af9b72a4d7b44c0ef48", func := "example.com/zoneglass/zoneglass/zzlaws_wire_g1.FnEqualFoldEquivalence", spec := "fnEqualFoldEquivalence", apart := false }
def FnEqualFoldEquivalenceSaid : Prop := fnEqualFoldEquivalenceRow.holds Try.pinned (OpenSpec.ofChange fnEqualFoldEquivalenceSpec)

/-- ITS FALSE NEIGHBOUR: 'it returns false'. Refute it at one input. -/
def fnEqualFoldEquivalenceWrong : ChangeSpec := { name := "fnEqualFoldEquivalence", fn := fun _ => fun
  | [d1, d2, d3] => { results := [.lit (.bool false)], args := [d1, d2, d3] }
  | _ => none }
def FnEqualFoldEquivalenceWrongFalsely : Prop := fnEqualFoldEquivalenceRow.holds Try.pinned (OpenSpec.ofChange fnEqualFoldEquivalenceWrong)

/-- 'zzlaws_wire_g1.FnEqualFoldIgnoresLetterCase': WHATEVER THE INPUT: true; the input reads as it did. -/
def fnEqualFoldIgnoresLetterCaseSpec : ChangeSpec := { name := "fnEqualFoldIgnoresLetterCase", fn := fun _ => fun
  | [d1, d2] => { results := [.lit (.bool true)], args := [d1, d2] }
  | _ => none }
def fnEqualFoldIgnoresLetterCaseRow : OpenClaim := { program := "qxb6003357a", sum := "c92cdb1d388060b61ce8d8334ef862916573619374df4af9b72a4d7b44c0ef48", func := "example.com/zoneglass/zoneglass/zzlaws_wire_g1.FnEqualFoldIgnoresLetterCase", spec := "fnEqualFoldIgnoresLetterCase", apart := false }
def FnEqualFoldIgnoresLetterCaseSaid : Prop := fnEqualFoldIgnoresLetterCaseRow.holds Try.pinned (OpenSpec.ofChange fnEqualFoldIgnoresLetterCaseSpec)

/-- ITS FALSE NEIGHBOUR: 'it returns false'. Refute it at one input. -/
def fnEqualFoldIgnoresLetterCaseWrong : ChangeSpec := { name := "fnEqualFoldIgnoresLetterCase", fn := fun _ => fun
  | [d1, d2] => { results := [.lit (.bool false)], args := [d1, d2] }
  | _ => none }
def FnEqualFoldIgnoresLetterCaseWrongFalsely : Prop := fnEqualFoldIgnoresLetterCaseRow.holds Try.pinned (OpenSpec.ofChange fnEqualFoldIgnoresLetterCaseWrong)

/-- 'zzlaws_wire_g1.FnEqualFoldSeesOtherBytes': WHATEVER THE INPUT: true; the input reads as it did. -/
def fnEqualFoldSeesOtherBytesSpec : ChangeSpec := { name := "fnEqualFoldSeesOtherBytes", fn := fun _ => fun
  | [d1, d2, d3] => { results := [.lit (.bool true)], args := [d1, d2, d3] }
  | _ => none }
def fnEqualFoldSeesOtherBytesRow : OpenClaim := { program := "qxb6003357a", sum := "c92cdb1d388060b61ce8d8334ef862916573619374df4af9b72a4d7b44c0ef48", func := "example.com/zoneglass/zoneglass/zzlaws_wire_g1.FnEqualFoldSeesOtherBytes", spec := "fnEqualFoldSeesOtherBytes", apart := false }
def FnEqualFoldSeesOtherBytesSaid : Prop := fnEqualFoldSeesOtherBytesRow.holds Try.pinned (OpenSpec.ofChange fnEqualFoldSeesOtherBytesSpec)

/-- ITS FALSE NEIGHBOUR: 'it returns false'. Refute it at one input. -/
def fnEqualFoldSeesOtherBytesWrong : ChangeSpec := { name := "fnEqualFoldSeesOtherBytes", fn := fun _ => fun
  | [d1, d2, d3] => { results := [.lit (.bool false)], args := [d1, d2, d3] }
  | _ => none }
def FnEqualFoldSeesOtherBytesWrongFalsely : Prop := fnEqualFoldSeesOtherBytesRow.holds Try.pinned (OpenSpec.ofChange fnEqualFoldSeesOtherBytesWrong)

/-- 'zzlaws_wire_g1.FnTrimSuffixMatchesLabelModel': WHATEVER THE INPUT: true; the input reads as it did. -/
def fnTrimSuffixMatchesLabelModelSpec : ChangeSpec := { name := "fnTrimSuffixMatchesLabelModel", fn := fun _ => fun
  | [d1, d2] => { results := [.lit (.bool true)], args := [d1, d2] }
  | _ => none }
def fnTrimSuffixMatchesLabelModelRow : OpenClaim := { program := "qxb6003357a", sum := "c92cdb1d388060b61ce8d8334ef862916573619374df4af9b72a4d7b44c0ef48", func := "example.com/zoneglass/zoneglass/zzlaws_wire_g1.FnTrimSuffixMatchesLabelModel", spec := "fnTrimSuffixMatchesLabelModel", apart := false }
def FnTrimSuffixMatchesLabelModelSaid : Prop := fnTrimSuffixMatchesLabelModelRow.holds Try.pinned (OpenSpec.ofChange fnTrimSuffixMatchesLabelModelSpec)

/-- ITS FALSE NEIGHBOUR: 'it returns false'. Refute it at one input. -/
def fnTrimSuffixMatchesLabelModelWrong : ChangeSpec := { name := "fnTrimSuffixMatchesLabelModel", fn := fun _ => fun
  | [d1, d2] => { results := [.lit (.bool false)], args := [d1, d2] }
  | _ => none }
def FnTrimSuffixMatchesLabelModelWrongFalsely : Prop := fnTrimSuffixMatchesLabelModelRow.holds Try.pinned (OpenSpec.ofChange fnTrimSuffixMatchesLabelModelWrong)

/-- 'zzlaws_wire_g1.FnTrimSuffixComposes': WHATEVER THE INPUT: true; the input reads as it did. -/
def fnTrimSuffixComposesSpec : ChangeSpec := { name := "fnTrimSuffixComposes", fn := fun _ => fun
  | [d1, d2, d3] => { results := [.lit (.bool true)], args := [d1, d2, d3] }
  | _ => none }
def fnTrimSuffixComposesRow : OpenClaim := { program := "qxb6003357a", sum := "c92cdb1d388060b61ce8d8334ef862916573619374df4af9b72a4d7b44c0ef48", func := "example.com/zoneglass/zoneglass/zzlaws_wire_g1.FnTrimSuffixComposes", spec := "fnTrimSuffixComposes", apart := false }
def FnTrimSuffixComposesSaid : Prop := fnTrimSuffixComposesRow.holds Try.pinned (OpenSpec.ofChange fnTrimSuffixComposesSpec)

/-- ITS FALSE NEIGHBOUR: 'it returns false'. Refute it at one input. -/
def fnTrimSuffixComposesWrong : ChangeSpec := { name := "fnTrimSuffixComposes", fn := fun _ => fun
  | [d1, d2, d3] => { results := [.lit (.bool false)], args := [d1, d2, d3] }
  | _ => none }
def FnTrimSuffixComposesWrongFalsely : Prop := fnTrimSuffixComposesRow.holds Try.pinned (OpenSpec.ofChange fnTrimSuffixComposesWrong)

/-- 'zzlaws_wire_g1.FnTrimSuffixCaseBlindInZone': WHATEVER THE INPUT: true; the input reads as it did. -/
def fnTrimSuffixCaseBlindInZoneSpec : ChangeSpec := { name := "fnTrimSuffixCaseBlindInZone", fn := fun _ => fun
  | [d1, d2, d3] => { results := [.lit (.bool true)], args := [d1, d2, d3] }
  | _ => none }
def fnTrimSuffixCaseBlindInZoneRow : OpenClaim := { program := "qxb6003357a", sum := "c92cdb1d388060b61ce8d8334ef862916573619374df4af9b72a4d7b44c0ef48", func := "example.com/zoneglass/zoneglass/zzlaws_wire_g1.FnTrimSuffixCaseBlindInZone", spec := "fnTrimSuffixCaseBlindInZone", apart := false }
def FnTrimSuffixCaseBlindInZoneSaid : Prop := fnTrimSuffixCaseBlindInZoneRow.holds Try.pinned (OpenSpec.ofChange fnTrimSuffixCaseBlindInZoneSpec)

/-- ITS FALSE NEIGHBOUR: 'it returns false'. Refute it at one input. -/
def fnTrimSuffixCaseBlindInZoneWrong : ChangeSpec := { name := "fnTrimSuffixCaseBlindInZone", fn := fun _ => fun
  | [d1, d2, d3] => { results := [.lit (.bool false)], args := [d1, d2, d3] }
  | _ => none }
def FnTrimSuffixCaseBlindInZoneWrongFalsely : Prop := fnTrimSuffixCaseBlindInZoneRow.holds Try.pinned (OpenSpec.ofChange fnTrimSuffixCaseBlindInZoneWrong)

end Rows
end Go.Proofs.Qxb6003357a

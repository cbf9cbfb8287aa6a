/-
  No cell of these rows narrows 'for every input' (looked for: loops, veiled, ifaces, maps, wideKeys, modest, calm, conditions, laid).
  DERIVED. THE GIVEN ROWS OF THIS SEAT. 8 by the template 'for every input the law returns true; each argument reads behind the call as it read before'; 0 by the template 'total and deterministic' (their statements: Qxb6600823aTotals.lean).
  GIVEN WITH THE SEED: the statements are not yours to turn. If you find one false, say at which input.
  Laid BY PROGRAM, IN A SANDBOX (cutbox-rows.mjs): the forced cells as the released guide's own fill.sh prints them over the translation 0c62e38c9216bbff… (all of the seat's roots in one cut). By AI agents, Wed Nov 11 2026. No macro, syntax, notation, axiom, sorry.
-/
import Derived.Test.Qxb6600823aChecked
import GoSem.Claim
import GoSem.ClaimJoined
import GoSem.ClaimMapViews
import Derived.JoinedTies
import Derived.KernelRfl
namespace Go.Proofs.Qxb6600823a
/- THE CELL 'sum', in the pinned program and in every row, IS THE sha256 OF THE DUMP (.gsa) THAT Qxb6600823aProg.lean LOADS. Nothing in Lean hashes anything: it is a label: what it is worth is what the hold of that sum in a sandbox is worth. -/
noncomputable def Try.pinned : Pinned := { name := "qxb6600823a", sum := "0c62e38c9216bbff18e7b7fb67016ef755b2e9b5ea9a2e5d0c3f64007c9de462", checked := Try.checked }
namespace Rows
def none {H : Type} : Left H := { results := [], args := [] }

/-- 'zzlaws_internal_lua_b1.FnMatchClassMatchesModel': WHATEVER THE INPUT: true; the input reads as it did. -/
def fnMatchClassMatchesModelSpec : ChangeSpec := { name := "fnMatchClassMatchesModel", fn := fun _ => fun
  | [d1, d2] => { results := [.lit (.bool true)], args := [d1, d2] }
  | _ => none }
def fnMatchClassMatchesModelRow : OpenClaim := { program := "qxb6600823a", sum := "0c62e38c9216bbff18e7b7fb67016ef755b2e9b5ea9a2e5d0c3f64007c9de462", func := "example.com/quorate/quorate/zzlaws_internal_lua_b1.FnMatchClassMatchesModel", spec := "fnMatchClassMatchesModel", recurses := true, apart := false }
def FnMatchClassMatchesModelSaid : Prop := fnMatchClassMatchesModelRow.holds Try.pinned (OpenSpec.ofChange fnMatchClassMatchesModelSpec)

/-- ITS FALSE NEIGHBOUR: 'it returns false'. Refute it at one input. -/
def fnMatchClassMatchesModelWrong : ChangeSpec := { name := "fnMatchClassMatchesModel", fn := fun _ => fun
  | [d1, d2] => { results := [.lit (.bool false)], args := [d1, d2] }
  | _ => none }
def FnMatchClassMatchesModelWrongFalsely : Prop := fnMatchClassMatchesModelRow.holds Try.pinned (OpenSpec.ofChange fnMatchClassMatchesModelWrong)

/-- 'zzlaws_internal_lua_b1.FnMatchClassPartitionsBytes': WHATEVER THE INPUT: true; the input reads as it did. -/
def fnMatchClassPartitionsBytesSpec : ChangeSpec := { name := "fnMatchClassPartitionsBytes", fn := fun _ => fun
  | [d] => { results := [.lit (.bool true)], args := [d] }
  | _ => none }
def fnMatchClassPartitionsBytesRow : OpenClaim := { program := "qxb6600823a", sum := "0c62e38c9216bbff18e7b7fb67016ef755b2e9b5ea9a2e5d0c3f64007c9de462", func := "example.com/quorate/quorate/zzlaws_internal_lua_b1.FnMatchClassPartitionsBytes", spec := "fnMatchClassPartitionsBytes", apart := false }
def FnMatchClassPartitionsBytesSaid : Prop := fnMatchClassPartitionsBytesRow.holds Try.pinned (OpenSpec.ofChange fnMatchClassPartitionsBytesSpec)

/-- ITS FALSE NEIGHBOUR: 'it returns false'. Refute it at one input. -/
def fnMatchClassPartitionsBytesWrong : ChangeSpec := { name := "fnMatchClassPartitionsBytes", fn := fun _ => fun
  | [d] => { results := [.lit (.bool false)], args := [d] }
  | _ => none }
def FnMatchClassPartitionsBytesWrongFalsely : Prop := fnMatchClassPartitionsBytesRow.holds Try.pinned (OpenSpec.ofChange fnMatchClassPartitionsBytesWrong)

/-- 'zzlaws_internal_lua_b1.FnMatchClassLattice': WHATEVER THE INPUT: true; the input reads as it did. -/
def fnMatchClassLatticeSpec : ChangeSpec := { name := "fnMatchClassLattice", fn := fun _ => fun
  | [d] => { results := [.lit (.bool true)], args := [d] }
  | _ => none }
def fnMatchClassLatticeRow : OpenClaim := { program := "qxb6600823a", sum := "0c62e38c9216bbff18e7b7fb67016ef755b2e9b5ea9a2e5d0c3f64007c9de462", func := "example.com/quorate/quorate/zzlaws_internal_lua_b1.FnMatchClassLattice", spec := "fnMatchClassLattice", apart := false }
def FnMatchClassLatticeSaid : Prop := fnMatchClassLatticeRow.holds Try.pinned (OpenSpec.ofChange fnMatchClassLatticeSpec)

/-- ITS FALSE NEIGHBOUR: 'it returns false'. Refute it at one input. -/
def fnMatchClassLatticeWrong : ChangeSpec := { name := "fnMatchClassLattice", fn := fun _ => fun
  | [d] => { results := [.lit (.bool false)], args := [d] }
  | _ => none }
def FnMatchClassLatticeWrongFalsely : Prop := fnMatchClassLatticeRow.holds Try.pinned (OpenSpec.ofChange fnMatchClassLatticeWrong)

/-- 'zzlaws_internal_lua_b1.FnDigitValueMatchesModel': WHATEVER THE INPUT: true; the input reads as it did. -/
def fnDigitValueMatchesModelSpec : ChangeSpec := { name := "fnDigitValueMatchesModel", fn := fun _ => fun
  | [d] => { results := [.lit (.bool true)], args := [d] }
  | _ => none }
def fnDigitValueMatchesModelRow : OpenClaim := { program := "qxb6600823a", sum := "0c62e38c9216bbff18e7b7fb67016ef755b2e9b5ea9a2e5d0c3f64007c9de462", func := "example.com/quorate/quorate/zzlaws_internal_lua_b1.FnDigitValueMatchesModel", spec := "fnDigitValueMatchesModel", apart := false }
def FnDigitValueMatchesModelSaid : Prop := fnDigitValueMatchesModelRow.holds Try.pinned (OpenSpec.ofChange fnDigitValueMatchesModelSpec)

/-- ITS FALSE NEIGHBOUR: 'it returns false'. Refute it at one input. -/
def fnDigitValueMatchesModelWrong : ChangeSpec := { name := "fnDigitValueMatchesModel", fn := fun _ => fun
  | [d] => { results := [.lit (.bool false)], args := [d] }
  | _ => none }
def FnDigitValueMatchesModelWrongFalsely : Prop := fnDigitValueMatchesModelRow.holds Try.pinned (OpenSpec.ofChange fnDigitValueMatchesModelWrong)

/-- 'zzlaws_internal_lua_b1.FnDigitValueAgreesWithClasses': WHATEVER THE INPUT: true; the input reads as it did. -/
def fnDigitValueAgreesWithClassesSpec : ChangeSpec := { name := "fnDigitValueAgreesWithClasses", fn := fun _ => fun
  | [d] => { results := [.lit (.bool true)], args := [d] }
  | _ => none }
def fnDigitValueAgreesWithClassesRow : OpenClaim := { program := "qxb6600823a", sum := "0c62e38c9216bbff18e7b7fb67016ef755b2e9b5ea9a2e5d0c3f64007c9de462", func := "example.com/quorate/quorate/zzlaws_internal_lua_b1.FnDigitValueAgreesWithClasses", spec := "fnDigitValueAgreesWithClasses", apart := false }
def FnDigitValueAgreesWithClassesSaid : Prop := fnDigitValueAgreesWithClassesRow.holds Try.pinned (OpenSpec.ofChange fnDigitValueAgreesWithClassesSpec)

/-- ITS FALSE NEIGHBOUR: 'it returns false'. Refute it at one input. -/
def fnDigitValueAgreesWithClassesWrong : ChangeSpec := { name := "fnDigitValueAgreesWithClasses", fn := fun _ => fun
  | [d] => { results := [.lit (.bool false)], args := [d] }
  | _ => none }
def FnDigitValueAgreesWithClassesWrongFalsely : Prop := fnDigitValueAgreesWithClassesRow.holds Try.pinned (OpenSpec.ofChange fnDigitValueAgreesWithClassesWrong)

/-- 'zzlaws_internal_lua_b1.FnLongBracketSpec': WHATEVER THE INPUT: true; the input reads as it did. -/
def fnLongBracketSpecSpec : ChangeSpec := { name := "fnLongBracketSpec", fn := fun _ => fun
  | [d1, d2] => { results := [.lit (.bool true)], args := [d1, d2] }
  | _ => none }
def fnLongBracketSpecRow : OpenClaim := { program := "qxb6600823a", sum := "0c62e38c9216bbff18e7b7fb67016ef755b2e9b5ea9a2e5d0c3f64007c9de462", func := "example.com/quorate/quorate/zzlaws_internal_lua_b1.FnLongBracketSpec", spec := "fnLongBracketSpec", apart := false }
def FnLongBracketSpecSaid : Prop := fnLongBracketSpecRow.holds Try.pinned (OpenSpec.ofChange fnLongBracketSpecSpec)

/-- ITS FALSE NEIGHBOUR: 'it returns false'. Refute it at one input. -/
def fnLongBracketSpecWrong : ChangeSpec := { name := "fnLongBracketSpec", fn := fun _ => fun
  | [d1, d2] => { results := [.lit (.bool false)], args := [d1, d2] }
  | _ => none }
def FnLongBracketSpecWrongFalsely : Prop := fnLongBracketSpecRow.holds Try.pinned (OpenSpec.ofChange fnLongBracketSpecWrong)

/-- 'zzlaws_internal_lua_b1.FnLongBracketOpeningTable': WHATEVER THE INPUT: true; the input reads as it did. -/
def fnLongBracketOpeningTableSpec : ChangeSpec := { name := "fnLongBracketOpeningTable", fn := fun _ => fun
  | [d1, d2, d3, d4] => { results := [.lit (.bool true)], args := [d1, d2, d3, d4] }
  | _ => none }
def fnLongBracketOpeningTableRow : OpenClaim := { program := "qxb6600823a", sum := "0c62e38c9216bbff18e7b7fb67016ef755b2e9b5ea9a2e5d0c3f64007c9de462", func := "example.com/quorate/quorate/zzlaws_internal_lua_b1.FnLongBracketOpeningTable", spec := "fnLongBracketOpeningTable", apart := false }
def FnLongBracketOpeningTableSaid : Prop := fnLongBracketOpeningTableRow.holds Try.pinned (OpenSpec.ofChange fnLongBracketOpeningTableSpec)

/-- ITS FALSE NEIGHBOUR: 'it returns false'. Refute it at one input. -/
def fnLongBracketOpeningTableWrong : ChangeSpec := { name := "fnLongBracketOpeningTable", fn := fun _ => fun
  | [d1, d2, d3, d4] => { results := [.lit (.bool false)], args := [d1, d2, d3, d4] }
  | _ => none }
def FnLongBracketOpeningTableWrongFalsely : Prop := fnLongBracketOpeningTableRow.holds Try.pinned (OpenSpec.ofChange fnLongBracketOpeningTableWrong)

/-- 'zzlaws_internal_lua_b1.FnLongBracketShiftInvariant': WHATEVER THE INPUT: true; the input reads as it did. -/
def fnLongBracketShiftInvariantSpec : ChangeSpec := { name := "fnLongBracketShiftInvariant", fn := fun _ => fun
  | [d1, d2, d3] => { results := [.lit (.bool true)], args := [d1, d2, d3] }
  | _ => none }
def fnLongBracketShiftInvariantRow : OpenClaim := { program := "qxb6600823a", sum := "0c62e38c9216bbff18e7b7fb67016ef755b2e9b5ea9a2e5d0c3f64007c9de462", func := "example.com/quorate/quorate/zzlaws_internal_lua_b1.FnLongBracketShiftInvariant", spec := "fnLongBracketShiftInvariant", apart := false }
def FnLongBracketShiftInvariantSaid : Prop := fnLongBracketShiftInvariantRow.holds Try.pinned (OpenSpec.ofChange fnLongBracketShiftInvariantSpec)

/-- ITS FALSE NEIGHBOUR: 'it returns false'. Refute it at one input. -/
def fnLongBracketShiftInvariantWrong : ChangeSpec := { name := "fnLongBracketShiftInvariant", fn := fun _ => fun
  | [d1, d2, d3] => { results := [.lit (.bool false)], args := [d1, d2, d3] }
  | _ => none }
def FnLongBracketShiftInvariantWrongFalsely : Prop := fnLongBracketShiftInvariantRow.holds Try.pinned (OpenSpec.ofChange fnLongBracketShiftInvariantWrong)

end Rows
end Go.Proofs.Qxb6600823a

/-
  NARROWER THAN 'FOR EVERY INPUT', by the rows' own cells (each row's printed sentence says how): FnOnlyObjectClosedForm: maps · FnIntersectSetSpec: maps · FnIntersectIdempotent: maps · FnScalarTypeMostGeneral: maps · FnScalarTypeOfIntersectWithNumber: maps.
  DERIVED. THE GIVEN ROWS OF THIS SEAT. 6 by the template 'for every input the law returns true; each argument reads behind the call as it read before'; 0 by the template 'total and deterministic' (their statements: Qxb6603330aTotals.lean).
  GIVEN WITH THE SEED: the statements are not yours to turn. If you find one false, say at which input.
  Laid BY PROGRAM, IN A SANDBOX (cutbox-rows.mjs): the forced cells as the released guide's own fill.sh prints them over the translation 6e5442443ef87351… (all of the seat's roots in one cut). By AI agents, Wed Nov 11 2026. No macro, syntax, notation, axiom, sorry.
-/
import Derived.Test.Qxb6603330aChecked
import GoSem.Claim
import GoSem.ClaimJoined
import GoSem.ClaimMapViews
import Derived.JoinedTies
import Derived.KernelRfl
namespace Go.Proofs.Qxb6603330a
/- THE CELL 'sum', in the pinned program and in every row, IS THE sha256 OF THE DUMP (.gsa) THAT Qxb6603330aProg.lean LOADS. Nothing in Lean hashes anything: it is a label: what it is worth is what the hold of that sum in a sandbox is worth. -/
noncomputable def Try.pinned : Pinned := { name := "qxb6603330a", sum := "6e5442443ef873512f206761673177dd0c53fa5ba06d557bd59f1b76e7ae1201", checked := Try.checked }
namespace Rows
def none {H : Type} : Left H := { results := [], args := [] }

/-- 'zzlaws_internal_schema_b1.FnOnlyObjectClosedForm': WHATEVER THE INPUT: true; the input reads as it did. -/
def fnOnlyObjectClosedFormSpec : ChangeSpec := { name := "fnOnlyObjectClosedForm", fn := fun _ => fun
  | [d] => { results := [.lit (.bool true)], args := [d] }
  | _ => none }
def fnOnlyObjectClosedFormRow : OpenClaim := { program := "qxb6603330a", sum := "6e5442443ef873512f206761673177dd0c53fa5ba06d557bd59f1b76e7ae1201", func := "example.com/latchkey/latchkey/zzlaws_internal_schema_b1.FnOnlyObjectClosedForm", spec := "fnOnlyObjectClosedForm", maps := true, apart := false }
def FnOnlyObjectClosedFormSaid : Prop := fnOnlyObjectClosedFormRow.holds Try.pinned (OpenSpec.ofChange fnOnlyObjectClosedFormSpec)

/-- ITS FALSE NEIGHBOUR: 'it returns false'. Refute it at one input. -/
def fnOnlyObjectClosedFormWrong : ChangeSpec := { name := "fnOnlyObjectClosedForm", fn := fun _ => fun
  | [d] => { results := [.lit (.bool false)], args := [d] }
  | _ => none }
def FnOnlyObjectClosedFormWrongFalsely : Prop := fnOnlyObjectClosedFormRow.holds Try.pinned (OpenSpec.ofChange fnOnlyObjectClosedFormWrong)

/-- 'zzlaws_internal_schema_b1.FnOnlyObjectOfNamesIffAllObject': WHATEVER THE INPUT: true; the input reads as it did. -/
def fnOnlyObjectOfNamesIffAllObjectSpec : ChangeSpec := { name := "fnOnlyObjectOfNamesIffAllObject", fn := fun _ => fun
  | [d] => { results := [.lit (.bool true)], args := [d] }
  | _ => none }
def fnOnlyObjectOfNamesIffAllObjectRow : OpenClaim := { program := "qxb6603330a", sum := "6e5442443ef873512f206761673177dd0c53fa5ba06d557bd59f1b76e7ae1201", func := "example.com/latchkey/latchkey/zzlaws_internal_schema_b1.FnOnlyObjectOfNamesIffAllObject", spec := "fnOnlyObjectOfNamesIffAllObject", apart := false }
def FnOnlyObjectOfNamesIffAllObjectSaid : Prop := fnOnlyObjectOfNamesIffAllObjectRow.holds Try.pinned (OpenSpec.ofChange fnOnlyObjectOfNamesIffAllObjectSpec)

/-- ITS FALSE NEIGHBOUR: 'it returns false'. Refute it at one input. -/
def fnOnlyObjectOfNamesIffAllObjectWrong : ChangeSpec := { name := "fnOnlyObjectOfNamesIffAllObject", fn := fun _ => fun
  | [d] => { results := [.lit (.bool false)], args := [d] }
  | _ => none }
def FnOnlyObjectOfNamesIffAllObjectWrongFalsely : Prop := fnOnlyObjectOfNamesIffAllObjectRow.holds Try.pinned (OpenSpec.ofChange fnOnlyObjectOfNamesIffAllObjectWrong)

/-- 'zzlaws_internal_schema_b1.FnIntersectSetSpec': WHATEVER THE INPUT: true; the input reads as it did. -/
def fnIntersectSetSpecSpec : ChangeSpec := { name := "fnIntersectSetSpec", fn := fun _ => fun
  | [d1, d2] => { results := [.lit (.bool true)], args := [d1, d2] }
  | _ => none }
def fnIntersectSetSpecRow : OpenClaim := { program := "qxb6603330a", sum := "6e5442443ef873512f206761673177dd0c53fa5ba06d557bd59f1b76e7ae1201", func := "example.com/latchkey/latchkey/zzlaws_internal_schema_b1.FnIntersectSetSpec", spec := "fnIntersectSetSpec", maps := true, apart := false }
def FnIntersectSetSpecSaid : Prop := fnIntersectSetSpecRow.holds Try.pinned (OpenSpec.ofChange fnIntersectSetSpecSpec)

/-- ITS FALSE NEIGHBOUR: 'it returns false'. Refute it at one input. -/
def fnIntersectSetSpecWrong : ChangeSpec := { name := "fnIntersectSetSpec", fn := fun _ => fun
  | [d1, d2] => { results := [.lit (.bool false)], args := [d1, d2] }
  | _ => none }
def FnIntersectSetSpecWrongFalsely : Prop := fnIntersectSetSpecRow.holds Try.pinned (OpenSpec.ofChange fnIntersectSetSpecWrong)

/-- 'zzlaws_internal_schema_b1.FnIntersectIdempotent': WHATEVER THE INPUT: true; the input reads as it did. -/
def fnIntersectIdempotentSpec : ChangeSpec := { name := "fnIntersectIdempotent", fn := fun _ => fun
  | [d1, d2] => { results := [.lit (.bool true)], args := [d1, d2] }
  | _ => none }
def fnIntersectIdempotentRow : OpenClaim := { program := "qxb6603330a", sum := "6e5442443ef873512f206761673177dd0c53fa5ba06d557bd59f1b76e7ae1201", func := "example.com/latchkey/latchkey/zzlaws_internal_schema_b1.FnIntersectIdempotent", spec := "fnIntersectIdempotent", maps := true, apart := false }
def FnIntersectIdempotentSaid : Prop := fnIntersectIdempotentRow.holds Try.pinned (OpenSpec.ofChange fnIntersectIdempotentSpec)

/-- ITS FALSE NEIGHBOUR: 'it returns false'. Refute it at one input. -/
def fnIntersectIdempotentWrong : ChangeSpec := { name := "fnIntersectIdempotent", fn := fun _ => fun
  | [d1, d2] => { results := [.lit (.bool false)], args := [d1, d2] }
  | _ => none }
def FnIntersectIdempotentWrongFalsely : Prop := fnIntersectIdempotentRow.holds Try.pinned (OpenSpec.ofChange fnIntersectIdempotentWrong)

/-- 'zzlaws_internal_schema_b1.FnScalarTypeMostGeneral': WHATEVER THE INPUT: true; the input reads as it did. -/
def fnScalarTypeMostGeneralSpec : ChangeSpec := { name := "fnScalarTypeMostGeneral", fn := fun _ => fun
  | [d] => { results := [.lit (.bool true)], args := [d] }
  | _ => none }
def fnScalarTypeMostGeneralRow : OpenClaim := { program := "qxb6603330a", sum := "6e5442443ef873512f206761673177dd0c53fa5ba06d557bd59f1b76e7ae1201", func := "example.com/latchkey/latchkey/zzlaws_internal_schema_b1.FnScalarTypeMostGeneral", spec := "fnScalarTypeMostGeneral", maps := true, apart := false }
def FnScalarTypeMostGeneralSaid : Prop := fnScalarTypeMostGeneralRow.holds Try.pinned (OpenSpec.ofChange fnScalarTypeMostGeneralSpec)

/-- ITS FALSE NEIGHBOUR: 'it returns false'. Refute it at one input. -/
def fnScalarTypeMostGeneralWrong : ChangeSpec := { name := "fnScalarTypeMostGeneral", fn := fun _ => fun
  | [d] => { results := [.lit (.bool false)], args := [d] }
  | _ => none }
def FnScalarTypeMostGeneralWrongFalsely : Prop := fnScalarTypeMostGeneralRow.holds Try.pinned (OpenSpec.ofChange fnScalarTypeMostGeneralWrong)

/-- 'zzlaws_internal_schema_b1.FnScalarTypeOfIntersectWithNumber': WHATEVER THE INPUT: true; the input reads as it did. -/
def fnScalarTypeOfIntersectWithNumberSpec : ChangeSpec := { name := "fnScalarTypeOfIntersectWithNumber", fn := fun _ => fun
  | [d1, d2] => { results := [.lit (.bool true)], args := [d1, d2] }
  | _ => none }
def fnScalarTypeOfIntersectWithNumberRow : OpenClaim := { program := "qxb6603330a", sum := "6e5442443ef873512f206761673177dd0c53fa5ba06d557bd59f1b76e7ae1201", func := "example.com/latchkey/latchkey/zzlaws_internal_schema_b1.FnScalarTypeOfIntersectWithNumber", spec := "fnScalarTypeOfIntersectWithNumber", maps := true, apart := false }
def FnScalarTypeOfIntersectWithNumberSaid : Prop := fnScalarTypeOfIntersectWithNumberRow.holds Try.pinned (OpenSpec.ofChange fnScalarTypeOfIntersectWithNumberSpec)

/-- ITS FALSE NEIGHBOUR: 'it returns false'. Refute it at one input. -/
def fnScalarTypeOfIntersectWithNumberWrong : ChangeSpec := { name := "fnScalarTypeOfIntersectWithNumber", fn := fun _ => fun
  | [d1, d2] => { results := [.lit (.bool false)], args := [d1, d2] }
  | _ => none }
def FnScalarTypeOfIntersectWithNumberWrongFalsely : Prop := fnScalarTypeOfIntersectWithNumberRow.holds Try.pinned (OpenSpec.ofChange fnScalarTypeOfIntersectWithNumberWrong)

end Rows
end Go.Proofs.Qxb6603330a

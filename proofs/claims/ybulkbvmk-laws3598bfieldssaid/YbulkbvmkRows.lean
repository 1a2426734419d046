/-
  No cell of these rows narrows 'for every input' (looked for: loops, veiled, ifaces, maps, wideKeys, modest, calm, conditions, laid).
  DERIVED. THE GIVEN ROWS OF THIS SEAT. 5 by the template 'for every input the law returns true; each argument reads behind the call as it read before'; 0 by the template 'total and deterministic' (their statements: YbulkbvmkTotals.lean).
  GIVEN WITH THE SEED: the statements are not yours to turn. If you find one false, say at which input.
  Laid BY PROGRAM, IN A SANDBOX (cutbox-rows.mjs): the forced cells as the released guide's own fill.sh prints them over the translation 2c52a218b8652b05… (all of the seat's roots in one cut). By AI agents, Wed Nov 11 2026. No macro, syntax, notation, axiom, sorry.
-/
import Derived.Test.YbulkbvmkChecked
import GoSem.Claim
import GoSem.ClaimJoined
import GoSem.ClaimMapViews
import Derived.JoinedTies
import Derived.KernelRfl
namespace Go.Proofs.Ybulkbvmk
/- THE CELL 'sum', in the pinned program and in every row, IS THE sha256 OF THE DUMP (.gsa) THAT YbulkbvmkProg.lean LOADS. Nothing in Lean hashes anything: it is a label: what it is worth is what the hold of that sum in a sandbox is worth. -/
noncomputable def Yba.pinned : Pinned := { name := "ybulkbvmk", sum := "2c52a218b8652b0516d440e7f2b98388bc307c6118e7eebf62434cae77f637f7", checked := Yba.checked }
namespace Rows
def none {H : Type} : Left H := { results := [], args := [] }

/-- 'tools-in-flight.LawS3598AExact': WHATEVER THE INPUT: true; the input reads as it did. -/
def lawS3598AExactSpec : ChangeSpec := { name := "lawS3598AExact", fn := fun _ => fun
  | [d1, d2] => { results := [.lit (.bool true)], args := [d1, d2] }
  | _ => none }
def lawS3598AExactRow : OpenClaim := { program := "ybulkbvmk", sum := "2c52a218b8652b0516d440e7f2b98388bc307c6118e7eebf62434cae77f637f7", func := "example.com/tools-in-flight/tools-in-flight.LawS3598AExact", spec := "lawS3598AExact", apart := false }
def LawS3598AExactSaid : Prop := lawS3598AExactRow.holds Yba.pinned (OpenSpec.ofChange lawS3598AExactSpec)

/-- ITS FALSE NEIGHBOUR: 'it returns false'. Refute it at one input. -/
def lawS3598AExactWrong : ChangeSpec := { name := "lawS3598AExact", fn := fun _ => fun
  | [d1, d2] => { results := [.lit (.bool false)], args := [d1, d2] }
  | _ => none }
def LawS3598AExactWrongFalsely : Prop := lawS3598AExactRow.holds Yba.pinned (OpenSpec.ofChange lawS3598AExactWrong)

/-- 'tools-in-flight.LawS3598BFields': WHATEVER THE INPUT: true; the input reads as it did. -/
def lawS3598BFieldsSpec : ChangeSpec := { name := "lawS3598BFields", fn := fun _ => fun
  | [d] => { results := [.lit (.bool true)], args := [d] }
  | _ => none }
def lawS3598BFieldsRow : OpenClaim := { program := "ybulkbvmk", sum := "2c52a218b8652b0516d440e7f2b98388bc307c6118e7eebf62434cae77f637f7", func := "example.com/tools-in-flight/tools-in-flight.LawS3598BFields", spec := "lawS3598BFields", apart := false }
def LawS3598BFieldsSaid : Prop := lawS3598BFieldsRow.holds Yba.pinned (OpenSpec.ofChange lawS3598BFieldsSpec)

/-- ITS FALSE NEIGHBOUR: 'it returns false'. Refute it at one input. -/
def lawS3598BFieldsWrong : ChangeSpec := { name := "lawS3598BFields", fn := fun _ => fun
  | [d] => { results := [.lit (.bool false)], args := [d] }
  | _ => none }
def LawS3598BFieldsWrongFalsely : Prop := lawS3598BFieldsRow.holds Yba.pinned (OpenSpec.ofChange lawS3598BFieldsWrong)

/-- 'tools-in-flight.LawS3598BRoundTrip': WHATEVER THE INPUT: true; the input reads as it did. -/
def lawS3598BRoundTripSpec : ChangeSpec := { name := "lawS3598BRoundTrip", fn := fun _ => fun
  | [d] => { results := [.lit (.bool true)], args := [d] }
  | _ => none }
def lawS3598BRoundTripRow : OpenClaim := { program := "ybulkbvmk", sum := "2c52a218b8652b0516d440e7f2b98388bc307c6118e7eebf62434cae77f637f7", func := "example.com/tools-in-flight/tools-in-flight.LawS3598BRoundTrip", spec := "lawS3598BRoundTrip", apart := false }
def LawS3598BRoundTripSaid : Prop := lawS3598BRoundTripRow.holds Yba.pinned (OpenSpec.ofChange lawS3598BRoundTripSpec)

/-- ITS FALSE NEIGHBOUR: 'it returns false'. Refute it at one input. -/
def lawS3598BRoundTripWrong : ChangeSpec := { name := "lawS3598BRoundTrip", fn := fun _ => fun
  | [d] => { results := [.lit (.bool false)], args := [d] }
  | _ => none }
def LawS3598BRoundTripWrongFalsely : Prop := lawS3598BRoundTripRow.holds Yba.pinned (OpenSpec.ofChange lawS3598BRoundTripWrong)

/-- 'jsontext.LawS3598CRaw': WHATEVER THE INPUT: true; the input reads as it did. -/
def lawS3598CRawSpec : ChangeSpec := { name := "lawS3598CRaw", fn := fun _ => fun
  | [d1, d2] => { results := [.lit (.bool true)], args := [d1, d2] }
  | _ => none }
def lawS3598CRawRow : OpenClaim := { program := "ybulkbvmk", sum := "2c52a218b8652b0516d440e7f2b98388bc307c6118e7eebf62434cae77f637f7", func := "example.com/tools-in-flight/tools-in-flight/internal/jsontext.LawS3598CRaw", spec := "lawS3598CRaw", apart := false }
def LawS3598CRawSaid : Prop := lawS3598CRawRow.holds Yba.pinned (OpenSpec.ofChange lawS3598CRawSpec)

/-- ITS FALSE NEIGHBOUR: 'it returns false'. Refute it at one input. -/
def lawS3598CRawWrong : ChangeSpec := { name := "lawS3598CRaw", fn := fun _ => fun
  | [d1, d2] => { results := [.lit (.bool false)], args := [d1, d2] }
  | _ => none }
def LawS3598CRawWrongFalsely : Prop := lawS3598CRawRow.holds Yba.pinned (OpenSpec.ofChange lawS3598CRawWrong)

/-- 'jsontext.LawS3598CMapped': WHATEVER THE INPUT: true; the input reads as it did. -/
def lawS3598CMappedSpec : ChangeSpec := { name := "lawS3598CMapped", fn := fun _ => fun
  | [d1, d2] => { results := [.lit (.bool true)], args := [d1, d2] }
  | _ => none }
def lawS3598CMappedRow : OpenClaim := { program := "ybulkbvmk", sum := "2c52a218b8652b0516d440e7f2b98388bc307c6118e7eebf62434cae77f637f7", func := "example.com/tools-in-flight/tools-in-flight/internal/jsontext.LawS3598CMapped", spec := "lawS3598CMapped", apart := false }
def LawS3598CMappedSaid : Prop := lawS3598CMappedRow.holds Yba.pinned (OpenSpec.ofChange lawS3598CMappedSpec)

/-- ITS FALSE NEIGHBOUR: 'it returns false'. Refute it at one input. -/
def lawS3598CMappedWrong : ChangeSpec := { name := "lawS3598CMapped", fn := fun _ => fun
  | [d1, d2] => { results := [.lit (.bool false)], args := [d1, d2] }
  | _ => none }
def LawS3598CMappedWrongFalsely : Prop := lawS3598CMappedRow.holds Yba.pinned (OpenSpec.ofChange lawS3598CMappedWrong)

end Rows
end Go.Proofs.Ybulkbvmk

/-
  No cell of these rows narrows 'for every input' (looked for: loops, veiled, ifaces, maps, wideKeys, modest, calm, conditions, laid).
  DERIVED. THE GIVEN ROWS OF THIS SEAT. 3 by the template 'for every input the law returns true; each argument reads behind the call as it read before'; 0 by the template 'total and deterministic' (their statements: Qxb6615617aTotals.lean).
  GIVEN WITH THE SEED: the statements are not yours to turn. If you find one false, say at which input.
  Laid BY PROGRAM, IN A SANDBOX (cutbox-rows.mjs): the forced cells as the released guide's own fill.sh prints them over the translation eef80b6cb44eaf95… (all of the seat's roots in one cut). By AI agents, Wed Nov 11 2026. No macro, syntax, notation, axiom, sorry.
-/
import Derived.Test.Qxb6615617aChecked
import GoSem.Claim
import GoSem.ClaimJoined
import GoSem.ClaimMapViews
import Derived.JoinedTies
import Derived.KernelRfl
namespace Go.Proofs.Qxb6615617a
/- THE CELL 'sum', in the pinned program and in every row, IS THE sha256 OF THE DUMP (.gsa) THAT Qxb6615617aProg.lean LOADS. Nothing in Lean hashes anything: it is a label: what it is worth is what the hold of that sum in a sandbox is worth. -/
noncomputable def Try.pinned : Pinned := { name := "qxb6615617a", sum := "eef80b6cb44eaf9576a04ac6b67022cbc53dbb08741cb11ee9a6d0cad5277a1e", checked := Try.checked }
namespace Rows
def none {H : Type} : Left H := { results := [], args := [] }

/-- 'zzlaws_root_b1.FnRunWordsShift': WHATEVER THE INPUT: true; the input reads as it did. -/
def fnRunWordsShiftSpec : ChangeSpec := { name := "fnRunWordsShift", fn := fun _ => fun
  | [d1, d2] => { results := [.lit (.bool true)], args := [d1, d2] }
  | _ => none }
def fnRunWordsShiftRow : OpenClaim := { program := "qxb6615617a", sum := "eef80b6cb44eaf9576a04ac6b67022cbc53dbb08741cb11ee9a6d0cad5277a1e", func := "example.com/pathaccord/pathaccord/zzlaws_root_b1.FnRunWordsShift", spec := "fnRunWordsShift", apart := false }
def FnRunWordsShiftSaid : Prop := fnRunWordsShiftRow.holds Try.pinned (OpenSpec.ofChange fnRunWordsShiftSpec)

/-- ITS FALSE NEIGHBOUR: 'it returns false'. Refute it at one input. -/
def fnRunWordsShiftWrong : ChangeSpec := { name := "fnRunWordsShift", fn := fun _ => fun
  | [d1, d2] => { results := [.lit (.bool false)], args := [d1, d2] }
  | _ => none }
def FnRunWordsShiftWrongFalsely : Prop := fnRunWordsShiftRow.holds Try.pinned (OpenSpec.ofChange fnRunWordsShiftWrong)

/-- 'zzlaws_root_b1.FnRunWordsStep': WHATEVER THE INPUT: true; the input reads as it did. -/
def fnRunWordsStepSpec : ChangeSpec := { name := "fnRunWordsStep", fn := fun _ => fun
  | [d] => { results := [.lit (.bool true)], args := [d] }
  | _ => none }
def fnRunWordsStepRow : OpenClaim := { program := "qxb6615617a", sum := "eef80b6cb44eaf9576a04ac6b67022cbc53dbb08741cb11ee9a6d0cad5277a1e", func := "example.com/pathaccord/pathaccord/zzlaws_root_b1.FnRunWordsStep", spec := "fnRunWordsStep", apart := false }
def FnRunWordsStepSaid : Prop := fnRunWordsStepRow.holds Try.pinned (OpenSpec.ofChange fnRunWordsStepSpec)

/-- ITS FALSE NEIGHBOUR: 'it returns false'. Refute it at one input. -/
def fnRunWordsStepWrong : ChangeSpec := { name := "fnRunWordsStep", fn := fun _ => fun
  | [d] => { results := [.lit (.bool false)], args := [d] }
  | _ => none }
def FnRunWordsStepWrongFalsely : Prop := fnRunWordsStepRow.holds Try.pinned (OpenSpec.ofChange fnRunWordsStepWrong)

/-- 'zzlaws_root_b1.FnAdmitsLeastSize': WHATEVER THE INPUT: true; the input reads as it did. -/
def fnAdmitsLeastSizeSpec : ChangeSpec := { name := "fnAdmitsLeastSize", fn := fun _ => fun
  | [d1, d2, d3, d4, d5, d6] => { results := [.lit (.bool true)], args := [d1, d2, d3, d4, d5, d6] }
  | _ => none }
def fnAdmitsLeastSizeRow : OpenClaim := { program := "qxb6615617a", sum := "eef80b6cb44eaf9576a04ac6b67022cbc53dbb08741cb11ee9a6d0cad5277a1e", func := "example.com/pathaccord/pathaccord/zzlaws_root_b1.FnAdmitsLeastSize", spec := "fnAdmitsLeastSize", apart := false }
def FnAdmitsLeastSizeSaid : Prop := fnAdmitsLeastSizeRow.holds Try.pinned (OpenSpec.ofChange fnAdmitsLeastSizeSpec)

/-- ITS FALSE NEIGHBOUR: 'it returns false'. Refute it at one input. -/
def fnAdmitsLeastSizeWrong : ChangeSpec := { name := "fnAdmitsLeastSize", fn := fun _ => fun
  | [d1, d2, d3, d4, d5, d6] => { results := [.lit (.bool false)], args := [d1, d2, d3, d4, d5, d6] }
  | _ => none }
def FnAdmitsLeastSizeWrongFalsely : Prop := fnAdmitsLeastSizeRow.holds Try.pinned (OpenSpec.ofChange fnAdmitsLeastSizeWrong)

end Rows
end Go.Proofs.Qxb6615617a

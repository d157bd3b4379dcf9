/-
  No cell of these rows narrows 'for every input' (looked for: loops, veiled, ifaces, maps, wideKeys, modest, calm, conditions, laid).
  DERIVED. THE GIVEN ROWS OF THIS SEAT. 2 by the template 'for every input the law returns true; each argument reads behind the call as it read before'; 0 by the template 'total and deterministic' (their statements: Qxb6615094aTotals.lean).
  GIVEN WITH THE SEED: the statements are not yours to turn. If you find one false, say at which input.
  Laid BY PROGRAM, IN A SANDBOX (cutbox-rows.mjs): the forced cells as the released guide's own fill.sh prints them over the translation 12e1d3f0e645a8bb… (all of the seat's roots in one cut). By AI agents, Wed Nov 11 2026. No macro, syntax, notation, axiom, sorry.
-/
import Derived.Test.Qxb6615094aChecked
import GoSem.Claim
import GoSem.ClaimJoined
import GoSem.ClaimMapViews
import Derived.JoinedTies
import Derived.KernelRfl
namespace Go.Proofs.Qxb6615094a
/- THE CELL 'sum', in the pinned program and in every row, IS THE sha256 OF THE DUMP (.gsa) THAT Qxb6615094aProg.lean LOADS. Nothing in Lean hashes anything: it is a label: what it is worth is what the hold of that sum in a sandbox is worth. -/
noncomputable def Try.pinned : Pinned := { name := "qxb6615094a", sum := "12e1d3f0e645a8bb2c40eee75a2abaee2148afe0be7dd5e96d06d887deed91d7", checked := Try.checked }
namespace Rows
def none {H : Type} : Left H := { results := [], args := [] }

/-- 'zzlaws_pkg_shell_b1.FnTypeOfResolvesPlainAndQualified': WHATEVER THE INPUT: true; the input reads as it did. -/
def fnTypeOfResolvesPlainAndQualifiedSpec : ChangeSpec := { name := "fnTypeOfResolvesPlainAndQualified", fn := fun _ => fun
  | [d1, d2, d3, d4] => { results := [.lit (.bool true)], args := [d1, d2, d3, d4] }
  | _ => none }
def fnTypeOfResolvesPlainAndQualifiedRow : OpenClaim := { program := "qxb6615094a", sum := "12e1d3f0e645a8bb2c40eee75a2abaee2148afe0be7dd5e96d06d887deed91d7", func := "example.com/acheron/acheron/zzlaws_pkg_shell_b1.FnTypeOfResolvesPlainAndQualified", spec := "fnTypeOfResolvesPlainAndQualified", plainKeys := false, apart := false }
def FnTypeOfResolvesPlainAndQualifiedSaid : Prop := fnTypeOfResolvesPlainAndQualifiedRow.holds Try.pinned (OpenSpec.ofChange fnTypeOfResolvesPlainAndQualifiedSpec)

/-- ITS FALSE NEIGHBOUR: 'it returns false'. Refute it at one input. -/
def fnTypeOfResolvesPlainAndQualifiedWrong : ChangeSpec := { name := "fnTypeOfResolvesPlainAndQualified", fn := fun _ => fun
  | [d1, d2, d3, d4] => { results := [.lit (.bool false)], args := [d1, d2, d3, d4] }
  | _ => none }
def FnTypeOfResolvesPlainAndQualifiedWrongFalsely : Prop := fnTypeOfResolvesPlainAndQualifiedRow.holds Try.pinned (OpenSpec.ofChange fnTypeOfResolvesPlainAndQualifiedWrong)

/-- 'zzlaws_pkg_shell_b1.FnTypeOfChangesOnlyAtTheAddedName': WHATEVER THE INPUT: true; the input reads as it did. -/
def fnTypeOfChangesOnlyAtTheAddedNameSpec : ChangeSpec := { name := "fnTypeOfChangesOnlyAtTheAddedName", fn := fun _ => fun
  | [d1, d2, d3, d4, d5, d6, d7] => { results := [.lit (.bool true)], args := [d1, d2, d3, d4, d5, d6, d7] }
  | _ => none }
def fnTypeOfChangesOnlyAtTheAddedNameRow : OpenClaim := { program := "qxb6615094a", sum := "12e1d3f0e645a8bb2c40eee75a2abaee2148afe0be7dd5e96d06d887deed91d7", func := "example.com/acheron/acheron/zzlaws_pkg_shell_b1.FnTypeOfChangesOnlyAtTheAddedName", spec := "fnTypeOfChangesOnlyAtTheAddedName", plainKeys := false, apart := false }
def FnTypeOfChangesOnlyAtTheAddedNameSaid : Prop := fnTypeOfChangesOnlyAtTheAddedNameRow.holds Try.pinned (OpenSpec.ofChange fnTypeOfChangesOnlyAtTheAddedNameSpec)

/-- ITS FALSE NEIGHBOUR: 'it returns false'. Refute it at one input. -/
def fnTypeOfChangesOnlyAtTheAddedNameWrong : ChangeSpec := { name := "fnTypeOfChangesOnlyAtTheAddedName", fn := fun _ => fun
  | [d1, d2, d3, d4, d5, d6, d7] => { results := [.lit (.bool false)], args := [d1, d2, d3, d4, d5, d6, d7] }
  | _ => none }
def FnTypeOfChangesOnlyAtTheAddedNameWrongFalsely : Prop := fnTypeOfChangesOnlyAtTheAddedNameRow.holds Try.pinned (OpenSpec.ofChange fnTypeOfChangesOnlyAtTheAddedNameWrong)

end Rows
end Go.Proofs.Qxb6615094a

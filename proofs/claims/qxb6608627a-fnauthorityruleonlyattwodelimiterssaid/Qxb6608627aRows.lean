/-
  No cell of these rows narrows 'for every input' (looked for: loops, veiled, ifaces, maps, wideKeys, modest, calm, conditions, laid).
  DERIVED. THE GIVEN ROWS OF THIS SEAT. 3 by the template 'for every input the law returns true; each argument reads behind the call as it read before'; 0 by the template 'total and deterministic' (their statements: Qxb6608627aTotals.lean).
  GIVEN WITH THE SEED: the statements are not yours to turn. If you find one false, say at which input.
  Laid BY PROGRAM, IN A SANDBOX (cutbox-rows.mjs): the forced cells as the released guide's own fill.sh prints them over the translation 41e54f371ad52d0d… (all of the seat's roots in one cut). By AI agents, Wed Nov 11 2026. No macro, syntax, notation, axiom, sorry.
-/
import Derived.Test.Qxb6608627aChecked
import GoSem.Claim
import GoSem.ClaimJoined
import GoSem.ClaimMapViews
import Derived.JoinedTies
import Derived.KernelRfl
namespace Go.Proofs.Qxb6608627a
/- THE CELL 'sum', in the pinned program and in every row, IS THE sha256 OF THE DUMP (.gsa) THAT Qxb6608627aProg.lean LOADS. Nothing in Lean hashes anything: it is a label: what it is worth is what the hold of that sum in a sandbox is worth. -/
noncomputable def Try.pinned : Pinned := { name := "qxb6608627a", sum := "41e54f371ad52d0df1a136af778a27362d945c51b66167540eff5c09f9c57fde", checked := Try.checked }
namespace Rows
def none {H : Type} : Left H := { results := [], args := [] }

/-- 'zzlaws_root_b1.FnAuthorityRuleOnlyAtTwoDelimiters': WHATEVER THE INPUT: true; the input reads as it did. -/
def fnAuthorityRuleOnlyAtTwoDelimitersSpec : ChangeSpec := { name := "fnAuthorityRuleOnlyAtTwoDelimiters", fn := fun _ => fun
  | [d] => { results := [.lit (.bool true)], args := [d] }
  | _ => none }
def fnAuthorityRuleOnlyAtTwoDelimitersRow : OpenClaim := { program := "qxb6608627a", sum := "41e54f371ad52d0df1a136af778a27362d945c51b66167540eff5c09f9c57fde", func := "example.com/bonafide/bonafide/zzlaws_root_b1.FnAuthorityRuleOnlyAtTwoDelimiters", spec := "fnAuthorityRuleOnlyAtTwoDelimiters", apart := false }
def FnAuthorityRuleOnlyAtTwoDelimitersSaid : Prop := fnAuthorityRuleOnlyAtTwoDelimitersRow.holds Try.pinned (OpenSpec.ofChange fnAuthorityRuleOnlyAtTwoDelimitersSpec)

/-- ITS FALSE NEIGHBOUR: 'it returns false'. Refute it at one input. -/
def fnAuthorityRuleOnlyAtTwoDelimitersWrong : ChangeSpec := { name := "fnAuthorityRuleOnlyAtTwoDelimiters", fn := fun _ => fun
  | [d] => { results := [.lit (.bool false)], args := [d] }
  | _ => none }
def FnAuthorityRuleOnlyAtTwoDelimitersWrongFalsely : Prop := fnAuthorityRuleOnlyAtTwoDelimitersRow.holds Try.pinned (OpenSpec.ofChange fnAuthorityRuleOnlyAtTwoDelimitersWrong)

/-- 'zzlaws_root_b1.FnBearerOTVIDReturnsWhatWasStored': WHATEVER THE INPUT: true; the input reads as it did. -/
def fnBearerOTVIDReturnsWhatWasStoredSpec : ChangeSpec := { name := "fnBearerOTVIDReturnsWhatWasStored", fn := fun _ => fun
  | [d1, d2] => { results := [.lit (.bool true)], args := [d1, d2] }
  | _ => none }
def fnBearerOTVIDReturnsWhatWasStoredRow : OpenClaim := { program := "qxb6608627a", sum := "41e54f371ad52d0df1a136af778a27362d945c51b66167540eff5c09f9c57fde", func := "example.com/bonafide/bonafide/zzlaws_root_b1.FnBearerOTVIDReturnsWhatWasStored", spec := "fnBearerOTVIDReturnsWhatWasStored", inPlace := ["internal/reflectlite.TypeOf"], unfollowed := true, recurses := true, apart := false }
def FnBearerOTVIDReturnsWhatWasStoredSaid : Prop := fnBearerOTVIDReturnsWhatWasStoredRow.holds Try.pinned (OpenSpec.ofChange fnBearerOTVIDReturnsWhatWasStoredSpec)

/-- ITS FALSE NEIGHBOUR: 'it returns false'. Refute it at one input. -/
def fnBearerOTVIDReturnsWhatWasStoredWrong : ChangeSpec := { name := "fnBearerOTVIDReturnsWhatWasStored", fn := fun _ => fun
  | [d1, d2] => { results := [.lit (.bool false)], args := [d1, d2] }
  | _ => none }
def FnBearerOTVIDReturnsWhatWasStoredWrongFalsely : Prop := fnBearerOTVIDReturnsWhatWasStoredRow.holds Try.pinned (OpenSpec.ofChange fnBearerOTVIDReturnsWhatWasStoredWrong)

/-- 'zzlaws_root_b1.FnBearerOTVIDRefusesAContextWithoutItsKey': WHATEVER THE INPUT: true; the input reads as it did. -/
def fnBearerOTVIDRefusesAContextWithoutItsKeySpec : ChangeSpec := { name := "fnBearerOTVIDRefusesAContextWithoutItsKey", fn := fun _ => fun
  | [d] => { results := [.lit (.bool true)], args := [d] }
  | _ => none }
def fnBearerOTVIDRefusesAContextWithoutItsKeyRow : OpenClaim := { program := "qxb6608627a", sum := "41e54f371ad52d0df1a136af778a27362d945c51b66167540eff5c09f9c57fde", func := "example.com/bonafide/bonafide/zzlaws_root_b1.FnBearerOTVIDRefusesAContextWithoutItsKey", spec := "fnBearerOTVIDRefusesAContextWithoutItsKey", inPlace := ["internal/reflectlite.TypeOf"], unfollowed := true, recurses := true, apart := false }
def FnBearerOTVIDRefusesAContextWithoutItsKeySaid : Prop := fnBearerOTVIDRefusesAContextWithoutItsKeyRow.holds Try.pinned (OpenSpec.ofChange fnBearerOTVIDRefusesAContextWithoutItsKeySpec)

/-- ITS FALSE NEIGHBOUR: 'it returns false'. Refute it at one input. -/
def fnBearerOTVIDRefusesAContextWithoutItsKeyWrong : ChangeSpec := { name := "fnBearerOTVIDRefusesAContextWithoutItsKey", fn := fun _ => fun
  | [d] => { results := [.lit (.bool false)], args := [d] }
  | _ => none }
def FnBearerOTVIDRefusesAContextWithoutItsKeyWrongFalsely : Prop := fnBearerOTVIDRefusesAContextWithoutItsKeyRow.holds Try.pinned (OpenSpec.ofChange fnBearerOTVIDRefusesAContextWithoutItsKeyWrong)

end Rows
end Go.Proofs.Qxb6608627a

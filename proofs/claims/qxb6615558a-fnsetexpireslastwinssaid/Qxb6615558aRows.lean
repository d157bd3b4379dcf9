/-
  No cell of these rows narrows 'for every input' (looked for: loops, veiled, ifaces, maps, wideKeys, modest, calm, conditions, laid).
  DERIVED. THE GIVEN ROWS OF THIS SEAT. 2 by the template 'for every input the law returns true; each argument reads behind the call as it read before'; 0 by the template 'total and deterministic' (their statements: Qxb6615558aTotals.lean).
  GIVEN WITH THE SEED: the statements are not yours to turn. If you find one false, say at which input.
  Laid BY PROGRAM, IN A SANDBOX (cutbox-rows.mjs): the forced cells as the released guide's own fill.sh prints them over the translation 78e5580848fd5443… (all of the seat's roots in one cut). By AI agents, Wed Nov 11 2026. No macro, syntax, notation, axiom, sorry.
-/
import Derived.Test.Qxb6615558aChecked
import GoSem.Claim
import GoSem.ClaimJoined
import GoSem.ClaimMapViews
import Derived.JoinedTies
import Derived.KernelRfl
namespace Go.Proofs.Qxb6615558a
/- THE CELL 'sum', in the pinned program and in every row, IS THE sha256 OF THE DUMP (.gsa) THAT Qxb6615558aProg.lean LOADS. Nothing in Lean hashes anything: it is a label: what it is worth is what the hold of that sum in a sandbox is worth. -/
noncomputable def Try.pinned : Pinned := { name := "qxb6615558a", sum := "78e5580848fd544337e5893ee8070bc257979482c869f2b5276d08a35855af82", checked := Try.checked }
namespace Rows
def none {H : Type} : Left H := { results := [], args := [] }

/-- 'zzlaws_root_b1.FnSetExpiresReadsBack': WHATEVER THE INPUT: true; the input reads as it did. -/
def fnSetExpiresReadsBackSpec : ChangeSpec := { name := "fnSetExpiresReadsBack", fn := fun _ => fun
  | [d1, d2, d3] => { results := [.lit (.bool true)], args := [d1, d2, d3] }
  | _ => none }
def fnSetExpiresReadsBackRow : OpenClaim := { program := "qxb6615558a", sum := "78e5580848fd544337e5893ee8070bc257979482c869f2b5276d08a35855af82", func := "example.com/latchkey/latchkey/zzlaws_root_b1.FnSetExpiresReadsBack", spec := "fnSetExpiresReadsBack", inPlace := ["(*internal/sync.Mutex).Lock", "internal/race.Disable", "sync/atomic.CompareAndSwapInt32", "internal/race.Enable", "internal/race.Acquire", "(*internal/sync.Mutex).lockSlow", "internal/sync.runtime_canSpin", "internal/sync.runtime_doSpin", "internal/sync.throw", "internal/sync.runtime_nanotime", "internal/sync.runtime_SemacquireMutex", "sync/atomic.AddInt32", "(*internal/sync.Mutex).Unlock", "internal/race.ReleaseMerge", "(*internal/sync.Mutex).unlockSlow", "internal/sync.fatal", "internal/sync.runtime_Semrelease"], apart := false }
def FnSetExpiresReadsBackSaid : Prop := fnSetExpiresReadsBackRow.holds Try.pinned (OpenSpec.ofChange fnSetExpiresReadsBackSpec)

/-- ITS FALSE NEIGHBOUR: 'it returns false'. Refute it at one input. -/
def fnSetExpiresReadsBackWrong : ChangeSpec := { name := "fnSetExpiresReadsBack", fn := fun _ => fun
  | [d1, d2, d3] => { results := [.lit (.bool false)], args := [d1, d2, d3] }
  | _ => none }
def FnSetExpiresReadsBackWrongFalsely : Prop := fnSetExpiresReadsBackRow.holds Try.pinned (OpenSpec.ofChange fnSetExpiresReadsBackWrong)

/-- 'zzlaws_root_b1.FnSetExpiresLastWins': WHATEVER THE INPUT: true; the input reads as it did. -/
def fnSetExpiresLastWinsSpec : ChangeSpec := { name := "fnSetExpiresLastWins", fn := fun _ => fun
  | [d1, d2, d3, d4] => { results := [.lit (.bool true)], args := [d1, d2, d3, d4] }
  | _ => none }
def fnSetExpiresLastWinsRow : OpenClaim := { program := "qxb6615558a", sum := "78e5580848fd544337e5893ee8070bc257979482c869f2b5276d08a35855af82", func := "example.com/latchkey/latchkey/zzlaws_root_b1.FnSetExpiresLastWins", spec := "fnSetExpiresLastWins", inPlace := ["(*internal/sync.Mutex).Lock", "internal/race.Disable", "sync/atomic.CompareAndSwapInt32", "internal/race.Enable", "internal/race.Acquire", "(*internal/sync.Mutex).lockSlow", "internal/sync.runtime_canSpin", "internal/sync.runtime_doSpin", "internal/sync.throw", "internal/sync.runtime_nanotime", "internal/sync.runtime_SemacquireMutex", "sync/atomic.AddInt32", "(*internal/sync.Mutex).Unlock", "internal/race.ReleaseMerge", "(*internal/sync.Mutex).unlockSlow", "internal/sync.fatal", "internal/sync.runtime_Semrelease"], apart := false }
def FnSetExpiresLastWinsSaid : Prop := fnSetExpiresLastWinsRow.holds Try.pinned (OpenSpec.ofChange fnSetExpiresLastWinsSpec)

/-- ITS FALSE NEIGHBOUR: 'it returns false'. Refute it at one input. -/
def fnSetExpiresLastWinsWrong : ChangeSpec := { name := "fnSetExpiresLastWins", fn := fun _ => fun
  | [d1, d2, d3, d4] => { results := [.lit (.bool false)], args := [d1, d2, d3, d4] }
  | _ => none }
def FnSetExpiresLastWinsWrongFalsely : Prop := fnSetExpiresLastWinsRow.holds Try.pinned (OpenSpec.ofChange fnSetExpiresLastWinsWrong)

end Rows
end Go.Proofs.Qxb6615558a

/-
  No cell of these rows narrows 'for every input' (looked for: loops, veiled, ifaces, maps, wideKeys, modest, calm, conditions, laid).
  DERIVED. THE GIVEN ROWS OF THIS SEAT. 4 by the template 'for every input the law returns true; each argument reads behind the call as it read before'; 0 by the template 'total and deterministic' (their statements: Qxb6616076aTotals.lean).
  GIVEN WITH THE SEED: the statements are not yours to turn. If you find one false, say at which input.
  Laid BY PROGRAM, IN A SANDBOX (cutbox-rows.mjs): the forced cells as the released guide's own fill.sh prints them over the translation b5464352261c6162… (all of the seat's roots in one cut). By AI agents, Wed Nov 11 2026. No macro, syntax, notation, axiom, sorry.
-/
import Derived.Test.Qxb6616076aChecked
import GoSem.Claim
import GoSem.ClaimJoined
import GoSem.ClaimMapViews
import Derived.JoinedTies
import Derived.KernelRfl
namespace Go.Proofs.Qxb6616076a
/- THE CELL 'sum', in the pinned program and in every row, IS THE sha256 OF THE DUMP (.gsa) THAT Qxb6616076aProg.lean LOADS. Nothing in Lean hashes anything: it is a label: what it is worth is what the hold of that sum in a sandbox is worth. -/
noncomputable def Try.pinned : Pinned := { name := "qxb6616076a", sum := "b5464352261c61621689aa65da1982ab4b416c7809cfaf45b88b5a71e457c6ee", checked := Try.checked }
namespace Rows
def none {H : Type} : Left H := { results := [], args := [] }

/-- 'zzlaws_analysis_b1.FnBranchCloneOfCloneIsOwnCopy': WHATEVER THE INPUT: true; the input reads as it did. -/
def fnBranchCloneOfCloneIsOwnCopySpec : ChangeSpec := { name := "fnBranchCloneOfCloneIsOwnCopy", fn := fun _ => fun
  | [d1, d2, d3, d4, d5, d6, d7, d8, d9, d10] => { results := [.lit (.bool true)], args := [d1, d2, d3, d4, d5, d6, d7, d8, d9, d10] }
  | _ => none }
def fnBranchCloneOfCloneIsOwnCopyRow : OpenClaim := { program := "qxb6616076a", sum := "b5464352261c61621689aa65da1982ab4b416c7809cfaf45b88b5a71e457c6ee", func := "example.com/quorate/quorate/zzlaws_analysis_b1.FnBranchCloneOfCloneIsOwnCopy", spec := "fnBranchCloneOfCloneIsOwnCopy", apart := false }
def FnBranchCloneOfCloneIsOwnCopySaid : Prop := fnBranchCloneOfCloneIsOwnCopyRow.holds Try.pinned (OpenSpec.ofChange fnBranchCloneOfCloneIsOwnCopySpec)

/-- ITS FALSE NEIGHBOUR: 'it returns false'. Refute it at one input. -/
def fnBranchCloneOfCloneIsOwnCopyWrong : ChangeSpec := { name := "fnBranchCloneOfCloneIsOwnCopy", fn := fun _ => fun
  | [d1, d2, d3, d4, d5, d6, d7, d8, d9, d10] => { results := [.lit (.bool false)], args := [d1, d2, d3, d4, d5, d6, d7, d8, d9, d10] }
  | _ => none }
def FnBranchCloneOfCloneIsOwnCopyWrongFalsely : Prop := fnBranchCloneOfCloneIsOwnCopyRow.holds Try.pinned (OpenSpec.ofChange fnBranchCloneOfCloneIsOwnCopyWrong)

/-- 'zzlaws_analysis_b1.FnBranchCloneSharesEligibleOnly': WHATEVER THE INPUT: true; the input reads as it did. -/
def fnBranchCloneSharesEligibleOnlySpec : ChangeSpec := { name := "fnBranchCloneSharesEligibleOnly", fn := fun _ => fun
  | [d1, d2, d3, d4, d5, d6, d7, d8, d9, d10] => { results := [.lit (.bool true)], args := [d1, d2, d3, d4, d5, d6, d7, d8, d9, d10] }
  | _ => none }
def fnBranchCloneSharesEligibleOnlyRow : OpenClaim := { program := "qxb6616076a", sum := "b5464352261c61621689aa65da1982ab4b416c7809cfaf45b88b5a71e457c6ee", func := "example.com/quorate/quorate/zzlaws_analysis_b1.FnBranchCloneSharesEligibleOnly", spec := "fnBranchCloneSharesEligibleOnly", apart := false }
def FnBranchCloneSharesEligibleOnlySaid : Prop := fnBranchCloneSharesEligibleOnlyRow.holds Try.pinned (OpenSpec.ofChange fnBranchCloneSharesEligibleOnlySpec)

/-- ITS FALSE NEIGHBOUR: 'it returns false'. Refute it at one input. -/
def fnBranchCloneSharesEligibleOnlyWrong : ChangeSpec := { name := "fnBranchCloneSharesEligibleOnly", fn := fun _ => fun
  | [d1, d2, d3, d4, d5, d6, d7, d8, d9, d10] => { results := [.lit (.bool false)], args := [d1, d2, d3, d4, d5, d6, d7, d8, d9, d10] }
  | _ => none }
def FnBranchCloneSharesEligibleOnlyWrongFalsely : Prop := fnBranchCloneSharesEligibleOnlyRow.holds Try.pinned (OpenSpec.ofChange fnBranchCloneSharesEligibleOnlyWrong)

/-- 'zzlaws_analysis_b1.FnLoneWorkFinishRecordsAndAdvances': WHATEVER THE INPUT: true; the input reads as it did. -/
def fnLoneWorkFinishRecordsAndAdvancesSpec : ChangeSpec := { name := "fnLoneWorkFinishRecordsAndAdvances", fn := fun _ => fun
  | [d1, d2, d3, d4, d5, d6, d7, d8, d9] => { results := [.lit (.bool true)], args := [d1, d2, d3, d4, d5, d6, d7, d8, d9] }
  | _ => none }
def fnLoneWorkFinishRecordsAndAdvancesRow : OpenClaim := { program := "qxb6616076a", sum := "b5464352261c61621689aa65da1982ab4b416c7809cfaf45b88b5a71e457c6ee", func := "example.com/quorate/quorate/zzlaws_analysis_b1.FnLoneWorkFinishRecordsAndAdvances", spec := "fnLoneWorkFinishRecordsAndAdvances", inPlace := ["(*internal/sync.Mutex).Lock", "internal/race.Disable", "sync/atomic.CompareAndSwapInt32", "internal/race.Enable", "internal/race.Acquire", "(*internal/sync.Mutex).lockSlow", "internal/sync.runtime_canSpin", "internal/sync.runtime_doSpin", "internal/sync.throw", "internal/sync.runtime_nanotime", "internal/sync.runtime_SemacquireMutex", "sync/atomic.AddInt32", "(*internal/sync.Mutex).Unlock", "internal/race.ReleaseMerge", "(*internal/sync.Mutex).unlockSlow", "internal/sync.fatal", "internal/sync.runtime_Semrelease"], apart := false }
def FnLoneWorkFinishRecordsAndAdvancesSaid : Prop := fnLoneWorkFinishRecordsAndAdvancesRow.holds Try.pinned (OpenSpec.ofChange fnLoneWorkFinishRecordsAndAdvancesSpec)

/-- ITS FALSE NEIGHBOUR: 'it returns false'. Refute it at one input. -/
def fnLoneWorkFinishRecordsAndAdvancesWrong : ChangeSpec := { name := "fnLoneWorkFinishRecordsAndAdvances", fn := fun _ => fun
  | [d1, d2, d3, d4, d5, d6, d7, d8, d9] => { results := [.lit (.bool false)], args := [d1, d2, d3, d4, d5, d6, d7, d8, d9] }
  | _ => none }
def FnLoneWorkFinishRecordsAndAdvancesWrongFalsely : Prop := fnLoneWorkFinishRecordsAndAdvancesRow.holds Try.pinned (OpenSpec.ofChange fnLoneWorkFinishRecordsAndAdvancesWrong)

/-- 'zzlaws_analysis_b1.FnLoneWorkAnyOrderTellsAloneWork': WHATEVER THE INPUT: true; the input reads as it did. -/
def fnLoneWorkAnyOrderTellsAloneWorkSpec : ChangeSpec := { name := "fnLoneWorkAnyOrderTellsAloneWork", fn := fun _ => fun
  | [d1, d2, d3, d4] => { results := [.lit (.bool true)], args := [d1, d2, d3, d4] }
  | _ => none }
def fnLoneWorkAnyOrderTellsAloneWorkRow : OpenClaim := { program := "qxb6616076a", sum := "b5464352261c61621689aa65da1982ab4b416c7809cfaf45b88b5a71e457c6ee", func := "example.com/quorate/quorate/zzlaws_analysis_b1.FnLoneWorkAnyOrderTellsAloneWork", spec := "fnLoneWorkAnyOrderTellsAloneWork", inPlace := ["(*internal/sync.Mutex).Lock", "internal/race.Disable", "sync/atomic.CompareAndSwapInt32", "internal/race.Enable", "internal/race.Acquire", "(*internal/sync.Mutex).lockSlow", "internal/sync.runtime_canSpin", "internal/sync.runtime_doSpin", "internal/sync.throw", "internal/sync.runtime_nanotime", "internal/sync.runtime_SemacquireMutex", "sync/atomic.AddInt32", "(*internal/sync.Mutex).Unlock", "internal/race.ReleaseMerge", "(*internal/sync.Mutex).unlockSlow", "internal/sync.fatal", "internal/sync.runtime_Semrelease"], apart := false }
def FnLoneWorkAnyOrderTellsAloneWorkSaid : Prop := fnLoneWorkAnyOrderTellsAloneWorkRow.holds Try.pinned (OpenSpec.ofChange fnLoneWorkAnyOrderTellsAloneWorkSpec)

/-- ITS FALSE NEIGHBOUR: 'it returns false'. Refute it at one input. -/
def fnLoneWorkAnyOrderTellsAloneWorkWrong : ChangeSpec := { name := "fnLoneWorkAnyOrderTellsAloneWork", fn := fun _ => fun
  | [d1, d2, d3, d4] => { results := [.lit (.bool false)], args := [d1, d2, d3, d4] }
  | _ => none }
def FnLoneWorkAnyOrderTellsAloneWorkWrongFalsely : Prop := fnLoneWorkAnyOrderTellsAloneWorkRow.holds Try.pinned (OpenSpec.ofChange fnLoneWorkAnyOrderTellsAloneWorkWrong)

end Rows
end Go.Proofs.Qxb6616076a

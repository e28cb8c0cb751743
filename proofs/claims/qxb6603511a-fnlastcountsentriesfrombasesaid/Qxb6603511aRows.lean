/-
  No cell of these rows narrows 'for every input' (looked for: loops, veiled, ifaces, maps, wideKeys, modest, calm, conditions, laid).
  DERIVED. THE GIVEN ROWS OF THIS SEAT. 4 by the template 'for every input the law returns true; each argument reads behind the call as it read before'; 0 by the template 'total and deterministic' (their statements: Qxb6603511aTotals.lean).
  GIVEN WITH THE SEED: the statements are not yours to turn. If you find one false, say at which input.
  Laid BY PROGRAM, IN A SANDBOX (cutbox-rows.mjs): the forced cells as the released guide's own fill.sh prints them over the translation 1a87c3fd340a5e0c… (all of the seat's roots in one cut). By AI agents, Wed Nov 11 2026. No macro, syntax, notation, axiom, sorry.
-/
import Derived.Test.Qxb6603511aChecked
import GoSem.Claim
import GoSem.ClaimJoined
import GoSem.ClaimMapViews
import Derived.JoinedTies
import Derived.KernelRfl
namespace Go.Proofs.Qxb6603511a
/- THE CELL 'sum', in the pinned program and in every row, IS THE sha256 OF THE DUMP (.gsa) THAT Qxb6603511aProg.lean LOADS. Nothing in Lean hashes anything: it is a label: what it is worth is what the hold of that sum in a sandbox is worth. -/
noncomputable def Try.pinned : Pinned := { name := "qxb6603511a", sum := "1a87c3fd340a5e0cffaeba4d19a693af17c8d65f01b6188cec7e4adcd5997a49", checked := Try.checked }
namespace Rows
def none {H : Type} : Left H := { results := [], args := [] }

/-- 'zzlaws_store_b1.FnFinishedDroppedFromIsSaturatingSuccessor': WHATEVER THE INPUT: true; the input reads as it did. -/
def fnFinishedDroppedFromIsSaturatingSuccessorSpec : ChangeSpec := { name := "fnFinishedDroppedFromIsSaturatingSuccessor", fn := fun _ => fun
  | [d] => { results := [.lit (.bool true)], args := [d] }
  | _ => none }
def fnFinishedDroppedFromIsSaturatingSuccessorRow : OpenClaim := { program := "qxb6603511a", sum := "1a87c3fd340a5e0cffaeba4d19a693af17c8d65f01b6188cec7e4adcd5997a49", func := "example.com/concordat/concordat/zzlaws_store_b1.FnFinishedDroppedFromIsSaturatingSuccessor", spec := "fnFinishedDroppedFromIsSaturatingSuccessor", plainKeys := false, apart := false }
def FnFinishedDroppedFromIsSaturatingSuccessorSaid : Prop := fnFinishedDroppedFromIsSaturatingSuccessorRow.holds Try.pinned (OpenSpec.ofChange fnFinishedDroppedFromIsSaturatingSuccessorSpec)

/-- ITS FALSE NEIGHBOUR: 'it returns false'. Refute it at one input. -/
def fnFinishedDroppedFromIsSaturatingSuccessorWrong : ChangeSpec := { name := "fnFinishedDroppedFromIsSaturatingSuccessor", fn := fun _ => fun
  | [d] => { results := [.lit (.bool false)], args := [d] }
  | _ => none }
def FnFinishedDroppedFromIsSaturatingSuccessorWrongFalsely : Prop := fnFinishedDroppedFromIsSaturatingSuccessorRow.holds Try.pinned (OpenSpec.ofChange fnFinishedDroppedFromIsSaturatingSuccessorWrong)

/-- 'zzlaws_store_b1.FnFinishedDroppedExactlyAtHorizonsPastTs': WHATEVER THE INPUT: true; the input reads as it did. -/
def fnFinishedDroppedExactlyAtHorizonsPastTsSpec : ChangeSpec := { name := "fnFinishedDroppedExactlyAtHorizonsPastTs", fn := fun _ => fun
  | [d1, d2] => { results := [.lit (.bool true)], args := [d1, d2] }
  | _ => none }
def fnFinishedDroppedExactlyAtHorizonsPastTsRow : OpenClaim := { program := "qxb6603511a", sum := "1a87c3fd340a5e0cffaeba4d19a693af17c8d65f01b6188cec7e4adcd5997a49", func := "example.com/concordat/concordat/zzlaws_store_b1.FnFinishedDroppedExactlyAtHorizonsPastTs", spec := "fnFinishedDroppedExactlyAtHorizonsPastTs", plainKeys := false, apart := false }
def FnFinishedDroppedExactlyAtHorizonsPastTsSaid : Prop := fnFinishedDroppedExactlyAtHorizonsPastTsRow.holds Try.pinned (OpenSpec.ofChange fnFinishedDroppedExactlyAtHorizonsPastTsSpec)

/-- ITS FALSE NEIGHBOUR: 'it returns false'. Refute it at one input. -/
def fnFinishedDroppedExactlyAtHorizonsPastTsWrong : ChangeSpec := { name := "fnFinishedDroppedExactlyAtHorizonsPastTs", fn := fun _ => fun
  | [d1, d2] => { results := [.lit (.bool false)], args := [d1, d2] }
  | _ => none }
def FnFinishedDroppedExactlyAtHorizonsPastTsWrongFalsely : Prop := fnFinishedDroppedExactlyAtHorizonsPastTsRow.holds Try.pinned (OpenSpec.ofChange fnFinishedDroppedExactlyAtHorizonsPastTsWrong)

/-- 'zzlaws_store_b1.FnLastCountsEntriesFromBase': WHATEVER THE INPUT: true; the input reads as it did. -/
def fnLastCountsEntriesFromBaseSpec : ChangeSpec := { name := "fnLastCountsEntriesFromBase", fn := fun _ => fun
  | [d1, d2] => { results := [.lit (.bool true)], args := [d1, d2] }
  | _ => none }
def fnLastCountsEntriesFromBaseRow : OpenClaim := { program := "qxb6603511a", sum := "1a87c3fd340a5e0cffaeba4d19a693af17c8d65f01b6188cec7e4adcd5997a49", func := "example.com/concordat/concordat/zzlaws_store_b1.FnLastCountsEntriesFromBase", spec := "fnLastCountsEntriesFromBase", plainKeys := false, apart := false }
def FnLastCountsEntriesFromBaseSaid : Prop := fnLastCountsEntriesFromBaseRow.holds Try.pinned (OpenSpec.ofChange fnLastCountsEntriesFromBaseSpec)

/-- ITS FALSE NEIGHBOUR: 'it returns false'. Refute it at one input. -/
def fnLastCountsEntriesFromBaseWrong : ChangeSpec := { name := "fnLastCountsEntriesFromBase", fn := fun _ => fun
  | [d1, d2] => { results := [.lit (.bool false)], args := [d1, d2] }
  | _ => none }
def FnLastCountsEntriesFromBaseWrongFalsely : Prop := fnLastCountsEntriesFromBaseRow.holds Try.pinned (OpenSpec.ofChange fnLastCountsEntriesFromBaseWrong)

/-- 'zzlaws_store_b1.FnLastUnmovedBySnapshot': WHATEVER THE INPUT: true; the input reads as it did. -/
def fnLastUnmovedBySnapshotSpec : ChangeSpec := { name := "fnLastUnmovedBySnapshot", fn := fun _ => fun
  | [d1, d2, d3] => { results := [.lit (.bool true)], args := [d1, d2, d3] }
  | _ => none }
def fnLastUnmovedBySnapshotRow : OpenClaim := { program := "qxb6603511a", sum := "1a87c3fd340a5e0cffaeba4d19a693af17c8d65f01b6188cec7e4adcd5997a49", func := "example.com/concordat/concordat/zzlaws_store_b1.FnLastUnmovedBySnapshot", spec := "fnLastUnmovedBySnapshot", plainKeys := false, apart := false }
def FnLastUnmovedBySnapshotSaid : Prop := fnLastUnmovedBySnapshotRow.holds Try.pinned (OpenSpec.ofChange fnLastUnmovedBySnapshotSpec)

/-- ITS FALSE NEIGHBOUR: 'it returns false'. Refute it at one input. -/
def fnLastUnmovedBySnapshotWrong : ChangeSpec := { name := "fnLastUnmovedBySnapshot", fn := fun _ => fun
  | [d1, d2, d3] => { results := [.lit (.bool false)], args := [d1, d2, d3] }
  | _ => none }
def FnLastUnmovedBySnapshotWrongFalsely : Prop := fnLastUnmovedBySnapshotRow.holds Try.pinned (OpenSpec.ofChange fnLastUnmovedBySnapshotWrong)

end Rows
end Go.Proofs.Qxb6603511a

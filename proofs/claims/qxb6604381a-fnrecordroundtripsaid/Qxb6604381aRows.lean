/-
  No cell of these rows narrows 'for every input' (looked for: loops, veiled, ifaces, maps, wideKeys, modest, calm, conditions, laid).
  DERIVED. THE GIVEN ROWS OF THIS SEAT. 2 by the template 'for every input the law returns true; each argument reads behind the call as it read before'; 0 by the template 'total and deterministic' (their statements: Qxb6604381aTotals.lean).
  GIVEN WITH THE SEED: the statements are not yours to turn. If you find one false, say at which input.
  Laid BY PROGRAM, IN A SANDBOX (cutbox-rows.mjs): the forced cells as the released guide's own fill.sh prints them over the translation d65570231bf08510… (all of the seat's roots in one cut). By AI agents, Wed Nov 11 2026. No macro, syntax, notation, axiom, sorry.
-/
import Derived.Test.Qxb6604381aChecked
import GoSem.Claim
import GoSem.ClaimJoined
import GoSem.ClaimMapViews
import Derived.JoinedTies
import Derived.KernelRfl
namespace Go.Proofs.Qxb6604381a
/- THE CELL 'sum', in the pinned program and in every row, IS THE sha256 OF THE DUMP (.gsa) THAT Qxb6604381aProg.lean LOADS. Nothing in Lean hashes anything: it is a label: what it is worth is what the hold of that sum in a sandbox is worth. -/
noncomputable def Try.pinned : Pinned := { name := "qxb6604381a", sum := "d65570231bf085105e2a8b1c532046573e0dc437ed23f39bee42d1fe16c25fcd", checked := Try.checked }
namespace Rows
def none {H : Type} : Left H := { results := [], args := [] }

/-- 'zzlaws_internal_input_b1.FnCharacterNameRoundTrip': WHATEVER THE INPUT: true; the input reads as it did. -/
def fnCharacterNameRoundTripSpec : ChangeSpec := { name := "fnCharacterNameRoundTrip", fn := fun _ => fun
  | [d1, d2] => { results := [.lit (.bool true)], args := [d1, d2] }
  | _ => none }
def fnCharacterNameRoundTripRow : OpenClaim := { program := "qxb6604381a", sum := "d65570231bf085105e2a8b1c532046573e0dc437ed23f39bee42d1fe16c25fcd", func := "example.com/quotite/quotite/zzlaws_internal_input_b1.FnCharacterNameRoundTrip", spec := "fnCharacterNameRoundTrip", apart := false }
def FnCharacterNameRoundTripSaid : Prop := fnCharacterNameRoundTripRow.holds Try.pinned (OpenSpec.ofChange fnCharacterNameRoundTripSpec)

/-- ITS FALSE NEIGHBOUR: 'it returns false'. Refute it at one input. -/
def fnCharacterNameRoundTripWrong : ChangeSpec := { name := "fnCharacterNameRoundTrip", fn := fun _ => fun
  | [d1, d2] => { results := [.lit (.bool false)], args := [d1, d2] }
  | _ => none }
def FnCharacterNameRoundTripWrongFalsely : Prop := fnCharacterNameRoundTripRow.holds Try.pinned (OpenSpec.ofChange fnCharacterNameRoundTripWrong)

/-- 'zzlaws_internal_input_b1.FnRecordRoundTrip': WHATEVER THE INPUT: true; the input reads as it did. -/
def fnRecordRoundTripSpec : ChangeSpec := { name := "fnRecordRoundTrip", fn := fun _ => fun
  | [d1, d2, d3, d4, d5] => { results := [.lit (.bool true)], args := [d1, d2, d3, d4, d5] }
  | _ => none }
def fnRecordRoundTripRow : OpenClaim := { program := "qxb6604381a", sum := "d65570231bf085105e2a8b1c532046573e0dc437ed23f39bee42d1fe16c25fcd", func := "example.com/quotite/quotite/zzlaws_internal_input_b1.FnRecordRoundTrip", spec := "fnRecordRoundTrip", apart := false }
def FnRecordRoundTripSaid : Prop := fnRecordRoundTripRow.holds Try.pinned (OpenSpec.ofChange fnRecordRoundTripSpec)

/-- ITS FALSE NEIGHBOUR: 'it returns false'. Refute it at one input. -/
def fnRecordRoundTripWrong : ChangeSpec := { name := "fnRecordRoundTrip", fn := fun _ => fun
  | [d1, d2, d3, d4, d5] => { results := [.lit (.bool false)], args := [d1, d2, d3, d4, d5] }
  | _ => none }
def FnRecordRoundTripWrongFalsely : Prop := fnRecordRoundTripRow.holds Try.pinned (OpenSpec.ofChange fnRecordRoundTripWrong)

end Rows
end Go.Proofs.Qxb6604381a

/-
  No cell of these rows narrows 'for every input' (looked for: loops, veiled, ifaces, maps, wideKeys, modest, calm, conditions, laid).
  DERIVED. THE GIVEN ROWS OF THIS SEAT. 2 by the template 'for every input the law returns true; each argument reads behind the call as it read before'; 0 by the template 'total and deterministic' (their statements: Qxb6631332aTotals.lean).
  GIVEN WITH THE SEED: the statements are not yours to turn. If you find one false, say at which input.
  Laid BY PROGRAM, IN A SANDBOX (cutbox-rows.mjs): the forced cells as the released guide's own fill.sh prints them over the translation c3878cecff9925c2… (all of the seat's roots in one cut). By AI agents, Wed Nov 11 2026. No macro, syntax, notation, axiom, sorry.
-/
import Derived.Test.Qxb6631332aChecked
import GoSem.Claim
import GoSem.ClaimJoined
import GoSem.ClaimMapViews
import Derived.JoinedTies
import Derived.KernelRfl
namespace Go.Proofs.Qxb6631332a
/- THE CELL 'sum', in the pinned program and in every row, IS THE sha256 OF THE DUMP (.gsa) THAT Qxb6631332aProg.lean LOADS. Nothing in Lean hashes anything: it is a label: what it is worth is what the hold of that sum in a sandbox is worth. -/
noncomputable def Try.pinned : Pinned := { name := "qxb6631332a", sum := "c3878cecff9925c216261e05d5aef56a57c9eec6a509738ba8eca62b34209e87", checked := Try.checked }
namespace Rows
def none {H : Type} : Left H := { results := [], args := [] }

/-- 'zzlaws_internal_sim_b1.FnCrashesInsertOneAtAnyPlace': WHATEVER THE INPUT: true; the input reads as it did. -/
def fnCrashesInsertOneAtAnyPlaceSpec : ChangeSpec := { name := "fnCrashesInsertOneAtAnyPlace", fn := fun _ => fun
  | [d1, d2, d3, d4, d5] => { results := [.lit (.bool true)], args := [d1, d2, d3, d4, d5] }
  | _ => none }
def fnCrashesInsertOneAtAnyPlaceRow : OpenClaim := { program := "qxb6631332a", sum := "c3878cecff9925c216261e05d5aef56a57c9eec6a509738ba8eca62b34209e87", func := "example.com/tacit/tacit/zzlaws_internal_sim_b1.FnCrashesInsertOneAtAnyPlace", spec := "fnCrashesInsertOneAtAnyPlace", apart := false }
def FnCrashesInsertOneAtAnyPlaceSaid : Prop := fnCrashesInsertOneAtAnyPlaceRow.holds Try.pinned (OpenSpec.ofChange fnCrashesInsertOneAtAnyPlaceSpec)

/-- ITS FALSE NEIGHBOUR: 'it returns false'. Refute it at one input. -/
def fnCrashesInsertOneAtAnyPlaceWrong : ChangeSpec := { name := "fnCrashesInsertOneAtAnyPlace", fn := fun _ => fun
  | [d1, d2, d3, d4, d5] => { results := [.lit (.bool false)], args := [d1, d2, d3, d4, d5] }
  | _ => none }
def FnCrashesInsertOneAtAnyPlaceWrongFalsely : Prop := fnCrashesInsertOneAtAnyPlaceRow.holds Try.pinned (OpenSpec.ofChange fnCrashesInsertOneAtAnyPlaceWrong)

/-- 'zzlaws_internal_sim_b1.FnCrashesComplementAndCut': WHATEVER THE INPUT: true; the input reads as it did. -/
def fnCrashesComplementAndCutSpec : ChangeSpec := { name := "fnCrashesComplementAndCut", fn := fun _ => fun
  | [d1, d2, d3, d4] => { results := [.lit (.bool true)], args := [d1, d2, d3, d4] }
  | _ => none }
def fnCrashesComplementAndCutRow : OpenClaim := { program := "qxb6631332a", sum := "c3878cecff9925c216261e05d5aef56a57c9eec6a509738ba8eca62b34209e87", func := "example.com/tacit/tacit/zzlaws_internal_sim_b1.FnCrashesComplementAndCut", spec := "fnCrashesComplementAndCut", apart := false }
def FnCrashesComplementAndCutSaid : Prop := fnCrashesComplementAndCutRow.holds Try.pinned (OpenSpec.ofChange fnCrashesComplementAndCutSpec)

/-- ITS FALSE NEIGHBOUR: 'it returns false'. Refute it at one input. -/
def fnCrashesComplementAndCutWrong : ChangeSpec := { name := "fnCrashesComplementAndCut", fn := fun _ => fun
  | [d1, d2, d3, d4] => { results := [.lit (.bool false)], args := [d1, d2, d3, d4] }
  | _ => none }
def FnCrashesComplementAndCutWrongFalsely : Prop := fnCrashesComplementAndCutRow.holds Try.pinned (OpenSpec.ofChange fnCrashesComplementAndCutWrong)

end Rows
end Go.Proofs.Qxb6631332a

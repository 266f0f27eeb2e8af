/-
  No cell of these rows narrows 'for every input' (looked for: loops, veiled, ifaces, maps, wideKeys, modest, calm, conditions, laid).
  DERIVED. THE GIVEN ROWS OF THIS SEAT. 2 by the template 'for every input the law returns true; each argument reads behind the call as it read before'; 0 by the template 'total and deterministic' (their statements: Qxb6632262aTotals.lean).
  GIVEN WITH THE SEED: the statements are not yours to turn. If you find one false, say at which input.
  Laid BY PROGRAM, IN A SANDBOX (cutbox-rows.mjs): the forced cells as the released guide's own fill.sh prints them over the translation 948a027fb2e47fcc… (all of the seat's roots in one cut). By AI agents, Wed Nov 11 2026. No macro, syntax, notation, axiom, sorry.
-/
import Derived.Test.Qxb6632262aChecked
import GoSem.Claim
import GoSem.ClaimJoined
import GoSem.ClaimMapViews
import Derived.JoinedTies
import Derived.KernelRfl
namespace Go.Proofs.Qxb6632262a
/- THE CELL 'sum', in the pinned program and in every row, IS THE sha256 OF THE DUMP (.gsa) THAT Qxb6632262aProg.lean LOADS. Nothing in Lean hashes anything: it is a label: what it is worth is what the hold of that sum in a sandbox is worth. -/
noncomputable def Try.pinned : Pinned := { name := "qxb6632262a", sum := "948a027fb2e47fcc963e6b3007aff2f31a93bc30a14fa01244c6734c663642bf", checked := Try.checked }
namespace Rows
def none {H : Type} : Left H := { results := [], args := [] }

/-- 'zzlaws_pkg_protocol_b1.FnIsValidNameEphemeralTwin': WHATEVER THE INPUT: true; the input reads as it did. -/
def fnIsValidNameEphemeralTwinSpec : ChangeSpec := { name := "fnIsValidNameEphemeralTwin", fn := fun _ => fun
  | [d] => { results := [.lit (.bool true)], args := [d] }
  | _ => none }
def fnIsValidNameEphemeralTwinRow : OpenClaim := { program := "qxb6632262a", sum := "948a027fb2e47fcc963e6b3007aff2f31a93bc30a14fa01244c6734c663642bf", func := "example.com/lieferung/lieferung/zzlaws_pkg_protocol_b1.FnIsValidNameEphemeralTwin", spec := "fnIsValidNameEphemeralTwin", apart := false }
def FnIsValidNameEphemeralTwinSaid : Prop := fnIsValidNameEphemeralTwinRow.holds Try.pinned (OpenSpec.ofChange fnIsValidNameEphemeralTwinSpec)

/-- ITS FALSE NEIGHBOUR: 'it returns false'. Refute it at one input. -/
def fnIsValidNameEphemeralTwinWrong : ChangeSpec := { name := "fnIsValidNameEphemeralTwin", fn := fun _ => fun
  | [d] => { results := [.lit (.bool false)], args := [d] }
  | _ => none }
def FnIsValidNameEphemeralTwinWrongFalsely : Prop := fnIsValidNameEphemeralTwinRow.holds Try.pinned (OpenSpec.ofChange fnIsValidNameEphemeralTwinWrong)

/-- 'zzlaws_pkg_protocol_b1.FnIsValidNameByteDecomposition': WHATEVER THE INPUT: true; the input reads as it did. -/
def fnIsValidNameByteDecompositionSpec : ChangeSpec := { name := "fnIsValidNameByteDecomposition", fn := fun _ => fun
  | [d] => { results := [.lit (.bool true)], args := [d] }
  | _ => none }
def fnIsValidNameByteDecompositionRow : OpenClaim := { program := "qxb6632262a", sum := "948a027fb2e47fcc963e6b3007aff2f31a93bc30a14fa01244c6734c663642bf", func := "example.com/lieferung/lieferung/zzlaws_pkg_protocol_b1.FnIsValidNameByteDecomposition", spec := "fnIsValidNameByteDecomposition", apart := false }
def FnIsValidNameByteDecompositionSaid : Prop := fnIsValidNameByteDecompositionRow.holds Try.pinned (OpenSpec.ofChange fnIsValidNameByteDecompositionSpec)

/-- ITS FALSE NEIGHBOUR: 'it returns false'. Refute it at one input. -/
def fnIsValidNameByteDecompositionWrong : ChangeSpec := { name := "fnIsValidNameByteDecomposition", fn := fun _ => fun
  | [d] => { results := [.lit (.bool false)], args := [d] }
  | _ => none }
def FnIsValidNameByteDecompositionWrongFalsely : Prop := fnIsValidNameByteDecompositionRow.holds Try.pinned (OpenSpec.ofChange fnIsValidNameByteDecompositionWrong)

end Rows
end Go.Proofs.Qxb6632262a

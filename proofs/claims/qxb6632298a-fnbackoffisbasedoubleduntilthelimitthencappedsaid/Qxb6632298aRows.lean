/-
  No cell of these rows narrows 'for every input' (looked for: loops, veiled, ifaces, maps, wideKeys, modest, calm, conditions, laid).
  DERIVED. THE GIVEN ROWS OF THIS SEAT. 2 by the template 'for every input the law returns true; each argument reads behind the call as it read before'; 0 by the template 'total and deterministic' (their statements: Qxb6632298aTotals.lean).
  GIVEN WITH THE SEED: the statements are not yours to turn. If you find one false, say at which input.
  Laid BY PROGRAM, IN A SANDBOX (cutbox-rows.mjs): the forced cells as the released guide's own fill.sh prints them over the translation 3866be5878b7be5f… (all of the seat's roots in one cut). By AI agents, Wed Nov 11 2026. No macro, syntax, notation, axiom, sorry.
-/
import Derived.Test.Qxb6632298aChecked
import GoSem.Claim
import GoSem.ClaimJoined
import GoSem.ClaimMapViews
import Derived.JoinedTies
import Derived.KernelRfl
namespace Go.Proofs.Qxb6632298a
/- THE CELL 'sum', in the pinned program and in every row, IS THE sha256 OF THE DUMP (.gsa) THAT Qxb6632298aProg.lean LOADS. Nothing in Lean hashes anything: it is a label: what it is worth is what the hold of that sum in a sandbox is worth. -/
noncomputable def Try.pinned : Pinned := { name := "qxb6632298a", sum := "3866be5878b7be5fd5ed461e653cc323f8842a6acaedd1755e99a81d100d4360", checked := Try.checked }
namespace Rows
def none {H : Type} : Left H := { results := [], args := [] }

/-- 'zzlaws_root_b1.FnBackoffIsBaseDoubledUntilTheLimitThenCapped': WHATEVER THE INPUT: true; the input reads as it did. -/
def fnBackoffIsBaseDoubledUntilTheLimitThenCappedSpec : ChangeSpec := { name := "fnBackoffIsBaseDoubledUntilTheLimitThenCapped", fn := fun _ => fun
  | [d1, d2, d3, d4, d5] => { results := [.lit (.bool true)], args := [d1, d2, d3, d4, d5] }
  | _ => none }
def fnBackoffIsBaseDoubledUntilTheLimitThenCappedRow : OpenClaim := { program := "qxb6632298a", sum := "3866be5878b7be5fd5ed461e653cc323f8842a6acaedd1755e99a81d100d4360", func := "example.com/vigil-pool/vigil-pool/zzlaws_root_b1.FnBackoffIsBaseDoubledUntilTheLimitThenCapped", spec := "fnBackoffIsBaseDoubledUntilTheLimitThenCapped", apart := false }
def FnBackoffIsBaseDoubledUntilTheLimitThenCappedSaid : Prop := fnBackoffIsBaseDoubledUntilTheLimitThenCappedRow.holds Try.pinned (OpenSpec.ofChange fnBackoffIsBaseDoubledUntilTheLimitThenCappedSpec)

/-- ITS FALSE NEIGHBOUR: 'it returns false'. Refute it at one input. -/
def fnBackoffIsBaseDoubledUntilTheLimitThenCappedWrong : ChangeSpec := { name := "fnBackoffIsBaseDoubledUntilTheLimitThenCapped", fn := fun _ => fun
  | [d1, d2, d3, d4, d5] => { results := [.lit (.bool false)], args := [d1, d2, d3, d4, d5] }
  | _ => none }
def FnBackoffIsBaseDoubledUntilTheLimitThenCappedWrongFalsely : Prop := fnBackoffIsBaseDoubledUntilTheLimitThenCappedRow.holds Try.pinned (OpenSpec.ofChange fnBackoffIsBaseDoubledUntilTheLimitThenCappedWrong)

/-- 'zzlaws_root_b1.FnBackoffNextAttemptDoublesBelowHalfMaxInt': WHATEVER THE INPUT: true; the input reads as it did. -/
def fnBackoffNextAttemptDoublesBelowHalfMaxIntSpec : ChangeSpec := { name := "fnBackoffNextAttemptDoublesBelowHalfMaxInt", fn := fun _ => fun
  | [d1, d2, d3, d4, d5] => { results := [.lit (.bool true)], args := [d1, d2, d3, d4, d5] }
  | _ => none }
def fnBackoffNextAttemptDoublesBelowHalfMaxIntRow : OpenClaim := { program := "qxb6632298a", sum := "3866be5878b7be5fd5ed461e653cc323f8842a6acaedd1755e99a81d100d4360", func := "example.com/vigil-pool/vigil-pool/zzlaws_root_b1.FnBackoffNextAttemptDoublesBelowHalfMaxInt", spec := "fnBackoffNextAttemptDoublesBelowHalfMaxInt", apart := false }
def FnBackoffNextAttemptDoublesBelowHalfMaxIntSaid : Prop := fnBackoffNextAttemptDoublesBelowHalfMaxIntRow.holds Try.pinned (OpenSpec.ofChange fnBackoffNextAttemptDoublesBelowHalfMaxIntSpec)

/-- ITS FALSE NEIGHBOUR: 'it returns false'. Refute it at one input. -/
def fnBackoffNextAttemptDoublesBelowHalfMaxIntWrong : ChangeSpec := { name := "fnBackoffNextAttemptDoublesBelowHalfMaxInt", fn := fun _ => fun
  | [d1, d2, d3, d4, d5] => { results := [.lit (.bool false)], args := [d1, d2, d3, d4, d5] }
  | _ => none }
def FnBackoffNextAttemptDoublesBelowHalfMaxIntWrongFalsely : Prop := fnBackoffNextAttemptDoublesBelowHalfMaxIntRow.holds Try.pinned (OpenSpec.ofChange fnBackoffNextAttemptDoublesBelowHalfMaxIntWrong)

end Rows
end Go.Proofs.Qxb6632298a

/-
  No cell of these rows narrows 'for every input' (looked for: loops, veiled, ifaces, maps, wideKeys, modest, calm, conditions, laid).
  DERIVED. THE GIVEN ROWS OF THIS SEAT. 2 by the template 'for every input the law returns true; each argument reads behind the call as it read before'; 0 by the template 'total and deterministic' (their statements: Qxb6631276aTotals.lean).
  GIVEN WITH THE SEED: the statements are not yours to turn. If you find one false, say at which input.
  Laid BY PROGRAM, IN A SANDBOX (cutbox-rows.mjs): the forced cells as the released guide's own fill.sh prints them over the translation 2c803b28ea7a992d… (all of the seat's roots in one cut). By AI agents, Wed Nov 11 2026. No macro, syntax, notation, axiom, sorry.
-/
import Derived.Test.Qxb6631276aChecked
import GoSem.Claim
import GoSem.ClaimJoined
import GoSem.ClaimMapViews
import Derived.JoinedTies
import Derived.KernelRfl
namespace Go.Proofs.Qxb6631276a
/- THE CELL 'sum', in the pinned program and in every row, IS THE sha256 OF THE DUMP (.gsa) THAT Qxb6631276aProg.lean LOADS. Nothing in Lean hashes anything: it is a label: what it is worth is what the hold of that sum in a sandbox is worth. -/
noncomputable def Try.pinned : Pinned := { name := "qxb6631276a", sum := "2c803b28ea7a992d4cb890a49f94bbbaeb65b3a24d68f557706ed08027e5b1c4", checked := Try.checked }
namespace Rows
def none {H : Type} : Left H := { results := [], args := [] }

/-- 'zzlaws_root_b1.FnLeafSplitWhole': WHATEVER THE INPUT: true; the input reads as it did. -/
def fnLeafSplitWholeSpec : ChangeSpec := { name := "fnLeafSplitWhole", fn := fun _ => fun
  | [d1, d2] => { results := [.lit (.bool true)], args := [d1, d2] }
  | _ => none }
def fnLeafSplitWholeRow : OpenClaim := { program := "qxb6631276a", sum := "2c803b28ea7a992d4cb890a49f94bbbaeb65b3a24d68f557706ed08027e5b1c4", func := "example.com/palimpsest/palimpsest/zzlaws_root_b1.FnLeafSplitWhole", spec := "fnLeafSplitWhole", apart := false }
def FnLeafSplitWholeSaid : Prop := fnLeafSplitWholeRow.holds Try.pinned (OpenSpec.ofChange fnLeafSplitWholeSpec)

/-- ITS FALSE NEIGHBOUR: 'it returns false'. Refute it at one input. -/
def fnLeafSplitWholeWrong : ChangeSpec := { name := "fnLeafSplitWhole", fn := fun _ => fun
  | [d1, d2] => { results := [.lit (.bool false)], args := [d1, d2] }
  | _ => none }
def FnLeafSplitWholeWrongFalsely : Prop := fnLeafSplitWholeRow.holds Try.pinned (OpenSpec.ofChange fnLeafSplitWholeWrong)

/-- 'zzlaws_root_b1.FnLeafSplitSeparates': WHATEVER THE INPUT: true; the input reads as it did. -/
def fnLeafSplitSeparatesSpec : ChangeSpec := { name := "fnLeafSplitSeparates", fn := fun _ => fun
  | [d1, d2] => { results := [.lit (.bool true)], args := [d1, d2] }
  | _ => none }
def fnLeafSplitSeparatesRow : OpenClaim := { program := "qxb6631276a", sum := "2c803b28ea7a992d4cb890a49f94bbbaeb65b3a24d68f557706ed08027e5b1c4", func := "example.com/palimpsest/palimpsest/zzlaws_root_b1.FnLeafSplitSeparates", spec := "fnLeafSplitSeparates", apart := false }
def FnLeafSplitSeparatesSaid : Prop := fnLeafSplitSeparatesRow.holds Try.pinned (OpenSpec.ofChange fnLeafSplitSeparatesSpec)

/-- ITS FALSE NEIGHBOUR: 'it returns false'. Refute it at one input. -/
def fnLeafSplitSeparatesWrong : ChangeSpec := { name := "fnLeafSplitSeparates", fn := fun _ => fun
  | [d1, d2] => { results := [.lit (.bool false)], args := [d1, d2] }
  | _ => none }
def FnLeafSplitSeparatesWrongFalsely : Prop := fnLeafSplitSeparatesRow.holds Try.pinned (OpenSpec.ofChange fnLeafSplitSeparatesWrong)

end Rows
end Go.Proofs.Qxb6631276a

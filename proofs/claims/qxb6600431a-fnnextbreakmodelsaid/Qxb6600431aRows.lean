/-
  No cell of these rows narrows 'for every input' (looked for: loops, veiled, ifaces, maps, wideKeys, modest, calm, conditions, laid).
  DERIVED. THE GIVEN ROWS OF THIS SEAT. 2 by the template 'for every input the law returns true; each argument reads behind the call as it read before'; 0 by the template 'total and deterministic' (their statements: Qxb6600431aTotals.lean).
  GIVEN WITH THE SEED: the statements are not yours to turn. If you find one false, say at which input.
  Laid BY PROGRAM, IN A SANDBOX (cutbox-rows.mjs): the forced cells as the released guide's own fill.sh prints them over the translation 86438e39e55bdcdc… (all of the seat's roots in one cut). By AI agents, Wed Nov 11 2026. No macro, syntax, notation, axiom, sorry.
-/
import Derived.Test.Qxb6600431aChecked
import GoSem.Claim
import GoSem.ClaimJoined
import GoSem.ClaimMapViews
import Derived.JoinedTies
import Derived.KernelRfl
namespace Go.Proofs.Qxb6600431a
/- THE CELL 'sum', in the pinned program and in every row, IS THE sha256 OF THE DUMP (.gsa) THAT Qxb6600431aProg.lean LOADS. Nothing in Lean hashes anything: it is a label: what it is worth is what the hold of that sum in a sandbox is worth. -/
noncomputable def Try.pinned : Pinned := { name := "qxb6600431a", sum := "86438e39e55bdcdc9d65103d5759488b4e28c998f9e38d0721111adffdb58241", checked := Try.checked }
namespace Rows
def none {H : Type} : Left H := { results := [], args := [] }

/-- 'zzlaws_internal_manifest_b1.FnNextBreakModel': WHATEVER THE INPUT: true; the input reads as it did. -/
def fnNextBreakModelSpec : ChangeSpec := { name := "fnNextBreakModel", fn := fun _ => fun
  | [d] => { results := [.lit (.bool true)], args := [d] }
  | _ => none }
def fnNextBreakModelRow : OpenClaim := { program := "qxb6600431a", sum := "86438e39e55bdcdc9d65103d5759488b4e28c998f9e38d0721111adffdb58241", func := "example.com/customary/customary/zzlaws_internal_manifest_b1.FnNextBreakModel", spec := "fnNextBreakModel", apart := false }
def FnNextBreakModelSaid : Prop := fnNextBreakModelRow.holds Try.pinned (OpenSpec.ofChange fnNextBreakModelSpec)

/-- ITS FALSE NEIGHBOUR: 'it returns false'. Refute it at one input. -/
def fnNextBreakModelWrong : ChangeSpec := { name := "fnNextBreakModel", fn := fun _ => fun
  | [d] => { results := [.lit (.bool false)], args := [d] }
  | _ => none }
def FnNextBreakModelWrongFalsely : Prop := fnNextBreakModelRow.holds Try.pinned (OpenSpec.ofChange fnNextBreakModelWrong)

/-- 'zzlaws_internal_manifest_b1.FnNextBreakPrefix': WHATEVER THE INPUT: true; the input reads as it did. -/
def fnNextBreakPrefixSpec : ChangeSpec := { name := "fnNextBreakPrefix", fn := fun _ => fun
  | [d1, d2] => { results := [.lit (.bool true)], args := [d1, d2] }
  | _ => none }
def fnNextBreakPrefixRow : OpenClaim := { program := "qxb6600431a", sum := "86438e39e55bdcdc9d65103d5759488b4e28c998f9e38d0721111adffdb58241", func := "example.com/customary/customary/zzlaws_internal_manifest_b1.FnNextBreakPrefix", spec := "fnNextBreakPrefix", apart := false }
def FnNextBreakPrefixSaid : Prop := fnNextBreakPrefixRow.holds Try.pinned (OpenSpec.ofChange fnNextBreakPrefixSpec)

/-- ITS FALSE NEIGHBOUR: 'it returns false'. Refute it at one input. -/
def fnNextBreakPrefixWrong : ChangeSpec := { name := "fnNextBreakPrefix", fn := fun _ => fun
  | [d1, d2] => { results := [.lit (.bool false)], args := [d1, d2] }
  | _ => none }
def FnNextBreakPrefixWrongFalsely : Prop := fnNextBreakPrefixRow.holds Try.pinned (OpenSpec.ofChange fnNextBreakPrefixWrong)

end Rows
end Go.Proofs.Qxb6600431a

/-
  No cell of these rows narrows 'for every input' (looked for: loops, veiled, ifaces, maps, wideKeys, modest, calm, conditions, laid).
  DERIVED. THE GIVEN ROWS OF THIS SEAT. 2 by the template 'for every input the law returns true; each argument reads behind the call as it read before'; 0 by the template 'total and deterministic' (their statements: Qxb6001616aTotals.lean).
  GIVEN WITH THE SEED: the statements are not yours to turn. If you find one false, say at which input.
  Laid BY PROGRAM, IN A SANDBOX (cutbox-rows.mjs): the forced cells as the released guide's own fill.sh prints them over the translation d8b2893ccf28e52e… (all of the seat's roots in one cut). By AI agents, Wed Nov 11 2026. No macro, syntax, notation, axiom, sorry.
-/
import Derived.Test.Qxb6001616aChecked
import GoSem.Claim
import GoSem.ClaimJoined
import GoSem.ClaimMapViews
import Derived.JoinedTies
import Derived.KernelRfl
namespace Go.Proofs.Qxb6001616a
/- THE CELL 'sum', in the pinned program and in every row, IS THE sha256 OF THE DUMP (.gsa) THAT Qxb6001616aProg.lean LOADS. Nothing in Lean hashes anything: it is a label: what it is worth is what the hold of that sum in a sandbox is worth. -/
noncomputable def Try.pinned : Pinned := { name := "qxb6001616a", sum := "d8b2893ccf28e52e27831ada5641a023d8e807eb905f839fdab3790647c823b2", checked := Try.checked }
namespace Rows
def none {H : Type} : Left H := { results := [], args := [] }

/-- 'zzlaws_internal_input_b1.FnHeadersNoOptionalIsCommaJoin': WHATEVER THE INPUT: true; the input reads as it did. -/
def fnHeadersNoOptionalIsCommaJoinSpec : ChangeSpec := { name := "fnHeadersNoOptionalIsCommaJoin", fn := fun _ => fun
  | [d] => { results := [.lit (.bool true)], args := [d] }
  | _ => none }
def fnHeadersNoOptionalIsCommaJoinRow : OpenClaim := { program := "qxb6001616a", sum := "d8b2893ccf28e52e27831ada5641a023d8e807eb905f839fdab3790647c823b2", func := "example.com/tuoguan/tuoguan/zzlaws_internal_input_b1.FnHeadersNoOptionalIsCommaJoin", spec := "fnHeadersNoOptionalIsCommaJoin", inPlace := ["internal/abi.NoEscape", "internal/bytealg.MakeNoZero"], apart := false }
def FnHeadersNoOptionalIsCommaJoinSaid : Prop := fnHeadersNoOptionalIsCommaJoinRow.holds Try.pinned (OpenSpec.ofChange fnHeadersNoOptionalIsCommaJoinSpec)

/-- ITS FALSE NEIGHBOUR: 'it returns false'. Refute it at one input. -/
def fnHeadersNoOptionalIsCommaJoinWrong : ChangeSpec := { name := "fnHeadersNoOptionalIsCommaJoin", fn := fun _ => fun
  | [d] => { results := [.lit (.bool false)], args := [d] }
  | _ => none }
def FnHeadersNoOptionalIsCommaJoinWrongFalsely : Prop := fnHeadersNoOptionalIsCommaJoinRow.holds Try.pinned (OpenSpec.ofChange fnHeadersNoOptionalIsCommaJoinWrong)

/-- 'zzlaws_internal_input_b1.FnHeadersPeelsFullHeaderFirst': WHATEVER THE INPUT: true; the input reads as it did. -/
def fnHeadersPeelsFullHeaderFirstSpec : ChangeSpec := { name := "fnHeadersPeelsFullHeaderFirst", fn := fun _ => fun
  | [d1, d2] => { results := [.lit (.bool true)], args := [d1, d2] }
  | _ => none }
def fnHeadersPeelsFullHeaderFirstRow : OpenClaim := { program := "qxb6001616a", sum := "d8b2893ccf28e52e27831ada5641a023d8e807eb905f839fdab3790647c823b2", func := "example.com/tuoguan/tuoguan/zzlaws_internal_input_b1.FnHeadersPeelsFullHeaderFirst", spec := "fnHeadersPeelsFullHeaderFirst", inPlace := ["internal/abi.NoEscape", "internal/bytealg.MakeNoZero"], apart := false }
def FnHeadersPeelsFullHeaderFirstSaid : Prop := fnHeadersPeelsFullHeaderFirstRow.holds Try.pinned (OpenSpec.ofChange fnHeadersPeelsFullHeaderFirstSpec)

/-- ITS FALSE NEIGHBOUR: 'it returns false'. Refute it at one input. -/
def fnHeadersPeelsFullHeaderFirstWrong : ChangeSpec := { name := "fnHeadersPeelsFullHeaderFirst", fn := fun _ => fun
  | [d1, d2] => { results := [.lit (.bool false)], args := [d1, d2] }
  | _ => none }
def FnHeadersPeelsFullHeaderFirstWrongFalsely : Prop := fnHeadersPeelsFullHeaderFirstRow.holds Try.pinned (OpenSpec.ofChange fnHeadersPeelsFullHeaderFirstWrong)

end Rows
end Go.Proofs.Qxb6001616a

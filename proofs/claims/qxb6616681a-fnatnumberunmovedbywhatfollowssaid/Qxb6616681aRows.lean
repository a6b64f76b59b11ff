/-
  No cell of these rows narrows 'for every input' (looked for: loops, veiled, ifaces, maps, wideKeys, modest, calm, conditions, laid).
  DERIVED. THE GIVEN ROWS OF THIS SEAT. 2 by the template 'for every input the law returns true; each argument reads behind the call as it read before'; 0 by the template 'total and deterministic' (their statements: Qxb6616681aTotals.lean).
  GIVEN WITH THE SEED: the statements are not yours to turn. If you find one false, say at which input.
  Laid BY PROGRAM, IN A SANDBOX (cutbox-rows.mjs): the forced cells as the released guide's own fill.sh prints them over the translation dc6334c53dc4f267… (all of the seat's roots in one cut). By AI agents, Wed Nov 11 2026. No macro, syntax, notation, axiom, sorry.
-/
import Derived.Test.Qxb6616681aChecked
import GoSem.Claim
import GoSem.ClaimJoined
import GoSem.ClaimMapViews
import Derived.JoinedTies
import Derived.KernelRfl
namespace Go.Proofs.Qxb6616681a
/- THE CELL 'sum', in the pinned program and in every row, IS THE sha256 OF THE DUMP (.gsa) THAT Qxb6616681aProg.lean LOADS. Nothing in Lean hashes anything: it is a label: what it is worth is what the hold of that sum in a sandbox is worth. -/
noncomputable def Try.pinned : Pinned := { name := "qxb6616681a", sum := "dc6334c53dc4f267be649cb4a63bc2c47aa95999195804e72ff1b919d63ac140", checked := Try.checked }
namespace Rows
def none {H : Type} : Left H := { results := [], args := [] }

/-- 'zzlaws_expr_b1.FnAtNumberSpecAtAnyOffset': WHATEVER THE INPUT: true; the input reads as it did. -/
def fnAtNumberSpecAtAnyOffsetSpec : ChangeSpec := { name := "fnAtNumberSpecAtAnyOffset", fn := fun _ => fun
  | [d1, d2, d3] => { results := [.lit (.bool true)], args := [d1, d2, d3] }
  | _ => none }
def fnAtNumberSpecAtAnyOffsetRow : OpenClaim := { program := "qxb6616681a", sum := "dc6334c53dc4f267be649cb4a63bc2c47aa95999195804e72ff1b919d63ac140", func := "example.com/telemetry-transform/telemetry-transform/zzlaws_expr_b1.FnAtNumberSpecAtAnyOffset", spec := "fnAtNumberSpecAtAnyOffset", apart := false }
def FnAtNumberSpecAtAnyOffsetSaid : Prop := fnAtNumberSpecAtAnyOffsetRow.holds Try.pinned (OpenSpec.ofChange fnAtNumberSpecAtAnyOffsetSpec)

/-- ITS FALSE NEIGHBOUR: 'it returns false'. Refute it at one input. -/
def fnAtNumberSpecAtAnyOffsetWrong : ChangeSpec := { name := "fnAtNumberSpecAtAnyOffset", fn := fun _ => fun
  | [d1, d2, d3] => { results := [.lit (.bool false)], args := [d1, d2, d3] }
  | _ => none }
def FnAtNumberSpecAtAnyOffsetWrongFalsely : Prop := fnAtNumberSpecAtAnyOffsetRow.holds Try.pinned (OpenSpec.ofChange fnAtNumberSpecAtAnyOffsetWrong)

/-- 'zzlaws_expr_b1.FnAtNumberUnmovedByWhatFollows': WHATEVER THE INPUT: true; the input reads as it did. -/
def fnAtNumberUnmovedByWhatFollowsSpec : ChangeSpec := { name := "fnAtNumberUnmovedByWhatFollows", fn := fun _ => fun
  | [d1, d2, d3, d4] => { results := [.lit (.bool true)], args := [d1, d2, d3, d4] }
  | _ => none }
def fnAtNumberUnmovedByWhatFollowsRow : OpenClaim := { program := "qxb6616681a", sum := "dc6334c53dc4f267be649cb4a63bc2c47aa95999195804e72ff1b919d63ac140", func := "example.com/telemetry-transform/telemetry-transform/zzlaws_expr_b1.FnAtNumberUnmovedByWhatFollows", spec := "fnAtNumberUnmovedByWhatFollows", apart := false }
def FnAtNumberUnmovedByWhatFollowsSaid : Prop := fnAtNumberUnmovedByWhatFollowsRow.holds Try.pinned (OpenSpec.ofChange fnAtNumberUnmovedByWhatFollowsSpec)

/-- ITS FALSE NEIGHBOUR: 'it returns false'. Refute it at one input. -/
def fnAtNumberUnmovedByWhatFollowsWrong : ChangeSpec := { name := "fnAtNumberUnmovedByWhatFollows", fn := fun _ => fun
  | [d1, d2, d3, d4] => { results := [.lit (.bool false)], args := [d1, d2, d3, d4] }
  | _ => none }
def FnAtNumberUnmovedByWhatFollowsWrongFalsely : Prop := fnAtNumberUnmovedByWhatFollowsRow.holds Try.pinned (OpenSpec.ofChange fnAtNumberUnmovedByWhatFollowsWrong)

end Rows
end Go.Proofs.Qxb6616681a

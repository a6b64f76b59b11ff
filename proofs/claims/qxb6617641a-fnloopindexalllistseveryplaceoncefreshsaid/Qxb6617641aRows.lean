/-
  No cell of these rows narrows 'for every input' (looked for: loops, veiled, ifaces, maps, wideKeys, modest, calm, conditions, laid).
  DERIVED. THE GIVEN ROWS OF THIS SEAT. 1 by the template 'for every input the law returns true; each argument reads behind the call as it read before'; 0 by the template 'total and deterministic' (their statements: Qxb6617641aTotals.lean).
  GIVEN WITH THE SEED: the statements are not yours to turn. If you find one false, say at which input.
  Laid BY PROGRAM, IN A SANDBOX (cutbox-rows.mjs): the forced cells as the released guide's own fill.sh prints them over the translation 61ba6846d1d31834… (all of the seat's roots in one cut). By AI agents, Wed Nov 11 2026. No macro, syntax, notation, axiom, sorry.
-/
import Derived.Test.Qxb6617641aChecked
import GoSem.Claim
import GoSem.ClaimJoined
import GoSem.ClaimMapViews
import Derived.JoinedTies
import Derived.KernelRfl
namespace Go.Proofs.Qxb6617641a
/- THE CELL 'sum', in the pinned program and in every row, IS THE sha256 OF THE DUMP (.gsa) THAT Qxb6617641aProg.lean LOADS. Nothing in Lean hashes anything: it is a label: what it is worth is what the hold of that sum in a sandbox is worth. -/
noncomputable def Try.pinned : Pinned := { name := "qxb6617641a", sum := "61ba6846d1d3183470edcfa9d4f1dd456c0e1f79945e7290c647f4ad80a6f544", checked := Try.checked }
namespace Rows
def none {H : Type} : Left H := { results := [], args := [] }

/-- 'zzlaws_pkg_related_b1.FnLoopIndexAllListsEveryPlaceOnceFresh': WHATEVER THE INPUT: true; the input reads as it did. -/
def fnLoopIndexAllListsEveryPlaceOnceFreshSpec : ChangeSpec := { name := "fnLoopIndexAllListsEveryPlaceOnceFresh", fn := fun _ => fun
  | [d1, d2] => { results := [.lit (.bool true)], args := [d1, d2] }
  | _ => none }
def fnLoopIndexAllListsEveryPlaceOnceFreshRow : OpenClaim := { program := "qxb6617641a", sum := "61ba6846d1d3183470edcfa9d4f1dd456c0e1f79945e7290c647f4ad80a6f544", func := "example.com/relata/relata/zzlaws_pkg_related_b1.FnLoopIndexAllListsEveryPlaceOnceFresh", spec := "fnLoopIndexAllListsEveryPlaceOnceFresh", apart := false }
def FnLoopIndexAllListsEveryPlaceOnceFreshSaid : Prop := fnLoopIndexAllListsEveryPlaceOnceFreshRow.holds Try.pinned (OpenSpec.ofChange fnLoopIndexAllListsEveryPlaceOnceFreshSpec)

/-- ITS FALSE NEIGHBOUR: 'it returns false'. Refute it at one input. -/
def fnLoopIndexAllListsEveryPlaceOnceFreshWrong : ChangeSpec := { name := "fnLoopIndexAllListsEveryPlaceOnceFresh", fn := fun _ => fun
  | [d1, d2] => { results := [.lit (.bool false)], args := [d1, d2] }
  | _ => none }
def FnLoopIndexAllListsEveryPlaceOnceFreshWrongFalsely : Prop := fnLoopIndexAllListsEveryPlaceOnceFreshRow.holds Try.pinned (OpenSpec.ofChange fnLoopIndexAllListsEveryPlaceOnceFreshWrong)

end Rows
end Go.Proofs.Qxb6617641a

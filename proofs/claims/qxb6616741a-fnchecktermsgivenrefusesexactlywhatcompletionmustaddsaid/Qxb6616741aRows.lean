/-
  No cell of these rows narrows 'for every input' (looked for: loops, veiled, ifaces, maps, wideKeys, modest, calm, conditions, laid).
  DERIVED. THE GIVEN ROWS OF THIS SEAT. 2 by the template 'for every input the law returns true; each argument reads behind the call as it read before'; 0 by the template 'total and deterministic' (their statements: Qxb6616741aTotals.lean).
  GIVEN WITH THE SEED: the statements are not yours to turn. If you find one false, say at which input.
  Laid BY PROGRAM, IN A SANDBOX (cutbox-rows.mjs): the forced cells as the released guide's own fill.sh prints them over the translation ff8f4b7263cb6550… (all of the seat's roots in one cut). By AI agents, Wed Nov 11 2026. No macro, syntax, notation, axiom, sorry.
-/
import Derived.Test.Qxb6616741aChecked
import GoSem.Claim
import GoSem.ClaimJoined
import GoSem.ClaimMapViews
import Derived.JoinedTies
import Derived.KernelRfl
namespace Go.Proofs.Qxb6616741a
/- THE CELL 'sum', in the pinned program and in every row, IS THE sha256 OF THE DUMP (.gsa) THAT Qxb6616741aProg.lean LOADS. Nothing in Lean hashes anything: it is a label: what it is worth is what the hold of that sum in a sandbox is worth. -/
noncomputable def Try.pinned : Pinned := { name := "qxb6616741a", sum := "ff8f4b7263cb6550f453783137e14f8558dbb46701b5e6f3b1a4da5cebb4c822", checked := Try.checked }
namespace Rows
def none {H : Type} : Left H := { results := [], args := [] }

/-- 'zzlaws_pkg_plan_b1.FnCheckTermsGivenRefusesAFileMissingAnyRequiredTerm': WHATEVER THE INPUT: true; the input reads as it did. -/
def fnCheckTermsGivenRefusesAFileMissingAnyRequiredTermSpec : ChangeSpec := { name := "fnCheckTermsGivenRefusesAFileMissingAnyRequiredTerm", fn := fun _ => fun
  | [d1, d2, d3, d4, d5, d6, d7] => { results := [.lit (.bool true)], args := [d1, d2, d3, d4, d5, d6, d7] }
  | _ => none }
def fnCheckTermsGivenRefusesAFileMissingAnyRequiredTermRow : OpenClaim := { program := "qxb6616741a", sum := "ff8f4b7263cb6550f453783137e14f8558dbb46701b5e6f3b1a4da5cebb4c822", func := "example.com/vestledger/vestledger/zzlaws_pkg_plan_b1.FnCheckTermsGivenRefusesAFileMissingAnyRequiredTerm", spec := "fnCheckTermsGivenRefusesAFileMissingAnyRequiredTerm", apart := false }
def FnCheckTermsGivenRefusesAFileMissingAnyRequiredTermSaid : Prop := fnCheckTermsGivenRefusesAFileMissingAnyRequiredTermRow.holds Try.pinned (OpenSpec.ofChange fnCheckTermsGivenRefusesAFileMissingAnyRequiredTermSpec)

/-- ITS FALSE NEIGHBOUR: 'it returns false'. Refute it at one input. -/
def fnCheckTermsGivenRefusesAFileMissingAnyRequiredTermWrong : ChangeSpec := { name := "fnCheckTermsGivenRefusesAFileMissingAnyRequiredTerm", fn := fun _ => fun
  | [d1, d2, d3, d4, d5, d6, d7] => { results := [.lit (.bool false)], args := [d1, d2, d3, d4, d5, d6, d7] }
  | _ => none }
def FnCheckTermsGivenRefusesAFileMissingAnyRequiredTermWrongFalsely : Prop := fnCheckTermsGivenRefusesAFileMissingAnyRequiredTermRow.holds Try.pinned (OpenSpec.ofChange fnCheckTermsGivenRefusesAFileMissingAnyRequiredTermWrong)

/-- 'zzlaws_pkg_plan_b1.FnCheckTermsGivenRefusesExactlyWhatCompletionMustAdd': WHATEVER THE INPUT: true; the input reads as it did. -/
def fnCheckTermsGivenRefusesExactlyWhatCompletionMustAddSpec : ChangeSpec := { name := "fnCheckTermsGivenRefusesExactlyWhatCompletionMustAdd", fn := fun _ => fun
  | [d1, d2, d3, d4, d5, d6] => { results := [.lit (.bool true)], args := [d1, d2, d3, d4, d5, d6] }
  | _ => none }
def fnCheckTermsGivenRefusesExactlyWhatCompletionMustAddRow : OpenClaim := { program := "qxb6616741a", sum := "ff8f4b7263cb6550f453783137e14f8558dbb46701b5e6f3b1a4da5cebb4c822", func := "example.com/vestledger/vestledger/zzlaws_pkg_plan_b1.FnCheckTermsGivenRefusesExactlyWhatCompletionMustAdd", spec := "fnCheckTermsGivenRefusesExactlyWhatCompletionMustAdd", apart := false }
def FnCheckTermsGivenRefusesExactlyWhatCompletionMustAddSaid : Prop := fnCheckTermsGivenRefusesExactlyWhatCompletionMustAddRow.holds Try.pinned (OpenSpec.ofChange fnCheckTermsGivenRefusesExactlyWhatCompletionMustAddSpec)

/-- ITS FALSE NEIGHBOUR: 'it returns false'. Refute it at one input. -/
def fnCheckTermsGivenRefusesExactlyWhatCompletionMustAddWrong : ChangeSpec := { name := "fnCheckTermsGivenRefusesExactlyWhatCompletionMustAdd", fn := fun _ => fun
  | [d1, d2, d3, d4, d5, d6] => { results := [.lit (.bool false)], args := [d1, d2, d3, d4, d5, d6] }
  | _ => none }
def FnCheckTermsGivenRefusesExactlyWhatCompletionMustAddWrongFalsely : Prop := fnCheckTermsGivenRefusesExactlyWhatCompletionMustAddRow.holds Try.pinned (OpenSpec.ofChange fnCheckTermsGivenRefusesExactlyWhatCompletionMustAddWrong)

end Rows
end Go.Proofs.Qxb6616741a

/-
  No cell of these rows narrows 'for every input' (looked for: loops, veiled, ifaces, maps, wideKeys, modest, calm, conditions, laid).
  DERIVED. THE GIVEN ROWS OF THIS SEAT. 1 by the template 'for every input the law returns true; each argument reads behind the call as it read before'; 0 by the template 'total and deterministic' (their statements: Qxb6603939aTotals.lean).
  GIVEN WITH THE SEED: the statements are not yours to turn. If you find one false, say at which input.
  Laid BY PROGRAM, IN A SANDBOX (cutbox-rows.mjs): the forced cells as the released guide's own fill.sh prints them over the translation bf663e3cfe9e874d… (all of the seat's roots in one cut). By AI agents, Wed Nov 11 2026. No macro, syntax, notation, axiom, sorry.
-/
import Derived.Test.Qxb6603939aChecked
import GoSem.Claim
import GoSem.ClaimJoined
import GoSem.ClaimMapViews
import Derived.JoinedTies
import Derived.KernelRfl
namespace Go.Proofs.Qxb6603939a
/- THE CELL 'sum', in the pinned program and in every row, IS THE sha256 OF THE DUMP (.gsa) THAT Qxb6603939aProg.lean LOADS. Nothing in Lean hashes anything: it is a label: what it is worth is what the hold of that sum in a sandbox is worth. -/
noncomputable def Try.pinned : Pinned := { name := "qxb6603939a", sum := "bf663e3cfe9e874d9655312d78f15776a4eb30bf10e0720776370f1f1edd9f3e", checked := Try.checked }
namespace Rows
def none {H : Type} : Left H := { results := [], args := [] }

/-- 'zzlaws_pkg_types_b1.FnDigitRunsMatchesSplitThenCheck': WHATEVER THE INPUT: true; the input reads as it did. -/
def fnDigitRunsMatchesSplitThenCheckSpec : ChangeSpec := { name := "fnDigitRunsMatchesSplitThenCheck", fn := fun _ => fun
  | [d] => { results := [.lit (.bool true)], args := [d] }
  | _ => none }
def fnDigitRunsMatchesSplitThenCheckRow : OpenClaim := { program := "qxb6603939a", sum := "bf663e3cfe9e874d9655312d78f15776a4eb30bf10e0720776370f1f1edd9f3e", func := "example.com/orrery/orrery/zzlaws_pkg_types_b1.FnDigitRunsMatchesSplitThenCheck", spec := "fnDigitRunsMatchesSplitThenCheck", apart := false }
def FnDigitRunsMatchesSplitThenCheckSaid : Prop := fnDigitRunsMatchesSplitThenCheckRow.holds Try.pinned (OpenSpec.ofChange fnDigitRunsMatchesSplitThenCheckSpec)

/-- ITS FALSE NEIGHBOUR: 'it returns false'. Refute it at one input. -/
def fnDigitRunsMatchesSplitThenCheckWrong : ChangeSpec := { name := "fnDigitRunsMatchesSplitThenCheck", fn := fun _ => fun
  | [d] => { results := [.lit (.bool false)], args := [d] }
  | _ => none }
def FnDigitRunsMatchesSplitThenCheckWrongFalsely : Prop := fnDigitRunsMatchesSplitThenCheckRow.holds Try.pinned (OpenSpec.ofChange fnDigitRunsMatchesSplitThenCheckWrong)

end Rows
end Go.Proofs.Qxb6603939a

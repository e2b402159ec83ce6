/-
  No cell of these rows narrows 'for every input' (looked for: loops, veiled, ifaces, maps, wideKeys, modest, calm, conditions, laid).
  DERIVED. THE GIVEN ROWS OF THIS SEAT. 5 by the template 'for every input the law returns true; each argument reads behind the call as it read before'; 0 by the template 'total and deterministic' (their statements: Qxb6603837aTotals.lean).
  GIVEN WITH THE SEED: the statements are not yours to turn. If you find one false, say at which input.
  Laid BY PROGRAM, IN A SANDBOX (cutbox-rows.mjs): the forced cells as the released guide's own fill.sh prints them over the translation 4e02587e078236e1… (all of the seat's roots in one cut). By AI agents, Wed Nov 11 2026. No macro, syntax, notation, axiom, sorry.
-/
import Derived.Test.Qxb6603837aChecked
import GoSem.Claim
import GoSem.ClaimJoined
import GoSem.ClaimMapViews
import Derived.JoinedTies
import Derived.KernelRfl
namespace Go.Proofs.Qxb6603837a
/- THE CELL 'sum', in the pinned program and in every row, IS THE sha256 OF THE DUMP (.gsa) THAT Qxb6603837aProg.lean LOADS. Nothing in Lean hashes anything: it is a label: what it is worth is what the hold of that sum in a sandbox is worth. -/
noncomputable def Try.pinned : Pinned := { name := "qxb6603837a", sum := "4e02587e078236e1175ade6a2926d45c8b779ff3eb3321970cd290f2c6927dbb", checked := Try.checked }
namespace Rows
def none {H : Type} : Left H := { results := [], args := [] }

/-- 'zzlaws_internal_kv_b1.FnBtreeInsertMatchesSortedSet': WHATEVER THE INPUT: true; the input reads as it did. -/
def fnBtreeInsertMatchesSortedSetSpec : ChangeSpec := { name := "fnBtreeInsertMatchesSortedSet", fn := fun _ => fun
  | [d] => { results := [.lit (.bool true)], args := [d] }
  | _ => none }
def fnBtreeInsertMatchesSortedSetRow : OpenClaim := { program := "qxb6603837a", sum := "4e02587e078236e1175ade6a2926d45c8b779ff3eb3321970cd290f2c6927dbb", func := "example.com/synodic/synodic/zzlaws_internal_kv_b1.FnBtreeInsertMatchesSortedSet", spec := "fnBtreeInsertMatchesSortedSet", inPlace := ["slices.overlaps[string]", "slices.overlaps[*example.com/synodic/synodic/internal/kv.btreeNode]"], recurses := true, apart := false }
def FnBtreeInsertMatchesSortedSetSaid : Prop := fnBtreeInsertMatchesSortedSetRow.holds Try.pinned (OpenSpec.ofChange fnBtreeInsertMatchesSortedSetSpec)

/-- ITS FALSE NEIGHBOUR: 'it returns false'. Refute it at one input. -/
def fnBtreeInsertMatchesSortedSetWrong : ChangeSpec := { name := "fnBtreeInsertMatchesSortedSet", fn := fun _ => fun
  | [d] => { results := [.lit (.bool false)], args := [d] }
  | _ => none }
def FnBtreeInsertMatchesSortedSetWrongFalsely : Prop := fnBtreeInsertMatchesSortedSetRow.holds Try.pinned (OpenSpec.ofChange fnBtreeInsertMatchesSortedSetWrong)

/-- 'zzlaws_internal_kv_b1.FnBtreeInsertAnswersMembership': WHATEVER THE INPUT: true; the input reads as it did. -/
def fnBtreeInsertAnswersMembershipSpec : ChangeSpec := { name := "fnBtreeInsertAnswersMembership", fn := fun _ => fun
  | [d1, d2] => { results := [.lit (.bool true)], args := [d1, d2] }
  | _ => none }
def fnBtreeInsertAnswersMembershipRow : OpenClaim := { program := "qxb6603837a", sum := "4e02587e078236e1175ade6a2926d45c8b779ff3eb3321970cd290f2c6927dbb", func := "example.com/synodic/synodic/zzlaws_internal_kv_b1.FnBtreeInsertAnswersMembership", spec := "fnBtreeInsertAnswersMembership", inPlace := ["slices.overlaps[string]", "slices.overlaps[*example.com/synodic/synodic/internal/kv.btreeNode]"], recurses := true, apart := false }
def FnBtreeInsertAnswersMembershipSaid : Prop := fnBtreeInsertAnswersMembershipRow.holds Try.pinned (OpenSpec.ofChange fnBtreeInsertAnswersMembershipSpec)

/-- ITS FALSE NEIGHBOUR: 'it returns false'. Refute it at one input. -/
def fnBtreeInsertAnswersMembershipWrong : ChangeSpec := { name := "fnBtreeInsertAnswersMembership", fn := fun _ => fun
  | [d1, d2] => { results := [.lit (.bool false)], args := [d1, d2] }
  | _ => none }
def FnBtreeInsertAnswersMembershipWrongFalsely : Prop := fnBtreeInsertAnswersMembershipRow.holds Try.pinned (OpenSpec.ofChange fnBtreeInsertAnswersMembershipWrong)

/-- 'zzlaws_internal_kv_b1.FnBtreeScriptMatchesSortedSet': WHATEVER THE INPUT: true; the input reads as it did. -/
def fnBtreeScriptMatchesSortedSetSpec : ChangeSpec := { name := "fnBtreeScriptMatchesSortedSet", fn := fun _ => fun
  | [d] => { results := [.lit (.bool true)], args := [d] }
  | _ => none }
def fnBtreeScriptMatchesSortedSetRow : OpenClaim := { program := "qxb6603837a", sum := "4e02587e078236e1175ade6a2926d45c8b779ff3eb3321970cd290f2c6927dbb", func := "example.com/synodic/synodic/zzlaws_internal_kv_b1.FnBtreeScriptMatchesSortedSet", spec := "fnBtreeScriptMatchesSortedSet", inPlace := ["slices.overlaps[string]", "slices.overlaps[*example.com/synodic/synodic/internal/kv.btreeNode]"], recurses := true, apart := false }
def FnBtreeScriptMatchesSortedSetSaid : Prop := fnBtreeScriptMatchesSortedSetRow.holds Try.pinned (OpenSpec.ofChange fnBtreeScriptMatchesSortedSetSpec)

/-- ITS FALSE NEIGHBOUR: 'it returns false'. Refute it at one input. -/
def fnBtreeScriptMatchesSortedSetWrong : ChangeSpec := { name := "fnBtreeScriptMatchesSortedSet", fn := fun _ => fun
  | [d] => { results := [.lit (.bool false)], args := [d] }
  | _ => none }
def FnBtreeScriptMatchesSortedSetWrongFalsely : Prop := fnBtreeScriptMatchesSortedSetRow.holds Try.pinned (OpenSpec.ofChange fnBtreeScriptMatchesSortedSetWrong)

/-- 'zzlaws_internal_kv_b1.FnBtreeRemoveAnswersMembership': WHATEVER THE INPUT: true; the input reads as it did. -/
def fnBtreeRemoveAnswersMembershipSpec : ChangeSpec := { name := "fnBtreeRemoveAnswersMembership", fn := fun _ => fun
  | [d1, d2] => { results := [.lit (.bool true)], args := [d1, d2] }
  | _ => none }
def fnBtreeRemoveAnswersMembershipRow : OpenClaim := { program := "qxb6603837a", sum := "4e02587e078236e1175ade6a2926d45c8b779ff3eb3321970cd290f2c6927dbb", func := "example.com/synodic/synodic/zzlaws_internal_kv_b1.FnBtreeRemoveAnswersMembership", spec := "fnBtreeRemoveAnswersMembership", inPlace := ["slices.overlaps[string]", "slices.overlaps[*example.com/synodic/synodic/internal/kv.btreeNode]"], recurses := true, apart := false }
def FnBtreeRemoveAnswersMembershipSaid : Prop := fnBtreeRemoveAnswersMembershipRow.holds Try.pinned (OpenSpec.ofChange fnBtreeRemoveAnswersMembershipSpec)

/-- ITS FALSE NEIGHBOUR: 'it returns false'. Refute it at one input. -/
def fnBtreeRemoveAnswersMembershipWrong : ChangeSpec := { name := "fnBtreeRemoveAnswersMembership", fn := fun _ => fun
  | [d1, d2] => { results := [.lit (.bool false)], args := [d1, d2] }
  | _ => none }
def FnBtreeRemoveAnswersMembershipWrongFalsely : Prop := fnBtreeRemoveAnswersMembershipRow.holds Try.pinned (OpenSpec.ofChange fnBtreeRemoveAnswersMembershipWrong)

/-- 'zzlaws_internal_kv_b1.FnBtreeRemoveEveryKeyEmptiesTree': WHATEVER THE INPUT: true; the input reads as it did. -/
def fnBtreeRemoveEveryKeyEmptiesTreeSpec : ChangeSpec := { name := "fnBtreeRemoveEveryKeyEmptiesTree", fn := fun _ => fun
  | [d] => { results := [.lit (.bool true)], args := [d] }
  | _ => none }
def fnBtreeRemoveEveryKeyEmptiesTreeRow : OpenClaim := { program := "qxb6603837a", sum := "4e02587e078236e1175ade6a2926d45c8b779ff3eb3321970cd290f2c6927dbb", func := "example.com/synodic/synodic/zzlaws_internal_kv_b1.FnBtreeRemoveEveryKeyEmptiesTree", spec := "fnBtreeRemoveEveryKeyEmptiesTree", inPlace := ["slices.overlaps[string]", "slices.overlaps[*example.com/synodic/synodic/internal/kv.btreeNode]"], recurses := true, apart := false }
def FnBtreeRemoveEveryKeyEmptiesTreeSaid : Prop := fnBtreeRemoveEveryKeyEmptiesTreeRow.holds Try.pinned (OpenSpec.ofChange fnBtreeRemoveEveryKeyEmptiesTreeSpec)

/-- ITS FALSE NEIGHBOUR: 'it returns false'. Refute it at one input. -/
def fnBtreeRemoveEveryKeyEmptiesTreeWrong : ChangeSpec := { name := "fnBtreeRemoveEveryKeyEmptiesTree", fn := fun _ => fun
  | [d] => { results := [.lit (.bool false)], args := [d] }
  | _ => none }
def FnBtreeRemoveEveryKeyEmptiesTreeWrongFalsely : Prop := fnBtreeRemoveEveryKeyEmptiesTreeRow.holds Try.pinned (OpenSpec.ofChange fnBtreeRemoveEveryKeyEmptiesTreeWrong)

end Rows
end Go.Proofs.Qxb6603837a

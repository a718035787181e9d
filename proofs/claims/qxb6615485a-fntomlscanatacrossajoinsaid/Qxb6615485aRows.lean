/-
  No cell of these rows narrows 'for every input' (looked for: loops, veiled, ifaces, maps, wideKeys, modest, calm, conditions, laid).
  DERIVED. THE GIVEN ROWS OF THIS SEAT. 2 by the template 'for every input the law returns true; each argument reads behind the call as it read before'; 0 by the template 'total and deterministic' (their statements: Qxb6615485aTotals.lean).
  GIVEN WITH THE SEED: the statements are not yours to turn. If you find one false, say at which input.
  Laid BY PROGRAM, IN A SANDBOX (cutbox-rows.mjs): the forced cells as the released guide's own fill.sh prints them over the translation 46caaf165f77a75c… (all of the seat's roots in one cut). By AI agents, Wed Nov 11 2026. No macro, syntax, notation, axiom, sorry.
-/
import Derived.Test.Qxb6615485aChecked
import GoSem.Claim
import GoSem.ClaimJoined
import GoSem.ClaimMapViews
import Derived.JoinedTies
import Derived.KernelRfl
namespace Go.Proofs.Qxb6615485a
/- THE CELL 'sum', in the pinned program and in every row, IS THE sha256 OF THE DUMP (.gsa) THAT Qxb6615485aProg.lean LOADS. Nothing in Lean hashes anything: it is a label: what it is worth is what the hold of that sum in a sandbox is worth. -/
noncomputable def Try.pinned : Pinned := { name := "qxb6615485a", sum := "46caaf165f77a75c104f7deda34f97047704f89eed871acec1013990a1eb8421", checked := Try.checked }
namespace Rows
def none {H : Type} : Left H := { results := [], args := [] }

/-- 'zzlaws_internal_policy_b1.FnTomlScanAtAcrossAJoin': WHATEVER THE INPUT: true; the input reads as it did. -/
def fnTomlScanAtAcrossAJoinSpec : ChangeSpec := { name := "fnTomlScanAtAcrossAJoin", fn := fun _ => fun
  | [d1, d2, d3, d4, d5] => { results := [.lit (.bool true)], args := [d1, d2, d3, d4, d5] }
  | _ => none }
def fnTomlScanAtAcrossAJoinRow : OpenClaim := { program := "qxb6615485a", sum := "46caaf165f77a75c104f7deda34f97047704f89eed871acec1013990a1eb8421", func := "example.com/guanlian/guanlian/zzlaws_internal_policy_b1.FnTomlScanAtAcrossAJoin", spec := "fnTomlScanAtAcrossAJoin", apart := false }
def FnTomlScanAtAcrossAJoinSaid : Prop := fnTomlScanAtAcrossAJoinRow.holds Try.pinned (OpenSpec.ofChange fnTomlScanAtAcrossAJoinSpec)

/-- ITS FALSE NEIGHBOUR: 'it returns false'. Refute it at one input. -/
def fnTomlScanAtAcrossAJoinWrong : ChangeSpec := { name := "fnTomlScanAtAcrossAJoin", fn := fun _ => fun
  | [d1, d2, d3, d4, d5] => { results := [.lit (.bool false)], args := [d1, d2, d3, d4, d5] }
  | _ => none }
def FnTomlScanAtAcrossAJoinWrongFalsely : Prop := fnTomlScanAtAcrossAJoinRow.holds Try.pinned (OpenSpec.ofChange fnTomlScanAtAcrossAJoinWrong)

/-- 'zzlaws_internal_policy_b1.FnTomlScanAtSeesExactlyOneByte': WHATEVER THE INPUT: true; the input reads as it did. -/
def fnTomlScanAtSeesExactlyOneByteSpec : ChangeSpec := { name := "fnTomlScanAtSeesExactlyOneByte", fn := fun _ => fun
  | [d1, d2, d3] => { results := [.lit (.bool true)], args := [d1, d2, d3] }
  | _ => none }
def fnTomlScanAtSeesExactlyOneByteRow : OpenClaim := { program := "qxb6615485a", sum := "46caaf165f77a75c104f7deda34f97047704f89eed871acec1013990a1eb8421", func := "example.com/guanlian/guanlian/zzlaws_internal_policy_b1.FnTomlScanAtSeesExactlyOneByte", spec := "fnTomlScanAtSeesExactlyOneByte", apart := false }
def FnTomlScanAtSeesExactlyOneByteSaid : Prop := fnTomlScanAtSeesExactlyOneByteRow.holds Try.pinned (OpenSpec.ofChange fnTomlScanAtSeesExactlyOneByteSpec)

/-- ITS FALSE NEIGHBOUR: 'it returns false'. Refute it at one input. -/
def fnTomlScanAtSeesExactlyOneByteWrong : ChangeSpec := { name := "fnTomlScanAtSeesExactlyOneByte", fn := fun _ => fun
  | [d1, d2, d3] => { results := [.lit (.bool false)], args := [d1, d2, d3] }
  | _ => none }
def FnTomlScanAtSeesExactlyOneByteWrongFalsely : Prop := fnTomlScanAtSeesExactlyOneByteRow.holds Try.pinned (OpenSpec.ofChange fnTomlScanAtSeesExactlyOneByteWrong)

end Rows
end Go.Proofs.Qxb6615485a

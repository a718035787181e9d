/-
  No cell of these rows narrows 'for every input' (looked for: loops, veiled, ifaces, maps, wideKeys, modest, calm, conditions, laid).
  DERIVED. THE GIVEN ROWS OF THIS SEAT. 4 by the template 'for every input the law returns true; each argument reads behind the call as it read before'; 0 by the template 'total and deterministic' (their statements: Qxb6614573aTotals.lean).
  GIVEN WITH THE SEED: the statements are not yours to turn. If you find one false, say at which input.
  Laid BY PROGRAM, IN A SANDBOX (cutbox-rows.mjs): the forced cells as the released guide's own fill.sh prints them over the translation 5659cd5b6f7cfb02… (all of the seat's roots in one cut). By AI agents, Wed Nov 11 2026. No macro, syntax, notation, axiom, sorry.
-/
import Derived.Test.Qxb6614573aChecked
import GoSem.Claim
import GoSem.ClaimJoined
import GoSem.ClaimMapViews
import Derived.JoinedTies
import Derived.KernelRfl
namespace Go.Proofs.Qxb6614573a
/- THE CELL 'sum', in the pinned program and in every row, IS THE sha256 OF THE DUMP (.gsa) THAT Qxb6614573aProg.lean LOADS. Nothing in Lean hashes anything: it is a label: what it is worth is what the hold of that sum in a sandbox is worth. -/
noncomputable def Try.pinned : Pinned := { name := "qxb6614573a", sum := "5659cd5b6f7cfb023cb2bfa1d279b15d33b664893dc5afdf618cd70013cdff51", checked := Try.checked }
namespace Rows
def none {H : Type} : Left H := { results := [], args := [] }

/-- 'zzlaws_pkg_check_b1.FnHasErrorSplitsAtAnyCut': WHATEVER THE INPUT: true; the input reads as it did. -/
def fnHasErrorSplitsAtAnyCutSpec : ChangeSpec := { name := "fnHasErrorSplitsAtAnyCut", fn := fun _ => fun
  | [d1, d2] => { results := [.lit (.bool true)], args := [d1, d2] }
  | _ => none }
def fnHasErrorSplitsAtAnyCutRow : OpenClaim := { program := "qxb6614573a", sum := "5659cd5b6f7cfb023cb2bfa1d279b15d33b664893dc5afdf618cd70013cdff51", func := "example.com/spreadwright/spreadwright/zzlaws_pkg_check_b1.FnHasErrorSplitsAtAnyCut", spec := "fnHasErrorSplitsAtAnyCut", apart := false }
def FnHasErrorSplitsAtAnyCutSaid : Prop := fnHasErrorSplitsAtAnyCutRow.holds Try.pinned (OpenSpec.ofChange fnHasErrorSplitsAtAnyCutSpec)

/-- ITS FALSE NEIGHBOUR: 'it returns false'. Refute it at one input. -/
def fnHasErrorSplitsAtAnyCutWrong : ChangeSpec := { name := "fnHasErrorSplitsAtAnyCut", fn := fun _ => fun
  | [d1, d2] => { results := [.lit (.bool false)], args := [d1, d2] }
  | _ => none }
def FnHasErrorSplitsAtAnyCutWrongFalsely : Prop := fnHasErrorSplitsAtAnyCutRow.holds Try.pinned (OpenSpec.ofChange fnHasErrorSplitsAtAnyCutWrong)

/-- 'zzlaws_pkg_check_b1.FnHasErrorAfterInsertingOne': WHATEVER THE INPUT: true; the input reads as it did. -/
def fnHasErrorAfterInsertingOneSpec : ChangeSpec := { name := "fnHasErrorAfterInsertingOne", fn := fun _ => fun
  | [d1, d2, d3, d4, d5] => { results := [.lit (.bool true)], args := [d1, d2, d3, d4, d5] }
  | _ => none }
def fnHasErrorAfterInsertingOneRow : OpenClaim := { program := "qxb6614573a", sum := "5659cd5b6f7cfb023cb2bfa1d279b15d33b664893dc5afdf618cd70013cdff51", func := "example.com/spreadwright/spreadwright/zzlaws_pkg_check_b1.FnHasErrorAfterInsertingOne", spec := "fnHasErrorAfterInsertingOne", apart := false }
def FnHasErrorAfterInsertingOneSaid : Prop := fnHasErrorAfterInsertingOneRow.holds Try.pinned (OpenSpec.ofChange fnHasErrorAfterInsertingOneSpec)

/-- ITS FALSE NEIGHBOUR: 'it returns false'. Refute it at one input. -/
def fnHasErrorAfterInsertingOneWrong : ChangeSpec := { name := "fnHasErrorAfterInsertingOne", fn := fun _ => fun
  | [d1, d2, d3, d4, d5] => { results := [.lit (.bool false)], args := [d1, d2, d3, d4, d5] }
  | _ => none }
def FnHasErrorAfterInsertingOneWrongFalsely : Prop := fnHasErrorAfterInsertingOneRow.holds Try.pinned (OpenSpec.ofChange fnHasErrorAfterInsertingOneWrong)

/-- 'zzlaws_pkg_check_b1.FnDeclaredReportsEachUnknownInOrder': WHATEVER THE INPUT: true; the input reads as it did. -/
def fnDeclaredReportsEachUnknownInOrderSpec : ChangeSpec := { name := "fnDeclaredReportsEachUnknownInOrder", fn := fun _ => fun
  | [d1, d2] => { results := [.lit (.bool true)], args := [d1, d2] }
  | _ => none }
def fnDeclaredReportsEachUnknownInOrderRow : OpenClaim := { program := "qxb6614573a", sum := "5659cd5b6f7cfb023cb2bfa1d279b15d33b664893dc5afdf618cd70013cdff51", func := "example.com/spreadwright/spreadwright/zzlaws_pkg_check_b1.FnDeclaredReportsEachUnknownInOrder", spec := "fnDeclaredReportsEachUnknownInOrder", apart := false }
def FnDeclaredReportsEachUnknownInOrderSaid : Prop := fnDeclaredReportsEachUnknownInOrderRow.holds Try.pinned (OpenSpec.ofChange fnDeclaredReportsEachUnknownInOrderSpec)

/-- ITS FALSE NEIGHBOUR: 'it returns false'. Refute it at one input. -/
def fnDeclaredReportsEachUnknownInOrderWrong : ChangeSpec := { name := "fnDeclaredReportsEachUnknownInOrder", fn := fun _ => fun
  | [d1, d2] => { results := [.lit (.bool false)], args := [d1, d2] }
  | _ => none }
def FnDeclaredReportsEachUnknownInOrderWrongFalsely : Prop := fnDeclaredReportsEachUnknownInOrderRow.holds Try.pinned (OpenSpec.ofChange fnDeclaredReportsEachUnknownInOrderWrong)

/-- 'zzlaws_pkg_check_b1.FnDeclaredBeforeAndAfterDeclaring': WHATEVER THE INPUT: true; the input reads as it did. -/
def fnDeclaredBeforeAndAfterDeclaringSpec : ChangeSpec := { name := "fnDeclaredBeforeAndAfterDeclaring", fn := fun _ => fun
  | [d1, d2, d3, d4] => { results := [.lit (.bool true)], args := [d1, d2, d3, d4] }
  | _ => none }
def fnDeclaredBeforeAndAfterDeclaringRow : OpenClaim := { program := "qxb6614573a", sum := "5659cd5b6f7cfb023cb2bfa1d279b15d33b664893dc5afdf618cd70013cdff51", func := "example.com/spreadwright/spreadwright/zzlaws_pkg_check_b1.FnDeclaredBeforeAndAfterDeclaring", spec := "fnDeclaredBeforeAndAfterDeclaring", apart := false }
def FnDeclaredBeforeAndAfterDeclaringSaid : Prop := fnDeclaredBeforeAndAfterDeclaringRow.holds Try.pinned (OpenSpec.ofChange fnDeclaredBeforeAndAfterDeclaringSpec)

/-- ITS FALSE NEIGHBOUR: 'it returns false'. Refute it at one input. -/
def fnDeclaredBeforeAndAfterDeclaringWrong : ChangeSpec := { name := "fnDeclaredBeforeAndAfterDeclaring", fn := fun _ => fun
  | [d1, d2, d3, d4] => { results := [.lit (.bool false)], args := [d1, d2, d3, d4] }
  | _ => none }
def FnDeclaredBeforeAndAfterDeclaringWrongFalsely : Prop := fnDeclaredBeforeAndAfterDeclaringRow.holds Try.pinned (OpenSpec.ofChange fnDeclaredBeforeAndAfterDeclaringWrong)

end Rows
end Go.Proofs.Qxb6614573a

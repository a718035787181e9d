/-
  No cell of these rows narrows 'for every input' (looked for: loops, veiled, ifaces, maps, wideKeys, modest, calm, conditions, laid).
  DERIVED. THE GIVEN ROWS OF THIS SEAT. 1 by the template 'for every input the law returns true; each argument reads behind the call as it read before'; 0 by the template 'total and deterministic' (their statements: Qxb6614821aTotals.lean).
  GIVEN WITH THE SEED: the statements are not yours to turn. If you find one false, say at which input.
  Laid BY PROGRAM, IN A SANDBOX (cutbox-rows.mjs): the forced cells as the released guide's own fill.sh prints them over the translation 1c689ecd7db64db2… (all of the seat's roots in one cut). By AI agents, Wed Nov 11 2026. No macro, syntax, notation, axiom, sorry.
-/
import Derived.Test.Qxb6614821aChecked
import GoSem.Claim
import GoSem.ClaimJoined
import GoSem.ClaimMapViews
import Derived.JoinedTies
import Derived.KernelRfl
namespace Go.Proofs.Qxb6614821a
/- THE CELL 'sum', in the pinned program and in every row, IS THE sha256 OF THE DUMP (.gsa) THAT Qxb6614821aProg.lean LOADS. Nothing in Lean hashes anything: it is a label: what it is worth is what the hold of that sum in a sandbox is worth. -/
noncomputable def Try.pinned : Pinned := { name := "qxb6614821a", sum := "1c689ecd7db64db2f1672605f8f12d19f549e2fc5e07d562e3f1144ada94f023", checked := Try.checked }
namespace Rows
def none {H : Type} : Left H := { results := [], args := [] }

/-- 'zzlaws_dbms_b1.FnRolesWithinIsBreadthFirstClosure': WHATEVER THE INPUT: true; the input reads as it did. -/
def fnRolesWithinIsBreadthFirstClosureSpec : ChangeSpec := { name := "fnRolesWithinIsBreadthFirstClosure", fn := fun _ => fun
  | [d1, d2, d3] => { results := [.lit (.bool true)], args := [d1, d2, d3] }
  | _ => none }
def fnRolesWithinIsBreadthFirstClosureRow : OpenClaim := { program := "qxb6614821a", sum := "1c689ecd7db64db2f1672605f8f12d19f549e2fc5e07d562e3f1144ada94f023", func := "example.com/unravel-rights/unravel-rights/zzlaws_dbms_b1.FnRolesWithinIsBreadthFirstClosure", spec := "fnRolesWithinIsBreadthFirstClosure", unfollowed := true, recurses := true, plainKeys := false, apart := false }
def FnRolesWithinIsBreadthFirstClosureSaid : Prop := fnRolesWithinIsBreadthFirstClosureRow.holds Try.pinned (OpenSpec.ofChange fnRolesWithinIsBreadthFirstClosureSpec)

/-- ITS FALSE NEIGHBOUR: 'it returns false'. Refute it at one input. -/
def fnRolesWithinIsBreadthFirstClosureWrong : ChangeSpec := { name := "fnRolesWithinIsBreadthFirstClosure", fn := fun _ => fun
  | [d1, d2, d3] => { results := [.lit (.bool false)], args := [d1, d2, d3] }
  | _ => none }
def FnRolesWithinIsBreadthFirstClosureWrongFalsely : Prop := fnRolesWithinIsBreadthFirstClosureRow.holds Try.pinned (OpenSpec.ofChange fnRolesWithinIsBreadthFirstClosureWrong)

end Rows
end Go.Proofs.Qxb6614821a

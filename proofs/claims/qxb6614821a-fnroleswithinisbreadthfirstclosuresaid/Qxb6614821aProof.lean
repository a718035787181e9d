/-
  'Rows.FnRolesWithinIsBreadthFirstClosureSaid' PROVED: the row's frame (Frame), at the contract of the search (Collect).
-/
import Derived.Test.Qxb6614821aFrame
import Derived.Test.Qxb6614821aCollect
namespace Go.Proofs.Qxb6614821a

theorem fnRolesWithinIsBreadthFirstClosure_holds : Rows.FnRolesWithinIsBreadthFirstClosureSaid := roles_holds zz7
end Go.Proofs.Qxb6614821a

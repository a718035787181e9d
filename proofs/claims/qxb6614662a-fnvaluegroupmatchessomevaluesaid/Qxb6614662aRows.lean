/-
  No cell of these rows narrows 'for every input' (looked for: loops, veiled, ifaces, maps, wideKeys, modest, calm, conditions, laid).
  DERIVED. THE GIVEN ROWS OF THIS SEAT. 4 by the template 'for every input the law returns true; each argument reads behind the call as it read before'; 0 by the template 'total and deterministic' (their statements: Qxb6614662aTotals.lean).
  GIVEN WITH THE SEED: the statements are not yours to turn. If you find one false, say at which input.
  Laid BY PROGRAM, IN A SANDBOX (cutbox-rows.mjs): the forced cells as the released guide's own fill.sh prints them over the translation aee6aaebc7e38c9b… (all of the seat's roots in one cut). By AI agents, Wed Nov 11 2026. No macro, syntax, notation, axiom, sorry.
-/
import Derived.Test.Qxb6614662aChecked
import GoSem.Claim
import GoSem.ClaimJoined
import GoSem.ClaimMapViews
import Derived.JoinedTies
import Derived.KernelRfl
namespace Go.Proofs.Qxb6614662a
/- THE CELL 'sum', in the pinned program and in every row, IS THE sha256 OF THE DUMP (.gsa) THAT Qxb6614662aProg.lean LOADS. Nothing in Lean hashes anything: it is a label: what it is worth is what the hold of that sum in a sandbox is worth. -/
noncomputable def Try.pinned : Pinned := { name := "qxb6614662a", sum := "aee6aaebc7e38c9b59ca930384e222ceca4b3a712d8f4ffc46a6ea3710ded52e", checked := Try.checked }
namespace Rows
def none {H : Type} : Left H := { results := [], args := [] }

/-- 'zzlaws_root_b1.FnNotAboveNumericOrder': WHATEVER THE INPUT: true; the input reads as it did. -/
def fnNotAboveNumericOrderSpec : ChangeSpec := { name := "fnNotAboveNumericOrder", fn := fun _ => fun
  | [d1, d2, d3, d4, d5, d6, d7, d8] => { results := [.lit (.bool true)], args := [d1, d2, d3, d4, d5, d6, d7, d8] }
  | _ => none }
def fnNotAboveNumericOrderRow : OpenClaim := { program := "qxb6614662a", sum := "aee6aaebc7e38c9b59ca930384e222ceca4b3a712d8f4ffc46a6ea3710ded52e", func := "example.com/callsift/callsift/zzlaws_root_b1.FnNotAboveNumericOrder", spec := "fnNotAboveNumericOrder", inPlace := ["internal/bytealg.abigen_runtime_cmpstring"], apart := false }
def FnNotAboveNumericOrderSaid : Prop := fnNotAboveNumericOrderRow.holds Try.pinned (OpenSpec.ofChange fnNotAboveNumericOrderSpec)

/-- ITS FALSE NEIGHBOUR: 'it returns false'. Refute it at one input. -/
def fnNotAboveNumericOrderWrong : ChangeSpec := { name := "fnNotAboveNumericOrder", fn := fun _ => fun
  | [d1, d2, d3, d4, d5, d6, d7, d8] => { results := [.lit (.bool false)], args := [d1, d2, d3, d4, d5, d6, d7, d8] }
  | _ => none }
def FnNotAboveNumericOrderWrongFalsely : Prop := fnNotAboveNumericOrderRow.holds Try.pinned (OpenSpec.ofChange fnNotAboveNumericOrderWrong)

/-- 'zzlaws_root_b1.FnNotAboveMirror': WHATEVER THE INPUT: true; the input reads as it did. -/
def fnNotAboveMirrorSpec : ChangeSpec := { name := "fnNotAboveMirror", fn := fun _ => fun
  | [d1, d2, d3, d4, d5, d6, d7, d8] => { results := [.lit (.bool true)], args := [d1, d2, d3, d4, d5, d6, d7, d8] }
  | _ => none }
def fnNotAboveMirrorRow : OpenClaim := { program := "qxb6614662a", sum := "aee6aaebc7e38c9b59ca930384e222ceca4b3a712d8f4ffc46a6ea3710ded52e", func := "example.com/callsift/callsift/zzlaws_root_b1.FnNotAboveMirror", spec := "fnNotAboveMirror", inPlace := ["internal/bytealg.abigen_runtime_cmpstring"], apart := false }
def FnNotAboveMirrorSaid : Prop := fnNotAboveMirrorRow.holds Try.pinned (OpenSpec.ofChange fnNotAboveMirrorSpec)

/-- ITS FALSE NEIGHBOUR: 'it returns false'. Refute it at one input. -/
def fnNotAboveMirrorWrong : ChangeSpec := { name := "fnNotAboveMirror", fn := fun _ => fun
  | [d1, d2, d3, d4, d5, d6, d7, d8] => { results := [.lit (.bool false)], args := [d1, d2, d3, d4, d5, d6, d7, d8] }
  | _ => none }
def FnNotAboveMirrorWrongFalsely : Prop := fnNotAboveMirrorRow.holds Try.pinned (OpenSpec.ofChange fnNotAboveMirrorWrong)

/-- 'zzlaws_root_b1.FnValueGroupMatchesSomeValue': WHATEVER THE INPUT: true; the input reads as it did. -/
def fnValueGroupMatchesSomeValueSpec : ChangeSpec := { name := "fnValueGroupMatchesSomeValue", fn := fun _ => fun
  | [d1, d2, d3, d4, d5, d6] => { results := [.lit (.bool true)], args := [d1, d2, d3, d4, d5, d6] }
  | _ => none }
def fnValueGroupMatchesSomeValueRow : OpenClaim := { program := "qxb6614662a", sum := "aee6aaebc7e38c9b59ca930384e222ceca4b3a712d8f4ffc46a6ea3710ded52e", func := "example.com/callsift/callsift/zzlaws_root_b1.FnValueGroupMatchesSomeValue", spec := "fnValueGroupMatchesSomeValue", inPlace := ["internal/bytealg.abigen_runtime_cmpstring"], unfollowed := true, recurses := true, apart := false }
def FnValueGroupMatchesSomeValueSaid : Prop := fnValueGroupMatchesSomeValueRow.holds Try.pinned (OpenSpec.ofChange fnValueGroupMatchesSomeValueSpec)

/-- ITS FALSE NEIGHBOUR: 'it returns false'. Refute it at one input. -/
def fnValueGroupMatchesSomeValueWrong : ChangeSpec := { name := "fnValueGroupMatchesSomeValue", fn := fun _ => fun
  | [d1, d2, d3, d4, d5, d6] => { results := [.lit (.bool false)], args := [d1, d2, d3, d4, d5, d6] }
  | _ => none }
def FnValueGroupMatchesSomeValueWrongFalsely : Prop := fnValueGroupMatchesSomeValueRow.holds Try.pinned (OpenSpec.ofChange fnValueGroupMatchesSomeValueWrong)

/-- 'zzlaws_root_b1.FnValueGroupMatchesGrows': WHATEVER THE INPUT: true; the input reads as it did. -/
def fnValueGroupMatchesGrowsSpec : ChangeSpec := { name := "fnValueGroupMatchesGrows", fn := fun _ => fun
  | [d1, d2, d3, d4, d5, d6, d7, d8] => { results := [.lit (.bool true)], args := [d1, d2, d3, d4, d5, d6, d7, d8] }
  | _ => none }
def fnValueGroupMatchesGrowsRow : OpenClaim := { program := "qxb6614662a", sum := "aee6aaebc7e38c9b59ca930384e222ceca4b3a712d8f4ffc46a6ea3710ded52e", func := "example.com/callsift/callsift/zzlaws_root_b1.FnValueGroupMatchesGrows", spec := "fnValueGroupMatchesGrows", inPlace := ["internal/bytealg.abigen_runtime_cmpstring"], unfollowed := true, recurses := true, apart := false }
def FnValueGroupMatchesGrowsSaid : Prop := fnValueGroupMatchesGrowsRow.holds Try.pinned (OpenSpec.ofChange fnValueGroupMatchesGrowsSpec)

/-- ITS FALSE NEIGHBOUR: 'it returns false'. Refute it at one input. -/
def fnValueGroupMatchesGrowsWrong : ChangeSpec := { name := "fnValueGroupMatchesGrows", fn := fun _ => fun
  | [d1, d2, d3, d4, d5, d6, d7, d8] => { results := [.lit (.bool false)], args := [d1, d2, d3, d4, d5, d6, d7, d8] }
  | _ => none }
def FnValueGroupMatchesGrowsWrongFalsely : Prop := fnValueGroupMatchesGrowsRow.holds Try.pinned (OpenSpec.ofChange fnValueGroupMatchesGrowsWrong)

end Rows
end Go.Proofs.Qxb6614662a

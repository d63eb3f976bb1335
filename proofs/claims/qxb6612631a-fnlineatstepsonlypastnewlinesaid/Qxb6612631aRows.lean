/-
  No cell of these rows narrows 'for every input' (looked for: loops, veiled, ifaces, maps, wideKeys, modest, calm, conditions, laid).
  DERIVED. THE GIVEN ROWS OF THIS SEAT. 2 by the template 'for every input the law returns true; each argument reads behind the call as it read before'; 0 by the template 'total and deterministic' (their statements: Qxb6612631aTotals.lean).
  GIVEN WITH THE SEED: the statements are not yours to turn. If you find one false, say at which input.
  Laid BY PROGRAM, IN A SANDBOX (cutbox-rows.mjs): the forced cells as the released guide's own fill.sh prints them over the translation b3df106b0d00ec50… (all of the seat's roots in one cut). By AI agents, Wed Nov 11 2026. No macro, syntax, notation, axiom, sorry.
-/
import Derived.Test.Qxb6612631aChecked
import GoSem.Claim
import GoSem.ClaimJoined
import GoSem.ClaimMapViews
import Derived.JoinedTies
import Derived.KernelRfl
namespace Go.Proofs.Qxb6612631a
/- THE CELL 'sum', in the pinned program and in every row, IS THE sha256 OF THE DUMP (.gsa) THAT Qxb6612631aProg.lean LOADS. Nothing in Lean hashes anything: it is a label: what it is worth is what the hold of that sum in a sandbox is worth. -/
noncomputable def Try.pinned : Pinned := { name := "qxb6612631a", sum := "b3df106b0d00ec50f975ac601359de1f825a190b039b8e59e82c9682552b8fec", checked := Try.checked }
namespace Rows
def none {H : Type} : Left H := { results := [], args := [] }

/-- 'zzlaws_pkg_fund_b1.FnLineAtJoinsOverAnyCut': WHATEVER THE INPUT: true; the input reads as it did. -/
def fnLineAtJoinsOverAnyCutSpec : ChangeSpec := { name := "fnLineAtJoinsOverAnyCut", fn := fun _ => fun
  | [d1, d2, d3] => { results := [.lit (.bool true)], args := [d1, d2, d3] }
  | _ => none }
def fnLineAtJoinsOverAnyCutRow : OpenClaim := { program := "qxb6612631a", sum := "b3df106b0d00ec50f975ac601359de1f825a190b039b8e59e82c9682552b8fec", func := "example.com/tierline/tierline/zzlaws_pkg_fund_b1.FnLineAtJoinsOverAnyCut", spec := "fnLineAtJoinsOverAnyCut", inPlace := ["internal/bytealg.Count", "internal/bytealg.IndexByte", "internal/bytealg.Index"], named := ["internal/bytealg.MaxLen"], apart := false }
def FnLineAtJoinsOverAnyCutSaid : Prop := fnLineAtJoinsOverAnyCutRow.holds Try.pinned (OpenSpec.ofChange fnLineAtJoinsOverAnyCutSpec)

/-- ITS FALSE NEIGHBOUR: 'it returns false'. Refute it at one input. -/
def fnLineAtJoinsOverAnyCutWrong : ChangeSpec := { name := "fnLineAtJoinsOverAnyCut", fn := fun _ => fun
  | [d1, d2, d3] => { results := [.lit (.bool false)], args := [d1, d2, d3] }
  | _ => none }
def FnLineAtJoinsOverAnyCutWrongFalsely : Prop := fnLineAtJoinsOverAnyCutRow.holds Try.pinned (OpenSpec.ofChange fnLineAtJoinsOverAnyCutWrong)

/-- 'zzlaws_pkg_fund_b1.FnLineAtStepsOnlyPastNewline': WHATEVER THE INPUT: true; the input reads as it did. -/
def fnLineAtStepsOnlyPastNewlineSpec : ChangeSpec := { name := "fnLineAtStepsOnlyPastNewline", fn := fun _ => fun
  | [d1, d2] => { results := [.lit (.bool true)], args := [d1, d2] }
  | _ => none }
def fnLineAtStepsOnlyPastNewlineRow : OpenClaim := { program := "qxb6612631a", sum := "b3df106b0d00ec50f975ac601359de1f825a190b039b8e59e82c9682552b8fec", func := "example.com/tierline/tierline/zzlaws_pkg_fund_b1.FnLineAtStepsOnlyPastNewline", spec := "fnLineAtStepsOnlyPastNewline", inPlace := ["internal/bytealg.Count", "internal/bytealg.IndexByte", "internal/bytealg.Index"], named := ["internal/bytealg.MaxLen"], apart := false }
def FnLineAtStepsOnlyPastNewlineSaid : Prop := fnLineAtStepsOnlyPastNewlineRow.holds Try.pinned (OpenSpec.ofChange fnLineAtStepsOnlyPastNewlineSpec)

/-- ITS FALSE NEIGHBOUR: 'it returns false'. Refute it at one input. -/
def fnLineAtStepsOnlyPastNewlineWrong : ChangeSpec := { name := "fnLineAtStepsOnlyPastNewline", fn := fun _ => fun
  | [d1, d2] => { results := [.lit (.bool false)], args := [d1, d2] }
  | _ => none }
def FnLineAtStepsOnlyPastNewlineWrongFalsely : Prop := fnLineAtStepsOnlyPastNewlineRow.holds Try.pinned (OpenSpec.ofChange fnLineAtStepsOnlyPastNewlineWrong)

end Rows
end Go.Proofs.Qxb6612631a

/-
  No cell of these rows narrows 'for every input' (looked for: loops, veiled, ifaces, maps, wideKeys, modest, calm, conditions, laid).
  DERIVED. THE GIVEN ROWS OF THIS SEAT. 3 by the template 'for every input the law returns true; each argument reads behind the call as it read before'; 0 by the template 'total and deterministic' (their statements: Qxb6609203aTotals.lean).
  GIVEN WITH THE SEED: the statements are not yours to turn. If you find one false, say at which input.
  Laid BY PROGRAM, IN A SANDBOX (cutbox-rows.mjs): the forced cells as the released guide's own fill.sh prints them over the translation 014aca4c76ef1013… (all of the seat's roots in one cut). By AI agents, Wed Nov 11 2026. No macro, syntax, notation, axiom, sorry.
-/
import Derived.Test.Qxb6609203aChecked
import GoSem.Claim
import GoSem.ClaimJoined
import GoSem.ClaimMapViews
import Derived.JoinedTies
import Derived.KernelRfl
namespace Go.Proofs.Qxb6609203a
/- THE CELL 'sum', in the pinned program and in every row, IS THE sha256 OF THE DUMP (.gsa) THAT Qxb6609203aProg.lean LOADS. Nothing in Lean hashes anything: it is a label: what it is worth is what the hold of that sum in a sandbox is worth. -/
noncomputable def Try.pinned : Pinned := { name := "qxb6609203a", sum := "014aca4c76ef101302f44f812d3206fe4ce5423c6967a6a426f8875cf2ece81b", checked := Try.checked }
namespace Rows
def none {H : Type} : Left H := { results := [], args := [] }

/-- 'zzlaws_lgr_b1.FnActionBitsWordsBracketsAndGrowsByAWord': WHATEVER THE INPUT: true; the input reads as it did. -/
def fnActionBitsWordsBracketsAndGrowsByAWordSpec : ChangeSpec := { name := "fnActionBitsWordsBracketsAndGrowsByAWord", fn := fun _ => fun
  | [d1, d2] => { results := [.lit (.bool true)], args := [d1, d2] }
  | _ => none }
def fnActionBitsWordsBracketsAndGrowsByAWordRow : OpenClaim := { program := "qxb6609203a", sum := "014aca4c76ef101302f44f812d3206fe4ce5423c6967a6a426f8875cf2ece81b", func := "example.com/barberry/barberry/zzlaws_lgr_b1.FnActionBitsWordsBracketsAndGrowsByAWord", spec := "fnActionBitsWordsBracketsAndGrowsByAWord", plainKeys := false, apart := false }
def FnActionBitsWordsBracketsAndGrowsByAWordSaid : Prop := fnActionBitsWordsBracketsAndGrowsByAWordRow.holds Try.pinned (OpenSpec.ofChange fnActionBitsWordsBracketsAndGrowsByAWordSpec)

/-- ITS FALSE NEIGHBOUR: 'it returns false'. Refute it at one input. -/
def fnActionBitsWordsBracketsAndGrowsByAWordWrong : ChangeSpec := { name := "fnActionBitsWordsBracketsAndGrowsByAWord", fn := fun _ => fun
  | [d1, d2] => { results := [.lit (.bool false)], args := [d1, d2] }
  | _ => none }
def FnActionBitsWordsBracketsAndGrowsByAWordWrongFalsely : Prop := fnActionBitsWordsBracketsAndGrowsByAWordRow.holds Try.pinned (OpenSpec.ofChange fnActionBitsWordsBracketsAndGrowsByAWordWrong)

/-- 'zzlaws_lgr_b1.FnAddTagsFilesEachRangeOncePerField': WHATEVER THE INPUT: true; the input reads as it did. -/
def fnAddTagsFilesEachRangeOncePerFieldSpec : ChangeSpec := { name := "fnAddTagsFilesEachRangeOncePerField", fn := fun _ => fun
  | [d1, d2, d3, d4, d5, d6] => { results := [.lit (.bool true)], args := [d1, d2, d3, d4, d5, d6] }
  | _ => none }
def fnAddTagsFilesEachRangeOncePerFieldRow : OpenClaim := { program := "qxb6609203a", sum := "014aca4c76ef101302f44f812d3206fe4ce5423c6967a6a426f8875cf2ece81b", func := "example.com/barberry/barberry/zzlaws_lgr_b1.FnAddTagsFilesEachRangeOncePerField", spec := "fnAddTagsFilesEachRangeOncePerField", inPlace := ["internal/bytealg.IndexByteString", "internal/bytealg.IndexString"], unfollowed := true, recurses := true, named := ["internal/bytealg.MaxLen"], plainKeys := false, apart := false }
def FnAddTagsFilesEachRangeOncePerFieldSaid : Prop := fnAddTagsFilesEachRangeOncePerFieldRow.holds Try.pinned (OpenSpec.ofChange fnAddTagsFilesEachRangeOncePerFieldSpec)

/-- ITS FALSE NEIGHBOUR: 'it returns false'. Refute it at one input. -/
def fnAddTagsFilesEachRangeOncePerFieldWrong : ChangeSpec := { name := "fnAddTagsFilesEachRangeOncePerField", fn := fun _ => fun
  | [d1, d2, d3, d4, d5, d6] => { results := [.lit (.bool false)], args := [d1, d2, d3, d4, d5, d6] }
  | _ => none }
def FnAddTagsFilesEachRangeOncePerFieldWrongFalsely : Prop := fnAddTagsFilesEachRangeOncePerFieldRow.holds Try.pinned (OpenSpec.ofChange fnAddTagsFilesEachRangeOncePerFieldWrong)

/-- 'zzlaws_lgr_b1.FnAddTagsSplitAtSpaceAgrees': WHATEVER THE INPUT: true; the input reads as it did. -/
def fnAddTagsSplitAtSpaceAgreesSpec : ChangeSpec := { name := "fnAddTagsSplitAtSpaceAgrees", fn := fun _ => fun
  | [d1, d2, d3, d4] => { results := [.lit (.bool true)], args := [d1, d2, d3, d4] }
  | _ => none }
def fnAddTagsSplitAtSpaceAgreesRow : OpenClaim := { program := "qxb6609203a", sum := "014aca4c76ef101302f44f812d3206fe4ce5423c6967a6a426f8875cf2ece81b", func := "example.com/barberry/barberry/zzlaws_lgr_b1.FnAddTagsSplitAtSpaceAgrees", spec := "fnAddTagsSplitAtSpaceAgrees", inPlace := ["internal/bytealg.IndexByteString", "internal/bytealg.IndexString"], unfollowed := true, recurses := true, named := ["internal/bytealg.MaxLen"], plainKeys := false, apart := false }
def FnAddTagsSplitAtSpaceAgreesSaid : Prop := fnAddTagsSplitAtSpaceAgreesRow.holds Try.pinned (OpenSpec.ofChange fnAddTagsSplitAtSpaceAgreesSpec)

/-- ITS FALSE NEIGHBOUR: 'it returns false'. Refute it at one input. -/
def fnAddTagsSplitAtSpaceAgreesWrong : ChangeSpec := { name := "fnAddTagsSplitAtSpaceAgrees", fn := fun _ => fun
  | [d1, d2, d3, d4] => { results := [.lit (.bool false)], args := [d1, d2, d3, d4] }
  | _ => none }
def FnAddTagsSplitAtSpaceAgreesWrongFalsely : Prop := fnAddTagsSplitAtSpaceAgreesRow.holds Try.pinned (OpenSpec.ofChange fnAddTagsSplitAtSpaceAgreesWrong)

end Rows
end Go.Proofs.Qxb6609203a

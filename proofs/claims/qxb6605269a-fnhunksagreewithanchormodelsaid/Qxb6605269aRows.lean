/-
  No cell of these rows narrows 'for every input' (looked for: loops, veiled, ifaces, maps, wideKeys, modest, calm, conditions, laid).
  DERIVED. THE GIVEN ROWS OF THIS SEAT. 4 by the template 'for every input the law returns true; each argument reads behind the call as it read before'; 0 by the template 'total and deterministic' (their statements: Qxb6605269aTotals.lean).
  GIVEN WITH THE SEED: the statements are not yours to turn. If you find one false, say at which input.
  Laid BY PROGRAM, IN A SANDBOX (cutbox-rows.mjs): the forced cells as the released guide's own fill.sh prints them over the translation d90964ea1ec08a4d… (all of the seat's roots in one cut). By AI agents, Wed Nov 11 2026. No macro, syntax, notation, axiom, sorry.
-/
import Derived.Test.Qxb6605269aChecked
import GoSem.Claim
import GoSem.ClaimJoined
import GoSem.ClaimMapViews
import Derived.JoinedTies
import Derived.KernelRfl
namespace Go.Proofs.Qxb6605269a
/- THE CELL 'sum', in the pinned program and in every row, IS THE sha256 OF THE DUMP (.gsa) THAT Qxb6605269aProg.lean LOADS. Nothing in Lean hashes anything: it is a label: what it is worth is what the hold of that sum in a sandbox is worth. -/
noncomputable def Try.pinned : Pinned := { name := "qxb6605269a", sum := "d90964ea1ec08a4d9a8b77b06079bda6229b957c62595895b2d7cf0901d99c99", checked := Try.checked }
namespace Rows
def none {H : Type} : Left H := { results := [], args := [] }

/-- 'zzlaws_pkg_diff_b1.FnSplitMeetsOnAShortestScript': WHATEVER THE INPUT: true; the input reads as it did. -/
def fnSplitMeetsOnAShortestScriptSpec : ChangeSpec := { name := "fnSplitMeetsOnAShortestScript", fn := fun _ => fun
  | [d1, d2, d3, d4, d5, d6, d7, d8, d9] => { results := [.lit (.bool true)], args := [d1, d2, d3, d4, d5, d6, d7, d8, d9] }
  | _ => none }
def fnSplitMeetsOnAShortestScriptRow : OpenClaim := { program := "qxb6605269a", sum := "d90964ea1ec08a4d9a8b77b06079bda6229b957c62595895b2d7cf0901d99c99", func := "example.com/wire-to-transcript/wire-to-transcript/zzlaws_pkg_diff_b1.FnSplitMeetsOnAShortestScript", spec := "fnSplitMeetsOnAShortestScript", apart := false }
def FnSplitMeetsOnAShortestScriptSaid : Prop := fnSplitMeetsOnAShortestScriptRow.holds Try.pinned (OpenSpec.ofChange fnSplitMeetsOnAShortestScriptSpec)

/-- ITS FALSE NEIGHBOUR: 'it returns false'. Refute it at one input. -/
def fnSplitMeetsOnAShortestScriptWrong : ChangeSpec := { name := "fnSplitMeetsOnAShortestScript", fn := fun _ => fun
  | [d1, d2, d3, d4, d5, d6, d7, d8, d9] => { results := [.lit (.bool false)], args := [d1, d2, d3, d4, d5, d6, d7, d8, d9] }
  | _ => none }
def FnSplitMeetsOnAShortestScriptWrongFalsely : Prop := fnSplitMeetsOnAShortestScriptRow.holds Try.pinned (OpenSpec.ofChange fnSplitMeetsOnAShortestScriptWrong)

/-- 'zzlaws_pkg_diff_b1.FnMarkDecodesBack': WHATEVER THE INPUT: true; the input reads as it did. -/
def fnMarkDecodesBackSpec : ChangeSpec := { name := "fnMarkDecodesBack", fn := fun _ => fun
  | [d1, d2, d3] => { results := [.lit (.bool true)], args := [d1, d2, d3] }
  | _ => none }
def fnMarkDecodesBackRow : OpenClaim := { program := "qxb6605269a", sum := "d90964ea1ec08a4d9a8b77b06079bda6229b957c62595895b2d7cf0901d99c99", func := "example.com/wire-to-transcript/wire-to-transcript/zzlaws_pkg_diff_b1.FnMarkDecodesBack", spec := "fnMarkDecodesBack", apart := false }
def FnMarkDecodesBackSaid : Prop := fnMarkDecodesBackRow.holds Try.pinned (OpenSpec.ofChange fnMarkDecodesBackSpec)

/-- ITS FALSE NEIGHBOUR: 'it returns false'. Refute it at one input. -/
def fnMarkDecodesBackWrong : ChangeSpec := { name := "fnMarkDecodesBack", fn := fun _ => fun
  | [d1, d2, d3] => { results := [.lit (.bool false)], args := [d1, d2, d3] }
  | _ => none }
def FnMarkDecodesBackWrongFalsely : Prop := fnMarkDecodesBackRow.holds Try.pinned (OpenSpec.ofChange fnMarkDecodesBackWrong)

/-- 'zzlaws_pkg_diff_b1.FnHunksAgreeWithAnchorModel': WHATEVER THE INPUT: true; the input reads as it did. -/
def fnHunksAgreeWithAnchorModelSpec : ChangeSpec := { name := "fnHunksAgreeWithAnchorModel", fn := fun _ => fun
  | [d1, d2, d3, d4] => { results := [.lit (.bool true)], args := [d1, d2, d3, d4] }
  | _ => none }
def fnHunksAgreeWithAnchorModelRow : OpenClaim := { program := "qxb6605269a", sum := "d90964ea1ec08a4d9a8b77b06079bda6229b957c62595895b2d7cf0901d99c99", func := "example.com/wire-to-transcript/wire-to-transcript/zzlaws_pkg_diff_b1.FnHunksAgreeWithAnchorModel", spec := "fnHunksAgreeWithAnchorModel", apart := false }
def FnHunksAgreeWithAnchorModelSaid : Prop := fnHunksAgreeWithAnchorModelRow.holds Try.pinned (OpenSpec.ofChange fnHunksAgreeWithAnchorModelSpec)

/-- ITS FALSE NEIGHBOUR: 'it returns false'. Refute it at one input. -/
def fnHunksAgreeWithAnchorModelWrong : ChangeSpec := { name := "fnHunksAgreeWithAnchorModel", fn := fun _ => fun
  | [d1, d2, d3, d4] => { results := [.lit (.bool false)], args := [d1, d2, d3, d4] }
  | _ => none }
def FnHunksAgreeWithAnchorModelWrongFalsely : Prop := fnHunksAgreeWithAnchorModelRow.holds Try.pinned (OpenSpec.ofChange fnHunksAgreeWithAnchorModelWrong)

/-- 'zzlaws_pkg_diff_b1.FnHunksPatchOldIntoNewAndBack': WHATEVER THE INPUT: true; the input reads as it did. -/
def fnHunksPatchOldIntoNewAndBackSpec : ChangeSpec := { name := "fnHunksPatchOldIntoNewAndBack", fn := fun _ => fun
  | [d1, d2, d3, d4] => { results := [.lit (.bool true)], args := [d1, d2, d3, d4] }
  | _ => none }
def fnHunksPatchOldIntoNewAndBackRow : OpenClaim := { program := "qxb6605269a", sum := "d90964ea1ec08a4d9a8b77b06079bda6229b957c62595895b2d7cf0901d99c99", func := "example.com/wire-to-transcript/wire-to-transcript/zzlaws_pkg_diff_b1.FnHunksPatchOldIntoNewAndBack", spec := "fnHunksPatchOldIntoNewAndBack", apart := false }
def FnHunksPatchOldIntoNewAndBackSaid : Prop := fnHunksPatchOldIntoNewAndBackRow.holds Try.pinned (OpenSpec.ofChange fnHunksPatchOldIntoNewAndBackSpec)

/-- ITS FALSE NEIGHBOUR: 'it returns false'. Refute it at one input. -/
def fnHunksPatchOldIntoNewAndBackWrong : ChangeSpec := { name := "fnHunksPatchOldIntoNewAndBack", fn := fun _ => fun
  | [d1, d2, d3, d4] => { results := [.lit (.bool false)], args := [d1, d2, d3, d4] }
  | _ => none }
def FnHunksPatchOldIntoNewAndBackWrongFalsely : Prop := fnHunksPatchOldIntoNewAndBackRow.holds Try.pinned (OpenSpec.ofChange fnHunksPatchOldIntoNewAndBackWrong)

end Rows
end Go.Proofs.Qxb6605269a

/-
  No cell of these rows narrows 'for every input' (looked for: loops, veiled, ifaces, maps, wideKeys, modest, calm, conditions, laid).
  DERIVED. THE GIVEN ROWS OF THIS SEAT. 4 by the template 'for every input the law returns true; each argument reads behind the call as it read before'; 0 by the template 'total and deterministic' (their statements: Qxb6605441aTotals.lean).
  GIVEN WITH THE SEED: the statements are not yours to turn. If you find one false, say at which input.
  Laid BY PROGRAM, IN A SANDBOX (cutbox-rows.mjs): the forced cells as the released guide's own fill.sh prints them over the translation 8546c5bbc30e97b7… (all of the seat's roots in one cut). By AI agents, Wed Nov 11 2026. No macro, syntax, notation, axiom, sorry.
-/
import Derived.Test.Qxb6605441aChecked
import GoSem.Claim
import GoSem.ClaimJoined
import GoSem.ClaimMapViews
import Derived.JoinedTies
import Derived.KernelRfl
namespace Go.Proofs.Qxb6605441a
/- THE CELL 'sum', in the pinned program and in every row, IS THE sha256 OF THE DUMP (.gsa) THAT Qxb6605441aProg.lean LOADS. Nothing in Lean hashes anything: it is a label: what it is worth is what the hold of that sum in a sandbox is worth. -/
noncomputable def Try.pinned : Pinned := { name := "qxb6605441a", sum := "8546c5bbc30e97b7529125327965704f9712504340ff872c76d0cc2f30430d1a", checked := Try.checked }
namespace Rows
def none {H : Type} : Left H := { results := [], args := [] }

/-- 'zzlaws_pkg_manifest_b1.FnChildIsOneStepDownTheFieldPath': WHATEVER THE INPUT: true; the input reads as it did. -/
def fnChildIsOneStepDownTheFieldPathSpec : ChangeSpec := { name := "fnChildIsOneStepDownTheFieldPath", fn := fun _ => fun
  | [d1, d2] => { results := [.lit (.bool true)], args := [d1, d2] }
  | _ => none }
def fnChildIsOneStepDownTheFieldPathRow : OpenClaim := { program := "qxb6605441a", sum := "8546c5bbc30e97b7529125327965704f9712504340ff872c76d0cc2f30430d1a", func := "example.com/tideline/tideline/zzlaws_pkg_manifest_b1.FnChildIsOneStepDownTheFieldPath", spec := "fnChildIsOneStepDownTheFieldPath", apart := false }
def FnChildIsOneStepDownTheFieldPathSaid : Prop := fnChildIsOneStepDownTheFieldPathRow.holds Try.pinned (OpenSpec.ofChange fnChildIsOneStepDownTheFieldPathSpec)

/-- ITS FALSE NEIGHBOUR: 'it returns false'. Refute it at one input. -/
def fnChildIsOneStepDownTheFieldPathWrong : ChangeSpec := { name := "fnChildIsOneStepDownTheFieldPath", fn := fun _ => fun
  | [d1, d2] => { results := [.lit (.bool false)], args := [d1, d2] }
  | _ => none }
def FnChildIsOneStepDownTheFieldPathWrongFalsely : Prop := fnChildIsOneStepDownTheFieldPathRow.holds Try.pinned (OpenSpec.ofChange fnChildIsOneStepDownTheFieldPathWrong)

/-- 'zzlaws_pkg_manifest_b1.FnBlankOrCommentIsWhitespaceBeforeFirstHash': WHATEVER THE INPUT: true; the input reads as it did. -/
def fnBlankOrCommentIsWhitespaceBeforeFirstHashSpec : ChangeSpec := { name := "fnBlankOrCommentIsWhitespaceBeforeFirstHash", fn := fun _ => fun
  | [d] => { results := [.lit (.bool true)], args := [d] }
  | _ => none }
def fnBlankOrCommentIsWhitespaceBeforeFirstHashRow : OpenClaim := { program := "qxb6605441a", sum := "8546c5bbc30e97b7529125327965704f9712504340ff872c76d0cc2f30430d1a", func := "example.com/tideline/tideline/zzlaws_pkg_manifest_b1.FnBlankOrCommentIsWhitespaceBeforeFirstHash", spec := "fnBlankOrCommentIsWhitespaceBeforeFirstHash", apart := false }
def FnBlankOrCommentIsWhitespaceBeforeFirstHashSaid : Prop := fnBlankOrCommentIsWhitespaceBeforeFirstHashRow.holds Try.pinned (OpenSpec.ofChange fnBlankOrCommentIsWhitespaceBeforeFirstHashSpec)

/-- ITS FALSE NEIGHBOUR: 'it returns false'. Refute it at one input. -/
def fnBlankOrCommentIsWhitespaceBeforeFirstHashWrong : ChangeSpec := { name := "fnBlankOrCommentIsWhitespaceBeforeFirstHash", fn := fun _ => fun
  | [d] => { results := [.lit (.bool false)], args := [d] }
  | _ => none }
def FnBlankOrCommentIsWhitespaceBeforeFirstHashWrongFalsely : Prop := fnBlankOrCommentIsWhitespaceBeforeFirstHashRow.holds Try.pinned (OpenSpec.ofChange fnBlankOrCommentIsWhitespaceBeforeFirstHashWrong)

/-- 'zzlaws_pkg_manifest_b1.FnLineEndMatchesByteScan': WHATEVER THE INPUT: true; the input reads as it did. -/
def fnLineEndMatchesByteScanSpec : ChangeSpec := { name := "fnLineEndMatchesByteScan", fn := fun _ => fun
  | [d1, d2] => { results := [.lit (.bool true)], args := [d1, d2] }
  | _ => none }
def fnLineEndMatchesByteScanRow : OpenClaim := { program := "qxb6605441a", sum := "8546c5bbc30e97b7529125327965704f9712504340ff872c76d0cc2f30430d1a", func := "example.com/tideline/tideline/zzlaws_pkg_manifest_b1.FnLineEndMatchesByteScan", spec := "fnLineEndMatchesByteScan", inPlace := ["internal/bytealg.IndexByte"], apart := false }
def FnLineEndMatchesByteScanSaid : Prop := fnLineEndMatchesByteScanRow.holds Try.pinned (OpenSpec.ofChange fnLineEndMatchesByteScanSpec)

/-- ITS FALSE NEIGHBOUR: 'it returns false'. Refute it at one input. -/
def fnLineEndMatchesByteScanWrong : ChangeSpec := { name := "fnLineEndMatchesByteScan", fn := fun _ => fun
  | [d1, d2] => { results := [.lit (.bool false)], args := [d1, d2] }
  | _ => none }
def FnLineEndMatchesByteScanWrongFalsely : Prop := fnLineEndMatchesByteScanRow.holds Try.pinned (OpenSpec.ofChange fnLineEndMatchesByteScanWrong)

/-- 'zzlaws_pkg_manifest_b1.FnLineEndStaysAsMoreIsRead': WHATEVER THE INPUT: true; the input reads as it did. -/
def fnLineEndStaysAsMoreIsReadSpec : ChangeSpec := { name := "fnLineEndStaysAsMoreIsRead", fn := fun _ => fun
  | [d1, d2, d3] => { results := [.lit (.bool true)], args := [d1, d2, d3] }
  | _ => none }
def fnLineEndStaysAsMoreIsReadRow : OpenClaim := { program := "qxb6605441a", sum := "8546c5bbc30e97b7529125327965704f9712504340ff872c76d0cc2f30430d1a", func := "example.com/tideline/tideline/zzlaws_pkg_manifest_b1.FnLineEndStaysAsMoreIsRead", spec := "fnLineEndStaysAsMoreIsRead", inPlace := ["internal/bytealg.IndexByte"], apart := false }
def FnLineEndStaysAsMoreIsReadSaid : Prop := fnLineEndStaysAsMoreIsReadRow.holds Try.pinned (OpenSpec.ofChange fnLineEndStaysAsMoreIsReadSpec)

/-- ITS FALSE NEIGHBOUR: 'it returns false'. Refute it at one input. -/
def fnLineEndStaysAsMoreIsReadWrong : ChangeSpec := { name := "fnLineEndStaysAsMoreIsRead", fn := fun _ => fun
  | [d1, d2, d3] => { results := [.lit (.bool false)], args := [d1, d2, d3] }
  | _ => none }
def FnLineEndStaysAsMoreIsReadWrongFalsely : Prop := fnLineEndStaysAsMoreIsReadRow.holds Try.pinned (OpenSpec.ofChange fnLineEndStaysAsMoreIsReadWrong)

end Rows
end Go.Proofs.Qxb6605441a

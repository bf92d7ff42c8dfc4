/-
  No cell of these rows narrows 'for every input' (looked for: loops, veiled, ifaces, maps, wideKeys, modest, calm, conditions, laid).
  DERIVED. THE GIVEN ROWS OF THIS SEAT. 2 by the template 'for every input the law returns true; each argument reads behind the call as it read before'; 0 by the template 'total and deterministic' (their statements: Qxb6616814aTotals.lean).
  GIVEN WITH THE SEED: the statements are not yours to turn. If you find one false, say at which input.
  Laid BY PROGRAM, IN A SANDBOX (cutbox-rows.mjs): the forced cells as the released guide's own fill.sh prints them over the translation 06bc96aa6842e3ab… (all of the seat's roots in one cut). By AI agents, Wed Nov 11 2026. No macro, syntax, notation, axiom, sorry.
-/
import Derived.Test.Qxb6616814aChecked
import GoSem.Claim
import GoSem.ClaimJoined
import GoSem.ClaimMapViews
import Derived.JoinedTies
import Derived.KernelRfl
namespace Go.Proofs.Qxb6616814a
/- THE CELL 'sum', in the pinned program and in every row, IS THE sha256 OF THE DUMP (.gsa) THAT Qxb6616814aProg.lean LOADS. Nothing in Lean hashes anything: it is a label: what it is worth is what the hold of that sum in a sandbox is worth. -/
noncomputable def Try.pinned : Pinned := { name := "qxb6616814a", sum := "06bc96aa6842e3ab1f24cf06f4184b4991601570d2dec40ab5ab30dee47e26fe", checked := Try.checked }
namespace Rows
def none {H : Type} : Left H := { results := [], args := [] }

/-- 'zzlaws_vclog_b1.FnLineTextStripsAppendedLineEnd': WHATEVER THE INPUT: true; the input reads as it did. -/
def fnLineTextStripsAppendedLineEndSpec : ChangeSpec := { name := "fnLineTextStripsAppendedLineEnd", fn := fun _ => fun
  | [d] => { results := [.lit (.bool true)], args := [d] }
  | _ => none }
def fnLineTextStripsAppendedLineEndRow : OpenClaim := { program := "qxb6616814a", sum := "06bc96aa6842e3ab1f24cf06f4184b4991601570d2dec40ab5ab30dee47e26fe", func := "example.com/beforehand/beforehand/zzlaws_vclog_b1.FnLineTextStripsAppendedLineEnd", spec := "fnLineTextStripsAppendedLineEnd", apart := false }
def FnLineTextStripsAppendedLineEndSaid : Prop := fnLineTextStripsAppendedLineEndRow.holds Try.pinned (OpenSpec.ofChange fnLineTextStripsAppendedLineEndSpec)

/-- ITS FALSE NEIGHBOUR: 'it returns false'. Refute it at one input. -/
def fnLineTextStripsAppendedLineEndWrong : ChangeSpec := { name := "fnLineTextStripsAppendedLineEnd", fn := fun _ => fun
  | [d] => { results := [.lit (.bool false)], args := [d] }
  | _ => none }
def FnLineTextStripsAppendedLineEndWrongFalsely : Prop := fnLineTextStripsAppendedLineEndRow.holds Try.pinned (OpenSpec.ofChange fnLineTextStripsAppendedLineEndWrong)

/-- 'zzlaws_vclog_b1.FnLineTextLooksOnlyAtLastTwoBytes': WHATEVER THE INPUT: true; the input reads as it did. -/
def fnLineTextLooksOnlyAtLastTwoBytesSpec : ChangeSpec := { name := "fnLineTextLooksOnlyAtLastTwoBytes", fn := fun _ => fun
  | [d1, d2] => { results := [.lit (.bool true)], args := [d1, d2] }
  | _ => none }
def fnLineTextLooksOnlyAtLastTwoBytesRow : OpenClaim := { program := "qxb6616814a", sum := "06bc96aa6842e3ab1f24cf06f4184b4991601570d2dec40ab5ab30dee47e26fe", func := "example.com/beforehand/beforehand/zzlaws_vclog_b1.FnLineTextLooksOnlyAtLastTwoBytes", spec := "fnLineTextLooksOnlyAtLastTwoBytes", apart := false }
def FnLineTextLooksOnlyAtLastTwoBytesSaid : Prop := fnLineTextLooksOnlyAtLastTwoBytesRow.holds Try.pinned (OpenSpec.ofChange fnLineTextLooksOnlyAtLastTwoBytesSpec)

/-- ITS FALSE NEIGHBOUR: 'it returns false'. Refute it at one input. -/
def fnLineTextLooksOnlyAtLastTwoBytesWrong : ChangeSpec := { name := "fnLineTextLooksOnlyAtLastTwoBytes", fn := fun _ => fun
  | [d1, d2] => { results := [.lit (.bool false)], args := [d1, d2] }
  | _ => none }
def FnLineTextLooksOnlyAtLastTwoBytesWrongFalsely : Prop := fnLineTextLooksOnlyAtLastTwoBytesRow.holds Try.pinned (OpenSpec.ofChange fnLineTextLooksOnlyAtLastTwoBytesWrong)

end Rows
end Go.Proofs.Qxb6616814a

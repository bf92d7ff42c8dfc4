/-
  No cell of these rows narrows 'for every input' (looked for: loops, veiled, ifaces, maps, wideKeys, modest, calm, conditions, laid).
  DERIVED. THE GIVEN ROWS OF THIS SEAT. 3 by the template 'for every input the law returns true; each argument reads behind the call as it read before'; 0 by the template 'total and deterministic' (their statements: Qxb6616893aTotals.lean).
  GIVEN WITH THE SEED: the statements are not yours to turn. If you find one false, say at which input.
  Laid BY PROGRAM, IN A SANDBOX (cutbox-rows.mjs): the forced cells as the released guide's own fill.sh prints them over the translation e4b1ebc81b00f1f9… (all of the seat's roots in one cut). By AI agents, Wed Nov 11 2026. No macro, syntax, notation, axiom, sorry.
-/
import Derived.Test.Qxb6616893aChecked
import GoSem.Claim
import GoSem.ClaimJoined
import GoSem.ClaimMapViews
import Derived.JoinedTies
import Derived.KernelRfl
namespace Go.Proofs.Qxb6616893a
/- THE CELL 'sum', in the pinned program and in every row, IS THE sha256 OF THE DUMP (.gsa) THAT Qxb6616893aProg.lean LOADS. Nothing in Lean hashes anything: it is a label: what it is worth is what the hold of that sum in a sandbox is worth. -/
noncomputable def Try.pinned : Pinned := { name := "qxb6616893a", sum := "e4b1ebc81b00f1f97c167643999b0bda7e98e6ec464f078fb39bcc3c5dc22ad6", checked := Try.checked }
namespace Rows
def none {H : Type} : Left H := { results := [], args := [] }

/-- 'zzlaws_internal_store_b1.FnGrantEventRoleIDYieldsToOther': WHATEVER THE INPUT: true; the input reads as it did. -/
def fnGrantEventRoleIDYieldsToOtherSpec : ChangeSpec := { name := "fnGrantEventRoleIDYieldsToOther", fn := fun _ => fun
  | [d1, d2, d3, d4, d5, d6, d7] => { results := [.lit (.bool true)], args := [d1, d2, d3, d4, d5, d6, d7] }
  | _ => none }
def fnGrantEventRoleIDYieldsToOtherRow : OpenClaim := { program := "qxb6616893a", sum := "e4b1ebc81b00f1f97c167643999b0bda7e98e6ec464f078fb39bcc3c5dc22ad6", func := "example.com/vouch-to-grant/vouch-to-grant/zzlaws_internal_store_b1.FnGrantEventRoleIDYieldsToOther", spec := "fnGrantEventRoleIDYieldsToOther", apart := false }
def FnGrantEventRoleIDYieldsToOtherSaid : Prop := fnGrantEventRoleIDYieldsToOtherRow.holds Try.pinned (OpenSpec.ofChange fnGrantEventRoleIDYieldsToOtherSpec)

/-- ITS FALSE NEIGHBOUR: 'it returns false'. Refute it at one input. -/
def fnGrantEventRoleIDYieldsToOtherWrong : ChangeSpec := { name := "fnGrantEventRoleIDYieldsToOther", fn := fun _ => fun
  | [d1, d2, d3, d4, d5, d6, d7] => { results := [.lit (.bool false)], args := [d1, d2, d3, d4, d5, d6, d7] }
  | _ => none }
def FnGrantEventRoleIDYieldsToOtherWrongFalsely : Prop := fnGrantEventRoleIDYieldsToOtherRow.holds Try.pinned (OpenSpec.ofChange fnGrantEventRoleIDYieldsToOtherWrong)

/-- 'zzlaws_internal_store_b1.FnRoleEventPermissionsYieldToOther': WHATEVER THE INPUT: true; the input reads as it did. -/
def fnRoleEventPermissionsYieldToOtherSpec : ChangeSpec := { name := "fnRoleEventPermissionsYieldToOther", fn := fun _ => fun
  | [d1, d2, d3, d4, d5, d6, d7] => { results := [.lit (.bool true)], args := [d1, d2, d3, d4, d5, d6, d7] }
  | _ => none }
def fnRoleEventPermissionsYieldToOtherRow : OpenClaim := { program := "qxb6616893a", sum := "e4b1ebc81b00f1f97c167643999b0bda7e98e6ec464f078fb39bcc3c5dc22ad6", func := "example.com/vouch-to-grant/vouch-to-grant/zzlaws_internal_store_b1.FnRoleEventPermissionsYieldToOther", spec := "fnRoleEventPermissionsYieldToOther", apart := false }
def FnRoleEventPermissionsYieldToOtherSaid : Prop := fnRoleEventPermissionsYieldToOtherRow.holds Try.pinned (OpenSpec.ofChange fnRoleEventPermissionsYieldToOtherSpec)

/-- ITS FALSE NEIGHBOUR: 'it returns false'. Refute it at one input. -/
def fnRoleEventPermissionsYieldToOtherWrong : ChangeSpec := { name := "fnRoleEventPermissionsYieldToOther", fn := fun _ => fun
  | [d1, d2, d3, d4, d5, d6, d7] => { results := [.lit (.bool false)], args := [d1, d2, d3, d4, d5, d6, d7] }
  | _ => none }
def FnRoleEventPermissionsYieldToOtherWrongFalsely : Prop := fnRoleEventPermissionsYieldToOtherRow.holds Try.pinned (OpenSpec.ofChange fnRoleEventPermissionsYieldToOtherWrong)

/-- 'zzlaws_internal_store_b1.FnGrantAndRoleEventsAgree': WHATEVER THE INPUT: true; the input reads as it did. -/
def fnGrantAndRoleEventsAgreeSpec : ChangeSpec := { name := "fnGrantAndRoleEventsAgree", fn := fun _ => fun
  | [d1, d2, d3, d4, d5, d6, d7] => { results := [.lit (.bool true)], args := [d1, d2, d3, d4, d5, d6, d7] }
  | _ => none }
def fnGrantAndRoleEventsAgreeRow : OpenClaim := { program := "qxb6616893a", sum := "e4b1ebc81b00f1f97c167643999b0bda7e98e6ec464f078fb39bcc3c5dc22ad6", func := "example.com/vouch-to-grant/vouch-to-grant/zzlaws_internal_store_b1.FnGrantAndRoleEventsAgree", spec := "fnGrantAndRoleEventsAgree", apart := false }
def FnGrantAndRoleEventsAgreeSaid : Prop := fnGrantAndRoleEventsAgreeRow.holds Try.pinned (OpenSpec.ofChange fnGrantAndRoleEventsAgreeSpec)

/-- ITS FALSE NEIGHBOUR: 'it returns false'. Refute it at one input. -/
def fnGrantAndRoleEventsAgreeWrong : ChangeSpec := { name := "fnGrantAndRoleEventsAgree", fn := fun _ => fun
  | [d1, d2, d3, d4, d5, d6, d7] => { results := [.lit (.bool false)], args := [d1, d2, d3, d4, d5, d6, d7] }
  | _ => none }
def FnGrantAndRoleEventsAgreeWrongFalsely : Prop := fnGrantAndRoleEventsAgreeRow.holds Try.pinned (OpenSpec.ofChange fnGrantAndRoleEventsAgreeWrong)

end Rows
end Go.Proofs.Qxb6616893a

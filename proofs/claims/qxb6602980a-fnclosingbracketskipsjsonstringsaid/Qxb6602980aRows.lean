/-
  No cell of these rows narrows 'for every input' (looked for: loops, veiled, ifaces, maps, wideKeys, modest, calm, conditions, laid).
  DERIVED. THE GIVEN ROWS OF THIS SEAT. 4 by the template 'for every input the law returns true; each argument reads behind the call as it read before'; 0 by the template 'total and deterministic' (their statements: Qxb6602980aTotals.lean).
  GIVEN WITH THE SEED: the statements are not yours to turn. If you find one false, say at which input.
  Laid BY PROGRAM, IN A SANDBOX (cutbox-rows.mjs): the forced cells as the released guide's own fill.sh prints them over the translation 053b1de978baf1e8… (all of the seat's roots in one cut). By AI agents, Wed Nov 11 2026. No macro, syntax, notation, axiom, sorry.
-/
import Derived.Test.Qxb6602980aChecked
import GoSem.Claim
import GoSem.ClaimJoined
import GoSem.ClaimMapViews
import Derived.JoinedTies
import Derived.KernelRfl
namespace Go.Proofs.Qxb6602980a
/- THE CELL 'sum', in the pinned program and in every row, IS THE sha256 OF THE DUMP (.gsa) THAT Qxb6602980aProg.lean LOADS. Nothing in Lean hashes anything: it is a label: what it is worth is what the hold of that sum in a sandbox is worth. -/
noncomputable def Try.pinned : Pinned := { name := "qxb6602980a", sum := "053b1de978baf1e828bd84404c696162b84a9504ebc4311999b96791b85f53db", checked := Try.checked }
namespace Rows
def none {H : Type} : Left H := { results := [], args := [] }

/-- 'zzlaws_pkg_scim_b1.FnClosingBracketMatchesTokenizer': WHATEVER THE INPUT: true; the input reads as it did. -/
def fnClosingBracketMatchesTokenizerSpec : ChangeSpec := { name := "fnClosingBracketMatchesTokenizer", fn := fun _ => fun
  | [d] => { results := [.lit (.bool true)], args := [d] }
  | _ => none }
def fnClosingBracketMatchesTokenizerRow : OpenClaim := { program := "qxb6602980a", sum := "053b1de978baf1e828bd84404c696162b84a9504ebc4311999b96791b85f53db", func := "example.com/sodalis/sodalis/zzlaws_pkg_scim_b1.FnClosingBracketMatchesTokenizer", spec := "fnClosingBracketMatchesTokenizer", apart := false }
def FnClosingBracketMatchesTokenizerSaid : Prop := fnClosingBracketMatchesTokenizerRow.holds Try.pinned (OpenSpec.ofChange fnClosingBracketMatchesTokenizerSpec)

/-- ITS FALSE NEIGHBOUR: 'it returns false'. Refute it at one input. -/
def fnClosingBracketMatchesTokenizerWrong : ChangeSpec := { name := "fnClosingBracketMatchesTokenizer", fn := fun _ => fun
  | [d] => { results := [.lit (.bool false)], args := [d] }
  | _ => none }
def FnClosingBracketMatchesTokenizerWrongFalsely : Prop := fnClosingBracketMatchesTokenizerRow.holds Try.pinned (OpenSpec.ofChange fnClosingBracketMatchesTokenizerWrong)

/-- 'zzlaws_pkg_scim_b1.FnClosingBracketSkipsJSONString': WHATEVER THE INPUT: true; the input reads as it did. -/
def fnClosingBracketSkipsJSONStringSpec : ChangeSpec := { name := "fnClosingBracketSkipsJSONString", fn := fun _ => fun
  | [d1, d2] => { results := [.lit (.bool true)], args := [d1, d2] }
  | _ => none }
def fnClosingBracketSkipsJSONStringRow : OpenClaim := { program := "qxb6602980a", sum := "053b1de978baf1e828bd84404c696162b84a9504ebc4311999b96791b85f53db", func := "example.com/sodalis/sodalis/zzlaws_pkg_scim_b1.FnClosingBracketSkipsJSONString", spec := "fnClosingBracketSkipsJSONString", apart := false }
def FnClosingBracketSkipsJSONStringSaid : Prop := fnClosingBracketSkipsJSONStringRow.holds Try.pinned (OpenSpec.ofChange fnClosingBracketSkipsJSONStringSpec)

/-- ITS FALSE NEIGHBOUR: 'it returns false'. Refute it at one input. -/
def fnClosingBracketSkipsJSONStringWrong : ChangeSpec := { name := "fnClosingBracketSkipsJSONString", fn := fun _ => fun
  | [d1, d2] => { results := [.lit (.bool false)], args := [d1, d2] }
  | _ => none }
def FnClosingBracketSkipsJSONStringWrongFalsely : Prop := fnClosingBracketSkipsJSONStringRow.holds Try.pinned (OpenSpec.ofChange fnClosingBracketSkipsJSONStringWrong)

/-- 'zzlaws_pkg_scim_b1.FnClosingBracketDecidedByPrefix': WHATEVER THE INPUT: true; the input reads as it did. -/
def fnClosingBracketDecidedByPrefixSpec : ChangeSpec := { name := "fnClosingBracketDecidedByPrefix", fn := fun _ => fun
  | [d1, d2] => { results := [.lit (.bool true)], args := [d1, d2] }
  | _ => none }
def fnClosingBracketDecidedByPrefixRow : OpenClaim := { program := "qxb6602980a", sum := "053b1de978baf1e828bd84404c696162b84a9504ebc4311999b96791b85f53db", func := "example.com/sodalis/sodalis/zzlaws_pkg_scim_b1.FnClosingBracketDecidedByPrefix", spec := "fnClosingBracketDecidedByPrefix", apart := false }
def FnClosingBracketDecidedByPrefixSaid : Prop := fnClosingBracketDecidedByPrefixRow.holds Try.pinned (OpenSpec.ofChange fnClosingBracketDecidedByPrefixSpec)

/-- ITS FALSE NEIGHBOUR: 'it returns false'. Refute it at one input. -/
def fnClosingBracketDecidedByPrefixWrong : ChangeSpec := { name := "fnClosingBracketDecidedByPrefix", fn := fun _ => fun
  | [d1, d2] => { results := [.lit (.bool false)], args := [d1, d2] }
  | _ => none }
def FnClosingBracketDecidedByPrefixWrongFalsely : Prop := fnClosingBracketDecidedByPrefixRow.holds Try.pinned (OpenSpec.ofChange fnClosingBracketDecidedByPrefixWrong)

/-- 'zzlaws_pkg_scim_b1.FnServiceProviderConfigFreshPerCall': WHATEVER THE INPUT: true; the input reads as it did. -/
def fnServiceProviderConfigFreshPerCallSpec : ChangeSpec := { name := "fnServiceProviderConfigFreshPerCall", fn := fun _ => fun
  | [d1, d2] => { results := [.lit (.bool true)], args := [d1, d2] }
  | _ => none }
def fnServiceProviderConfigFreshPerCallRow : OpenClaim := { program := "qxb6602980a", sum := "053b1de978baf1e828bd84404c696162b84a9504ebc4311999b96791b85f53db", func := "example.com/sodalis/sodalis/zzlaws_pkg_scim_b1.FnServiceProviderConfigFreshPerCall", spec := "fnServiceProviderConfigFreshPerCall", apart := false }
def FnServiceProviderConfigFreshPerCallSaid : Prop := fnServiceProviderConfigFreshPerCallRow.holds Try.pinned (OpenSpec.ofChange fnServiceProviderConfigFreshPerCallSpec)

/-- ITS FALSE NEIGHBOUR: 'it returns false'. Refute it at one input. -/
def fnServiceProviderConfigFreshPerCallWrong : ChangeSpec := { name := "fnServiceProviderConfigFreshPerCall", fn := fun _ => fun
  | [d1, d2] => { results := [.lit (.bool false)], args := [d1, d2] }
  | _ => none }
def FnServiceProviderConfigFreshPerCallWrongFalsely : Prop := fnServiceProviderConfigFreshPerCallRow.holds Try.pinned (OpenSpec.ofChange fnServiceProviderConfigFreshPerCallWrong)

end Rows
end Go.Proofs.Qxb6602980a

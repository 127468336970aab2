/-
  No cell of these rows narrows 'for every input' (looked for: loops, veiled, ifaces, maps, wideKeys, modest, calm, conditions, laid).
  DERIVED. THE GIVEN ROWS OF THIS SEAT. 4 by the template 'for every input the law returns true; each argument reads behind the call as it read before'; 0 by the template 'total and deterministic' (their statements: Qxb6602866aTotals.lean).
  GIVEN WITH THE SEED: the statements are not yours to turn. If you find one false, say at which input.
  Laid BY PROGRAM, IN A SANDBOX (cutbox-rows.mjs): the forced cells as the released guide's own fill.sh prints them over the translation f2989e8ba632e1e6… (all of the seat's roots in one cut). By AI agents, Wed Nov 11 2026. No macro, syntax, notation, axiom, sorry.
-/
import Derived.Test.Qxb6602866aChecked
import GoSem.Claim
import GoSem.ClaimJoined
import GoSem.ClaimMapViews
import Derived.JoinedTies
import Derived.KernelRfl
namespace Go.Proofs.Qxb6602866a
/- THE CELL 'sum', in the pinned program and in every row, IS THE sha256 OF THE DUMP (.gsa) THAT Qxb6602866aProg.lean LOADS. Nothing in Lean hashes anything: it is a label: what it is worth is what the hold of that sum in a sandbox is worth. -/
noncomputable def Try.pinned : Pinned := { name := "qxb6602866a", sum := "f2989e8ba632e1e63f947949300d49ae0f8e7011351b790469deb3f63cf12a1f", checked := Try.checked }
namespace Rows
def none {H : Type} : Left H := { results := [], args := [] }

/-- 'zzlaws_core_b1.FnCountGrowsTheFieldStringNames': WHATEVER THE INPUT: true; the input reads as it did. -/
def fnCountGrowsTheFieldStringNamesSpec : ChangeSpec := { name := "fnCountGrowsTheFieldStringNames", fn := fun _ => fun
  | [d1, d2, d3] => { results := [.lit (.bool true)], args := [d1, d2, d3] }
  | _ => none }
def fnCountGrowsTheFieldStringNamesRow : OpenClaim := { program := "qxb6602866a", sum := "f2989e8ba632e1e63f947949300d49ae0f8e7011351b790469deb3f63cf12a1f", func := "example.com/privilege/privilege/zzlaws_core_b1.FnCountGrowsTheFieldStringNames", spec := "fnCountGrowsTheFieldStringNames", apart := false }
def FnCountGrowsTheFieldStringNamesSaid : Prop := fnCountGrowsTheFieldStringNamesRow.holds Try.pinned (OpenSpec.ofChange fnCountGrowsTheFieldStringNamesSpec)

/-- ITS FALSE NEIGHBOUR: 'it returns false'. Refute it at one input. -/
def fnCountGrowsTheFieldStringNamesWrong : ChangeSpec := { name := "fnCountGrowsTheFieldStringNames", fn := fun _ => fun
  | [d1, d2, d3] => { results := [.lit (.bool false)], args := [d1, d2, d3] }
  | _ => none }
def FnCountGrowsTheFieldStringNamesWrongFalsely : Prop := fnCountGrowsTheFieldStringNamesRow.holds Try.pinned (OpenSpec.ofChange fnCountGrowsTheFieldStringNamesWrong)

/-- 'zzlaws_core_b1.FnCountScriptTallies': WHATEVER THE INPUT: true; the input reads as it did. -/
def fnCountScriptTalliesSpec : ChangeSpec := { name := "fnCountScriptTallies", fn := fun _ => fun
  | [d] => { results := [.lit (.bool true)], args := [d] }
  | _ => none }
def fnCountScriptTalliesRow : OpenClaim := { program := "qxb6602866a", sum := "f2989e8ba632e1e63f947949300d49ae0f8e7011351b790469deb3f63cf12a1f", func := "example.com/privilege/privilege/zzlaws_core_b1.FnCountScriptTallies", spec := "fnCountScriptTallies", apart := false }
def FnCountScriptTalliesSaid : Prop := fnCountScriptTalliesRow.holds Try.pinned (OpenSpec.ofChange fnCountScriptTalliesSpec)

/-- ITS FALSE NEIGHBOUR: 'it returns false'. Refute it at one input. -/
def fnCountScriptTalliesWrong : ChangeSpec := { name := "fnCountScriptTallies", fn := fun _ => fun
  | [d] => { results := [.lit (.bool false)], args := [d] }
  | _ => none }
def FnCountScriptTalliesWrongFalsely : Prop := fnCountScriptTalliesRow.holds Try.pinned (OpenSpec.ofChange fnCountScriptTalliesWrong)

/-- 'zzlaws_core_b1.FnHandOnMatchesModel': WHATEVER THE INPUT: true; the input reads as it did. -/
def fnHandOnMatchesModelSpec : ChangeSpec := { name := "fnHandOnMatchesModel", fn := fun _ => fun
  | [d1, d2, d3, d4, d5, d6, d7, d8, d9, d10, d11] => { results := [.lit (.bool true)], args := [d1, d2, d3, d4, d5, d6, d7, d8, d9, d10, d11] }
  | _ => none }
def fnHandOnMatchesModelRow : OpenClaim := { program := "qxb6602866a", sum := "f2989e8ba632e1e63f947949300d49ae0f8e7011351b790469deb3f63cf12a1f", func := "example.com/privilege/privilege/zzlaws_core_b1.FnHandOnMatchesModel", spec := "fnHandOnMatchesModel", apart := false }
def FnHandOnMatchesModelSaid : Prop := fnHandOnMatchesModelRow.holds Try.pinned (OpenSpec.ofChange fnHandOnMatchesModelSpec)

/-- ITS FALSE NEIGHBOUR: 'it returns false'. Refute it at one input. -/
def fnHandOnMatchesModelWrong : ChangeSpec := { name := "fnHandOnMatchesModel", fn := fun _ => fun
  | [d1, d2, d3, d4, d5, d6, d7, d8, d9, d10, d11] => { results := [.lit (.bool false)], args := [d1, d2, d3, d4, d5, d6, d7, d8, d9, d10, d11] }
  | _ => none }
def FnHandOnMatchesModelWrongFalsely : Prop := fnHandOnMatchesModelRow.holds Try.pinned (OpenSpec.ofChange fnHandOnMatchesModelWrong)

/-- 'zzlaws_core_b1.FnHandOnKeepsQueueWellFormed': WHATEVER THE INPUT: true; the input reads as it did. -/
def fnHandOnKeepsQueueWellFormedSpec : ChangeSpec := { name := "fnHandOnKeepsQueueWellFormed", fn := fun _ => fun
  | [d1, d2, d3, d4, d5, d6, d7, d8, d9, d10, d11] => { results := [.lit (.bool true)], args := [d1, d2, d3, d4, d5, d6, d7, d8, d9, d10, d11] }
  | _ => none }
def fnHandOnKeepsQueueWellFormedRow : OpenClaim := { program := "qxb6602866a", sum := "f2989e8ba632e1e63f947949300d49ae0f8e7011351b790469deb3f63cf12a1f", func := "example.com/privilege/privilege/zzlaws_core_b1.FnHandOnKeepsQueueWellFormed", spec := "fnHandOnKeepsQueueWellFormed", apart := false }
def FnHandOnKeepsQueueWellFormedSaid : Prop := fnHandOnKeepsQueueWellFormedRow.holds Try.pinned (OpenSpec.ofChange fnHandOnKeepsQueueWellFormedSpec)

/-- ITS FALSE NEIGHBOUR: 'it returns false'. Refute it at one input. -/
def fnHandOnKeepsQueueWellFormedWrong : ChangeSpec := { name := "fnHandOnKeepsQueueWellFormed", fn := fun _ => fun
  | [d1, d2, d3, d4, d5, d6, d7, d8, d9, d10, d11] => { results := [.lit (.bool false)], args := [d1, d2, d3, d4, d5, d6, d7, d8, d9, d10, d11] }
  | _ => none }
def FnHandOnKeepsQueueWellFormedWrongFalsely : Prop := fnHandOnKeepsQueueWellFormedRow.holds Try.pinned (OpenSpec.ofChange fnHandOnKeepsQueueWellFormedWrong)

end Rows
end Go.Proofs.Qxb6602866a

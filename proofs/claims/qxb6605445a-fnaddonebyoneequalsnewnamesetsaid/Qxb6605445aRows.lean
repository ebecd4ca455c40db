/-
  No cell of these rows narrows 'for every input' (looked for: loops, veiled, ifaces, maps, wideKeys, modest, calm, conditions, laid).
  DERIVED. THE GIVEN ROWS OF THIS SEAT. 5 by the template 'for every input the law returns true; each argument reads behind the call as it read before'; 0 by the template 'total and deterministic' (their statements: Qxb6605445aTotals.lean).
  GIVEN WITH THE SEED: the statements are not yours to turn. If you find one false, say at which input.
  Laid BY PROGRAM, IN A SANDBOX (cutbox-rows.mjs): the forced cells as the released guide's own fill.sh prints them over the translation 4422f74592c448f0… (all of the seat's roots in one cut). By AI agents, Wed Nov 11 2026. No macro, syntax, notation, axiom, sorry.
-/
import Derived.Test.Qxb6605445aChecked
import GoSem.Claim
import GoSem.ClaimJoined
import GoSem.ClaimMapViews
import Derived.JoinedTies
import Derived.KernelRfl
namespace Go.Proofs.Qxb6605445a
/- THE CELL 'sum', in the pinned program and in every row, IS THE sha256 OF THE DUMP (.gsa) THAT Qxb6605445aProg.lean LOADS. Nothing in Lean hashes anything: it is a label: what it is worth is what the hold of that sum in a sandbox is worth. -/
noncomputable def Try.pinned : Pinned := { name := "qxb6605445a", sum := "4422f74592c448f0ae999a91e025d74840031b9a49cbf91987d584a1f2ed67d9", checked := Try.checked }
namespace Rows
def none {H : Type} : Left H := { results := [], args := [] }

/-- 'zzlaws_engine_b1.FnNewNameSetIsSortedChunksOf512': WHATEVER THE INPUT: true; the input reads as it did. -/
def fnNewNameSetIsSortedChunksOf512Spec : ChangeSpec := { name := "fnNewNameSetIsSortedChunksOf512", fn := fun _ => fun
  | [d] => { results := [.lit (.bool true)], args := [d] }
  | _ => none }
def fnNewNameSetIsSortedChunksOf512Row : OpenClaim := { program := "qxb6605445a", sum := "4422f74592c448f0ae999a91e025d74840031b9a49cbf91987d584a1f2ed67d9", func := "example.com/orgwarden/orgwarden/zzlaws_engine_b1.FnNewNameSetIsSortedChunksOf512", spec := "fnNewNameSetIsSortedChunksOf512", recurses := true, apart := false }
def FnNewNameSetIsSortedChunksOf512Said : Prop := fnNewNameSetIsSortedChunksOf512Row.holds Try.pinned (OpenSpec.ofChange fnNewNameSetIsSortedChunksOf512Spec)

/-- ITS FALSE NEIGHBOUR: 'it returns false'. Refute it at one input. -/
def fnNewNameSetIsSortedChunksOf512Wrong : ChangeSpec := { name := "fnNewNameSetIsSortedChunksOf512", fn := fun _ => fun
  | [d] => { results := [.lit (.bool false)], args := [d] }
  | _ => none }
def FnNewNameSetIsSortedChunksOf512WrongFalsely : Prop := fnNewNameSetIsSortedChunksOf512Row.holds Try.pinned (OpenSpec.ofChange fnNewNameSetIsSortedChunksOf512Wrong)

/-- 'zzlaws_engine_b1.FnAddInsertsNameInOrderAndKeepsBlocks': WHATEVER THE INPUT: true; the input reads as it did. -/
def fnAddInsertsNameInOrderAndKeepsBlocksSpec : ChangeSpec := { name := "fnAddInsertsNameInOrderAndKeepsBlocks", fn := fun _ => fun
  | [d1, d2] => { results := [.lit (.bool true)], args := [d1, d2] }
  | _ => none }
def fnAddInsertsNameInOrderAndKeepsBlocksRow : OpenClaim := { program := "qxb6605445a", sum := "4422f74592c448f0ae999a91e025d74840031b9a49cbf91987d584a1f2ed67d9", func := "example.com/orgwarden/orgwarden/zzlaws_engine_b1.FnAddInsertsNameInOrderAndKeepsBlocks", spec := "fnAddInsertsNameInOrderAndKeepsBlocks", inPlace := ["internal/bytealg.abigen_runtime_cmpstring", "slices.overlaps[string]", "slices.overlaps[[]string]"], unfollowed := true, recurses := true, apart := false }
def FnAddInsertsNameInOrderAndKeepsBlocksSaid : Prop := fnAddInsertsNameInOrderAndKeepsBlocksRow.holds Try.pinned (OpenSpec.ofChange fnAddInsertsNameInOrderAndKeepsBlocksSpec)

/-- ITS FALSE NEIGHBOUR: 'it returns false'. Refute it at one input. -/
def fnAddInsertsNameInOrderAndKeepsBlocksWrong : ChangeSpec := { name := "fnAddInsertsNameInOrderAndKeepsBlocks", fn := fun _ => fun
  | [d1, d2] => { results := [.lit (.bool false)], args := [d1, d2] }
  | _ => none }
def FnAddInsertsNameInOrderAndKeepsBlocksWrongFalsely : Prop := fnAddInsertsNameInOrderAndKeepsBlocksRow.holds Try.pinned (OpenSpec.ofChange fnAddInsertsNameInOrderAndKeepsBlocksWrong)

/-- 'zzlaws_engine_b1.FnAddOneByOneEqualsNewNameSet': WHATEVER THE INPUT: true; the input reads as it did. -/
def fnAddOneByOneEqualsNewNameSetSpec : ChangeSpec := { name := "fnAddOneByOneEqualsNewNameSet", fn := fun _ => fun
  | [d] => { results := [.lit (.bool true)], args := [d] }
  | _ => none }
def fnAddOneByOneEqualsNewNameSetRow : OpenClaim := { program := "qxb6605445a", sum := "4422f74592c448f0ae999a91e025d74840031b9a49cbf91987d584a1f2ed67d9", func := "example.com/orgwarden/orgwarden/zzlaws_engine_b1.FnAddOneByOneEqualsNewNameSet", spec := "fnAddOneByOneEqualsNewNameSet", inPlace := ["internal/bytealg.abigen_runtime_cmpstring", "slices.overlaps[string]", "slices.overlaps[[]string]"], unfollowed := true, recurses := true, apart := false }
def FnAddOneByOneEqualsNewNameSetSaid : Prop := fnAddOneByOneEqualsNewNameSetRow.holds Try.pinned (OpenSpec.ofChange fnAddOneByOneEqualsNewNameSetSpec)

/-- ITS FALSE NEIGHBOUR: 'it returns false'. Refute it at one input. -/
def fnAddOneByOneEqualsNewNameSetWrong : ChangeSpec := { name := "fnAddOneByOneEqualsNewNameSet", fn := fun _ => fun
  | [d] => { results := [.lit (.bool false)], args := [d] }
  | _ => none }
def FnAddOneByOneEqualsNewNameSetWrongFalsely : Prop := fnAddOneByOneEqualsNewNameSetRow.holds Try.pinned (OpenSpec.ofChange fnAddOneByOneEqualsNewNameSetWrong)

/-- 'zzlaws_engine_b1.FnAfterIsTheSetTailAfterFrom': WHATEVER THE INPUT: true; the input reads as it did. -/
def fnAfterIsTheSetTailAfterFromSpec : ChangeSpec := { name := "fnAfterIsTheSetTailAfterFrom", fn := fun _ => fun
  | [d1, d2, d3] => { results := [.lit (.bool true)], args := [d1, d2, d3] }
  | _ => none }
def fnAfterIsTheSetTailAfterFromRow : OpenClaim := { program := "qxb6605445a", sum := "4422f74592c448f0ae999a91e025d74840031b9a49cbf91987d584a1f2ed67d9", func := "example.com/orgwarden/orgwarden/zzlaws_engine_b1.FnAfterIsTheSetTailAfterFrom", spec := "fnAfterIsTheSetTailAfterFrom", inPlace := ["internal/bytealg.abigen_runtime_cmpstring"], unfollowed := true, recurses := true, apart := false }
def FnAfterIsTheSetTailAfterFromSaid : Prop := fnAfterIsTheSetTailAfterFromRow.holds Try.pinned (OpenSpec.ofChange fnAfterIsTheSetTailAfterFromSpec)

/-- ITS FALSE NEIGHBOUR: 'it returns false'. Refute it at one input. -/
def fnAfterIsTheSetTailAfterFromWrong : ChangeSpec := { name := "fnAfterIsTheSetTailAfterFrom", fn := fun _ => fun
  | [d1, d2, d3] => { results := [.lit (.bool false)], args := [d1, d2, d3] }
  | _ => none }
def FnAfterIsTheSetTailAfterFromWrongFalsely : Prop := fnAfterIsTheSetTailAfterFromRow.holds Try.pinned (OpenSpec.ofChange fnAfterIsTheSetTailAfterFromWrong)

/-- 'zzlaws_engine_b1.FnAfterYieldsPrefixedNamesAfterFrom': WHATEVER THE INPUT: true; the input reads as it did. -/
def fnAfterYieldsPrefixedNamesAfterFromSpec : ChangeSpec := { name := "fnAfterYieldsPrefixedNamesAfterFrom", fn := fun _ => fun
  | [d1, d2, d3] => { results := [.lit (.bool true)], args := [d1, d2, d3] }
  | _ => none }
def fnAfterYieldsPrefixedNamesAfterFromRow : OpenClaim := { program := "qxb6605445a", sum := "4422f74592c448f0ae999a91e025d74840031b9a49cbf91987d584a1f2ed67d9", func := "example.com/orgwarden/orgwarden/zzlaws_engine_b1.FnAfterYieldsPrefixedNamesAfterFrom", spec := "fnAfterYieldsPrefixedNamesAfterFrom", inPlace := ["internal/bytealg.abigen_runtime_cmpstring"], unfollowed := true, recurses := true, apart := false }
def FnAfterYieldsPrefixedNamesAfterFromSaid : Prop := fnAfterYieldsPrefixedNamesAfterFromRow.holds Try.pinned (OpenSpec.ofChange fnAfterYieldsPrefixedNamesAfterFromSpec)

/-- ITS FALSE NEIGHBOUR: 'it returns false'. Refute it at one input. -/
def fnAfterYieldsPrefixedNamesAfterFromWrong : ChangeSpec := { name := "fnAfterYieldsPrefixedNamesAfterFrom", fn := fun _ => fun
  | [d1, d2, d3] => { results := [.lit (.bool false)], args := [d1, d2, d3] }
  | _ => none }
def FnAfterYieldsPrefixedNamesAfterFromWrongFalsely : Prop := fnAfterYieldsPrefixedNamesAfterFromRow.holds Try.pinned (OpenSpec.ofChange fnAfterYieldsPrefixedNamesAfterFromWrong)

end Rows
end Go.Proofs.Qxb6605445a

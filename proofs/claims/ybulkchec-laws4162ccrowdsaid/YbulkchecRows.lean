/-
  No cell of these rows narrows 'for every input' (looked for: loops, veiled, ifaces, maps, wideKeys, modest, calm, conditions, laid).
  DERIVED. THE GIVEN ROWS OF THIS SEAT. 5 by the template 'for every input the law returns true; each argument reads behind the call as it read before'; 0 by the template 'total and deterministic' (their statements: YbulkchecTotals.lean).
  GIVEN WITH THE SEED: the statements are not yours to turn. If you find one false, say at which input.
  Laid BY PROGRAM, IN A SANDBOX (cutbox-rows.mjs): the forced cells as the released guide's own fill.sh prints them over the translation 74d5f056cb4498f2… (all of the seat's roots in one cut). By AI agents, Wed Nov 11 2026. No macro, syntax, notation, axiom, sorry.
-/
import Derived.Test.YbulkchecChecked
import GoSem.Claim
import GoSem.ClaimJoined
import GoSem.ClaimMapViews
import Derived.JoinedTies
import Derived.KernelRfl
namespace Go.Proofs.Ybulkchec
/- THE CELL 'sum', in the pinned program and in every row, IS THE sha256 OF THE DUMP (.gsa) THAT YbulkchecProg.lean LOADS. Nothing in Lean hashes anything: it is a label: what it is worth is what the hold of that sum in a sandbox is worth. -/
noncomputable def Yba.pinned : Pinned := { name := "ybulkchec", sum := "74d5f056cb4498f2d9af6bbcf7adb9f62e55c0613be1d03646d0a3f15c335446", checked := Yba.checked }
namespace Rows
def none {H : Type} : Left H := { results := [], args := [] }

/-- 'lockward.LawS4162AOrder': WHATEVER THE INPUT: true; the input reads as it did. -/
def lawS4162AOrderSpec : ChangeSpec := { name := "lawS4162AOrder", fn := fun _ => fun
  | [d1, d2] => { results := [.lit (.bool true)], args := [d1, d2] }
  | _ => none }
def lawS4162AOrderRow : OpenClaim := { program := "ybulkchec", sum := "74d5f056cb4498f2d9af6bbcf7adb9f62e55c0613be1d03646d0a3f15c335446", func := "example.com/lockward/lockward.LawS4162AOrder", spec := "lawS4162AOrder", apart := false }
def LawS4162AOrderSaid : Prop := lawS4162AOrderRow.holds Yba.pinned (OpenSpec.ofChange lawS4162AOrderSpec)

/-- ITS FALSE NEIGHBOUR: 'it returns false'. Refute it at one input. -/
def lawS4162AOrderWrong : ChangeSpec := { name := "lawS4162AOrder", fn := fun _ => fun
  | [d1, d2] => { results := [.lit (.bool false)], args := [d1, d2] }
  | _ => none }
def LawS4162AOrderWrongFalsely : Prop := lawS4162AOrderRow.holds Yba.pinned (OpenSpec.ofChange lawS4162AOrderWrong)

/-- 'lockward.LawS4162ATwoChains': WHATEVER THE INPUT: true; the input reads as it did. -/
def lawS4162ATwoChainsSpec : ChangeSpec := { name := "lawS4162ATwoChains", fn := fun _ => fun
  | [d1, d2] => { results := [.lit (.bool true)], args := [d1, d2] }
  | _ => none }
def lawS4162ATwoChainsRow : OpenClaim := { program := "ybulkchec", sum := "74d5f056cb4498f2d9af6bbcf7adb9f62e55c0613be1d03646d0a3f15c335446", func := "example.com/lockward/lockward.LawS4162ATwoChains", spec := "lawS4162ATwoChains", apart := false }
def LawS4162ATwoChainsSaid : Prop := lawS4162ATwoChainsRow.holds Yba.pinned (OpenSpec.ofChange lawS4162ATwoChainsSpec)

/-- ITS FALSE NEIGHBOUR: 'it returns false'. Refute it at one input. -/
def lawS4162ATwoChainsWrong : ChangeSpec := { name := "lawS4162ATwoChains", fn := fun _ => fun
  | [d1, d2] => { results := [.lit (.bool false)], args := [d1, d2] }
  | _ => none }
def LawS4162ATwoChainsWrongFalsely : Prop := lawS4162ATwoChainsRow.holds Yba.pinned (OpenSpec.ofChange lawS4162ATwoChainsWrong)

/-- 'lockward.LawS4162APushRemove': WHATEVER THE INPUT: true; the input reads as it did. -/
def lawS4162APushRemoveSpec : ChangeSpec := { name := "lawS4162APushRemove", fn := fun _ => fun
  | [d1, d2] => { results := [.lit (.bool true)], args := [d1, d2] }
  | _ => none }
def lawS4162APushRemoveRow : OpenClaim := { program := "ybulkchec", sum := "74d5f056cb4498f2d9af6bbcf7adb9f62e55c0613be1d03646d0a3f15c335446", func := "example.com/lockward/lockward.LawS4162APushRemove", spec := "lawS4162APushRemove", apart := false }
def LawS4162APushRemoveSaid : Prop := lawS4162APushRemoveRow.holds Yba.pinned (OpenSpec.ofChange lawS4162APushRemoveSpec)

/-- ITS FALSE NEIGHBOUR: 'it returns false'. Refute it at one input. -/
def lawS4162APushRemoveWrong : ChangeSpec := { name := "lawS4162APushRemove", fn := fun _ => fun
  | [d1, d2] => { results := [.lit (.bool false)], args := [d1, d2] }
  | _ => none }
def LawS4162APushRemoveWrongFalsely : Prop := lawS4162APushRemoveRow.holds Yba.pinned (OpenSpec.ofChange lawS4162APushRemoveWrong)

/-- 'lockward.LawS4162CLone': WHATEVER THE INPUT: true; the input reads as it did. -/
def lawS4162CLoneSpec : ChangeSpec := { name := "lawS4162CLone", fn := fun _ => fun
  | [d1, d2, d3] => { results := [.lit (.bool true)], args := [d1, d2, d3] }
  | _ => none }
def lawS4162CLoneRow : OpenClaim := { program := "ybulkchec", sum := "74d5f056cb4498f2d9af6bbcf7adb9f62e55c0613be1d03646d0a3f15c335446", func := "example.com/lockward/lockward.LawS4162CLone", spec := "lawS4162CLone", apart := false }
def LawS4162CLoneSaid : Prop := lawS4162CLoneRow.holds Yba.pinned (OpenSpec.ofChange lawS4162CLoneSpec)

/-- ITS FALSE NEIGHBOUR: 'it returns false'. Refute it at one input. -/
def lawS4162CLoneWrong : ChangeSpec := { name := "lawS4162CLone", fn := fun _ => fun
  | [d1, d2, d3] => { results := [.lit (.bool false)], args := [d1, d2, d3] }
  | _ => none }
def LawS4162CLoneWrongFalsely : Prop := lawS4162CLoneRow.holds Yba.pinned (OpenSpec.ofChange lawS4162CLoneWrong)

/-- 'lockward.LawS4162CCrowd': WHATEVER THE INPUT: true; the input reads as it did. -/
def lawS4162CCrowdSpec : ChangeSpec := { name := "lawS4162CCrowd", fn := fun _ => fun
  | [d1, d2, d3, d4] => { results := [.lit (.bool true)], args := [d1, d2, d3, d4] }
  | _ => none }
def lawS4162CCrowdRow : OpenClaim := { program := "ybulkchec", sum := "74d5f056cb4498f2d9af6bbcf7adb9f62e55c0613be1d03646d0a3f15c335446", func := "example.com/lockward/lockward.LawS4162CCrowd", spec := "lawS4162CCrowd", apart := false }
def LawS4162CCrowdSaid : Prop := lawS4162CCrowdRow.holds Yba.pinned (OpenSpec.ofChange lawS4162CCrowdSpec)

/-- ITS FALSE NEIGHBOUR: 'it returns false'. Refute it at one input. -/
def lawS4162CCrowdWrong : ChangeSpec := { name := "lawS4162CCrowd", fn := fun _ => fun
  | [d1, d2, d3, d4] => { results := [.lit (.bool false)], args := [d1, d2, d3, d4] }
  | _ => none }
def LawS4162CCrowdWrongFalsely : Prop := lawS4162CCrowdRow.holds Yba.pinned (OpenSpec.ofChange lawS4162CCrowdWrong)

end Rows
end Go.Proofs.Ybulkchec

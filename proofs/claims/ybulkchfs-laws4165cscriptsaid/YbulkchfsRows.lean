/-
  No cell of these rows narrows 'for every input' (looked for: loops, veiled, ifaces, maps, wideKeys, modest, calm, conditions, laid).
  DERIVED. THE GIVEN ROWS OF THIS SEAT. 4 by the template 'for every input the law returns true; each argument reads behind the call as it read before'; 0 by the template 'total and deterministic' (their statements: YbulkchfsTotals.lean).
  GIVEN WITH THE SEED: the statements are not yours to turn. If you find one false, say at which input.
  Laid BY PROGRAM, IN A SANDBOX (cutbox-rows.mjs): the forced cells as the released guide's own fill.sh prints them over the translation df941e3ec17eed7d… (all of the seat's roots in one cut). By AI agents, Wed Nov 11 2026. No macro, syntax, notation, axiom, sorry.
-/
import Derived.Test.YbulkchfsChecked
import GoSem.Claim
import GoSem.ClaimJoined
import GoSem.ClaimMapViews
import Derived.JoinedTies
import Derived.KernelRfl
namespace Go.Proofs.Ybulkchfs
/- THE CELL 'sum', in the pinned program and in every row, IS THE sha256 OF THE DUMP (.gsa) THAT YbulkchfsProg.lean LOADS. Nothing in Lean hashes anything: it is a label: what it is worth is what the hold of that sum in a sandbox is worth. -/
noncomputable def Yba.pinned : Pinned := { name := "ybulkchfs", sum := "df941e3ec17eed7d71a62b58406ce204952214d18b3b477e77e336f7f373c120", checked := Yba.checked }
namespace Rows
def none {H : Type} : Left H := { results := [], args := [] }

/-- 'sim.LawS4165ADoneByEvent': WHATEVER THE INPUT: true; the input reads as it did. -/
def lawS4165ADoneByEventSpec : ChangeSpec := { name := "lawS4165ADoneByEvent", fn := fun _ => fun
  | [d1, d2] => { results := [.lit (.bool true)], args := [d1, d2] }
  | _ => none }
def lawS4165ADoneByEventRow : OpenClaim := { program := "ybulkchfs", sum := "df941e3ec17eed7d71a62b58406ce204952214d18b3b477e77e336f7f373c120", func := "example.com/xorlane/xorlane/sim.LawS4165ADoneByEvent", spec := "lawS4165ADoneByEvent", unfollowed := true, recurses := true, plainKeys := false, apart := false }
def LawS4165ADoneByEventSaid : Prop := lawS4165ADoneByEventRow.holds Yba.pinned (OpenSpec.ofChange lawS4165ADoneByEventSpec)

/-- ITS FALSE NEIGHBOUR: 'it returns false'. Refute it at one input. -/
def lawS4165ADoneByEventWrong : ChangeSpec := { name := "lawS4165ADoneByEvent", fn := fun _ => fun
  | [d1, d2] => { results := [.lit (.bool false)], args := [d1, d2] }
  | _ => none }
def LawS4165ADoneByEventWrongFalsely : Prop := lawS4165ADoneByEventRow.holds Yba.pinned (OpenSpec.ofChange lawS4165ADoneByEventWrong)

/-- 'sim.LawS4165ACtxEnds': WHATEVER THE INPUT: true; the input reads as it did. -/
def lawS4165ACtxEndsSpec : ChangeSpec := { name := "lawS4165ACtxEnds", fn := fun _ => fun
  | [d1, d2, d3] => { results := [.lit (.bool true)], args := [d1, d2, d3] }
  | _ => none }
def lawS4165ACtxEndsRow : OpenClaim := { program := "ybulkchfs", sum := "df941e3ec17eed7d71a62b58406ce204952214d18b3b477e77e336f7f373c120", func := "example.com/xorlane/xorlane/sim.LawS4165ACtxEnds", spec := "lawS4165ACtxEnds", unfollowed := true, recurses := true, plainKeys := false, apart := false }
def LawS4165ACtxEndsSaid : Prop := lawS4165ACtxEndsRow.holds Yba.pinned (OpenSpec.ofChange lawS4165ACtxEndsSpec)

/-- ITS FALSE NEIGHBOUR: 'it returns false'. Refute it at one input. -/
def lawS4165ACtxEndsWrong : ChangeSpec := { name := "lawS4165ACtxEnds", fn := fun _ => fun
  | [d1, d2, d3] => { results := [.lit (.bool false)], args := [d1, d2, d3] }
  | _ => none }
def LawS4165ACtxEndsWrongFalsely : Prop := lawS4165ACtxEndsRow.holds Yba.pinned (OpenSpec.ofChange lawS4165ACtxEndsWrong)

/-- 'lookup.LawS4165CExact': WHATEVER THE INPUT: true; the input reads as it did. -/
def lawS4165CExactSpec : ChangeSpec := { name := "lawS4165CExact", fn := fun _ => fun
  | [d1, d2, d3, d4, d5, d6, d7] => { results := [.lit (.bool true)], args := [d1, d2, d3, d4, d5, d6, d7] }
  | _ => none }
def lawS4165CExactRow : OpenClaim := { program := "ybulkchfs", sum := "df941e3ec17eed7d71a62b58406ce204952214d18b3b477e77e336f7f373c120", func := "example.com/xorlane/xorlane/internal/lookup.LawS4165CExact", spec := "lawS4165CExact", inPlace := ["internal/bytealg.Compare", "slices.overlaps[*example.com/xorlane/xorlane/internal/lookup.entry]"], unfollowed := true, recurses := true, plainKeys := false, apart := false }
def LawS4165CExactSaid : Prop := lawS4165CExactRow.holds Yba.pinned (OpenSpec.ofChange lawS4165CExactSpec)

/-- ITS FALSE NEIGHBOUR: 'it returns false'. Refute it at one input. -/
def lawS4165CExactWrong : ChangeSpec := { name := "lawS4165CExact", fn := fun _ => fun
  | [d1, d2, d3, d4, d5, d6, d7] => { results := [.lit (.bool false)], args := [d1, d2, d3, d4, d5, d6, d7] }
  | _ => none }
def LawS4165CExactWrongFalsely : Prop := lawS4165CExactRow.holds Yba.pinned (OpenSpec.ofChange lawS4165CExactWrong)

/-- 'lookup.LawS4165CScript': WHATEVER THE INPUT: true; the input reads as it did. -/
def lawS4165CScriptSpec : ChangeSpec := { name := "lawS4165CScript", fn := fun _ => fun
  | [d1, d2, d3, d4, d5, d6] => { results := [.lit (.bool true)], args := [d1, d2, d3, d4, d5, d6] }
  | _ => none }
def lawS4165CScriptRow : OpenClaim := { program := "ybulkchfs", sum := "df941e3ec17eed7d71a62b58406ce204952214d18b3b477e77e336f7f373c120", func := "example.com/xorlane/xorlane/internal/lookup.LawS4165CScript", spec := "lawS4165CScript", inPlace := ["internal/bytealg.Compare", "slices.overlaps[*example.com/xorlane/xorlane/internal/lookup.entry]"], unfollowed := true, recurses := true, plainKeys := false, apart := false }
def LawS4165CScriptSaid : Prop := lawS4165CScriptRow.holds Yba.pinned (OpenSpec.ofChange lawS4165CScriptSpec)

/-- ITS FALSE NEIGHBOUR: 'it returns false'. Refute it at one input. -/
def lawS4165CScriptWrong : ChangeSpec := { name := "lawS4165CScript", fn := fun _ => fun
  | [d1, d2, d3, d4, d5, d6] => { results := [.lit (.bool false)], args := [d1, d2, d3, d4, d5, d6] }
  | _ => none }
def LawS4165CScriptWrongFalsely : Prop := lawS4165CScriptRow.holds Yba.pinned (OpenSpec.ofChange lawS4165CScriptWrong)

end Rows
end Go.Proofs.Ybulkchfs

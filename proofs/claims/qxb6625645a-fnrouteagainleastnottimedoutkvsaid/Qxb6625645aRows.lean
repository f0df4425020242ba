/-
  No cell of these rows narrows 'for every input' (looked for: loops, veiled, ifaces, maps, wideKeys, modest, calm, conditions, laid).
  DERIVED. THE GIVEN ROWS OF THIS SEAT. 2 by the template 'for every input the law returns true; each argument reads behind the call as it read before'; 0 by the template 'total and deterministic' (their statements: Qxb6625645aTotals.lean).
  GIVEN WITH THE SEED: the statements are not yours to turn. If you find one false, say at which input.
  Laid BY PROGRAM, IN A SANDBOX (cutbox-rows.mjs): the forced cells as the released guide's own fill.sh prints them over the translation 569cdc32fd93ad00… (all of the seat's roots in one cut). By AI agents, Wed Nov 11 2026. No macro, syntax, notation, axiom, sorry.
-/
import Derived.Test.Qxb6625645aChecked
import GoSem.Claim
import GoSem.ClaimJoined
import GoSem.ClaimMapViews
import Derived.JoinedTies
import Derived.KernelRfl
namespace Go.Proofs.Qxb6625645a
/- THE CELL 'sum', in the pinned program and in every row, IS THE sha256 OF THE DUMP (.gsa) THAT Qxb6625645aProg.lean LOADS. Nothing in Lean hashes anything: it is a label: what it is worth is what the hold of that sum in a sandbox is worth. -/
noncomputable def Try.pinned : Pinned := { name := "qxb6625645a", sum := "569cdc32fd93ad0059a7c9b6bc133a69cc835f53e983f006a9b99eba81aa45d1", checked := Try.checked }
namespace Rows
def none {H : Type} : Left H := { results := [], args := [] }

/-- 'zzlaws_kv_b1.FnRouteAgainTwoRoundsKv': WHATEVER THE INPUT: true; the input reads as it did. -/
def fnRouteAgainTwoRoundsKvSpec : ChangeSpec := { name := "fnRouteAgainTwoRoundsKv", fn := fun _ => fun
  | [d1, d2, d3] => { results := [.lit (.bool true)], args := [d1, d2, d3] }
  | _ => none }
def fnRouteAgainTwoRoundsKvRow : OpenClaim := { program := "qxb6625645a", sum := "569cdc32fd93ad0059a7c9b6bc133a69cc835f53e983f006a9b99eba81aa45d1", func := "example.com/tenure/tenure/zzlaws_kv_b1.FnRouteAgainTwoRoundsKv", spec := "fnRouteAgainTwoRoundsKv", apart := false }
def FnRouteAgainTwoRoundsKvSaid : Prop := fnRouteAgainTwoRoundsKvRow.holds Try.pinned (OpenSpec.ofChange fnRouteAgainTwoRoundsKvSpec)

/-- ITS FALSE NEIGHBOUR: 'it returns false'. Refute it at one input. -/
def fnRouteAgainTwoRoundsKvWrong : ChangeSpec := { name := "fnRouteAgainTwoRoundsKv", fn := fun _ => fun
  | [d1, d2, d3] => { results := [.lit (.bool false)], args := [d1, d2, d3] }
  | _ => none }
def FnRouteAgainTwoRoundsKvWrongFalsely : Prop := fnRouteAgainTwoRoundsKvRow.holds Try.pinned (OpenSpec.ofChange fnRouteAgainTwoRoundsKvWrong)

/-- 'zzlaws_kv_b1.FnRouteAgainLeastNotTimedOutKv': WHATEVER THE INPUT: true; the input reads as it did. -/
def fnRouteAgainLeastNotTimedOutKvSpec : ChangeSpec := { name := "fnRouteAgainLeastNotTimedOutKv", fn := fun _ => fun
  | [d1, d2, d3] => { results := [.lit (.bool true)], args := [d1, d2, d3] }
  | _ => none }
def fnRouteAgainLeastNotTimedOutKvRow : OpenClaim := { program := "qxb6625645a", sum := "569cdc32fd93ad0059a7c9b6bc133a69cc835f53e983f006a9b99eba81aa45d1", func := "example.com/tenure/tenure/zzlaws_kv_b1.FnRouteAgainLeastNotTimedOutKv", spec := "fnRouteAgainLeastNotTimedOutKv", apart := false }
def FnRouteAgainLeastNotTimedOutKvSaid : Prop := fnRouteAgainLeastNotTimedOutKvRow.holds Try.pinned (OpenSpec.ofChange fnRouteAgainLeastNotTimedOutKvSpec)

/-- ITS FALSE NEIGHBOUR: 'it returns false'. Refute it at one input. -/
def fnRouteAgainLeastNotTimedOutKvWrong : ChangeSpec := { name := "fnRouteAgainLeastNotTimedOutKv", fn := fun _ => fun
  | [d1, d2, d3] => { results := [.lit (.bool false)], args := [d1, d2, d3] }
  | _ => none }
def FnRouteAgainLeastNotTimedOutKvWrongFalsely : Prop := fnRouteAgainLeastNotTimedOutKvRow.holds Try.pinned (OpenSpec.ofChange fnRouteAgainLeastNotTimedOutKvWrong)

end Rows
end Go.Proofs.Qxb6625645a

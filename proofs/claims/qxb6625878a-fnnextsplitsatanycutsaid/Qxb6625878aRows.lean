/-
  No cell of these rows narrows 'for every input' (looked for: loops, veiled, ifaces, maps, wideKeys, modest, calm, conditions, laid).
  DERIVED. THE GIVEN ROWS OF THIS SEAT. 2 by the template 'for every input the law returns true; each argument reads behind the call as it read before'; 0 by the template 'total and deterministic' (their statements: Qxb6625878aTotals.lean).
  GIVEN WITH THE SEED: the statements are not yours to turn. If you find one false, say at which input.
  Laid BY PROGRAM, IN A SANDBOX (cutbox-rows.mjs): the forced cells as the released guide's own fill.sh prints them over the translation 211a022c7a6c33bc… (all of the seat's roots in one cut). By AI agents, Wed Nov 11 2026. No macro, syntax, notation, axiom, sorry.
-/
import Derived.Test.Qxb6625878aChecked
import GoSem.Claim
import GoSem.ClaimJoined
import GoSem.ClaimMapViews
import Derived.JoinedTies
import Derived.KernelRfl
namespace Go.Proofs.Qxb6625878a
/- THE CELL 'sum', in the pinned program and in every row, IS THE sha256 OF THE DUMP (.gsa) THAT Qxb6625878aProg.lean LOADS. Nothing in Lean hashes anything: it is a label: what it is worth is what the hold of that sum in a sandbox is worth. -/
noncomputable def Try.pinned : Pinned := { name := "qxb6625878a", sum := "211a022c7a6c33bcf6635b0564fc2ca6783fc14b3d722adf5c7d253d4b850db5", checked := Try.checked }
namespace Rows
def none {H : Type} : Left H := { results := [], args := [] }

/-- 'zzlaws_server_b1.FnNextIsEarliestHead': WHATEVER THE INPUT: true; the input reads as it did. -/
def fnNextIsEarliestHeadSpec : ChangeSpec := { name := "fnNextIsEarliestHead", fn := fun _ => fun
  | [d1, d2] => { results := [.lit (.bool true)], args := [d1, d2] }
  | _ => none }
def fnNextIsEarliestHeadRow : OpenClaim := { program := "qxb6625878a", sum := "211a022c7a6c33bcf6635b0564fc2ca6783fc14b3d722adf5c7d253d4b850db5", func := "example.com/isonomy/isonomy/zzlaws_server_b1.FnNextIsEarliestHead", spec := "fnNextIsEarliestHead", apart := false }
def FnNextIsEarliestHeadSaid : Prop := fnNextIsEarliestHeadRow.holds Try.pinned (OpenSpec.ofChange fnNextIsEarliestHeadSpec)

/-- ITS FALSE NEIGHBOUR: 'it returns false'. Refute it at one input. -/
def fnNextIsEarliestHeadWrong : ChangeSpec := { name := "fnNextIsEarliestHead", fn := fun _ => fun
  | [d1, d2] => { results := [.lit (.bool false)], args := [d1, d2] }
  | _ => none }
def FnNextIsEarliestHeadWrongFalsely : Prop := fnNextIsEarliestHeadRow.holds Try.pinned (OpenSpec.ofChange fnNextIsEarliestHeadWrong)

/-- 'zzlaws_server_b1.FnNextSplitsAtAnyCut': WHATEVER THE INPUT: true; the input reads as it did. -/
def fnNextSplitsAtAnyCutSpec : ChangeSpec := { name := "fnNextSplitsAtAnyCut", fn := fun _ => fun
  | [d1, d2, d3] => { results := [.lit (.bool true)], args := [d1, d2, d3] }
  | _ => none }
def fnNextSplitsAtAnyCutRow : OpenClaim := { program := "qxb6625878a", sum := "211a022c7a6c33bcf6635b0564fc2ca6783fc14b3d722adf5c7d253d4b850db5", func := "example.com/isonomy/isonomy/zzlaws_server_b1.FnNextSplitsAtAnyCut", spec := "fnNextSplitsAtAnyCut", apart := false }
def FnNextSplitsAtAnyCutSaid : Prop := fnNextSplitsAtAnyCutRow.holds Try.pinned (OpenSpec.ofChange fnNextSplitsAtAnyCutSpec)

/-- ITS FALSE NEIGHBOUR: 'it returns false'. Refute it at one input. -/
def fnNextSplitsAtAnyCutWrong : ChangeSpec := { name := "fnNextSplitsAtAnyCut", fn := fun _ => fun
  | [d1, d2, d3] => { results := [.lit (.bool false)], args := [d1, d2, d3] }
  | _ => none }
def FnNextSplitsAtAnyCutWrongFalsely : Prop := fnNextSplitsAtAnyCutRow.holds Try.pinned (OpenSpec.ofChange fnNextSplitsAtAnyCutWrong)

end Rows
end Go.Proofs.Qxb6625878a

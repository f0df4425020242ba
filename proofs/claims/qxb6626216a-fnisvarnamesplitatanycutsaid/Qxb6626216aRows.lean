/-
  No cell of these rows narrows 'for every input' (looked for: loops, veiled, ifaces, maps, wideKeys, modest, calm, conditions, laid).
  DERIVED. THE GIVEN ROWS OF THIS SEAT. 2 by the template 'for every input the law returns true; each argument reads behind the call as it read before'; 0 by the template 'total and deterministic' (their statements: Qxb6626216aTotals.lean).
  GIVEN WITH THE SEED: the statements are not yours to turn. If you find one false, say at which input.
  Laid BY PROGRAM, IN A SANDBOX (cutbox-rows.mjs): the forced cells as the released guide's own fill.sh prints them over the translation b0f078058021f155… (all of the seat's roots in one cut). By AI agents, Wed Nov 11 2026. No macro, syntax, notation, axiom, sorry.
-/
import Derived.Test.Qxb6626216aChecked
import GoSem.Claim
import GoSem.ClaimJoined
import GoSem.ClaimMapViews
import Derived.JoinedTies
import Derived.KernelRfl
namespace Go.Proofs.Qxb6626216a
/- THE CELL 'sum', in the pinned program and in every row, IS THE sha256 OF THE DUMP (.gsa) THAT Qxb6626216aProg.lean LOADS. Nothing in Lean hashes anything: it is a label: what it is worth is what the hold of that sum in a sandbox is worth. -/
noncomputable def Try.pinned : Pinned := { name := "qxb6626216a", sum := "b0f078058021f155c3df2d40cda84b7a540deeeb92772e04fe25c30f6fc2bffa", checked := Try.checked }
namespace Rows
def none {H : Type} : Left H := { results := [], args := [] }

/-- 'zzlaws_internal_manifest_b1.FnIsVarNameSplitAtAnyCut': WHATEVER THE INPUT: true; the input reads as it did. -/
def fnIsVarNameSplitAtAnyCutSpec : ChangeSpec := { name := "fnIsVarNameSplitAtAnyCut", fn := fun _ => fun
  | [d1, d2] => { results := [.lit (.bool true)], args := [d1, d2] }
  | _ => none }
def fnIsVarNameSplitAtAnyCutRow : OpenClaim := { program := "qxb6626216a", sum := "b0f078058021f155c3df2d40cda84b7a540deeeb92772e04fe25c30f6fc2bffa", func := "example.com/strake/strake/zzlaws_internal_manifest_b1.FnIsVarNameSplitAtAnyCut", spec := "fnIsVarNameSplitAtAnyCut", apart := false }
def FnIsVarNameSplitAtAnyCutSaid : Prop := fnIsVarNameSplitAtAnyCutRow.holds Try.pinned (OpenSpec.ofChange fnIsVarNameSplitAtAnyCutSpec)

/-- ITS FALSE NEIGHBOUR: 'it returns false'. Refute it at one input. -/
def fnIsVarNameSplitAtAnyCutWrong : ChangeSpec := { name := "fnIsVarNameSplitAtAnyCut", fn := fun _ => fun
  | [d1, d2] => { results := [.lit (.bool false)], args := [d1, d2] }
  | _ => none }
def FnIsVarNameSplitAtAnyCutWrongFalsely : Prop := fnIsVarNameSplitAtAnyCutRow.holds Try.pinned (OpenSpec.ofChange fnIsVarNameSplitAtAnyCutWrong)

/-- 'zzlaws_internal_manifest_b1.FnIsVarNameInsertOneByte': WHATEVER THE INPUT: true; the input reads as it did. -/
def fnIsVarNameInsertOneByteSpec : ChangeSpec := { name := "fnIsVarNameInsertOneByte", fn := fun _ => fun
  | [d1, d2, d3] => { results := [.lit (.bool true)], args := [d1, d2, d3] }
  | _ => none }
def fnIsVarNameInsertOneByteRow : OpenClaim := { program := "qxb6626216a", sum := "b0f078058021f155c3df2d40cda84b7a540deeeb92772e04fe25c30f6fc2bffa", func := "example.com/strake/strake/zzlaws_internal_manifest_b1.FnIsVarNameInsertOneByte", spec := "fnIsVarNameInsertOneByte", apart := false }
def FnIsVarNameInsertOneByteSaid : Prop := fnIsVarNameInsertOneByteRow.holds Try.pinned (OpenSpec.ofChange fnIsVarNameInsertOneByteSpec)

/-- ITS FALSE NEIGHBOUR: 'it returns false'. Refute it at one input. -/
def fnIsVarNameInsertOneByteWrong : ChangeSpec := { name := "fnIsVarNameInsertOneByte", fn := fun _ => fun
  | [d1, d2, d3] => { results := [.lit (.bool false)], args := [d1, d2, d3] }
  | _ => none }
def FnIsVarNameInsertOneByteWrongFalsely : Prop := fnIsVarNameInsertOneByteRow.holds Try.pinned (OpenSpec.ofChange fnIsVarNameInsertOneByteWrong)

end Rows
end Go.Proofs.Qxb6626216a

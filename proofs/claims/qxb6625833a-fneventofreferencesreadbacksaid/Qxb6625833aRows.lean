/-
  No cell of these rows narrows 'for every input' (looked for: loops, veiled, ifaces, maps, wideKeys, modest, calm, conditions, laid).
  DERIVED. THE GIVEN ROWS OF THIS SEAT. 2 by the template 'for every input the law returns true; each argument reads behind the call as it read before'; 0 by the template 'total and deterministic' (their statements: Qxb6625833aTotals.lean).
  GIVEN WITH THE SEED: the statements are not yours to turn. If you find one false, say at which input.
  Laid BY PROGRAM, IN A SANDBOX (cutbox-rows.mjs): the forced cells as the released guide's own fill.sh prints them over the translation 42e167449a433095… (all of the seat's roots in one cut). By AI agents, Wed Nov 11 2026. No macro, syntax, notation, axiom, sorry.
-/
import Derived.Test.Qxb6625833aChecked
import GoSem.Claim
import GoSem.ClaimJoined
import GoSem.ClaimMapViews
import Derived.JoinedTies
import Derived.KernelRfl
namespace Go.Proofs.Qxb6625833a
/- THE CELL 'sum', in the pinned program and in every row, IS THE sha256 OF THE DUMP (.gsa) THAT Qxb6625833aProg.lean LOADS. Nothing in Lean hashes anything: it is a label: what it is worth is what the hold of that sum in a sandbox is worth. -/
noncomputable def Try.pinned : Pinned := { name := "qxb6625833a", sum := "42e167449a4330952c32905ecd4ab1b40d35bb02121710d777f9dd074c1a2b32", checked := Try.checked }
namespace Rows
def none {H : Type} : Left H := { results := [], args := [] }

/-- 'zzlaws_internal_server_b1.FnEventOfReferencesReadBack': WHATEVER THE INPUT: true; the input reads as it did. -/
def fnEventOfReferencesReadBackSpec : ChangeSpec := { name := "fnEventOfReferencesReadBack", fn := fun _ => fun
  | [d] => { results := [.lit (.bool true)], args := [d] }
  | _ => none }
def fnEventOfReferencesReadBackRow : OpenClaim := { program := "qxb6625833a", sum := "42e167449a4330952c32905ecd4ab1b40d35bb02121710d777f9dd074c1a2b32", func := "example.com/seshat/seshat/zzlaws_internal_server_b1.FnEventOfReferencesReadBack", spec := "fnEventOfReferencesReadBack", apart := false }
def FnEventOfReferencesReadBackSaid : Prop := fnEventOfReferencesReadBackRow.holds Try.pinned (OpenSpec.ofChange fnEventOfReferencesReadBackSpec)

/-- ITS FALSE NEIGHBOUR: 'it returns false'. Refute it at one input. -/
def fnEventOfReferencesReadBackWrong : ChangeSpec := { name := "fnEventOfReferencesReadBack", fn := fun _ => fun
  | [d] => { results := [.lit (.bool false)], args := [d] }
  | _ => none }
def FnEventOfReferencesReadBackWrongFalsely : Prop := fnEventOfReferencesReadBackRow.holds Try.pinned (OpenSpec.ofChange fnEventOfReferencesReadBackWrong)

/-- 'zzlaws_internal_server_b1.FnEventOfTombstoneStrikesAddition': WHATEVER THE INPUT: true; the input reads as it did. -/
def fnEventOfTombstoneStrikesAdditionSpec : ChangeSpec := { name := "fnEventOfTombstoneStrikesAddition", fn := fun _ => fun
  | [d] => { results := [.lit (.bool true)], args := [d] }
  | _ => none }
def fnEventOfTombstoneStrikesAdditionRow : OpenClaim := { program := "qxb6625833a", sum := "42e167449a4330952c32905ecd4ab1b40d35bb02121710d777f9dd074c1a2b32", func := "example.com/seshat/seshat/zzlaws_internal_server_b1.FnEventOfTombstoneStrikesAddition", spec := "fnEventOfTombstoneStrikesAddition", apart := false }
def FnEventOfTombstoneStrikesAdditionSaid : Prop := fnEventOfTombstoneStrikesAdditionRow.holds Try.pinned (OpenSpec.ofChange fnEventOfTombstoneStrikesAdditionSpec)

/-- ITS FALSE NEIGHBOUR: 'it returns false'. Refute it at one input. -/
def fnEventOfTombstoneStrikesAdditionWrong : ChangeSpec := { name := "fnEventOfTombstoneStrikesAddition", fn := fun _ => fun
  | [d] => { results := [.lit (.bool false)], args := [d] }
  | _ => none }
def FnEventOfTombstoneStrikesAdditionWrongFalsely : Prop := fnEventOfTombstoneStrikesAdditionRow.holds Try.pinned (OpenSpec.ofChange fnEventOfTombstoneStrikesAdditionWrong)

end Rows
end Go.Proofs.Qxb6625833a

/-
  No cell of these rows narrows 'for every input' (looked for: loops, veiled, ifaces, maps, wideKeys, modest, calm, conditions, laid).
  DERIVED. THE GIVEN ROWS OF THIS SEAT. 2 by the template 'for every input the law returns true; each argument reads behind the call as it read before'; 0 by the template 'total and deterministic' (their statements: Qxb6602799aTotals.lean).
  GIVEN WITH THE SEED: the statements are not yours to turn. If you find one false, say at which input.
  Laid BY PROGRAM, IN A SANDBOX (cutbox-rows.mjs): the forced cells as the released guide's own fill.sh prints them over the translation 3be5682d59a081a8… (all of the seat's roots in one cut). By AI agents, Wed Nov 11 2026. No macro, syntax, notation, axiom, sorry.
-/
import Derived.Test.Qxb6602799aChecked
import GoSem.Claim
import GoSem.ClaimJoined
import GoSem.ClaimMapViews
import Derived.JoinedTies
import Derived.KernelRfl
namespace Go.Proofs.Qxb6602799a
/- THE CELL 'sum', in the pinned program and in every row, IS THE sha256 OF THE DUMP (.gsa) THAT Qxb6602799aProg.lean LOADS. Nothing in Lean hashes anything: it is a label: what it is worth is what the hold of that sum in a sandbox is worth. -/
noncomputable def Try.pinned : Pinned := { name := "qxb6602799a", sum := "3be5682d59a081a891789943c6f5e703fe7141a3ab4ab4a8e458c96e17b33547", checked := Try.checked }
namespace Rows
def none {H : Type} : Left H := { results := [], args := [] }

/-- 'zzlaws_root_b1.FnSlotNumbersNamesByFirstAppearance': WHATEVER THE INPUT: true; the input reads as it did. -/
def fnSlotNumbersNamesByFirstAppearanceSpec : ChangeSpec := { name := "fnSlotNumbersNamesByFirstAppearance", fn := fun _ => fun
  | [d] => { results := [.lit (.bool true)], args := [d] }
  | _ => none }
def fnSlotNumbersNamesByFirstAppearanceRow : OpenClaim := { program := "qxb6602799a", sum := "3be5682d59a081a891789943c6f5e703fe7141a3ab4ab4a8e458c96e17b33547", func := "example.com/libpriv/libpriv/zzlaws_root_b1.FnSlotNumbersNamesByFirstAppearance", spec := "fnSlotNumbersNamesByFirstAppearance", inPlace := ["internal/abi.NoEscape", "internal/bytealg.MakeNoZero"], apart := false }
def FnSlotNumbersNamesByFirstAppearanceSaid : Prop := fnSlotNumbersNamesByFirstAppearanceRow.holds Try.pinned (OpenSpec.ofChange fnSlotNumbersNamesByFirstAppearanceSpec)

/-- ITS FALSE NEIGHBOUR: 'it returns false'. Refute it at one input. -/
def fnSlotNumbersNamesByFirstAppearanceWrong : ChangeSpec := { name := "fnSlotNumbersNamesByFirstAppearance", fn := fun _ => fun
  | [d] => { results := [.lit (.bool false)], args := [d] }
  | _ => none }
def FnSlotNumbersNamesByFirstAppearanceWrongFalsely : Prop := fnSlotNumbersNamesByFirstAppearanceRow.holds Try.pinned (OpenSpec.ofChange fnSlotNumbersNamesByFirstAppearanceWrong)

/-- 'zzlaws_root_b1.FnSlotOnAnyStateThenIdempotent': WHATEVER THE INPUT: true; the input reads as it did. -/
def fnSlotOnAnyStateThenIdempotentSpec : ChangeSpec := { name := "fnSlotOnAnyStateThenIdempotent", fn := fun _ => fun
  | [d1, d2, d3, d4] => { results := [.lit (.bool true)], args := [d1, d2, d3, d4] }
  | _ => none }
def fnSlotOnAnyStateThenIdempotentRow : OpenClaim := { program := "qxb6602799a", sum := "3be5682d59a081a891789943c6f5e703fe7141a3ab4ab4a8e458c96e17b33547", func := "example.com/libpriv/libpriv/zzlaws_root_b1.FnSlotOnAnyStateThenIdempotent", spec := "fnSlotOnAnyStateThenIdempotent", inPlace := ["internal/abi.NoEscape", "internal/bytealg.MakeNoZero"], apart := false }
def FnSlotOnAnyStateThenIdempotentSaid : Prop := fnSlotOnAnyStateThenIdempotentRow.holds Try.pinned (OpenSpec.ofChange fnSlotOnAnyStateThenIdempotentSpec)

/-- ITS FALSE NEIGHBOUR: 'it returns false'. Refute it at one input. -/
def fnSlotOnAnyStateThenIdempotentWrong : ChangeSpec := { name := "fnSlotOnAnyStateThenIdempotent", fn := fun _ => fun
  | [d1, d2, d3, d4] => { results := [.lit (.bool false)], args := [d1, d2, d3, d4] }
  | _ => none }
def FnSlotOnAnyStateThenIdempotentWrongFalsely : Prop := fnSlotOnAnyStateThenIdempotentRow.holds Try.pinned (OpenSpec.ofChange fnSlotOnAnyStateThenIdempotentWrong)

end Rows
end Go.Proofs.Qxb6602799a

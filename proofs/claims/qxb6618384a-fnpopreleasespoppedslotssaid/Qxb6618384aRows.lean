/-
  No cell of these rows narrows 'for every input' (looked for: loops, veiled, ifaces, maps, wideKeys, modest, calm, conditions, laid).
  DERIVED. THE GIVEN ROWS OF THIS SEAT. 1 by the template 'for every input the law returns true; each argument reads behind the call as it read before'; 0 by the template 'total and deterministic' (their statements: Qxb6618384aTotals.lean).
  GIVEN WITH THE SEED: the statements are not yours to turn. If you find one false, say at which input.
  Laid BY PROGRAM, IN A SANDBOX (cutbox-rows.mjs): the forced cells as the released guide's own fill.sh prints them over the translation 0ccca4554d20c0d4… (all of the seat's roots in one cut). By AI agents, Wed Nov 11 2026. No macro, syntax, notation, axiom, sorry.
-/
import Derived.Test.Qxb6618384aChecked
import GoSem.Claim
import GoSem.ClaimJoined
import GoSem.ClaimMapViews
import Derived.JoinedTies
import Derived.KernelRfl
namespace Go.Proofs.Qxb6618384a
/- THE CELL 'sum', in the pinned program and in every row, IS THE sha256 OF THE DUMP (.gsa) THAT Qxb6618384aProg.lean LOADS. Nothing in Lean hashes anything: it is a label: what it is worth is what the hold of that sum in a sandbox is worth. -/
noncomputable def Try.pinned : Pinned := { name := "qxb6618384a", sum := "0ccca4554d20c0d4cfb8482f9d66416740304d439d8ac058ad028193b1651e8b", checked := Try.checked }
namespace Rows
def none {H : Type} : Left H := { results := [], args := [] }

/-- 'zzlaws_root_b1.FnPopReleasesPoppedSlots': WHATEVER THE INPUT: true; the input reads as it did. -/
def fnPopReleasesPoppedSlotsSpec : ChangeSpec := { name := "fnPopReleasesPoppedSlots", fn := fun _ => fun
  | [d1, d2, d3] => { results := [.lit (.bool true)], args := [d1, d2, d3] }
  | _ => none }
def fnPopReleasesPoppedSlotsRow : OpenClaim := { program := "qxb6618384a", sum := "0ccca4554d20c0d4cfb8482f9d66416740304d439d8ac058ad028193b1651e8b", func := "example.com/causalis/causalis/zzlaws_root_b1.FnPopReleasesPoppedSlots", spec := "fnPopReleasesPoppedSlots", apart := false }
def FnPopReleasesPoppedSlotsSaid : Prop := fnPopReleasesPoppedSlotsRow.holds Try.pinned (OpenSpec.ofChange fnPopReleasesPoppedSlotsSpec)

/-- ITS FALSE NEIGHBOUR: 'it returns false'. Refute it at one input. -/
def fnPopReleasesPoppedSlotsWrong : ChangeSpec := { name := "fnPopReleasesPoppedSlots", fn := fun _ => fun
  | [d1, d2, d3] => { results := [.lit (.bool false)], args := [d1, d2, d3] }
  | _ => none }
def FnPopReleasesPoppedSlotsWrongFalsely : Prop := fnPopReleasesPoppedSlotsRow.holds Try.pinned (OpenSpec.ofChange fnPopReleasesPoppedSlotsWrong)

end Rows
end Go.Proofs.Qxb6618384a

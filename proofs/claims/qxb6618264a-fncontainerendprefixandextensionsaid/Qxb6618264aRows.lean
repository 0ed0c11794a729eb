/-
  No cell of these rows narrows 'for every input' (looked for: loops, veiled, ifaces, maps, wideKeys, modest, calm, conditions, laid).
  DERIVED. THE GIVEN ROWS OF THIS SEAT. 5 by the template 'for every input the law returns true; each argument reads behind the call as it read before'; 0 by the template 'total and deterministic' (their statements: Qxb6618264aTotals.lean).
  GIVEN WITH THE SEED: the statements are not yours to turn. If you find one false, say at which input.
  Laid BY PROGRAM, IN A SANDBOX (cutbox-rows.mjs): the forced cells as the released guide's own fill.sh prints them over the translation 37a0edfb48f5f871… (all of the seat's roots in one cut). By AI agents, Wed Nov 11 2026. No macro, syntax, notation, axiom, sorry.
-/
import Derived.Test.Qxb6618264aChecked
import GoSem.Claim
import GoSem.ClaimJoined
import GoSem.ClaimMapViews
import Derived.JoinedTies
import Derived.KernelRfl
namespace Go.Proofs.Qxb6618264a
/- THE CELL 'sum', in the pinned program and in every row, IS THE sha256 OF THE DUMP (.gsa) THAT Qxb6618264aProg.lean LOADS. Nothing in Lean hashes anything: it is a label: what it is worth is what the hold of that sum in a sandbox is worth. -/
noncomputable def Try.pinned : Pinned := { name := "qxb6618264a", sum := "37a0edfb48f5f871c1c7957c288b89b6f1a20f7501a71e60a478250e77e6a013", checked := Try.checked }
namespace Rows
def none {H : Type} : Left H := { results := [], args := [] }

/-- 'zzlaws_internal_subdoc_b1.FnValueEndMatchesModel': WHATEVER THE INPUT: true; the input reads as it did. -/
def fnValueEndMatchesModelSpec : ChangeSpec := { name := "fnValueEndMatchesModel", fn := fun _ => fun
  | [d1, d2] => { results := [.lit (.bool true)], args := [d1, d2] }
  | _ => none }
def fnValueEndMatchesModelRow : OpenClaim := { program := "qxb6618264a", sum := "37a0edfb48f5f871c1c7957c288b89b6f1a20f7501a71e60a478250e77e6a013", func := "example.com/seqwire/seqwire/zzlaws_internal_subdoc_b1.FnValueEndMatchesModel", spec := "fnValueEndMatchesModel", inPlace := ["internal/bytealg.IndexByteString"], apart := false }
def FnValueEndMatchesModelSaid : Prop := fnValueEndMatchesModelRow.holds Try.pinned (OpenSpec.ofChange fnValueEndMatchesModelSpec)

/-- ITS FALSE NEIGHBOUR: 'it returns false'. Refute it at one input. -/
def fnValueEndMatchesModelWrong : ChangeSpec := { name := "fnValueEndMatchesModel", fn := fun _ => fun
  | [d1, d2] => { results := [.lit (.bool false)], args := [d1, d2] }
  | _ => none }
def FnValueEndMatchesModelWrongFalsely : Prop := fnValueEndMatchesModelRow.holds Try.pinned (OpenSpec.ofChange fnValueEndMatchesModelWrong)

/-- 'zzlaws_internal_subdoc_b1.FnContainerEndMatchesModel': WHATEVER THE INPUT: true; the input reads as it did. -/
def fnContainerEndMatchesModelSpec : ChangeSpec := { name := "fnContainerEndMatchesModel", fn := fun _ => fun
  | [d1, d2] => { results := [.lit (.bool true)], args := [d1, d2] }
  | _ => none }
def fnContainerEndMatchesModelRow : OpenClaim := { program := "qxb6618264a", sum := "37a0edfb48f5f871c1c7957c288b89b6f1a20f7501a71e60a478250e77e6a013", func := "example.com/seqwire/seqwire/zzlaws_internal_subdoc_b1.FnContainerEndMatchesModel", spec := "fnContainerEndMatchesModel", apart := false }
def FnContainerEndMatchesModelSaid : Prop := fnContainerEndMatchesModelRow.holds Try.pinned (OpenSpec.ofChange fnContainerEndMatchesModelSpec)

/-- ITS FALSE NEIGHBOUR: 'it returns false'. Refute it at one input. -/
def fnContainerEndMatchesModelWrong : ChangeSpec := { name := "fnContainerEndMatchesModel", fn := fun _ => fun
  | [d1, d2] => { results := [.lit (.bool false)], args := [d1, d2] }
  | _ => none }
def FnContainerEndMatchesModelWrongFalsely : Prop := fnContainerEndMatchesModelRow.holds Try.pinned (OpenSpec.ofChange fnContainerEndMatchesModelWrong)

/-- 'zzlaws_internal_subdoc_b1.FnHeadAgainstValueEnd': WHATEVER THE INPUT: true; the input reads as it did. -/
def fnHeadAgainstValueEndSpec : ChangeSpec := { name := "fnHeadAgainstValueEnd", fn := fun _ => fun
  | [d1, d2, d3] => { results := [.lit (.bool true)], args := [d1, d2, d3] }
  | _ => none }
def fnHeadAgainstValueEndRow : OpenClaim := { program := "qxb6618264a", sum := "37a0edfb48f5f871c1c7957c288b89b6f1a20f7501a71e60a478250e77e6a013", func := "example.com/seqwire/seqwire/zzlaws_internal_subdoc_b1.FnHeadAgainstValueEnd", spec := "fnHeadAgainstValueEnd", inPlace := ["internal/bytealg.IndexByteString"], apart := false }
def FnHeadAgainstValueEndSaid : Prop := fnHeadAgainstValueEndRow.holds Try.pinned (OpenSpec.ofChange fnHeadAgainstValueEndSpec)

/-- ITS FALSE NEIGHBOUR: 'it returns false'. Refute it at one input. -/
def fnHeadAgainstValueEndWrong : ChangeSpec := { name := "fnHeadAgainstValueEnd", fn := fun _ => fun
  | [d1, d2, d3] => { results := [.lit (.bool false)], args := [d1, d2, d3] }
  | _ => none }
def FnHeadAgainstValueEndWrongFalsely : Prop := fnHeadAgainstValueEndRow.holds Try.pinned (OpenSpec.ofChange fnHeadAgainstValueEndWrong)

/-- 'zzlaws_internal_subdoc_b1.FnValueEndPrefixAndExtension': WHATEVER THE INPUT: true; the input reads as it did. -/
def fnValueEndPrefixAndExtensionSpec : ChangeSpec := { name := "fnValueEndPrefixAndExtension", fn := fun _ => fun
  | [d1, d2, d3, d4] => { results := [.lit (.bool true)], args := [d1, d2, d3, d4] }
  | _ => none }
def fnValueEndPrefixAndExtensionRow : OpenClaim := { program := "qxb6618264a", sum := "37a0edfb48f5f871c1c7957c288b89b6f1a20f7501a71e60a478250e77e6a013", func := "example.com/seqwire/seqwire/zzlaws_internal_subdoc_b1.FnValueEndPrefixAndExtension", spec := "fnValueEndPrefixAndExtension", inPlace := ["internal/bytealg.IndexByteString"], apart := false }
def FnValueEndPrefixAndExtensionSaid : Prop := fnValueEndPrefixAndExtensionRow.holds Try.pinned (OpenSpec.ofChange fnValueEndPrefixAndExtensionSpec)

/-- ITS FALSE NEIGHBOUR: 'it returns false'. Refute it at one input. -/
def fnValueEndPrefixAndExtensionWrong : ChangeSpec := { name := "fnValueEndPrefixAndExtension", fn := fun _ => fun
  | [d1, d2, d3, d4] => { results := [.lit (.bool false)], args := [d1, d2, d3, d4] }
  | _ => none }
def FnValueEndPrefixAndExtensionWrongFalsely : Prop := fnValueEndPrefixAndExtensionRow.holds Try.pinned (OpenSpec.ofChange fnValueEndPrefixAndExtensionWrong)

/-- 'zzlaws_internal_subdoc_b1.FnContainerEndPrefixAndExtension': WHATEVER THE INPUT: true; the input reads as it did. -/
def fnContainerEndPrefixAndExtensionSpec : ChangeSpec := { name := "fnContainerEndPrefixAndExtension", fn := fun _ => fun
  | [d1, d2, d3, d4] => { results := [.lit (.bool true)], args := [d1, d2, d3, d4] }
  | _ => none }
def fnContainerEndPrefixAndExtensionRow : OpenClaim := { program := "qxb6618264a", sum := "37a0edfb48f5f871c1c7957c288b89b6f1a20f7501a71e60a478250e77e6a013", func := "example.com/seqwire/seqwire/zzlaws_internal_subdoc_b1.FnContainerEndPrefixAndExtension", spec := "fnContainerEndPrefixAndExtension", apart := false }
def FnContainerEndPrefixAndExtensionSaid : Prop := fnContainerEndPrefixAndExtensionRow.holds Try.pinned (OpenSpec.ofChange fnContainerEndPrefixAndExtensionSpec)

/-- ITS FALSE NEIGHBOUR: 'it returns false'. Refute it at one input. -/
def fnContainerEndPrefixAndExtensionWrong : ChangeSpec := { name := "fnContainerEndPrefixAndExtension", fn := fun _ => fun
  | [d1, d2, d3, d4] => { results := [.lit (.bool false)], args := [d1, d2, d3, d4] }
  | _ => none }
def FnContainerEndPrefixAndExtensionWrongFalsely : Prop := fnContainerEndPrefixAndExtensionRow.holds Try.pinned (OpenSpec.ofChange fnContainerEndPrefixAndExtensionWrong)

end Rows
end Go.Proofs.Qxb6618264a

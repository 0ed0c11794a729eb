/-
  No cell of these rows narrows 'for every input' (looked for: loops, veiled, ifaces, maps, wideKeys, modest, calm, conditions, laid).
  DERIVED. THE GIVEN ROWS OF THIS SEAT. 1 by the template 'for every input the law returns true; each argument reads behind the call as it read before'; 0 by the template 'total and deterministic' (their statements: Qxb6618360aTotals.lean).
  GIVEN WITH THE SEED: the statements are not yours to turn. If you find one false, say at which input.
  Laid BY PROGRAM, IN A SANDBOX (cutbox-rows.mjs): the forced cells as the released guide's own fill.sh prints them over the translation 376117b7e42823ac… (all of the seat's roots in one cut). By AI agents, Wed Nov 11 2026. No macro, syntax, notation, axiom, sorry.
-/
import Derived.Test.Qxb6618360aChecked
import GoSem.Claim
import GoSem.ClaimJoined
import GoSem.ClaimMapViews
import Derived.JoinedTies
import Derived.KernelRfl
namespace Go.Proofs.Qxb6618360a
/- THE CELL 'sum', in the pinned program and in every row, IS THE sha256 OF THE DUMP (.gsa) THAT Qxb6618360aProg.lean LOADS. Nothing in Lean hashes anything: it is a label: what it is worth is what the hold of that sum in a sandbox is worth. -/
noncomputable def Try.pinned : Pinned := { name := "qxb6618360a", sum := "376117b7e42823ac2c4cee708a9d07b19f75ad0775c521519e455191c8952a56", checked := Try.checked }
namespace Rows
def none {H : Type} : Left H := { results := [], args := [] }

/-- 'zzlaws_pkg_protocol_b1.FnSpaceSkipsExactlyTheWhitespaceRunAtAnyCut': WHATEVER THE INPUT: true; the input reads as it did. -/
def fnSpaceSkipsExactlyTheWhitespaceRunAtAnyCutSpec : ChangeSpec := { name := "fnSpaceSkipsExactlyTheWhitespaceRunAtAnyCut", fn := fun _ => fun
  | [d1, d2, d3, d4, d5] => { results := [.lit (.bool true)], args := [d1, d2, d3, d4, d5] }
  | _ => none }
def fnSpaceSkipsExactlyTheWhitespaceRunAtAnyCutRow : OpenClaim := { program := "qxb6618360a", sum := "376117b7e42823ac2c4cee708a9d07b19f75ad0775c521519e455191c8952a56", func := "example.com/nalog/nalog/zzlaws_pkg_protocol_b1.FnSpaceSkipsExactlyTheWhitespaceRunAtAnyCut", spec := "fnSpaceSkipsExactlyTheWhitespaceRunAtAnyCut", apart := false }
def FnSpaceSkipsExactlyTheWhitespaceRunAtAnyCutSaid : Prop := fnSpaceSkipsExactlyTheWhitespaceRunAtAnyCutRow.holds Try.pinned (OpenSpec.ofChange fnSpaceSkipsExactlyTheWhitespaceRunAtAnyCutSpec)

/-- ITS FALSE NEIGHBOUR: 'it returns false'. Refute it at one input. -/
def fnSpaceSkipsExactlyTheWhitespaceRunAtAnyCutWrong : ChangeSpec := { name := "fnSpaceSkipsExactlyTheWhitespaceRunAtAnyCut", fn := fun _ => fun
  | [d1, d2, d3, d4, d5] => { results := [.lit (.bool false)], args := [d1, d2, d3, d4, d5] }
  | _ => none }
def FnSpaceSkipsExactlyTheWhitespaceRunAtAnyCutWrongFalsely : Prop := fnSpaceSkipsExactlyTheWhitespaceRunAtAnyCutRow.holds Try.pinned (OpenSpec.ofChange fnSpaceSkipsExactlyTheWhitespaceRunAtAnyCutWrong)

end Rows
end Go.Proofs.Qxb6618360a

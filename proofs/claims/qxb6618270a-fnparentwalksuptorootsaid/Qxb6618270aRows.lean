/-
  No cell of these rows narrows 'for every input' (looked for: loops, veiled, ifaces, maps, wideKeys, modest, calm, conditions, laid).
  DERIVED. THE GIVEN ROWS OF THIS SEAT. 1 by the template 'for every input the law returns true; each argument reads behind the call as it read before'; 0 by the template 'total and deterministic' (their statements: Qxb6618270aTotals.lean).
  GIVEN WITH THE SEED: the statements are not yours to turn. If you find one false, say at which input.
  Laid BY PROGRAM, IN A SANDBOX (cutbox-rows.mjs): the forced cells as the released guide's own fill.sh prints them over the translation a44339536a391877… (all of the seat's roots in one cut). By AI agents, Wed Nov 11 2026. No macro, syntax, notation, axiom, sorry.
-/
import Derived.Test.Qxb6618270aChecked
import GoSem.Claim
import GoSem.ClaimJoined
import GoSem.ClaimMapViews
import Derived.JoinedTies
import Derived.KernelRfl
namespace Go.Proofs.Qxb6618270a
/- THE CELL 'sum', in the pinned program and in every row, IS THE sha256 OF THE DUMP (.gsa) THAT Qxb6618270aProg.lean LOADS. Nothing in Lean hashes anything: it is a label: what it is worth is what the hold of that sum in a sandbox is worth. -/
noncomputable def Try.pinned : Pinned := { name := "qxb6618270a", sum := "a44339536a391877704056e7a8b02b75de12d8e742344fcc9d87abf9891c8abb", checked := Try.checked }
namespace Rows
def none {H : Type} : Left H := { results := [], args := [] }

/-- 'zzlaws_pkg_node_b1.FnParentWalksUpToRoot': WHATEVER THE INPUT: true; the input reads as it did. -/
def fnParentWalksUpToRootSpec : ChangeSpec := { name := "fnParentWalksUpToRoot", fn := fun _ => fun
  | [d1, d2] => { results := [.lit (.bool true)], args := [d1, d2] }
  | _ => none }
def fnParentWalksUpToRootRow : OpenClaim := { program := "qxb6618270a", sum := "a44339536a391877704056e7a8b02b75de12d8e742344fcc9d87abf9891c8abb", func := "example.com/manul/manul/zzlaws_pkg_node_b1.FnParentWalksUpToRoot", spec := "fnParentWalksUpToRoot", apart := false }
def FnParentWalksUpToRootSaid : Prop := fnParentWalksUpToRootRow.holds Try.pinned (OpenSpec.ofChange fnParentWalksUpToRootSpec)

/-- ITS FALSE NEIGHBOUR: 'it returns false'. Refute it at one input. -/
def fnParentWalksUpToRootWrong : ChangeSpec := { name := "fnParentWalksUpToRoot", fn := fun _ => fun
  | [d1, d2] => { results := [.lit (.bool false)], args := [d1, d2] }
  | _ => none }
def FnParentWalksUpToRootWrongFalsely : Prop := fnParentWalksUpToRootRow.holds Try.pinned (OpenSpec.ofChange fnParentWalksUpToRootWrong)

end Rows
end Go.Proofs.Qxb6618270a

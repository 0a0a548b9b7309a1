/-
  No cell of these rows narrows 'for every input' (looked for: loops, veiled, ifaces, maps, wideKeys, modest, calm, conditions, laid).
  DERIVED. THE GIVEN ROWS OF THIS SEAT. 1 by the template 'for every input the law returns true; each argument reads behind the call as it read before'; 0 by the template 'total and deterministic' (their statements: Qxb6617731aTotals.lean).
  GIVEN WITH THE SEED: the statements are not yours to turn. If you find one false, say at which input.
  Laid BY PROGRAM, IN A SANDBOX (cutbox-rows.mjs): the forced cells as the released guide's own fill.sh prints them over the translation 6be8b01de8d8e17e… (all of the seat's roots in one cut). By AI agents, Wed Nov 11 2026. No macro, syntax, notation, axiom, sorry.
-/
import Derived.Test.Qxb6617731aChecked
import GoSem.Claim
import GoSem.ClaimJoined
import GoSem.ClaimMapViews
import Derived.JoinedTies
import Derived.KernelRfl
namespace Go.Proofs.Qxb6617731a
/- THE CELL 'sum', in the pinned program and in every row, IS THE sha256 OF THE DUMP (.gsa) THAT Qxb6617731aProg.lean LOADS. Nothing in Lean hashes anything: it is a label: what it is worth is what the hold of that sum in a sandbox is worth. -/
noncomputable def Try.pinned : Pinned := { name := "qxb6617731a", sum := "6be8b01de8d8e17ec8374be29771020c6889fdfa8c188e64a9d9737c4bef5f71", checked := Try.checked }
namespace Rows
def none {H : Type} : Left H := { results := [], args := [] }

/-- 'zzlaws_internal_bucket_b1.FnTokenOneBucketOneState': WHATEVER THE INPUT: true; the input reads as it did. -/
def fnTokenOneBucketOneStateSpec : ChangeSpec := { name := "fnTokenOneBucketOneState", fn := fun _ => fun
  | [d1, d2, d3, d4, d5, d6] => { results := [.lit (.bool true)], args := [d1, d2, d3, d4, d5, d6] }
  | _ => none }
def fnTokenOneBucketOneStateRow : OpenClaim := { program := "qxb6617731a", sum := "6be8b01de8d8e17ec8374be29771020c6889fdfa8c188e64a9d9737c4bef5f71", func := "example.com/usage-by-ring/usage-by-ring/zzlaws_internal_bucket_b1.FnTokenOneBucketOneState", spec := "fnTokenOneBucketOneState", apart := false }
def FnTokenOneBucketOneStateSaid : Prop := fnTokenOneBucketOneStateRow.holds Try.pinned (OpenSpec.ofChange fnTokenOneBucketOneStateSpec)

/-- ITS FALSE NEIGHBOUR: 'it returns false'. Refute it at one input. -/
def fnTokenOneBucketOneStateWrong : ChangeSpec := { name := "fnTokenOneBucketOneState", fn := fun _ => fun
  | [d1, d2, d3, d4, d5, d6] => { results := [.lit (.bool false)], args := [d1, d2, d3, d4, d5, d6] }
  | _ => none }
def FnTokenOneBucketOneStateWrongFalsely : Prop := fnTokenOneBucketOneStateRow.holds Try.pinned (OpenSpec.ofChange fnTokenOneBucketOneStateWrong)

end Rows
end Go.Proofs.Qxb6617731a

/-
  No cell of these rows narrows 'for every input' (looked for: loops, veiled, ifaces, maps, wideKeys, modest, calm, conditions, laid).
  DERIVED. THE GIVEN ROWS OF THIS SEAT. 2 by the template 'for every input the law returns true; each argument reads behind the call as it read before'; 0 by the template 'total and deterministic' (their statements: Qxb6618282aTotals.lean).
  GIVEN WITH THE SEED: the statements are not yours to turn. If you find one false, say at which input.
  Laid BY PROGRAM, IN A SANDBOX (cutbox-rows.mjs): the forced cells as the released guide's own fill.sh prints them over the translation 41a1fe6f87f9f243… (all of the seat's roots in one cut). By AI agents, Wed Nov 11 2026. No macro, syntax, notation, axiom, sorry.
-/
import Derived.Test.Qxb6618282aChecked
import GoSem.Claim
import GoSem.ClaimJoined
import GoSem.ClaimMapViews
import Derived.JoinedTies
import Derived.KernelRfl
namespace Go.Proofs.Qxb6618282a
/- THE CELL 'sum', in the pinned program and in every row, IS THE sha256 OF THE DUMP (.gsa) THAT Qxb6618282aProg.lean LOADS. Nothing in Lean hashes anything: it is a label: what it is worth is what the hold of that sum in a sandbox is worth. -/
noncomputable def Try.pinned : Pinned := { name := "qxb6618282a", sum := "41a1fe6f87f9f243aa03593e9ee87fe767eeffebc21d9f080eb5a37a816c8251", checked := Try.checked }
namespace Rows
def none {H : Type} : Left H := { results := [], args := [] }

/-- 'zzlaws_root_b1.FnStampOrderIsLexicographicRank': WHATEVER THE INPUT: true; the input reads as it did. -/
def fnStampOrderIsLexicographicRankSpec : ChangeSpec := { name := "fnStampOrderIsLexicographicRank", fn := fun _ => fun
  | [d1, d2, d3, d4] => { results := [.lit (.bool true)], args := [d1, d2, d3, d4] }
  | _ => none }
def fnStampOrderIsLexicographicRankRow : OpenClaim := { program := "qxb6618282a", sum := "41a1fe6f87f9f243aa03593e9ee87fe767eeffebc21d9f080eb5a37a816c8251", func := "example.com/peerwell/peerwell/zzlaws_root_b1.FnStampOrderIsLexicographicRank", spec := "fnStampOrderIsLexicographicRank", apart := false }
def FnStampOrderIsLexicographicRankSaid : Prop := fnStampOrderIsLexicographicRankRow.holds Try.pinned (OpenSpec.ofChange fnStampOrderIsLexicographicRankSpec)

/-- ITS FALSE NEIGHBOUR: 'it returns false'. Refute it at one input. -/
def fnStampOrderIsLexicographicRankWrong : ChangeSpec := { name := "fnStampOrderIsLexicographicRank", fn := fun _ => fun
  | [d1, d2, d3, d4] => { results := [.lit (.bool false)], args := [d1, d2, d3, d4] }
  | _ => none }
def FnStampOrderIsLexicographicRankWrongFalsely : Prop := fnStampOrderIsLexicographicRankRow.holds Try.pinned (OpenSpec.ofChange fnStampOrderIsLexicographicRankWrong)

/-- 'zzlaws_root_b1.FnStampOrderSuccessorIsNextPair': WHATEVER THE INPUT: true; the input reads as it did. -/
def fnStampOrderSuccessorIsNextPairSpec : ChangeSpec := { name := "fnStampOrderSuccessorIsNextPair", fn := fun _ => fun
  | [d1, d2] => { results := [.lit (.bool true)], args := [d1, d2] }
  | _ => none }
def fnStampOrderSuccessorIsNextPairRow : OpenClaim := { program := "qxb6618282a", sum := "41a1fe6f87f9f243aa03593e9ee87fe767eeffebc21d9f080eb5a37a816c8251", func := "example.com/peerwell/peerwell/zzlaws_root_b1.FnStampOrderSuccessorIsNextPair", spec := "fnStampOrderSuccessorIsNextPair", apart := false }
def FnStampOrderSuccessorIsNextPairSaid : Prop := fnStampOrderSuccessorIsNextPairRow.holds Try.pinned (OpenSpec.ofChange fnStampOrderSuccessorIsNextPairSpec)

/-- ITS FALSE NEIGHBOUR: 'it returns false'. Refute it at one input. -/
def fnStampOrderSuccessorIsNextPairWrong : ChangeSpec := { name := "fnStampOrderSuccessorIsNextPair", fn := fun _ => fun
  | [d1, d2] => { results := [.lit (.bool false)], args := [d1, d2] }
  | _ => none }
def FnStampOrderSuccessorIsNextPairWrongFalsely : Prop := fnStampOrderSuccessorIsNextPairRow.holds Try.pinned (OpenSpec.ofChange fnStampOrderSuccessorIsNextPairWrong)

end Rows
end Go.Proofs.Qxb6618282a

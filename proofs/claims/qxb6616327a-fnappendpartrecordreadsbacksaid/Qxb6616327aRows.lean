/-
  No cell of these rows narrows 'for every input' (looked for: loops, veiled, ifaces, maps, wideKeys, modest, calm, conditions, laid).
  DERIVED. THE GIVEN ROWS OF THIS SEAT. 2 by the template 'for every input the law returns true; each argument reads behind the call as it read before'; 0 by the template 'total and deterministic' (their statements: Qxb6616327aTotals.lean).
  GIVEN WITH THE SEED: the statements are not yours to turn. If you find one false, say at which input.
  Laid BY PROGRAM, IN A SANDBOX (cutbox-rows.mjs): the forced cells as the released guide's own fill.sh prints them over the translation dd6f57209a947569… (all of the seat's roots in one cut). By AI agents, Wed Nov 11 2026. No macro, syntax, notation, axiom, sorry.
-/
import Derived.Test.Qxb6616327aChecked
import GoSem.Claim
import GoSem.ClaimJoined
import GoSem.ClaimMapViews
import Derived.JoinedTies
import Derived.KernelRfl
namespace Go.Proofs.Qxb6616327a
/- THE CELL 'sum', in the pinned program and in every row, IS THE sha256 OF THE DUMP (.gsa) THAT Qxb6616327aProg.lean LOADS. Nothing in Lean hashes anything: it is a label: what it is worth is what the hold of that sum in a sandbox is worth. -/
noncomputable def Try.pinned : Pinned := { name := "qxb6616327a", sum := "dd6f57209a947569b7ebe46adbf663847ada5eee1e63295a2b814697dee496a6", checked := Try.checked }
namespace Rows
def none {H : Type} : Left H := { results := [], args := [] }

/-- 'zzlaws_internal_store_b1.FnAppendPartRecordReadsBack': WHATEVER THE INPUT: true; the input reads as it did. -/
def fnAppendPartRecordReadsBackSpec : ChangeSpec := { name := "fnAppendPartRecordReadsBack", fn := fun _ => fun
  | [d1, d2, d3, d4, d5, d6, d7] => { results := [.lit (.bool true)], args := [d1, d2, d3, d4, d5, d6, d7] }
  | _ => none }
def fnAppendPartRecordReadsBackRow : OpenClaim := { program := "qxb6616327a", sum := "dd6f57209a947569b7ebe46adbf663847ada5eee1e63295a2b814697dee496a6", func := "example.com/secondwise/secondwise/zzlaws_internal_store_b1.FnAppendPartRecordReadsBack", spec := "fnAppendPartRecordReadsBack", apart := false }
def FnAppendPartRecordReadsBackSaid : Prop := fnAppendPartRecordReadsBackRow.holds Try.pinned (OpenSpec.ofChange fnAppendPartRecordReadsBackSpec)

/-- ITS FALSE NEIGHBOUR: 'it returns false'. Refute it at one input. -/
def fnAppendPartRecordReadsBackWrong : ChangeSpec := { name := "fnAppendPartRecordReadsBack", fn := fun _ => fun
  | [d1, d2, d3, d4, d5, d6, d7] => { results := [.lit (.bool false)], args := [d1, d2, d3, d4, d5, d6, d7] }
  | _ => none }
def FnAppendPartRecordReadsBackWrongFalsely : Prop := fnAppendPartRecordReadsBackRow.holds Try.pinned (OpenSpec.ofChange fnAppendPartRecordReadsBackWrong)

/-- 'zzlaws_internal_store_b1.FnAppendPartKeepsWhatWasThere': WHATEVER THE INPUT: true; the input reads as it did. -/
def fnAppendPartKeepsWhatWasThereSpec : ChangeSpec := { name := "fnAppendPartKeepsWhatWasThere", fn := fun _ => fun
  | [d1, d2, d3, d4, d5] => { results := [.lit (.bool true)], args := [d1, d2, d3, d4, d5] }
  | _ => none }
def fnAppendPartKeepsWhatWasThereRow : OpenClaim := { program := "qxb6616327a", sum := "dd6f57209a947569b7ebe46adbf663847ada5eee1e63295a2b814697dee496a6", func := "example.com/secondwise/secondwise/zzlaws_internal_store_b1.FnAppendPartKeepsWhatWasThere", spec := "fnAppendPartKeepsWhatWasThere", apart := false }
def FnAppendPartKeepsWhatWasThereSaid : Prop := fnAppendPartKeepsWhatWasThereRow.holds Try.pinned (OpenSpec.ofChange fnAppendPartKeepsWhatWasThereSpec)

/-- ITS FALSE NEIGHBOUR: 'it returns false'. Refute it at one input. -/
def fnAppendPartKeepsWhatWasThereWrong : ChangeSpec := { name := "fnAppendPartKeepsWhatWasThere", fn := fun _ => fun
  | [d1, d2, d3, d4, d5] => { results := [.lit (.bool false)], args := [d1, d2, d3, d4, d5] }
  | _ => none }
def FnAppendPartKeepsWhatWasThereWrongFalsely : Prop := fnAppendPartKeepsWhatWasThereRow.holds Try.pinned (OpenSpec.ofChange fnAppendPartKeepsWhatWasThereWrong)

end Rows
end Go.Proofs.Qxb6616327a

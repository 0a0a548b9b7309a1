/- WHAT IS OF NO WALK: frames that name the blocks that turn; and the contracts of binary.AppendUvarint (23), binary.AppendVarint (22) with the exact frame (the shelf's say 'Below' alone). -/
import Derived.Test.Qxb6616327aRows
import Derived.WalkKit
import Derived.WalkSpells
import Derived.WalkLawsBesides
import Derived.RegionTactic
import Derived.OwnWalk
import Derived.Maps.AppendAt
import Derived.Deep.OwnRows
import Derived.Lib.VarintMem
import Derived.Lib.Zigzag
import Derived.RowKit3
import Derived.Below
namespace Go.Proofs.Qxb6616327a
open Go.RowKit

theorem info5 : (Try.prog.info? 5).map (fun i => (i.zero, i.size, i.bytes)) = some (some (.int .u8 0), 1, 1) := by kernel_rfl

/-- The row in which the new value lies is the old one's, or it is new. -/
def Fresh (w : World) (v v' : Value) : Prop := ∀ k, v'.ownBlock = some k → v.ownBlock = some k ∨ w.heap.size ≤ k

theorem grown_next {w wr w1 : World} {sv vb : Value} {o : Obj} (h : w.grownBy wr sv.ownBlock) (hf : Fresh w sv vb) (hg : (wr.alloc o).grownBy w1 vb.ownBlock) : w.grownBy w1 sv.ownBlock := by
  refine ⟨hg.os.trans h.os, hg.tape.trans h.tape, hg.output.trans h.output, ?_, fun k hk hne => ?_⟩
  · have h1 := h.size
    have h2 := hg.size
    simp at h2
    omega
  · have h1 := h.size
    have h2 := hg.block k (by simp; omega) (fun e => by
      rcases hf k e.symm with h3 | h3
      · exact hne h3.symm
      · omega)
    rw [h2, Below.heap_alloc wr o k (by omega)]
    exact h.block k hk hne
theorem fresh_next {w wr : World} {sv vb v' : Value} {row : Option Nat} (h : w.grownBy wr row) (hf : Fresh w sv vb) (hat : v'.ownBlock = vb.ownBlock ∨ v'.ownBlock = some (wr.heap.size + 1)) : Fresh w sv v' := by
  intro k hk
  have h1 := h.size
  rcases hat with h2 | h2
  · exact hf k (by rw [← h2]; exact hk)
  · rw [h2] at hk
    simp at hk
    right
    omega

set_option maxHeartbeats 8000000 in
set_option maxRecDepth 100000 in
/-- binary.AppendUvarint, with the exact frame. -/
theorem uvar_app (B n x : Nat) (hx : x < 18446744073709551616) (sv : Value) (xs : List Value) (w : World) (hown : w.ownsRow B 5 1 sv n xs) (hBw : B ≤ w.heap.size) (hlim : n + 10 ≤ 140737488355328) :
    Calls Try.prog 23 #[sv, .int .u64 x] w fun e w' => ∃ v', e = .returned v' ∧ w'.ownsRow B 5 1 v' (n + (Lib.uvarint x).length) (xs ++ Lib.byteCells (Lib.uvarint x)) ∧ w.grownBy w' sv.ownBlock ∧ Fresh w sv v' := by
  obtain ⟨i0, hi, hz0, hz1, hz2⟩ := info_parts info5
  have hlen := Lib.uvarint_length64 hx
  go_enter Try.func23, Try.ntmps23
  go_wp2
  go_loopw [0, 1] (fun vb vx wr => ∃ (y : Nat) (pre : List UInt8), vx = .int .u64 y ∧ y ≤ x ∧ Lib.uvarint x = pre ++ Lib.uvarint y ∧ wr.ownsRow B 5 1 vb (n + pre.length) (xs ++ Lib.byteCells pre) ∧ w.grownBy wr sv.ownBlock ∧ Fresh w sv vb)
    (fun _ vx _ => (intOf vx).toNat)
  case atStart => exact ⟨x, [], rfl, Nat.le_refl _, rfl, by simpa [Lib.byteCells] using hown, World.grownBy.refl _ _, fun k hk => .inl hk⟩
  case round =>
    obtain ⟨y, pre, rfl, hy, hsplit, hown1, hnx, hfr⟩ := hrel
    have hpl : pre.length + (Lib.uvarint y).length ≤ 10 := by
      have h2 := congrArg List.length hsplit
      rw [List.length_append] at h2
      omega
    have hyp := Lib.uvarint_pos y
    by_cases h128 : 128 ≤ y
    · have hor : bits .or .u8 ((y : Int) % 256) 128 = ((y % 128 + 128 : Nat) : Int) := by
        rw [Lib.u8_or128_any _ (by omega) (by omega)]
        omega
      go_wp2_with (at_builtin; refine wpList_append_own_at _ rfl _ _ 22 rfl B 5 i0 (.int .u8 0) 1 1 Try.underlying22 hi hz0 hz1 hz2 rfl (by decide) _ _ _ rfl (hown1.alloc _) ⟨wr.heap.size, 0, none⟩ 1 1 [Value.int .u8 ((y % 128 + 128 : Nat) : Int)] rfl rfl ?c1 ?c2 ?c3 ?c4 ?c5 ?_)
      case c1 =>
        intro j u hj
        match j, hj with
        | 0, hj => simp at hj; subst hj; simp [Addr.add]
      case c2 => intro u hu; simp at hu; subst hu; rfl
      case c3 => unfold maxLen; omega
      case c4 => omega
      case c5 => have := hnx.size; simp; omega
      intro v' w1 hown' hgrow _ hat
      have hnx1 := grown_next hnx hfr hgrow
      have hfr1 := fresh_next hnx hfr hat
      clear hgrow hat
      go_wp2
      go_roundw
      case rel =>
        refine ⟨y / 128, pre ++ [(y % 128 + 128).toUInt8], by go_num, by omega, by rw [hsplit, Lib.uvarint_big h128]; simp, ?_, hnx1, hfr1⟩
        have ec : ((y % 128 + 128 : Nat) : Int) = (y : Int) % 128 + 128 := by omega
        rw [Lib.byteCells_snoc pre (by omega), List.length_append, List.length_singleton, ← Nat.add_assoc, ec]
        exact hown'
      case measure => simp [intOf]; omega
    · have hsm : Lib.uvarint y = [y.toUInt8] := Lib.uvarint_small (by omega)
      go_wp2_with (at_builtin; refine wpList_append_own_at _ rfl _ _ 22 rfl B 5 i0 (.int .u8 0) 1 1 Try.underlying22 hi hz0 hz1 hz2 rfl (by decide) _ _ _ rfl (hown1.alloc _) ⟨wr.heap.size, 0, none⟩ 1 1 [Value.int .u8 (y : Int)] rfl rfl ?c1 ?c2 ?c3 ?c4 ?c5 ?_)
      case c1 =>
        intro j u hj
        match j, hj with
        | 0, hj => simp at hj; subst hj; simp [Addr.add]
      case c2 => intro u hu; simp at hu; subst hu; rfl
      case c3 => unfold maxLen; omega
      case c4 => omega
      case c5 => have := hnx.size; simp; omega
      intro v' w1 hown' hgrow _ hat
      have hnx1 := grown_next hnx hfr hgrow
      have hfr1 := fresh_next hnx hfr hat
      clear hgrow hat
      go_wp2
      go_ret
      refine ⟨v', rfl, ?_, hnx1, hfr1⟩
      rw [hsplit, hsm, Lib.byteCells_snoc pre (by omega), List.length_append, List.length_singleton, ← Nat.add_assoc]
      exact hown'

set_option maxHeartbeats 8000000 in
/-- binary.AppendVarint, with the exact frame. -/
theorem var_app (B n : Nat) (x : Int) (h0 : -9223372036854775808 ≤ x) (h1 : x ≤ 9223372036854775807) (sv : Value) (xs : List Value) (w : World) (hown : w.ownsRow B 5 1 sv n xs) (hBw : B ≤ w.heap.size) (hlim : n + 10 ≤ 140737488355328) :
    Calls Try.prog 22 #[sv, .int .i64 x] w fun e w' => ∃ v', e = .returned v' ∧ w'.ownsRow B 5 1 v' (n + (Lib.uvarint (Lib.zigzag x)).length) (xs ++ Lib.byteCells (Lib.uvarint (Lib.zigzag x))) ∧ w.grownBy w' sv.ownBlock ∧ Fresh w sv v' := by
  have hU := uvar_app B n (Lib.zigzag x) (Lib.zigzag_lt h0 h1) sv xs w hown hBw hlim
  by_cases hneg : x < 0
  · rw [← Lib.zigzag_neg h0 hneg] at hU
    go_enter Try.func22, Try.ntmps22
    go_wp2_with fail
    refine hU.mono ?_
    rintro e w1 ⟨v', rfl, ho, hb, hf⟩
    go_wp2
    go_ret
    exact ⟨v', rfl, ho, hb, hf⟩
  · rw [Lib.zigzag_nonneg (by omega)] at hU
    go_enter Try.func22, Try.ntmps22
    go_wp2_with fail
    refine hU.mono ?_
    rintro e w1 ⟨v', rfl, ho, hb, hf⟩
    go_wp2
    go_ret
    exact ⟨v', rfl, ho, hb, hf⟩

theorem ret_int {k : IntKind} {a b : Int} (h : a = b) : Ending.returned (.int k a) = .returned (.int k b) := by rw [h]

set_option maxRecDepth 100000 in
set_option maxHeartbeats 8000000 in
/-- zzUvarLen. -/
theorem uvarlen_any (x : Nat) (hx : x < 18446744073709551616) (w : World) :
    Calls Try.prog 17 #[.int .u64 x] w fun e w' => e = .returned (.int .i64 ((Lib.uvarint x).length : Int)) ∧ w' = w := by
  have hlen := Lib.uvarint_length64 hx
  go_enter Try.func17, Try.ntmps17
  go_wp2
  go_loop [0, 3] (fun vx vn => ∃ (y : Nat) (pre : Nat), vx = .int .u64 y ∧ y ≤ x ∧ Hid ((Lib.uvarint x).length = pre + (Lib.uvarint y).length) ∧ vn = .int .i64 ((pre : Int) + 1)) (fun vx _ => (intOf vx).toNat)
  case atStart => exact ⟨x, 0, rfl, Nat.le_refl _, (by show _ = _; omega), rfl⟩
  case round =>
    obtain ⟨y, pre, rfl, hy, hsplit, rfl⟩ := hrel
    have hyp := Lib.uvarint_pos y
    have hpl : pre ≤ 10 := by have := hsplit.out; omega
    by_cases h128 : 128 ≤ y
    · have hs2 : Hid ((Lib.uvarint x).length = (pre + 1) + (Lib.uvarint (y / 128)).length) := by
        have h1 := hsplit.out
        rw [Lib.uvarint_big h128, List.length_cons] at h1
        show _ = _
        omega
      clear hsplit hyp hlen
      go_wp2
      go_round
      case rel => exact ⟨y / 128, pre + 1, by go_num, by omega, hs2, by go_num⟩
      case measure => simp [intOf]; omega
    · have hs2 : Hid (((Lib.uvarint x).length : Int) = (pre : Int) + 1) := by
        have h1 := hsplit.out
        rw [Lib.uvarint_small (x := y) (by omega), List.length_singleton] at h1
        show _ = _
        omega
      clear hsplit hyp hlen
      go_wp2
      go_ret
      exact ⟨ret_int hs2.out.symm, rfl⟩

/-- zzVarLen. -/
theorem varlen_any (x : Int) (h0 : -9223372036854775808 ≤ x) (h1 : x ≤ 9223372036854775807) (w : World) :
    Calls Try.prog 16 #[.int .i64 x] w fun e w' => e = .returned (.int .i64 ((Lib.uvarint (Lib.zigzag x)).length : Int)) ∧ w' = w := by
  have hU := uvarlen_any (Lib.zigzag x) (Lib.zigzag_lt h0 h1) w
  by_cases hneg : x < 0
  · rw [← Lib.zigzag_neg h0 hneg] at hU
    go_enter Try.func16, Try.ntmps16
    go_wp2_with fail
    refine hU.mono ?_
    rintro e w1 ⟨rfl, rfl⟩
    go_wp2
    go_ret
    exact ⟨rfl, rfl⟩
  · rw [Lib.zigzag_nonneg (by omega)] at hU
    go_enter Try.func16, Try.ntmps16
    go_wp2_with fail
    refine hU.mono ?_
    rintro e w1 ⟨rfl, rfl⟩
    go_wp2
    go_ret
    exact ⟨rfl, rfl⟩
end Go.Proofs.Qxb6616327a

/- (*segWriter).appendPart (18): onto a record that holds something. -/
import Derived.Test.Qxb6616327aWalksD
import Derived.BigRegion
import Derived.Deep.RegionLaw
import Derived.Deep.RegionWith
namespace Go.Proofs.Qxb6616327a
open Go.RowKit

/-- What appendPart leaves: the payload longer by the two varints and the part; the part cut to nothing. -/
def Done (B : Nat) (wI : World) (S G : Nat) (size : Int) (name : ByteArray) (pa : Option Addr) (n' : Nat) (bs' : List Int) (xa : Option Addr) (xn xc : Nat) (w' : World) : Prop :=
  ∃ pa' pc' qa' qc', Wr w' S G size name pa' n' pc' qa' 0 qc' xa xn xc ∧ Own B w' pa' n' pc' bs' ∧ Kp (fun k => k = S ∨ blk pa = some k) wI w' ∧ FreshA wI pa pa'

set_option maxRecDepth 100000 in
set_option maxHeartbeats 3200000 in
theorem part_more (B S G : Nat) (size at_ : Int) (name : ByteArray) (pa : Option Addr) (pn pc : Nat) (bs : List Int) (qa : Option Addr) (qn qc : Nat) (qs : List Int) (xa : Option Addr) (xn xc : Nat) (w : World)
    (hW : Wr w S G size name pa pn pc qa qn qc xa xn xc) (hB : B ≤ w.heap.size) (hP : Own B w pa pn pc bs) (hQ : Own B w qa qn qc qs) (hp0 : (0 : Int) < pn) (hpn : pn ≤ 2097152) (hqn : qn ≤ 1048576) (hne : ∀ k, blk pa = some k → blk qa ≠ some k)
    (a0 : -9223372036854775808 ≤ at_) (a1 : at_ ≤ 9223372036854775807) :
    Calls Try.prog 18 #[.pointer (some ⟨S, 0, none⟩), .int .i64 at_] w fun e w' => e = .returned (.tuple #[]) ∧ Done B w S G size name pa (pn + (vb (Lib.zigzag at_)).length + (vb qn).length + qn) (bs ++ vb (Lib.zigzag at_) ++ vb qn ++ qs) xa xn xc w' := by
  have M : Mid B w pa S G size name w pa pn pc bs qa qn qc qs xa xn xc := Mid.start hW hP hQ hne hB
  have l1 : (vb (Lib.zigzag at_)).length ≤ 10 := vb_le (Lib.zigzag_lt a0 a1)
  have l2 : (vb qn).length ≤ 10 := vb_le (by omega)
  clear hP hQ hne hB
  have c4 := hW.c4
  have hp : ((pn : Int) == 0) = false := by simp; omega
  go_enter Try.func18, Try.ntmps18
  go_wp2_with fail
  refine (var_own B at_ a0 a1 pa pn pc bs _ M.own M.base (by omega)).mono ?_
  rintro e w2 ⟨a2, c2, rfl, ho, hg, hf⟩
  have M2 := M.app ho hg hf
  have k4 := (M.wr2 hg).c4
  have f4 := (M.wr2 hg).fS 4
  clear ho hg hf M hW c4
  generalize hn2 : pn + (vb (Lib.zigzag at_)).length = n2 at *
  go_wp2_with fail
  generalize hw2 : w2.setCell ⟨S, 4, none⟩ (.slice a2 n2 c2) = W2 at *
  have HN2 : Hid (pn + (vb (Lib.zigzag at_)).length = n2) := hn2
  have hn2' : n2 ≤ 2097162 := by omega
  clear hw2 hn2 k4 f4 l1
  have k4 := M2.wr.c4
  have k5 := M2.wr.c5
  have hq0 : (0 : Int) ≤ (qn : Int) := by omega
  have hq1 : (qn : Int) ≤ 1048576 := by omega
  have M2d := M2.drew
  have HWR : Hid (IntKind.u64.wrap (qn : Int) = (qn : Int)) := by show _ = _; rw [IntKind.wrap_u64]; omega
  go_region_with (go_at_call 23; rw [HWR.out]; refine (uvar_own B qn (by omega) a2 n2 c2 _ _ M2d.own M2d.base (by omega)).mono ?_; rintro e w3 ⟨a3, c3, rfl, ho3, hg3, hf3⟩; have j4 := (M2d.wr2 hg3).c4; have f4 := (M2d.wr2 hg3).fS 4)
  all_goals
    have M3 := M2d.app ho3 hg3 hf3
    clear M2 M2d ho3 hg3 hf3 j4 f4 k4 k5 HWR
    generalize hn3 : n2 + (vb qn).length = n3 at *
    generalize hw3 : w3.setCell ⟨S, 4, none⟩ (.slice a3 n3 c3) = W3 at *
    have HN3 : Hid (n2 + (vb qn).length = n3) := hn3
    have hn3' : n3 ≤ 2097172 := by omega
    clear hw3 hn3 l2
    have k4 := M3.wr.c4
    have k5 := M3.wr.c5
    have M3d := M3.drew
    go_wp2_with fail
    go_region_law (refine step_app rfl (.tmp 62) (.tmp 66) rfl B a3 n3 c3 _ qa qn qc qs (by simp [Act.eval]) (by simp [Act.eval]) M3d.own M3d.src M3d.base (by omega) ?_; intro a4 c4 w4 ho4 hg4 hf4; have j4 := (M3d.wr2 hg4).c4; have f4 := (M3d.wr2 hg4).fS 4)
    all_goals
      have M4 := M3d.app ho4 hg4 hf4
      clear M3 M3d ho4 hg4 hf4 j4 f4 k4 k5
      generalize hw4 : w4.setCell ⟨S, 4, none⟩ (.slice a4 (n3 + qn) c4) = W4 at *
      clear hw4
      have k5 := M4.wr.c5
      have f5 := M4.wr.fS 5
      go_wp2
      go_end0
      refine ⟨rfl, ?_⟩
      rw [HN2.out, HN3.out]
      exact ⟨a4, c4, _, _, M4.cut _ _ _⟩
end Go.Proofs.Qxb6616327a

/- (*segWriter).appendPart (18): onto an empty record: the index gains its entry. -/
import Derived.Test.Qxb6616327aWalksE
namespace Go.Proofs.Qxb6616327a
open Go.RowKit

/-- What appendPart leaves of an empty record. -/
def Done1 (B : Nat) (w : World) (S G : Nat) (size at_ : Int) (name : ByteArray) (pa : Option Addr) (n' : Nat) (bs' : List Int) (w' : World) : Prop :=
  ∃ xa xc pa' pc' qa' qc', Wr w' S G size name pa' n' pc' qa' 0 qc' xa 1 xc ∧ Own B w' pa' n' pc' bs' ∧ Idx w' xa name at_ size ∧ Kp (fun k => k = S ∨ k = G ∨ blk pa = some k) w w' ∧ FreshA w pa pa'

theorem done1 {B : Nat} {w wI w' : World} {S G : Nat} {size at_ : Int} {name : ByteArray} {pa qa : Option Addr} {pn pc qn qc : Nat} {bs : List Int} {n' : Nat} {bs' : List Int} {xa : Option Addr} {xc : Nat} (hI : Idx wI xa name at_ size) (hK : Kp (fun k => k = G) w wI) (hW : Wr wI S G size name pa pn pc qa qn qc xa 1 xc) (hO : Own B wI pa pn pc bs)
    (h : Done B wI S G size name pa n' bs' xa 1 xc w') : Done1 B w S G size at_ name pa n' bs' w' := by
  obtain ⟨pa', pc', qa', qc', h1, h2, h3, h4⟩ := h
  refine ⟨xa, xc, pa', pc', qa', qc', h1, h2, hI.kept fun k cur hk => ?_, (hK.mono fun i _ e => .inr (.inl e)).trans h3 fun i _ e => e.elim .inl fun e => .inr (.inr e), fun k hk => ?_⟩
  · refine h3.2 k (Array.getElem?_eq_some_iff.1 hk).1 fun e => ?_
    rcases e with e | e
    · exact (wr_ne61 hW hk).1 e
    · exact own_ne61 hO hk e
  · have := hK.size
    rcases h4 k hk with e | e
    · exact .inl e
    · right; omega

theorem first_pack {B : Nat} {w w2 : World} {S G : Nat} {size at_ : Int} {name : ByteArray} {pa qa a2 : Option Addr} {pn pc qn qc : Nat} {bs qs : List Int} {c : Nat} {o : Obj} {Z : Array Value} (hW : Wr w S G size name pa pn pc qa qn qc none 0 0) (hP : Own B w pa pn pc bs) (hQ : Own B w qa qn qc qs)
    (hg : World.grownBy (((w.setCell ⟨G, 6, none⟩ (.slice (some ⟨w.heap.size + 1, 0, none⟩) 1 c)).alloc o).alloc (.cells (#[.string name, .int .i64 at_, .int .i64 size] ++ Z) 61)).drew.drew w2 (blk pa)) (hf : FreshA (((w.setCell ⟨G, 6, none⟩ (.slice (some ⟨w.heap.size + 1, 0, none⟩) 1 c)).alloc o).alloc (.cells (#[.string name, .int .i64 at_, .int .i64 size] ++ Z) 61)).drew.drew pa a2) :
    ∃ wI xa xc, World.grownBy wI w2 (blk pa) ∧ FreshA wI pa a2 ∧ Wr wI S G size name pa pn pc qa qn qc xa 1 xc ∧ Own B wI pa pn pc bs ∧ Own B wI qa qn qc qs ∧ Kp (fun k => k = G) w wI ∧ Idx wI xa name at_ size :=
  ⟨_, _, _, hg, hf, first_world hW hP hQ at_ c o Z⟩

set_option maxRecDepth 100000 in
set_option maxHeartbeats 8000000 in
theorem part_first (B S G : Nat) (size at_ : Int) (name : ByteArray) (pa : Option Addr) (pc : Nat) (qa : Option Addr) (qn qc : Nat) (qs : List Int) (w : World)
    (hW : Wr w S G size name pa 0 pc qa qn qc none 0 0) (hB : B ≤ w.heap.size) (hP : Own B w pa 0 pc []) (hQ : Own B w qa qn qc qs) (hqn : qn ≤ 1048576) (hne : ∀ k, blk pa = some k → blk qa ≠ some k)
    (a0 : -9223372036854775808 ≤ at_) (a1 : at_ ≤ 9223372036854775807) :
    Calls Try.prog 18 #[.pointer (some ⟨S, 0, none⟩), .int .i64 at_] w fun e w' => e = .returned (.tuple #[]) ∧ Done1 B w S G size at_ name pa (0 + (vb (Lib.zigzag at_)).length + (vb qn).length + qn) (vb (Lib.zigzag at_) ++ vb qn ++ qs) w' := by
  have l1 : (vb (Lib.zigzag at_)).length ≤ 10 := vb_le (Lib.zigzag_lt a0 a1)
  have l2 : (vb qn).length ≤ 10 := vb_le (by omega)
  have d1 := hW.c1
  have d2 := hW.c2
  have d3 := hW.c3
  have d4 := hW.c4
  have g6 := hW.g6
  have f6 := hW.fG 6
  have lS := hW.ltS
  have lG := hW.ltG
  have hcap : ¬ 281474976710656 < Builtin.nextslicecap 1 0 * Try.t61.bytes := of_decide_eq_true (by kernel_rfl)
  go_enter Try.func18, Try.ntmps18
  go_wp2_with fail
  go_region
  go_wp2_with fail
  have FW := fun c o Z => first_world hW hP hQ at_ c o Z
  refine (var_own B at_ a0 a1 pa 0 pc [] _ (FW _ _ _).2.1 (Nat.le_trans hB (FW _ _ _).2.2.2.1.size) (by omega)).mono ?_
  rintro e w2 ⟨a2, c2, rfl, ho, hg, hf⟩
  obtain ⟨wI, xa, xc, hg, hf, hI0, hI1, hI2, HK, HI⟩ := first_pack hW hP hQ hg hf
  have M : Mid B wI pa S G size name wI pa 0 pc [] qa qn qc qs xa 1 xc := Mid.start hI0 hI1 hI2 hne (Nat.le_trans hB HK.size)
  have M2 := M.app ho hg hf
  have k4 := (M.wr2 hg).c4
  have f4 := (M.wr2 hg).fS 4
  clear ho hg hf M hW d4 FW d1 d2 d3 g6 f6 lS lG hcap hP hQ hI2
  generalize hn2 : 0 + (vb (Lib.zigzag at_)).length = n2 at *
  go_wp2_with fail
  generalize hw2 : w2.setCell ⟨S, 4, none⟩ (.slice a2 n2 c2) = W2 at *
  have HN2 : Hid (0 + (vb (Lib.zigzag at_)).length = n2) := hn2
  have hn2' : n2 ≤ 2097162 := by omega
  clear hw2 hn2 k4 f4 l1
  have k4 := M2.wr.c4
  have k5 := M2.wr.c5
  have hq0 : (0 : Int) ≤ (qn : Int) := by omega
  have hq1 : (qn : Int) ≤ 1048576 := by omega
  have M2d := M2.drew
  have HWR : Hid (IntKind.u64.wrap (qn : Int) = (qn : Int)) := by show _ = _; rw [IntKind.wrap_u64]; omega
  go_region_with (go_at_call 23; rw [HWR.out]; refine (uvar_own B qn (by omega) a2 n2 c2 _ _ M2d.own M2d.base (by omega)).mono ?_; rintro e w3 ⟨a3, c3, rfl, ho3, hg3, hf3⟩; have j4 := (M2d.wr2 hg3).c4; have f4 := (M2d.wr2 hg3).fS 4)
  all_goals
    have M3 := M2d.app ho3 hg3 hf3
    clear M2 M2d ho3 hg3 hf3 j4 f4 k4 k5 HWR
    generalize hn3 : n2 + (vb qn).length = n3 at *
    generalize hw3 : w3.setCell ⟨S, 4, none⟩ (.slice a3 n3 c3) = W3 at *
    have HN3 : Hid (n2 + (vb qn).length = n3) := hn3
    have hn3' : n3 ≤ 2097172 := by omega
    clear hw3 hn3 l2
    have k4 := M3.wr.c4
    have k5 := M3.wr.c5
    have M3d := M3.drew
    go_wp2_with fail
    go_region_law (refine step_app rfl (.tmp 62) (.tmp 66) rfl B a3 n3 c3 _ qa qn qc qs (by simp [Act.eval]) (by simp [Act.eval]) M3d.own M3d.src M3d.base (by omega) ?_; intro a4 c4 w4 ho4 hg4 hf4; have j4 := (M3d.wr2 hg4).c4; have f4 := (M3d.wr2 hg4).fS 4)
    all_goals
      have M4 := M3d.app ho4 hg4 hf4
      clear M3 M3d ho4 hg4 hf4 j4 f4 k4 k5
      generalize hw4 : w4.setCell ⟨S, 4, none⟩ (.slice a4 (n3 + qn) c4) = W4 at *
      clear hw4
      have k5 := M4.wr.c5
      have f5 := M4.wr.fS 5
      go_wp2
      go_end0
      refine ⟨rfl, ?_⟩
      rw [HN2.out, HN3.out]
      exact done1 (B := B) HI HK hI0 hI1 ⟨a4, c4, _, _, M4.cut _ _ _⟩
end Go.Proofs.Qxb6616327a

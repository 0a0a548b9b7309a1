/- zzVarint (19), zzReadPart (12). -/
import Derived.Test.Qxb6616327aWalksJ
import Derived.Test.Qxb6616327aWalksH
import Derived.RegionTactic
namespace Go.Proofs.Qxb6616327a
open Go.RowKit

set_option maxHeartbeats 8000000 in
set_option maxRecDepth 100000 in
theorem varint_at (g n c i : Nat) (x : Int) (cs : List Int) (w : World) (hn : n ≤ 8388608) (h0 : -9223372036854775808 ≤ x) (h1 : x ≤ 9223372036854775807) (hc : ∀ j, j < n → w.cell? ⟨g, j, none⟩ = some (.int .u8 (cs.getD j 0))) (hr : Reads cs i (Lib.zigzag x)) (hl : i + (vb (Lib.zigzag x)).length ≤ n) :
    Calls Try.prog 19 #[.slice (some ⟨g, 0, none⟩) n c, .int .i64 (i : Int)] w fun e w' => e = .returned (.tuple #[.int .i64 x, .int .i64 ((i + (vb (Lib.zigzag x)).length : Nat) : Int), .bool true]) ∧ w' = w := by
  have hlt := Lib.zigzag_lt h0 h1
  have hU := uvarint_at g n c i (Lib.zigzag x) cs w hn hlt hc hr hl
  clear hc hr
  obtain ⟨J, hJ⟩ : ∃ J, J = i + (vb (Lib.zigzag x)).length := ⟨_, rfl⟩
  rw [← hJ] at hU ⊢
  clear hJ hl
  have hand := Lib.u64_and1 (Lib.zigzag x : Int) (by omega) (by omega)
  by_cases hneg : x < 0
  · have hz : ((Lib.zigzag x : Nat) : Int) = -2 * x - 1 := by unfold Lib.zigzag; rw [if_neg (by omega)]; omega
    obtain ⟨u, hu⟩ : ∃ u, u = Lib.zigzag x := ⟨_, rfl⟩
    rw [← hu] at hU hand hz hlt
    have hand1 : bits .and .u64 (u : Int) 1 = 1 := by rw [hand]; omega
    have hnot : bits .xor .i64 (-1) ((u : Int) / 2) = -((u : Int) / 2) - 1 := by
      have h3 := Lib.i64_not (u / 2) (by omega)
      rw [show (((u / 2 : Nat) : Int)) = (u : Int) / 2 by omega] at h3
      exact h3
    have HX : Hid (-((u : Int) / 2) - 1 = x) := by show _ = _; omega
    clear hand hu hz
    go_enter Try.func19, Try.ntmps19
    go_wp2_with fail
    refine hU.mono ?_
    clear hU
    rintro e w1 ⟨rfl, rfl⟩
    go_wp2
    go_ret3
    rw [← HX.out]
    exact ⟨rfl, rfl⟩
  · have hz : ((Lib.zigzag x : Nat) : Int) = 2 * x := by unfold Lib.zigzag; rw [if_pos (by omega)]; omega
    obtain ⟨u, hu⟩ : ∃ u, u = Lib.zigzag x := ⟨_, rfl⟩
    rw [← hu] at hU hand hz hlt
    have hand0 : bits .and .u64 (u : Int) 1 = 0 := by rw [hand]; omega
    have HX : Hid ((u : Int) / 2 = x) := by show _ = _; omega
    clear hand hu hz
    go_enter Try.func19, Try.ntmps19
    go_wp2_with fail
    refine hU.mono ?_
    clear hU
    rintro e w1 ⟨rfl, rfl⟩
    go_wp2
    go_ret3
    rw [← HX.out]
    exact ⟨rfl, rfl⟩

/-- From place i on cs reads as E. -/
def Has (cs : List Int) (i : Nat) (E : List Int) : Prop := ∀ j, j < E.length → cs.getD (i + j) 0 = E.getD j 0
theorem Has.left {cs : List Int} {i : Nat} {A C : List Int} (h : Has cs i (A ++ C)) : Has cs i A := fun j hj => by
  rw [h j (by rw [List.length_append]; omega)]
  simp [List.getElem?_append_left hj]
theorem Has.right {cs : List Int} {i : Nat} {A C : List Int} (h : Has cs i (A ++ C)) : Has cs (i + A.length) C := fun j hj => by
  rw [Nat.add_assoc, h (A.length + j) (by rw [List.length_append]; omega)]
  simp [List.getElem?_append_right (Nat.le_add_right _ _)]

set_option maxHeartbeats 8000000 in
set_option maxRecDepth 100000 in
theorem readpart_at (B g n c i : Nat) (at_ : Int) (cs : List Int) (qa : Option Addr) (qn qc : Nat) (qs : List Int) (w : World) (hg : g < w.heap.size) (hn : n ≤ 8388608) (h0 : -9223372036854775808 ≤ at_) (h1 : at_ ≤ 9223372036854775807) (hqn : qn ≤ 1048576)
    (hc : ∀ j, j < n → w.cell? ⟨g, j, none⟩ = some (.int .u8 (cs.getD j 0))) (hQ : Own B w qa qn qc qs) (hr : Has cs i (enc at_ qn qs)) (hl : i + (enc at_ qn qs).length ≤ n) :
    Calls Try.prog 12 #[.slice (some ⟨g, 0, none⟩) n c, .int .i64 (i : Int), .int .i64 at_, .slice qa qn qc] w fun e w' => e = .returned (.tuple #[.int .i64 ((i + (enc at_ qn qs).length : Nat) : Int), .bool true]) ∧ Below w.heap.size w w' := by
  have el := enc_length at_ qn qs hQ.1
  have r1 : Has cs i (vb (Lib.zigzag at_)) := hr.left.left
  have r2 : Has cs (i + (vb (Lib.zigzag at_)).length) (vb qn) := hr.left.right
  have r3 := hr.right
  rw [List.length_append] at r3
  have hV := varint_at g n c i at_ cs w hn h0 h1 hc r1 (by omega)
  have hU := uvarint_at g n c (i + (vb (Lib.zigzag at_)).length) qn cs w hn (by omega) hc r2 (by omega)
  obtain ⟨J, hJ⟩ : ∃ J, J = i + (vb (Lib.zigzag at_)).length := ⟨_, rfl⟩
  obtain ⟨K, hK⟩ : ∃ K, K = J + (vb qn).length := ⟨_, rfl⟩
  rw [← hJ] at hV hU
  rw [← hK] at hU
  have hKn : K + qn ≤ n := by omega
  have e1 : i + (enc at_ qn qs).length = K + qn := by omega
  have e2 : i + ((vb (Lib.zigzag at_)).length + (vb qn).length) = K := by omega
  rw [e1]
  rw [e2] at r3
  have R3 : Hid (Has cs K qs) := r3
  have HC : Hid (∀ j, j < n → w.cell? ⟨g, j, none⟩ = some (.int .u8 (cs.getD j 0))) := hc
  have HQ : Hid (Own B w qa qn qc qs) := hQ
  have hKi : (K : Int) + qn ≤ n := by omega
  clear r1 r2 r3 hr hc hQ hl el hJ hK e1 e2
  go_enter Try.func12, Try.ntmps12
  go_wp2_with fail
  refine hV.mono ?_
  clear hV
  rintro e w1 ⟨rfl, rfl⟩
  go_wp2_with fail
  refine hU.mono ?_
  clear hU
  rintro e w2 ⟨rfl, rfl⟩
  go_wp2
  go_loopw [16] (fun v wr => ∃ k : Nat, k ≤ qn ∧ v = .int .i64 k ∧ Below w2.heap.size w2 wr) (fun v _ => qn - (intOf v).toNat)
  case atStart => exact ⟨0, Nat.zero_le _, rfl, Below.refl _ _⟩
  case round =>
    obtain ⟨k, hk, rfl, hb⟩ := hrel
    by_cases hlt : k < qn
    · obtain ⟨gq, rfl, hgq, _, hd⟩ := HQ.out.at_ (by omega)
      have hcx := (hb.cell (p := ⟨g, K + k, none⟩) hg).trans (HC.out (K + k) (by omega))
      have hcy := (hb.cell (p := ⟨gq, k, none⟩) hgq).trans (hd k hlt)
      rw [R3.out k (by rw [HQ.out.1]; exact hlt)] at hcx
      clear hd
      generalize qs.getD k 0 = z at *
      go_wp2
      go_region
      go_wp2
      go_roundw
      case rel => exact ⟨k + 1, by omega, by go_num, hb.drew⟩
      case measure => simp [intOf]; omega
    · go_wp2
      go_ret2
      exact ⟨by simp, hb⟩
end Go.Proofs.Qxb6616327a

/- THE LAW WALKED, a theorem a pair of kinds of states (z: the zero state, b: refused, g: accepted); each callee by its contract. -/
import Derived.Test.Qxb6617731aWalksA
namespace Go.Proofs.Qxb6617731a
open Go.RowKit

set_option maxHeartbeats 1000000 in
theorem law_gg (s1 t1 e1 : Int) (h1 : s1 < e1) (g1 : 0 ≤ t1) (s2 t2 e2 : Int) (h2 : s2 < e2) (g2 : 0 ≤ t2) (w : World) :
    Calls Try.prog 3 #[.int .i64 s1, .int .i64 t1, .int .i64 e1, .int .i64 s2, .int .i64 t2, .int .i64 e2] w fun e w' => e = .returned (.bool true) ∧ Grown w w' := by
  go_enter Try.func3, Try.ntmps3
  go_wp2_with fail
  refine (tok_good s1 t1 e1 h1 g1 _).mono ?_; rintro e w' ⟨rfl, c1, c2, rfl⟩
  go_wp2_with fail
  refine (tok_good s2 t2 e2 h2 g2 _).mono ?_; rintro e w' ⟨rfl, c1, c2, rfl⟩
  go_wp2_with fail
  refine (held_good s1 t1 e1 h1 g1 _).mono ?_; rintro e w' ⟨rfl, rfl⟩
  go_wp2_with fail
  refine (held_good s2 t2 e2 h2 g2 _).mono ?_; rintro e w' ⟨rfl, rfl⟩
  go_wp2_with fail
  all_goals go_ret
  all_goals first
    | exact ⟨rfl, by repeat (first | exact Grown.refl _ | apply Grown.drew | apply Grown.alloc)⟩
    | exact ⟨ret_bool (by simp; omega), by repeat (first | exact Grown.refl _ | apply Grown.drew | apply Grown.alloc)⟩
    | exact ⟨ret_bool (by simp_all), by repeat (first | exact Grown.refl _ | apply Grown.drew | apply Grown.alloc)⟩
end Go.Proofs.Qxb6617731a

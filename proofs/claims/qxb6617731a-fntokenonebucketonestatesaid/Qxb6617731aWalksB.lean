/- THE LAW WALKED, a theorem a pair of kinds of states (z: the zero state, b: refused, g: accepted); each callee by its contract. -/
import Derived.Test.Qxb6617731aWalksA
namespace Go.Proofs.Qxb6617731a
open Go.RowKit

set_option maxHeartbeats 1000000 in
theorem law_zz (w : World) :
    Calls Try.prog 3 #[.int .i64 0, .int .i64 0, .int .i64 0, .int .i64 0, .int .i64 0, .int .i64 0] w fun e w' => e = .returned (.bool true) ∧ Grown w w' := by
  go_enter Try.func3, Try.ntmps3
  go_wp2_with fail
  refine (tok_zero _).mono ?_; rintro e w' ⟨rfl, c1, c2, rfl⟩
  go_wp2_with fail
  refine (tok_zero _).mono ?_; rintro e w' ⟨rfl, c1, c2, rfl⟩
  go_wp2_with fail
  refine (held_zero _).mono ?_; rintro e w' ⟨rfl, rfl⟩
  go_wp2_with fail
  refine (held_zero _).mono ?_; rintro e w' ⟨rfl, rfl⟩
  go_wp2_with fail
  all_goals go_ret
  all_goals first
    | exact ⟨rfl, by repeat (first | exact Grown.refl _ | apply Grown.drew | apply Grown.alloc)⟩
    | exact ⟨ret_bool (by simp; omega), by repeat (first | exact Grown.refl _ | apply Grown.drew | apply Grown.alloc)⟩
    | exact ⟨ret_bool (by simp_all), by repeat (first | exact Grown.refl _ | apply Grown.drew | apply Grown.alloc)⟩

set_option maxHeartbeats 1000000 in
theorem law_zb (s2 t2 e2 : Int) (hz2 : ¬ (s2 = 0 ∧ t2 = 0 ∧ e2 = 0)) (h2 : e2 ≤ s2 ∨ t2 < 0) (w : World) :
    Calls Try.prog 3 #[.int .i64 0, .int .i64 0, .int .i64 0, .int .i64 s2, .int .i64 t2, .int .i64 e2] w fun e w' => e = .returned (.bool true) ∧ Grown w w' := by
  have HZ2 : Hid (¬ (s2 = 0 ∧ t2 = 0 ∧ e2 = 0)) := hz2
  have HH2 : Hid (e2 ≤ s2 ∨ t2 < 0) := h2
  clear hz2 h2
  go_enter Try.func3, Try.ntmps3
  go_wp2_with fail
  refine (tok_zero _).mono ?_; rintro e w' ⟨rfl, c1, c2, rfl⟩
  go_wp2_with fail
  refine (tok_bad s2 t2 e2 HZ2.out HH2.out _).mono ?_; rintro e w' ⟨rfl, c1, c2, rfl⟩
  go_wp2_with fail
  refine (held_zero _).mono ?_; rintro e w' ⟨rfl, rfl⟩
  go_wp2_with fail
  refine (held_bad s2 t2 e2 HZ2.out HH2.out _).mono ?_; rintro e w' ⟨rfl, rfl⟩
  go_wp2_with fail
  all_goals go_ret
  all_goals first
    | exact ⟨rfl, by repeat (first | exact Grown.refl _ | apply Grown.drew | apply Grown.alloc)⟩
    | exact ⟨ret_bool (by simp; omega), by repeat (first | exact Grown.refl _ | apply Grown.drew | apply Grown.alloc)⟩
    | exact ⟨ret_bool (by simp_all), by repeat (first | exact Grown.refl _ | apply Grown.drew | apply Grown.alloc)⟩

set_option maxHeartbeats 1000000 in
theorem law_zg (s2 t2 e2 : Int) (h2 : s2 < e2) (g2 : 0 ≤ t2) (w : World) :
    Calls Try.prog 3 #[.int .i64 0, .int .i64 0, .int .i64 0, .int .i64 s2, .int .i64 t2, .int .i64 e2] w fun e w' => e = .returned (.bool true) ∧ Grown w w' := by
  go_enter Try.func3, Try.ntmps3
  go_wp2_with fail
  refine (tok_zero _).mono ?_; rintro e w' ⟨rfl, c1, c2, rfl⟩
  go_wp2_with fail
  refine (tok_good s2 t2 e2 h2 g2 _).mono ?_; rintro e w' ⟨rfl, c1, c2, rfl⟩
  go_wp2_with fail
  refine (held_zero _).mono ?_; rintro e w' ⟨rfl, rfl⟩
  go_wp2_with fail
  refine (held_good s2 t2 e2 h2 g2 _).mono ?_; rintro e w' ⟨rfl, rfl⟩
  go_wp2_with fail
  all_goals go_ret
  all_goals first
    | exact ⟨rfl, by repeat (first | exact Grown.refl _ | apply Grown.drew | apply Grown.alloc)⟩
    | exact ⟨ret_bool (by simp; omega), by repeat (first | exact Grown.refl _ | apply Grown.drew | apply Grown.alloc)⟩
    | exact ⟨ret_bool (by simp_all), by repeat (first | exact Grown.refl _ | apply Grown.drew | apply Grown.alloc)⟩

set_option maxHeartbeats 1000000 in
theorem law_bz (s1 t1 e1 : Int) (hz1 : ¬ (s1 = 0 ∧ t1 = 0 ∧ e1 = 0)) (h1 : e1 ≤ s1 ∨ t1 < 0) (w : World) :
    Calls Try.prog 3 #[.int .i64 s1, .int .i64 t1, .int .i64 e1, .int .i64 0, .int .i64 0, .int .i64 0] w fun e w' => e = .returned (.bool true) ∧ Grown w w' := by
  have HZ1 : Hid (¬ (s1 = 0 ∧ t1 = 0 ∧ e1 = 0)) := hz1
  have HH1 : Hid (e1 ≤ s1 ∨ t1 < 0) := h1
  clear hz1 h1
  go_enter Try.func3, Try.ntmps3
  go_wp2_with fail
  refine (tok_bad s1 t1 e1 HZ1.out HH1.out _).mono ?_; rintro e w' ⟨rfl, c1, c2, rfl⟩
  go_wp2_with fail
  refine (tok_zero _).mono ?_; rintro e w' ⟨rfl, c1, c2, rfl⟩
  go_wp2_with fail
  refine (held_bad s1 t1 e1 HZ1.out HH1.out _).mono ?_; rintro e w' ⟨rfl, rfl⟩
  go_wp2_with fail
  refine (held_zero _).mono ?_; rintro e w' ⟨rfl, rfl⟩
  go_wp2_with fail
  all_goals go_ret
  all_goals first
    | exact ⟨rfl, by repeat (first | exact Grown.refl _ | apply Grown.drew | apply Grown.alloc)⟩
    | exact ⟨ret_bool (by simp; omega), by repeat (first | exact Grown.refl _ | apply Grown.drew | apply Grown.alloc)⟩
    | exact ⟨ret_bool (by simp_all), by repeat (first | exact Grown.refl _ | apply Grown.drew | apply Grown.alloc)⟩
end Go.Proofs.Qxb6617731a

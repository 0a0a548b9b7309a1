/-
  THE WALKS OF THE TWO CALLEES: TokenState.Token (function 4) and zzb1Held (function 5), one contract a kind of state: the zero state, a refused one, an accepted one.
-/
import Derived.Test.Qxb6617731aRows
import Derived.WalkKit
import Derived.WalkSpells
import Derived.WalkLawsBesides
import Derived.RowKit3
namespace Go.Proofs.Qxb6617731a
open Go.RowKit

/-- Token at the zero state: the empty bucket, accepted. -/
theorem tok_zero (w : World) :
    Calls Try.prog 4 #[.agg #[.int .i64 0, .int .i64 0, .int .i64 0]] w fun e w' =>
      e = .returned (.tuple #[.agg #[.bool false, .int .i64 0, .int .i64 0, .int .i64 0], .bool true]) ∧ ∃ c1 c2 : Array Value, w' = (w.alloc (.cells c1 23)).alloc (.cells c2 25) := by
  go_enter Try.func4, Try.ntmps4
  go_wp2
  exact bodyPost_ret (v := .tuple #[.agg #[.bool false, .int .i64 0, .int .i64 0, .int .i64 0], .bool true]) (by simp [results, Try.results4, go_sem]) rfl ⟨rfl, _, _, rfl⟩
/-- Token at a refused state: the empty bucket, refused. -/
theorem tok_bad (s t e : Int) (hz : ¬ (s = 0 ∧ t = 0 ∧ e = 0)) (h : e ≤ s ∨ t < 0) (w : World) :
    Calls Try.prog 4 #[.agg #[.int .i64 s, .int .i64 t, .int .i64 e]] w fun e w' =>
      e = .returned (.tuple #[.agg #[.bool false, .int .i64 0, .int .i64 0, .int .i64 0], .bool false]) ∧ ∃ c1 c2 : Array Value, w' = (w.alloc (.cells c1 23)).alloc (.cells c2 25) := by
  have HZ : Hid (¬ (s = 0 ∧ t = 0 ∧ e = 0)) := hz
  clear hz
  by_cases h1 : e ≤ s
  · clear h
    go_enter Try.func4, Try.ntmps4
    go_wp2
    all_goals first
      | exact (HZ.out ⟨‹_›, ‹_›, ‹_›⟩).elim
      | exact bodyPost_ret (v := .tuple #[.agg #[.bool false, .int .i64 0, .int .i64 0, .int .i64 0], .bool false]) (by simp [results, Try.results4, go_sem]) rfl ⟨rfl, _, _, rfl⟩
  · have h2 : t < 0 := by omega
    clear h
    go_enter Try.func4, Try.ntmps4
    go_wp2
    all_goals first
      | exact (HZ.out ⟨‹_›, ‹_›, ‹_›⟩).elim
      | exact bodyPost_ret (v := .tuple #[.agg #[.bool false, .int .i64 0, .int .i64 0, .int .i64 0], .bool false]) (by simp [results, Try.results4, go_sem]) rfl ⟨rfl, _, _, rfl⟩
/-- Token at an accepted state that is not the zero state: the open bucket that holds it. -/
theorem tok_good (s t e : Int) (h1 : s < e) (h2 : 0 ≤ t) (w : World) :
    Calls Try.prog 4 #[.agg #[.int .i64 s, .int .i64 t, .int .i64 e]] w fun e' w' =>
      e' = .returned (.tuple #[.agg #[.bool true, .int .i64 s, .int .i64 t, .int .i64 e], .bool true]) ∧ ∃ c1 c2 : Array Value, w' = (w.alloc (.cells c1 23)).alloc (.cells c2 25) := by
  go_enter Try.func4, Try.ntmps4
  go_wp2
  all_goals exact bodyPost_ret (v := .tuple #[.agg #[.bool true, .int .i64 s, .int .i64 t, .int .i64 e], .bool true]) (by simp [results, Try.results4, go_sem, *]) rfl ⟨rfl, _, _, rfl⟩

theorem ret_bool {a b : Bool} (h : a = b) : Ending.returned (.bool a) = .returned (.bool b) := by rw [h]
theorem held_zero (w : World) :
    Calls Try.prog 5 #[.int .i64 0, .int .i64 0, .int .i64 0] w fun e w' => e = .returned (.bool true) ∧ w' = w := by
  go_enter Try.func5, Try.ntmps5
  go_wp2
  go_ret
  exact ⟨rfl, rfl⟩
theorem held_bad (s t e : Int) (hz : ¬ (s = 0 ∧ t = 0 ∧ e = 0)) (h : e ≤ s ∨ t < 0) (w : World) :
    Calls Try.prog 5 #[.int .i64 s, .int .i64 t, .int .i64 e] w fun e w' => e = .returned (.bool false) ∧ w' = w := by
  have HZ : Hid (¬ (s = 0 ∧ t = 0 ∧ e = 0)) := hz
  clear hz
  by_cases h1 : e ≤ s
  · clear h
    go_enter Try.func5, Try.ntmps5
    go_wp2
    all_goals first
      | (go_ret; exact ⟨rfl, rfl⟩)
      | (exfalso; have hz := HZ.out; simp only [beq_iff_eq] at *; omega)
  · have h2 : t < 0 := by omega
    have h3 : decide (0 ≤ t) = false := by simpa using h2
    clear h
    go_enter Try.func5, Try.ntmps5
    go_wp2
    all_goals first
      | (go_ret; exact ⟨rfl, rfl⟩)
      | (go_ret; exact ⟨ret_bool h3, rfl⟩)
      | (exfalso; have hz := HZ.out; simp only [beq_iff_eq] at *; omega)
theorem held_good (s t e : Int) (h1 : s < e) (h2 : 0 ≤ t) (w : World) :
    Calls Try.prog 5 #[.int .i64 s, .int .i64 t, .int .i64 e] w fun e w' => e = .returned (.bool true) ∧ w' = w := by
  go_enter Try.func5, Try.ntmps5
  go_wp2
  all_goals (go_ret; exact ⟨rfl, rfl⟩)
end Go.Proofs.Qxb6617731a

/- THE CALLEES' CONTRACTS: stampOrder (9), ZZStampOrder (5), zzRank (8), zzCmpU64 (6), zzLexCmp (7). -/
import Derived.Test.Qxb6618282aRows
import Derived.WalkKit
import Derived.WalkSpells
import Derived.WalkLawsBesides
import Derived.RowKit3
import Derived.OpenShut
import Derived.Laws.BitsAllLaws
namespace Go.Proofs.Qxb6618282a
open Go.RowKit

theorem ret_int {k : IntKind} {a b : Int} (h : a = b) : Ending.returned (.int k a) = .returned (.int k b) := by rw [h]
theorem ret_bool {a b : Bool} (h : a = b) : Ending.returned (.bool a) = .returned (.bool b) := by rw [h]

/-- The plain law: the two halves do not meet. -/
theorem join (n s : Int) (n0 : 0 ≤ n) (n1 : n ≤ 255) (s0 : 0 ≤ s) (s1 : s ≤ 4294967295) : bits .or .u64 (n * 4294967296) s = n * 4294967296 + s := by
  rw [u64_or _ _ (by omega) (by omega) (by omega) (by omega), nat_join 32 _ _ (by omega) (by omega)]
  omega

theorem stamp_any (n s : Int) (n0 : 0 ≤ n) (n1 : n ≤ 255) (s0 : 0 ≤ s) (s1 : s ≤ 4294967295) (w : World) :
    Calls Try.prog 9 #[.int .u8 n, .int .u32 s] w fun e w' => e = .returned (.int .u64 (n * 4294967296 + s)) ∧ w' = w := by
  go_enter Try.func9, Try.ntmps9
  go_wp2
  go_ret
  exact ⟨ret_int (join n s n0 n1 s0 s1), rfl⟩
theorem zz_any (n s : Int) (n0 : 0 ≤ n) (n1 : n ≤ 255) (s0 : 0 ≤ s) (s1 : s ≤ 4294967295) (w : World) :
    Calls Try.prog 5 #[.int .u8 n, .int .u32 s] w fun e w' => e = .returned (.int .u64 (n * 4294967296 + s)) ∧ w' = w := by
  go_enter Try.func5, Try.ntmps5
  go_wp2_with fail
  refine (stamp_any n s n0 n1 s0 s1 _).mono ?_
  rintro e w' ⟨rfl, rfl⟩
  go_wp2
  go_ret
  exact ⟨rfl, rfl⟩
theorem rank_any (n s : Int) (n0 : 0 ≤ n) (n1 : n ≤ 255) (s0 : 0 ≤ s) (s1 : s ≤ 4294967295) (w : World) :
    Calls Try.prog 8 #[.int .u8 n, .int .u32 s] w fun e w' => e = .returned (.int .u64 (n * 4294967296 + s)) ∧ w' = w := by
  go_enter Try.func8, Try.ntmps8
  go_wp2
  go_ret
  exact ⟨rfl, rfl⟩

/-- What a three-way comparison answers. -/
def cmp3 (a b : Int) : Int := if a < b then -1 else if b < a then 1 else 0
theorem cmp_any (a b : Int) (w : World) :
    Calls Try.prog 6 #[.int .u64 a, .int .u64 b] w fun e w' => e = .returned (.int .i64 (cmp3 a b)) ∧ w' = w := by
  by_cases h1 : a < b
  · go_enter Try.func6, Try.ntmps6
    go_wp2
    go_ret
    exact ⟨ret_int (by simp [cmp3, h1]), rfl⟩
  · by_cases h2 : b < a
    · go_enter Try.func6, Try.ntmps6
      go_wp2
      go_ret
      exact ⟨ret_int (by simp [cmp3, h1, h2]), rfl⟩
    · have e : cmp3 a b = 0 := by unfold cmp3; rw [if_neg h1, if_neg h2]
      rw [e]
      clear e
      go_enter Try.func6, Try.ntmps6
      go_wp2
      go_ret
      exact ⟨rfl, rfl⟩
theorem lex_any (n s m t : Int) (s0 : 0 ≤ s) (s1 : s ≤ 4294967295) (t0 : 0 ≤ t) (t1 : t ≤ 4294967295) (w : World) :
    Calls Try.prog 7 #[.int .u8 n, .int .u32 s, .int .u8 m, .int .u32 t] w fun e w' => e = .returned (.int .i64 (cmp3 (n * 4294967296 + s) (m * 4294967296 + t))) ∧ w' = w := by
  by_cases h1 : n < m
  · have e : cmp3 (n * 4294967296 + s) (m * 4294967296 + t) = -1 := by unfold cmp3; rw [if_pos (by omega)]
    rw [e]
    clear e
    go_enter Try.func7, Try.ntmps7
    go_wp2
    go_ret
    exact ⟨rfl, rfl⟩
  · by_cases h2 : m < n
    · have e : cmp3 (n * 4294967296 + s) (m * 4294967296 + t) = 1 := by unfold cmp3; rw [if_neg (by omega), if_pos (by omega)]
      rw [e]
      clear e
      go_enter Try.func7, Try.ntmps7
      go_wp2
      go_ret
      exact ⟨rfl, rfl⟩
    · by_cases h3 : s < t
      · have e : cmp3 (n * 4294967296 + s) (m * 4294967296 + t) = -1 := by unfold cmp3; rw [if_pos (by omega)]
        rw [e]
        clear e
        go_enter Try.func7, Try.ntmps7
        go_wp2
        go_ret
        exact ⟨rfl, rfl⟩
      · by_cases h4 : t < s
        · have e : cmp3 (n * 4294967296 + s) (m * 4294967296 + t) = 1 := by unfold cmp3; rw [if_neg (by omega), if_pos (by omega)]
          rw [e]
          clear e
          go_enter Try.func7, Try.ntmps7
          go_wp2
          go_ret
          exact ⟨rfl, rfl⟩
        · have e : cmp3 (n * 4294967296 + s) (m * 4294967296 + t) = 0 := by unfold cmp3; rw [if_neg (by omega), if_neg (by omega)]
          rw [e]
          clear e
          go_enter Try.func7, Try.ntmps7
          go_wp2
          go_ret
          exact ⟨rfl, rfl⟩

/-- The second statement's law (function 4). -/
theorem succ_law (n s : Int) (n0 : 0 ≤ n) (n1 : n ≤ 255) (s0 : 0 ≤ s) (s1 : s ≤ 4294967295) (w : World) :
    Calls Try.prog 4 #[.int .u8 n, .int .u32 s] w fun e w' => e = .returned (.bool true) ∧ w' = w := by
  by_cases h1 : s < 4294967295
  · go_enter Try.func4, Try.ntmps4
    go_wp2_with fail
    refine (zz_any n s n0 n1 s0 s1 _).mono ?_
    rintro e w' ⟨rfl, rfl⟩
    go_wp2_with fail
    refine (zz_any n (s + 1) n0 n1 (by omega) (by omega) _).mono ?_
    rintro e w' ⟨rfl, rfl⟩
    go_wp2
    go_ret
    exact ⟨ret_bool (by simp; omega), rfl⟩
  · by_cases h2 : n < 255
    · go_enter Try.func4, Try.ntmps4
      go_wp2_with fail
      refine (zz_any n s n0 n1 s0 s1 _).mono ?_
      rintro e w' ⟨rfl, rfl⟩
      go_wp2_with fail
      refine (zz_any (n + 1) 0 (by omega) (by omega) (by omega) (by omega) _).mono ?_
      rintro e w' ⟨rfl, rfl⟩
      go_wp2
      go_ret
      exact ⟨ret_bool (by simp; omega), rfl⟩
    · go_enter Try.func4, Try.ntmps4
      go_wp2_with fail
      refine (zz_any n s n0 n1 s0 s1 _).mono ?_
      rintro e w' ⟨rfl, rfl⟩
      go_wp2
      go_ret
      exact ⟨ret_bool (by simp; omega), rfl⟩

/-- The first statement's law (function 3). -/
theorem lex_law (n s m t : Int) (n0 : 0 ≤ n) (n1 : n ≤ 255) (s0 : 0 ≤ s) (s1 : s ≤ 4294967295) (m0 : 0 ≤ m) (m1 : m ≤ 255) (t0 : 0 ≤ t) (t1 : t ≤ 4294967295) (w : World) :
    Calls Try.prog 3 #[.int .u8 n, .int .u32 s, .int .u8 m, .int .u32 t] w fun e w' => e = .returned (.bool true) ∧ w' = w := by
  go_enter Try.func3, Try.ntmps3
  go_wp2_with fail
  refine (zz_any n s n0 n1 s0 s1 _).mono ?_
  rintro e w' ⟨rfl, rfl⟩
  go_wp2_with fail
  refine (zz_any m t m0 m1 t0 t1 _).mono ?_
  rintro e w' ⟨rfl, rfl⟩
  go_wp2_with fail
  refine (cmp_any _ _ _).mono ?_
  rintro e w' ⟨rfl, rfl⟩
  go_wp2_with fail
  refine (lex_any n s m t s0 s1 t0 t1 _).mono ?_
  rintro e w' ⟨rfl, rfl⟩
  go_wp2_with fail
  refine (rank_any n s n0 n1 s0 s1 _).mono ?_
  rintro e w' ⟨rfl, rfl⟩
  go_wp2_with fail
  refine (rank_any m t m0 m1 t0 t1 _).mono ?_
  rintro e w' ⟨rfl, rfl⟩
  go_wp2
  go_ret
  exact ⟨rfl, rfl⟩
end Go.Proofs.Qxb6618282a

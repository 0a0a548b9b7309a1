/- zzUvarint (20): what was encoded is read back. -/
import Derived.Test.Qxb6616327aWalksC
import Derived.Lib.VarintBits
import Derived.Laws.Closers25b
namespace Go.Proofs.Qxb6616327a
open Go.RowKit

/-- From place i on the bytes cs read as y's varint. -/
def Reads (cs : List Int) (i y : Nat) : Prop := ∀ j, j < (vb y).length → cs.getD (i + j) 0 = (vb y).getD j 0
theorem Reads.last {cs : List Int} {i y : Nat} (h : Reads cs i y) (hy : y < 128) : cs.getD i 0 = (y : Int) := by
  have h0 := h 0 (by simp [vb, Lib.uvarint_small hy])
  rw [Nat.add_zero] at h0
  rw [h0]
  simp [vb, Lib.uvarint_small hy, Lib.toUInt8_toNat (show y < 256 by omega)]
theorem Reads.head {cs : List Int} {i y : Nat} (h : Reads cs i y) (hy : 128 ≤ y) : cs.getD i 0 = ((y % 128 + 128 : Nat) : Int) := by
  have h0 := h 0 (by simp [vb, Lib.uvarint_big hy])
  rw [Nat.add_zero] at h0
  rw [h0]
  simp only [vb, Lib.uvarint_big hy, List.map_cons, List.getD_cons_zero]
  rw [Lib.toUInt8_toNat (show y % 128 + 128 < 256 by omega)]
theorem Reads.next {cs : List Int} {i y : Nat} (h : Reads cs i y) (hy : 128 ≤ y) : Reads cs (i + 1) (y / 128) := by
  intro j hj
  have h0 := h (j + 1) (by simp only [vb, Lib.uvarint_big hy, List.map_cons, List.length_cons] at hj ⊢; simpa [vb] using hj)
  rw [show i + 1 + j = i + (j + 1) by omega, h0]
  simp only [vb, Lib.uvarint_big hy, List.map_cons, List.getD_cons_succ]
theorem vb_big {y : Nat} (hy : 128 ≤ y) : (vb y).length = (vb (y / 128)).length + 1 := by simp [vb, Lib.uvarint_big hy]
theorem vb_small {y : Nat} (hy : y < 128) : (vb y).length = 1 := by simp [vb, Lib.uvarint_small hy]

theorem ret3 {a a' b b' : Int} (h : a = a') (k : b = b') : Ending.returned (.tuple #[.int .u64 a, .int .i64 b, .bool true]) = .returned (.tuple #[.int .u64 a', .int .i64 b', .bool true]) := by rw [h, k]

set_option maxHeartbeats 32000000 in
set_option maxRecDepth 100000 in
theorem uvarint_at (g n c i x : Nat) (cs : List Int) (w : World) (hn : n ≤ 8388608) (hx : x < 18446744073709551616) (hc : ∀ j, j < n → w.cell? ⟨g, j, none⟩ = some (.int .u8 (cs.getD j 0))) (hr : Reads cs i x) (hl : i + (vb x).length ≤ n) :
    Calls Try.prog 20 #[.slice (some ⟨g, 0, none⟩) n c, .int .i64 (i : Int)] w fun e w' => e = .returned (.tuple #[.int .u64 (x : Int), .int .i64 ((i + (vb x).length : Nat) : Int), .bool true]) ∧ w' = w := by
  have HR : Hid (Reads cs i x) := hr
  obtain ⟨J, hJ⟩ : ∃ J, Hid (J = i + (vb x).length) := ⟨_, rfl⟩
  rw [← hJ.out]
  have hJn : J ≤ n := by rw [hJ.out]; exact hl
  clear hr hl
  go_enter Try.func20, Try.ntmps20
  go_wp2
  go_loop [1, 7, 8, 9] (fun vi vx vs vk => ∃ k acc y : Nat, k ≤ 9 ∧ vi = .int .i64 ((i : Int) + (k : Int)) ∧ vx = .int .u64 (acc : Int) ∧ vs = .int .u64 ((7 * k : Nat) : Int) ∧ vk = .int .i64 (k : Int) ∧ Hid (acc < 128 ^ k ∧ x = acc + y * 128 ^ k ∧ Reads cs (i + k) y ∧ J = i + k + (vb y).length)) (fun _ _ _ vk => 10 - (intOf vk).toNat)
  case atStart => exact ⟨0, 0, x, by omega, by simp, rfl, rfl, rfl, by show 0 < 1 ∧ x = 0 + x * 1 ∧ _ ∧ _; exact ⟨by omega, by omega, HR.out, hJ.out⟩⟩
  case round =>
    clear HR hJ
    obtain ⟨k, acc, y, hk, rfl, rfl, rfl, rfl, H⟩ := hrel
    have hks : k = 0 ∨ k = 1 ∨ k = 2 ∨ k = 3 ∨ k = 4 ∨ k = 5 ∨ k = 6 ∨ k = 7 ∨ k = 8 ∨ k = 9 := by omega
    obtain ⟨h1, h2, h3, h4⟩ := H.out
    clear H
    by_cases hy : y < 128
    · have hin : i + k < n := by rw [h4, vb_small hy] at hJn; omega
      have hcx := hc (i + k) hin
      rw [h3.last hy] at hcx
      have h4' : J = i + k + 1 := by rw [h4, vb_small hy]
      clear h3 h4 hc
      rcases hks with rfl | rfl | rfl | rfl | rfl | rfl | rfl | rfl | rfl | rfl
      · obtain rfl : acc = 0 := by simpa using h1
        have h2' : Hid (x = y) := (by show _ = _; simpa using h2)
        have hcz : w.cell? ⟨g, i, none⟩ = some (.int .u8 (y : Int)) := hcx
        have hb : (i : Int) < n := by omega
        have hJ' : Hid ((J : Int) = (i : Int) + 1) := by show _ = _; omega
        have hor : bits .or .u64 0 (y : Int) = ((y : Nat) : Int) := by
          rw [u64_orv0 _ _ (by omega) (by omega) (by omega) (by omega) (by omega)]
          omega
        clear h1 h2 h4' hcx hin hx hJn
        go_wp2
        go_ret3
        exact ⟨ret3 (by have := h2'.out; omega) (by have := hJ'.out; omega), rfl⟩
      · have h1' : acc < 128 := h1
        have h2' : Hid (x = acc + y * 128) := h2
        have hcz : w.cell? ⟨g, i + 1, none⟩ = some (.int .u8 (y : Int)) := hcx
        have hb : (i : Int) + 1 < n := by omega
        have hJ' : Hid ((J : Int) = (i : Int) + 2) := by show _ = _; omega
        have hor : bits .or .u64 (acc : Int) ((y : Int) * 128) = ((acc + y * 128 : Nat) : Int) := by
          rw [u64_orv7 _ _ (by omega) (by omega) (by omega) (by omega) (by omega)]
          omega
        clear h1 h2 h4' hcx hin hx hJn
        go_wp2
        go_ret3
        exact ⟨ret3 (by have := h2'.out; omega) (by have := hJ'.out; omega), rfl⟩
      · have h1' : acc < 16384 := h1
        have h2' : Hid (x = acc + y * 16384) := h2
        have hcz : w.cell? ⟨g, i + 2, none⟩ = some (.int .u8 (y : Int)) := hcx
        have hb : (i : Int) + 2 < n := by omega
        have hJ' : Hid ((J : Int) = (i : Int) + 3) := by show _ = _; omega
        have hor : bits .or .u64 (acc : Int) ((y : Int) * 16384) = ((acc + y * 16384 : Nat) : Int) := by
          rw [u64_orv14 _ _ (by omega) (by omega) (by omega) (by omega) (by omega)]
          omega
        clear h1 h2 h4' hcx hin hx hJn
        go_wp2
        go_ret3
        exact ⟨ret3 (by have := h2'.out; omega) (by have := hJ'.out; omega), rfl⟩
      · have h1' : acc < 2097152 := h1
        have h2' : Hid (x = acc + y * 2097152) := h2
        have hcz : w.cell? ⟨g, i + 3, none⟩ = some (.int .u8 (y : Int)) := hcx
        have hb : (i : Int) + 3 < n := by omega
        have hJ' : Hid ((J : Int) = (i : Int) + 4) := by show _ = _; omega
        have hor : bits .or .u64 (acc : Int) ((y : Int) * 2097152) = ((acc + y * 2097152 : Nat) : Int) := by
          rw [u64_orv21 _ _ (by omega) (by omega) (by omega) (by omega) (by omega)]
          omega
        clear h1 h2 h4' hcx hin hx hJn
        go_wp2
        go_ret3
        exact ⟨ret3 (by have := h2'.out; omega) (by have := hJ'.out; omega), rfl⟩
      · have h1' : acc < 268435456 := h1
        have h2' : Hid (x = acc + y * 268435456) := h2
        have hcz : w.cell? ⟨g, i + 4, none⟩ = some (.int .u8 (y : Int)) := hcx
        have hb : (i : Int) + 4 < n := by omega
        have hJ' : Hid ((J : Int) = (i : Int) + 5) := by show _ = _; omega
        have hor : bits .or .u64 (acc : Int) ((y : Int) * 268435456) = ((acc + y * 268435456 : Nat) : Int) := by
          rw [u64_orv28 _ _ (by omega) (by omega) (by omega) (by omega) (by omega)]
          omega
        clear h1 h2 h4' hcx hin hx hJn
        go_wp2
        go_ret3
        exact ⟨ret3 (by have := h2'.out; omega) (by have := hJ'.out; omega), rfl⟩
      · have h1' : acc < 34359738368 := h1
        have h2' : Hid (x = acc + y * 34359738368) := h2
        have hcz : w.cell? ⟨g, i + 5, none⟩ = some (.int .u8 (y : Int)) := hcx
        have hb : (i : Int) + 5 < n := by omega
        have hJ' : Hid ((J : Int) = (i : Int) + 6) := by show _ = _; omega
        have hor : bits .or .u64 (acc : Int) ((y : Int) * 34359738368) = ((acc + y * 34359738368 : Nat) : Int) := by
          rw [u64_orv35 _ _ (by omega) (by omega) (by omega) (by omega) (by omega)]
          omega
        clear h1 h2 h4' hcx hin hx hJn
        go_wp2
        go_ret3
        exact ⟨ret3 (by have := h2'.out; omega) (by have := hJ'.out; omega), rfl⟩
      · have h1' : acc < 4398046511104 := h1
        have h2' : Hid (x = acc + y * 4398046511104) := h2
        have hcz : w.cell? ⟨g, i + 6, none⟩ = some (.int .u8 (y : Int)) := hcx
        have hb : (i : Int) + 6 < n := by omega
        have hJ' : Hid ((J : Int) = (i : Int) + 7) := by show _ = _; omega
        have hor : bits .or .u64 (acc : Int) ((y : Int) * 4398046511104) = ((acc + y * 4398046511104 : Nat) : Int) := by
          rw [u64_orv42 _ _ (by omega) (by omega) (by omega) (by omega) (by omega)]
          omega
        clear h1 h2 h4' hcx hin hx hJn
        go_wp2
        go_ret3
        exact ⟨ret3 (by have := h2'.out; omega) (by have := hJ'.out; omega), rfl⟩
      · have h1' : acc < 562949953421312 := h1
        have h2' : Hid (x = acc + y * 562949953421312) := h2
        have hcz : w.cell? ⟨g, i + 7, none⟩ = some (.int .u8 (y : Int)) := hcx
        have hb : (i : Int) + 7 < n := by omega
        have hJ' : Hid ((J : Int) = (i : Int) + 8) := by show _ = _; omega
        have hor : bits .or .u64 (acc : Int) ((y : Int) * 562949953421312) = ((acc + y * 562949953421312 : Nat) : Int) := by
          rw [u64_orv49 _ _ (by omega) (by omega) (by omega) (by omega) (by omega)]
          omega
        clear h1 h2 h4' hcx hin hx hJn
        go_wp2
        go_ret3
        exact ⟨ret3 (by have := h2'.out; omega) (by have := hJ'.out; omega), rfl⟩
      · have h1' : acc < 72057594037927936 := h1
        have h2' : Hid (x = acc + y * 72057594037927936) := h2
        have hcz : w.cell? ⟨g, i + 8, none⟩ = some (.int .u8 (y : Int)) := hcx
        have hb : (i : Int) + 8 < n := by omega
        have hJ' : Hid ((J : Int) = (i : Int) + 9) := by show _ = _; omega
        have hor : bits .or .u64 (acc : Int) ((y : Int) * 72057594037927936) = ((acc + y * 72057594037927936 : Nat) : Int) := by
          rw [u64_orv56 _ _ (by omega) (by omega) (by omega) (by omega) (by omega)]
          omega
        clear h1 h2 h4' hcx hin hx hJn
        go_wp2
        go_ret3
        exact ⟨ret3 (by have := h2'.out; omega) (by have := hJ'.out; omega), rfl⟩
      · have h1' : acc < 9223372036854775808 := h1
        have h2' : Hid (x = acc + y * 9223372036854775808) := h2
        have hcz : w.cell? ⟨g, i + 9, none⟩ = some (.int .u8 (y : Int)) := hcx
        have hb : (i : Int) + 9 < n := by omega
        have hJ' : Hid ((J : Int) = (i : Int) + 10) := by show _ = _; omega
        have hy2 : y < 2 := by omega
        have hor : bits .or .u64 (acc : Int) ((y : Int) * 9223372036854775808) = ((acc + y * 9223372036854775808 : Nat) : Int) := by
          rw [u64_orv63 _ _ (by omega) (by omega) (by omega) (by omega) (by omega)]
          omega
        clear h1 h2 h4' hcx hin hx hJn
        go_wp2
        go_ret3
        exact ⟨ret3 (by have := h2'.out; omega) (by have := hJ'.out; omega), rfl⟩
    · have hin : i + k < n := by rw [h4, vb_big (by omega)] at hJn; omega
      have hcx := hc (i + k) hin
      rw [h3.head (by omega)] at hcx
      have HR2 : Hid (Reads cs (i + (k + 1)) (y / 128)) := h3.next (by omega)
      have HJ2 : Hid (J = i + (k + 1) + (vb (y / 128)).length) := by show _ = _; rw [h4, vb_big (by omega)]; omega
      obtain ⟨z, hz⟩ : ∃ z, z = y % 128 + 128 := ⟨_, rfl⟩
      rw [← hz] at hcx
      have hz1 : 128 ≤ z := by omega
      have hz2 : z < 256 := by omega
      have hzy : z % 128 = y % 128 := by omega
      clear h3 h4 hc hz
      have hks2 : k = 0 ∨ k = 1 ∨ k = 2 ∨ k = 3 ∨ k = 4 ∨ k = 5 ∨ k = 6 ∨ k = 7 ∨ k = 8 := by
        rcases hks with h | h | h | h | h | h | h | h | h | rfl
        · omega
        · omega
        · omega
        · omega
        · omega
        · omega
        · omega
        · omega
        · omega
        · have h2' : x = acc + y * 9223372036854775808 := h2
          omega
      clear hks
      rcases hks2 with rfl | rfl | rfl | rfl | rfl | rfl | rfl | rfl | rfl
      · obtain rfl : acc = 0 := by simpa using h1
        have h2' : x = y := by simpa using h2
        have hcz : w.cell? ⟨g, i, none⟩ = some (.int .u8 ((z : Nat) : Int)) := hcx
        have hb : (i : Int) < n := by omega
        have hv : bits .or .u64 0 (IntKind.u64.wrap (IntKind.u64.wrap (bits .and .u8 (z : Int) 127))) = ((z % 128 : Nat) : Int) := by
          simp (disch := omega) only [u8_and127, u64_wrap_id, u64_orv0]
          omega
        have hN : Hid (z % 128 < 128 ∧ x = z % 128 + y / 128 * 128) := by show _ ∧ _; omega
        clear h1 h2 h2' hcx hin hx hJn hzy
        go_wp2
        go_round
        case rel => exact ⟨1, z % 128, y / 128, by omega, by go_num, (by first | rfl | (congr 1; omega)), rfl, rfl, ⟨hN.out.1, hN.out.2, HR2.out, HJ2.out⟩⟩
        case measure => simp [intOf]
      · have h1' : acc < 128 := h1
        have h2' : x = acc + y * 128 := h2
        have hcz : w.cell? ⟨g, i + 1, none⟩ = some (.int .u8 ((z : Nat) : Int)) := hcx
        have hb : (i : Int) + 1 < n := by omega
        have hv : bits .or .u64 (acc : Int) (IntKind.u64.wrap (IntKind.u64.wrap (bits .and .u8 (z : Int) 127) * 128)) = ((acc + z % 128 * 128 : Nat) : Int) := by
          simp (disch := omega) only [u8_and127, u64_wrap_id, u64_orv7]
          omega
        have hN : Hid (acc + z % 128 * 128 < 16384 ∧ x = (acc + z % 128 * 128) + y / 128 * 16384) := by show _ ∧ _; omega
        clear h1 h2 h1' h2' hcx hin hx hJn hzy
        go_wp2
        go_round
        case rel => exact ⟨2, acc + z % 128 * 128, y / 128, by omega, by go_num, (by first | rfl | (congr 1; omega)), rfl, rfl, ⟨hN.out.1, hN.out.2, HR2.out, HJ2.out⟩⟩
        case measure => simp [intOf]
      · have h1' : acc < 16384 := h1
        have h2' : x = acc + y * 16384 := h2
        have hcz : w.cell? ⟨g, i + 2, none⟩ = some (.int .u8 ((z : Nat) : Int)) := hcx
        have hb : (i : Int) + 2 < n := by omega
        have hv : bits .or .u64 (acc : Int) (IntKind.u64.wrap (IntKind.u64.wrap (bits .and .u8 (z : Int) 127) * 16384)) = ((acc + z % 128 * 16384 : Nat) : Int) := by
          simp (disch := omega) only [u8_and127, u64_wrap_id, u64_orv14]
          omega
        have hN : Hid (acc + z % 128 * 16384 < 2097152 ∧ x = (acc + z % 128 * 16384) + y / 128 * 2097152) := by show _ ∧ _; omega
        clear h1 h2 h1' h2' hcx hin hx hJn hzy
        go_wp2
        go_round
        case rel => exact ⟨3, acc + z % 128 * 16384, y / 128, by omega, by go_num, (by first | rfl | (congr 1; omega)), rfl, rfl, ⟨hN.out.1, hN.out.2, HR2.out, HJ2.out⟩⟩
        case measure => simp [intOf]
      · have h1' : acc < 2097152 := h1
        have h2' : x = acc + y * 2097152 := h2
        have hcz : w.cell? ⟨g, i + 3, none⟩ = some (.int .u8 ((z : Nat) : Int)) := hcx
        have hb : (i : Int) + 3 < n := by omega
        have hv : bits .or .u64 (acc : Int) (IntKind.u64.wrap (IntKind.u64.wrap (bits .and .u8 (z : Int) 127) * 2097152)) = ((acc + z % 128 * 2097152 : Nat) : Int) := by
          simp (disch := omega) only [u8_and127, u64_wrap_id, u64_orv21]
          omega
        have hN : Hid (acc + z % 128 * 2097152 < 268435456 ∧ x = (acc + z % 128 * 2097152) + y / 128 * 268435456) := by show _ ∧ _; omega
        clear h1 h2 h1' h2' hcx hin hx hJn hzy
        go_wp2
        go_round
        case rel => exact ⟨4, acc + z % 128 * 2097152, y / 128, by omega, by go_num, (by first | rfl | (congr 1; omega)), rfl, rfl, ⟨hN.out.1, hN.out.2, HR2.out, HJ2.out⟩⟩
        case measure => simp [intOf]
      · have h1' : acc < 268435456 := h1
        have h2' : x = acc + y * 268435456 := h2
        have hcz : w.cell? ⟨g, i + 4, none⟩ = some (.int .u8 ((z : Nat) : Int)) := hcx
        have hb : (i : Int) + 4 < n := by omega
        have hv : bits .or .u64 (acc : Int) (IntKind.u64.wrap (IntKind.u64.wrap (bits .and .u8 (z : Int) 127) * 268435456)) = ((acc + z % 128 * 268435456 : Nat) : Int) := by
          simp (disch := omega) only [u8_and127, u64_wrap_id, u64_orv28]
          omega
        have hN : Hid (acc + z % 128 * 268435456 < 34359738368 ∧ x = (acc + z % 128 * 268435456) + y / 128 * 34359738368) := by show _ ∧ _; omega
        clear h1 h2 h1' h2' hcx hin hx hJn hzy
        go_wp2
        go_round
        case rel => exact ⟨5, acc + z % 128 * 268435456, y / 128, by omega, by go_num, (by first | rfl | (congr 1; omega)), rfl, rfl, ⟨hN.out.1, hN.out.2, HR2.out, HJ2.out⟩⟩
        case measure => simp [intOf]
      · have h1' : acc < 34359738368 := h1
        have h2' : x = acc + y * 34359738368 := h2
        have hcz : w.cell? ⟨g, i + 5, none⟩ = some (.int .u8 ((z : Nat) : Int)) := hcx
        have hb : (i : Int) + 5 < n := by omega
        have hv : bits .or .u64 (acc : Int) (IntKind.u64.wrap (IntKind.u64.wrap (bits .and .u8 (z : Int) 127) * 34359738368)) = ((acc + z % 128 * 34359738368 : Nat) : Int) := by
          simp (disch := omega) only [u8_and127, u64_wrap_id, u64_orv35]
          omega
        have hN : Hid (acc + z % 128 * 34359738368 < 4398046511104 ∧ x = (acc + z % 128 * 34359738368) + y / 128 * 4398046511104) := by show _ ∧ _; omega
        clear h1 h2 h1' h2' hcx hin hx hJn hzy
        go_wp2
        go_round
        case rel => exact ⟨6, acc + z % 128 * 34359738368, y / 128, by omega, by go_num, (by first | rfl | (congr 1; omega)), rfl, rfl, ⟨hN.out.1, hN.out.2, HR2.out, HJ2.out⟩⟩
        case measure => simp [intOf]
      · have h1' : acc < 4398046511104 := h1
        have h2' : x = acc + y * 4398046511104 := h2
        have hcz : w.cell? ⟨g, i + 6, none⟩ = some (.int .u8 ((z : Nat) : Int)) := hcx
        have hb : (i : Int) + 6 < n := by omega
        have hv : bits .or .u64 (acc : Int) (IntKind.u64.wrap (IntKind.u64.wrap (bits .and .u8 (z : Int) 127) * 4398046511104)) = ((acc + z % 128 * 4398046511104 : Nat) : Int) := by
          simp (disch := omega) only [u8_and127, u64_wrap_id, u64_orv42]
          omega
        have hN : Hid (acc + z % 128 * 4398046511104 < 562949953421312 ∧ x = (acc + z % 128 * 4398046511104) + y / 128 * 562949953421312) := by show _ ∧ _; omega
        clear h1 h2 h1' h2' hcx hin hx hJn hzy
        go_wp2
        go_round
        case rel => exact ⟨7, acc + z % 128 * 4398046511104, y / 128, by omega, by go_num, (by first | rfl | (congr 1; omega)), rfl, rfl, ⟨hN.out.1, hN.out.2, HR2.out, HJ2.out⟩⟩
        case measure => simp [intOf]
      · have h1' : acc < 562949953421312 := h1
        have h2' : x = acc + y * 562949953421312 := h2
        have hcz : w.cell? ⟨g, i + 7, none⟩ = some (.int .u8 ((z : Nat) : Int)) := hcx
        have hb : (i : Int) + 7 < n := by omega
        have hv : bits .or .u64 (acc : Int) (IntKind.u64.wrap (IntKind.u64.wrap (bits .and .u8 (z : Int) 127) * 562949953421312)) = ((acc + z % 128 * 562949953421312 : Nat) : Int) := by
          simp (disch := omega) only [u8_and127, u64_wrap_id, u64_orv49]
          omega
        have hN : Hid (acc + z % 128 * 562949953421312 < 72057594037927936 ∧ x = (acc + z % 128 * 562949953421312) + y / 128 * 72057594037927936) := by show _ ∧ _; omega
        clear h1 h2 h1' h2' hcx hin hx hJn hzy
        go_wp2
        go_round
        case rel => exact ⟨8, acc + z % 128 * 562949953421312, y / 128, by omega, by go_num, (by first | rfl | (congr 1; omega)), rfl, rfl, ⟨hN.out.1, hN.out.2, HR2.out, HJ2.out⟩⟩
        case measure => simp [intOf]
      · have h1' : acc < 72057594037927936 := h1
        have h2' : x = acc + y * 72057594037927936 := h2
        have hcz : w.cell? ⟨g, i + 8, none⟩ = some (.int .u8 ((z : Nat) : Int)) := hcx
        have hb : (i : Int) + 8 < n := by omega
        have hv : bits .or .u64 (acc : Int) (IntKind.u64.wrap (IntKind.u64.wrap (bits .and .u8 (z : Int) 127) * 72057594037927936)) = ((acc + z % 128 * 72057594037927936 : Nat) : Int) := by
          simp (disch := omega) only [u8_and127, u64_wrap_id, u64_orv56]
          omega
        have hN : Hid (acc + z % 128 * 72057594037927936 < 9223372036854775808 ∧ x = (acc + z % 128 * 72057594037927936) + y / 128 * 9223372036854775808) := by show _ ∧ _; omega
        clear h1 h2 h1' h2' hcx hin hx hJn hzy
        go_wp2
        go_round
        case rel => exact ⟨9, acc + z % 128 * 72057594037927936, y / 128, by omega, by go_num, (by first | rfl | (congr 1; omega)), rfl, rfl, ⟨hN.out.1, hN.out.2, HR2.out, HJ2.out⟩⟩
        case measure => simp [intOf]
end Go.Proofs.Qxb6616327a

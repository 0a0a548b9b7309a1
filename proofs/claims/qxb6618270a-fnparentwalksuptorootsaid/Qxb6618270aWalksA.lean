/- THE CALLEES' CONTRACTS: zzBytes (function 4), Path.IsRoot (5), Path.Parent (6). -/
import Derived.Test.Qxb6618270aRows
import Derived.WalkKit
import Derived.WalkSpells
import Derived.WalkLawsBesides
import Derived.RegionTactic
import Derived.Deep.OwnRows
import Derived.RowKit3
import Derived.Below
namespace Go.Proofs.Qxb6618270a
open Go.RowKit

theorem ret_bool {a b : Bool} (h : a = b) : Ending.returned (.bool a) = .returned (.bool b) := by rw [h]

/-- The ending is a bool's return. -/
def Yields (e : Ending) : Prop := ∃ v, e = .returned (.bool v)
theorem yields (v : Bool) : Yields (.returned (.bool v)) := ⟨v, rfl⟩

/-- zzBytes at no names: it answers, and leaves the world. -/
theorem bytes_none (s : ByteArray) (a : Option Addr) (cap : Nat) (w : World) (hs : s.size ≤ maxLen) :
    Calls Try.prog 4 #[.string s, .slice a 0 cap] w fun e w' => Yields e ∧ w' = w := by
  unfold maxLen at hs
  by_cases h1 : (s.size : Int) ≤ 1048576
  · go_enter Try.func4, Try.ntmps4
    go_wp2
    go_loop [5, 6] (fun _ i => i = .int .i64 0) (fun _ _ => 0)
    case atStart => rfl
    case round =>
      subst hrel
      go_wp2
      go_ret
      exact ⟨yields _, rfl⟩
  · go_enter Try.func4, Try.ntmps4
    go_wp2
    go_ret
    exact ⟨yields _, rfl⟩

/-- zzBytes at some names. -/
theorem bytes_some (s : ByteArray) (b off len cap : Nat) (ss : Nat → ByteArray) (w : World) (hs : s.size ≤ maxLen) (hl : len ≤ maxLen)
    (hc : ∀ i, i < len → w.cell? ⟨b, off + i, none⟩ = some (.string (ss i))) (hz : ∀ i, i < len → (ss i).size ≤ maxLen) :
    Calls Try.prog 4 #[.string s, .slice (some ⟨b, off, none⟩) len cap] w fun e w' => Yields e ∧ w' = w := by
  unfold maxLen at hs hl
  by_cases h1 : (s.size : Int) ≤ 1048576
  · by_cases h2 : (len : Int) ≤ 1048576
    · by_cases h3 : (s.size : Int) + len ≤ 1048576
      · go_enter Try.func4, Try.ntmps4
        go_wp2
        go_loop [5, 6] (fun n i => ∃ (k : Nat) (z : Int), k ≤ len ∧ i = .int .i64 k ∧ n = .int .i64 z ∧ 0 ≤ z ∧ z ≤ 1048576) (fun _ i => len - (intOf i).toNat)
        case atStart => exact ⟨0, _, Nat.zero_le _, rfl, rfl, by omega, by omega⟩
        case round =>
          obtain ⟨k, z, hk, rfl, rfl, hz0, hz1⟩ := hrel
          by_cases hlt : k < len
          · have hcx := hc k hlt
            have hzx := hz k hlt
            unfold maxLen at hzx
            clear hc hz
            go_wp2
            · go_ret
              exact ⟨yields _, rfl⟩
            · go_ret
              exact ⟨yields _, rfl⟩
            · go_round
              case rel => exact ⟨k + 1, _, by omega, by go_num, rfl, by omega, by omega⟩
              case measure => simp [intOf]; omega
          · clear hc hz
            go_wp2
            go_ret
            exact ⟨yields _, rfl⟩
      · clear hc hz
        go_enter Try.func4, Try.ntmps4
        go_wp2
        go_ret
        exact ⟨yields _, rfl⟩
    · clear hc hz
      go_enter Try.func4, Try.ntmps4
      go_wp2
      go_ret
      exact ⟨yields _, rfl⟩
  · clear hc hz
    go_enter Try.func4, Try.ntmps4
    go_wp2
    go_ret
    exact ⟨yields _, rfl⟩

theorem isroot_any (c : ByteArray) (a : Option Addr) (n cap : Nat) (w : World) :
    Calls Try.prog 5 #[.agg #[.string c, .slice a n cap]] w fun e w' => e = .returned (.bool ((n : Int) == 0)) ∧ ∃ c1 : Array Value, w' = w.alloc (.cells c1 25) := by
  go_enter Try.func5, Try.ntmps5
  go_wp2
  go_ret
  exact ⟨rfl, _, rfl⟩
theorem parent_root (c : ByteArray) (a : Option Addr) (cap : Nat) (w : World) :
    Calls Try.prog 6 #[.agg #[.string c, .slice a 0 cap]] w fun e w' => e = .returned (.agg #[.string c, .slice a 0 cap]) ∧ Below w.heap.size w w' := by
  go_enter Try.func6, Try.ntmps6
  go_wp2_with fail
  refine (isroot_any _ _ _ _ _).mono ?_; rintro e w' ⟨rfl, c1, rfl⟩
  go_wp2
  exact bodyPost_ret (v := .agg #[.string c, .slice a 0 cap]) (by simp [results, Try.results6, go_sem]) rfl ⟨rfl, (((Below.refl _ _).alloc (Nat.le_refl _) _).alloc (by simp) _).alloc (by simp; omega) _⟩
theorem parent_some (c : ByteArray) (b off k cap : Nat) (hk : k + 1 ≤ cap) (hcap : cap ≤ maxLen) (w : World) :
    Calls Try.prog 6 #[.agg #[.string c, .slice (some ⟨b, off, none⟩) (k + 1) cap]] w fun e w' => e = .returned (.agg #[.string c, .slice (some ⟨b, off, none⟩) k cap]) ∧ Below w.heap.size w w' := by
  unfold maxLen at hcap
  have hne : (((k + 1 : Nat) : Int) == 0) = false := by simp; omega
  go_enter Try.func6, Try.ntmps6
  go_wp2_with fail
  refine (isroot_any _ _ _ _ _).mono ?_; rintro e w' ⟨rfl, c1, rfl⟩
  go_wp2
  go_region
  all_goals go_wp2
  all_goals exact bodyPost_ret (v := .agg #[.string c, .slice (some ⟨b, off, none⟩) k cap]) (by simp [results, Try.results6, go_sem]) rfl ⟨rfl, by repeat' (first | exact Below.refl _ _ | exact Nat.le_refl _ | apply Below.drew | apply Below.setCell | apply Below.alloc | (simp; done) | (simp; omega))⟩
theorem parent_pos (c : ByteArray) (b off m k cap : Nat) (hm : k + 1 = m) (hk : m ≤ cap) (hcap : cap ≤ maxLen) (w : World) :
    Calls Try.prog 6 #[.agg #[.string c, .slice (some ⟨b, off, none⟩) m cap]] w fun e w' => e = .returned (.agg #[.string c, .slice (some ⟨b, off, none⟩) k cap]) ∧ Below w.heap.size w w' := by
  subst hm
  exact parent_some c b off k cap hk hcap w

/-- What is told of the names: each of them lies in its cell. -/
def Names (w : World) (a : Option Addr) (len : Nat) (ss : Nat → ByteArray) : Prop :=
  ∀ i, i < len → ∃ b off : Nat, a = some ⟨b, off, none⟩ ∧ b < w.heap.size ∧ (∀ j, j < len → w.cell? ⟨b, off + j, none⟩ = some (.string (ss j))) ∧ ∀ j, j < len → (ss j).size ≤ maxLen

theorem bytes_any (s : ByteArray) (a : Option Addr) (len cap : Nat) (ss : Nat → ByteArray) (w : World) (hs : s.size ≤ maxLen) (hl : len ≤ maxLen) (hn : Names w a len ss) :
    Calls Try.prog 4 #[.string s, .slice a len cap] w fun e w' => Yields e ∧ w' = w := by
  cases len with
  | zero => exact bytes_none s a cap w hs
  | succ n =>
    obtain ⟨b, off, rfl, _, hc, hz⟩ := hn 0 (by omega)
    exact bytes_some s b off (n + 1) cap ss w hs hl hc hz

/-- What the law's own memory holds: block N (the heap's size as the call began) the wanted names, block P the path, at m names. -/
def Inv (w : World) (P : Nat) (wr : World) (s : ByteArray) (a : Option Addr) (len cap : Nat) (ss : Nat → ByteArray) (m : Nat) : Prop :=
  wr.rowIs w.heap.size 9 len (fun j => .string (ss j)) ∧ wr.rowIs P 25 2 (fun j => if j = 0 then .string s else .slice a m cap) ∧ Below w.heap.size w wr ∧ w.heap.size < P
namespace Inv
variable {w wr : World} {P : Nat} {s : ByteArray} {a : Option Addr} {len cap : Nat} {ss : Nat → ByteArray} {m : Nat}
theorem drew (h : Inv w P wr s a len cap ss m) : Inv w P wr.drew s a len cap ss m := ⟨h.1.drew, h.2.1.drew, h.2.2.1.drew, h.2.2.2⟩
theorem cell0 (h : Inv w P wr s a len cap ss m) : wr.cell? ⟨P, 0, none⟩ = some (.string s) := by simpa using h.2.1.cell (i := 0) (by omega)
theorem cell1 (h : Inv w P wr s a len cap ss m) : wr.cell? ⟨P, 1, none⟩ = some (.slice a m cap) := by simpa using h.2.1.cell (i := 1) (by omega)
theorem frz (h : Inv w P wr s a len cap ss m) (j : Nat) : wr.frozen? ⟨P, j, none⟩ = false := h.2.1.frozen j
theorem lt (h : Inv w P wr s a len cap ss m) : P < wr.heap.size := h.2.1.lt
theorem want (h : Inv w P wr s a len cap ss m) {j : Nat} (hj : j < len) : wr.cell? ⟨w.heap.size, j, none⟩ = some (.string (ss j)) := h.1.cell hj
theorem old (h : Inv w P wr s a len cap ss m) {b o : Nat} (hb : b < w.heap.size) : wr.cell? ⟨b, o, none⟩ = w.cell? ⟨b, o, none⟩ := h.2.2.1.cell (p := ⟨b, o, none⟩) hb
theorem later {w1 : World} (h : Inv w P wr s a len cap ss m) (hb : Below wr.heap.size wr w1) : Inv w P w1 s a len cap ss m :=
  ⟨h.1.of_block (hb.block _ h.1.lt), h.2.1.of_block (hb.block _ h.2.1.lt), h.2.2.1.trans (hb.mono (by have := h.2.2.2; have := h.lt; omega)), h.2.2.2⟩
theorem put (h : Inv w P wr s a len cap ss m) (m' : Nat) : Inv w P ((wr.setCell ⟨P, 0, none⟩ (.string s)).setCell ⟨P, 1, none⟩ (.slice a m' cap)) s a len cap ss m' := by
  have hp := h.2.2.2
  refine ⟨(h.1.setOther (by simp; omega) _).setOther (by simp; omega) _, ((h.2.1.set 0 _).set 1 _).congr fun i hi => ?_, (h.2.2.1.setCell (by simp; omega) _).setCell (by simp; omega) _, hp⟩
  match i, hi with
  | 0, _ => simp
  | 1, _ => simp
end Inv
end Go.Proofs.Qxb6618270a

/- THE SMALL FUNCTIONS: ZZpart (9), ZZsetPart (10), ZZpayload (11), ZZindexLen (13), zzEntryIs (14), ZZindexEntry (21), the two zzBytes (5, 15). -/
import Derived.Test.Qxb6616327aWalksD
import Derived.BigQuiet
import Derived.WalkSmall
import Derived.Deep.QuietTactic
namespace Go.Proofs.Qxb6616327a
open Go.RowKit

theorem ret_bool {a b : Bool} (h : a = b) : Ending.returned (.bool a) = .returned (.bool b) := by rw [h]
/-- The ending is a bool's return. -/
def Yields (e : Ending) : Prop := ∃ v, e = .returned (.bool v)
theorem yields (v : Bool) : Yields (.returned (.bool v)) := ⟨v, rfl⟩

section
variable {w : World} {S G : Nat} {size : Int} {name : ByteArray} {pa qa xa : Option Addr} {pn pc qn qc xn xc : Nat}
theorem zzpart_any (hW : Wr w S G size name pa pn pc qa qn qc xa xn xc) :
    Calls Try.prog 9 #[.pointer (some ⟨S, 0, none⟩)] w fun e w' => e = .returned (.slice qa qn qc) ∧ w' = w := by
  have c5 := hW.c5
  clear hW
  go_enter Try.func9, Try.ntmps9
  go_wp2
  go_ret
  exact ⟨rfl, rfl⟩
theorem zzpayload_any (hW : Wr w S G size name pa pn pc qa qn qc xa xn xc) :
    Calls Try.prog 11 #[.pointer (some ⟨S, 0, none⟩)] w fun e w' => e = .returned (.slice pa pn pc) ∧ w' = w := by
  have c4 := hW.c4
  clear hW
  go_enter Try.func11, Try.ntmps11
  go_wp2
  go_ret
  exact ⟨rfl, rfl⟩
theorem zzlen_any (hW : Wr w S G size name pa pn pc qa qn qc xa xn xc) :
    Calls Try.prog 13 #[.pointer (some ⟨S, 0, none⟩)] w fun e w' => e = .returned (.int .i64 (xn : Int)) ∧ w' = w := by
  have c1 := hW.c1
  have g6 := hW.g6
  clear hW
  go_enter Try.func13, Try.ntmps13
  go_wp2
  go_ret
  exact ⟨rfl, rfl⟩
theorem zzset_any (hW : Wr w S G size name pa pn pc qa qn qc xa xn xc) (a : Option Addr) (n c : Nat) :
    Calls Try.prog 10 #[.pointer (some ⟨S, 0, none⟩), .slice a n c] w fun e w' => e = .returned (.tuple #[]) ∧ w' = w.setCell ⟨S, 5, none⟩ (.slice a n c) := by
  have c5 := hW.c5
  have f5 := hW.fS 5
  clear hW
  go_enter Try.func10, Try.ntmps10
  go_wp2
  go_end0
  exact ⟨rfl, rfl⟩
set_option maxRecDepth 100000 in
set_option maxHeartbeats 3200000 in
theorem entry_any (hW : Wr w S G size name pa pn pc qa qn qc xa 1 xc) (at_ : Int) (nm : ByteArray) (sz : Int) (hI : Idx w xa nm at_ sz) :
    Calls Try.prog 21 #[.pointer (some ⟨S, 0, none⟩), .int .i64 0] w fun e w' => e = .returned (.tuple #[.string nm, .int .i64 at_, .int .i64 sz]) ∧ Below w.heap.size w w' := by
  have c1 := hW.c1
  have g6 := hW.g6
  obtain ⟨g, cur, rfl, hg, e0, e1, e2⟩ := hI
  have x0 : w.cell? ⟨g, 0, none⟩ = some (.string nm) := by rw [cell_of_row w g 0 cur 61 (0, 0) hg]; exact e0
  have x1 : w.cell? ⟨g, 1, none⟩ = some (.int .i64 at_) := by rw [cell_of_row w g 1 cur 61 (0, 0) hg]; exact e1
  have x2 : w.cell? ⟨g, 2, none⟩ = some (.int .i64 sz) := by rw [cell_of_row w g 2 cur 61 (0, 0) hg]; exact e2
  clear hW hg e0 e1 e2
  go_enter Try.func21, Try.ntmps21
  go_wp2
  go_quiet (fail)
  go_wp2
  go_ret3
  exact ⟨rfl, below_drewN ((Below.refl _ _).alloc (Nat.le_refl _) _) _⟩
set_option maxHeartbeats 800000 in
theorem entryis_any (hW : Wr w S G size name pa pn pc qa qn qc xa 1 xc) (at_ : Int) (nm : ByteArray) (sz : Int) (hI : Idx w xa nm at_ sz) :
    Calls Try.prog 14 #[.pointer (some ⟨S, 0, none⟩), .int .i64 0, .string nm, .int .i64 at_, .int .i64 sz] w fun e w' => e = .returned (.bool true) ∧ Below w.heap.size w w' := by
  have HW : Hid (Wr w S G size name pa pn pc qa qn qc xa 1 xc) := hW
  have HI : Hid (Idx w xa nm at_ sz) := hI
  clear hW hI
  go_enter Try.func14, Try.ntmps14
  go_wp2_with fail
  refine (entry_any HW.out at_ nm sz HI.out).mono ?_
  rintro e w' ⟨rfl, hb⟩
  have HB : Hid (Below w.heap.size w w') := hb
  clear hb HW HI
  go_wp2
  go_ret
  exact ⟨rfl, HB.out⟩
end

/-- zzBytes of the second law. -/
theorem bytes15 (size : Int) (name : ByteArray) (pa : Option Addr) (pn pc : Nat) (qa : Option Addr) (qn qc : Nat) (at_ : Int) (w : World) (h0 : name.size ≤ maxLen) (h1 : pn ≤ maxLen) (h2 : qn ≤ maxLen) :
    Calls Try.prog 15 #[.int .i64 size, .string name, .slice pa pn pc, .slice qa qn qc, .int .i64 at_] w fun e w' => Yields e ∧ w' = w := by
  unfold maxLen at h0 h1 h2
  go_enter Try.func15, Try.ntmps15
  go_wp2
  all_goals (go_ret; exact ⟨yields _, rfl⟩)
/-- zzBytes of the first law. -/
theorem bytes5 (size : Int) (name : ByteArray) (pa : Option Addr) (pn pc : Nat) (qa : Option Addr) (qn qc : Nat) (at_ : Int) (ra : Option Addr) (rn rc : Nat) (at2 : Int) (w : World) (h0 : name.size ≤ maxLen) (h1 : pn ≤ maxLen) (h2 : qn ≤ maxLen) (h3 : rn ≤ maxLen) :
    Calls Try.prog 5 #[.int .i64 size, .string name, .slice pa pn pc, .slice qa qn qc, .int .i64 at_, .slice ra rn rc, .int .i64 at2] w fun e w' => Yields e ∧ w' = w := by
  unfold maxLen at h0 h1 h2 h3
  go_enter Try.func5, Try.ntmps5
  go_wp2
  all_goals (go_ret; exact ⟨yields _, rfl⟩)
end Go.Proofs.Qxb6616327a

/- ZZappendPart (8), as the laws use it. -/
import Derived.Test.Qxb6616327aWalksF
import Derived.Test.Qxb6616327aWalksG
namespace Go.Proofs.Qxb6616327a
open Go.RowKit

/-- What one part takes in the record: its time, its length, its bytes. -/
def enc (at_ : Int) (qn : Nat) (qs : List Int) : List Int := vb (Lib.zigzag at_) ++ vb qn ++ qs
theorem enc_length (at_ : Int) (qn : Nat) (qs : List Int) (h : qs.length = qn) : (enc at_ qn qs).length = (vb (Lib.zigzag at_)).length + (vb qn).length + qn := by simp [enc, h]; omega
theorem enc_le (at_ : Int) (qn : Nat) (qs : List Int) (h : qs.length = qn) (hq : qn ≤ 1048576) (a0 : -9223372036854775808 ≤ at_) (a1 : at_ ≤ 9223372036854775807) : (enc at_ qn qs).length ≤ qn + 20 := by
  have := vb_le (Lib.zigzag_lt a0 a1)
  have := vb_le (x := qn) (by omega)
  rw [enc_length _ _ _ h]
  omega

/-- What the first append to a writer leaves. -/
def After (B : Nat) (w : World) (S G : Nat) (size at_ : Int) (name : ByteArray) (pa : Option Addr) (pn n' : Nat) (bs' : List Int) (w' : World) : Prop :=
  ∃ xa xn xc pa' pc' qa' qc', Wr w' S G size name pa' n' pc' qa' 0 qc' xa xn xc ∧ Own B w' pa' n' pc' bs' ∧ Kp (fun k => k = S ∨ k = G ∨ blk pa = some k) w w' ∧ FreshA w pa pa' ∧
    ((pn = 0 ∧ xn = 1 ∧ Idx w' xa name at_ size) ∨ (0 < pn ∧ xn = 0))

theorem append_first (B S G : Nat) (size at_ : Int) (name : ByteArray) (pa : Option Addr) (pn pc : Nat) (bs : List Int) (qa : Option Addr) (qn qc : Nat) (qs : List Int) (w : World)
    (hW : Wr w S G size name pa pn pc qa qn qc none 0 0) (hB : B ≤ w.heap.size) (hP : Own B w pa pn pc bs) (hQ : Own B w qa qn qc qs) (hpn : pn ≤ 2097152) (hqn : qn ≤ 1048576) (hne : ∀ k, blk pa = some k → blk qa ≠ some k)
    (a0 : -9223372036854775808 ≤ at_) (a1 : at_ ≤ 9223372036854775807) :
    Calls Try.prog 18 #[.pointer (some ⟨S, 0, none⟩), .int .i64 at_] w fun e w' => e = .returned (.tuple #[]) ∧ After B w S G size at_ name pa pn (pn + (enc at_ qn qs).length) (bs ++ enc at_ qn qs) w' := by
  have el : pn + (enc at_ qn qs).length = pn + (vb (Lib.zigzag at_)).length + (vb qn).length + qn := by rw [enc_length _ _ _ hQ.1]; omega
  rw [el]
  by_cases h0 : pn = 0
  · subst h0
    obtain rfl : bs = [] := List.eq_nil_of_length_eq_zero hP.1
    refine (part_first B S G size at_ name pa pc qa qn qc qs w hW hB hP hQ hqn hne a0 a1).mono ?_
    rintro e w' ⟨rfl, xa, xc, pa', pc', qa', qc', h1, h2, h3, h4, h5⟩
    exact ⟨rfl, xa, 1, xc, pa', pc', qa', qc', h1, h2, h4, h5, .inl ⟨rfl, rfl, h3⟩⟩
  · refine (part_more B S G size at_ name pa pn pc bs qa qn qc qs none 0 0 w hW hB hP hQ (by omega) hpn hqn hne a0 a1).mono ?_
    rintro e w' ⟨rfl, pa', pc', qa', qc', h1, h2, h4, h5⟩
    refine ⟨rfl, none, 0, 0, pa', pc', qa', qc', h1, ?_, h4.mono fun i _ e => e.elim .inl fun e => .inr (.inr e), h5, .inr ⟨by omega, rfl⟩⟩
    rw [enc, ← List.append_assoc, ← List.append_assoc]
    exact h2

/-- ZZappendPart, the first call on a writer. -/
theorem zzappend_any (B S G : Nat) (size at_ : Int) (name : ByteArray) (pa : Option Addr) (pn pc : Nat) (bs : List Int) (qa : Option Addr) (qn qc : Nat) (qs : List Int) (w : World)
    (hW : Wr w S G size name pa pn pc qa qn qc none 0 0) (hB : B ≤ w.heap.size) (hP : Own B w pa pn pc bs) (hQ : Own B w qa qn qc qs) (hpn : pn ≤ 2097152) (hqn : qn ≤ 1048576) (hne : ∀ k, blk pa = some k → blk qa ≠ some k)
    (a0 : -9223372036854775808 ≤ at_) (a1 : at_ ≤ 9223372036854775807) :
    Calls Try.prog 8 #[.pointer (some ⟨S, 0, none⟩), .int .i64 at_] w fun e w' => e = .returned (.tuple #[]) ∧ After B w S G size at_ name pa pn (pn + (enc at_ qn qs).length) (bs ++ enc at_ qn qs) w' := by
  have H := append_first B S G size at_ name pa pn pc bs qa qn qc qs w hW hB hP hQ hpn hqn hne a0 a1
  clear hW hB hP hQ hne
  go_enter Try.func8, Try.ntmps8
  go_wp2_with fail
  refine H.mono ?_
  clear H
  rintro e w' ⟨rfl, h⟩
  have HA : Hid (After B w S G size at_ name pa pn (pn + (enc at_ qn qs).length) (bs ++ enc at_ qn qs) w') := h
  clear h
  go_wp2
  go_end0
  exact ⟨rfl, HA.out⟩

/-- ZZappendPart onto a record that holds something. -/
theorem zzmore_any (B S G : Nat) (size at_ : Int) (name : ByteArray) (pa : Option Addr) (pn pc : Nat) (bs : List Int) (qa : Option Addr) (qn qc : Nat) (qs : List Int) (xa : Option Addr) (xn xc : Nat) (w : World)
    (hW : Wr w S G size name pa pn pc qa qn qc xa xn xc) (hB : B ≤ w.heap.size) (hP : Own B w pa pn pc bs) (hQ : Own B w qa qn qc qs) (hp0 : 0 < pn) (hpn : pn ≤ 2097152) (hqn : qn ≤ 1048576) (hne : ∀ k, blk pa = some k → blk qa ≠ some k)
    (a0 : -9223372036854775808 ≤ at_) (a1 : at_ ≤ 9223372036854775807) :
    Calls Try.prog 8 #[.pointer (some ⟨S, 0, none⟩), .int .i64 at_] w fun e w' => e = .returned (.tuple #[]) ∧ Done B w S G size name pa (pn + (enc at_ qn qs).length) (bs ++ enc at_ qn qs) xa xn xc w' := by
  have H := part_more B S G size at_ name pa pn pc bs qa qn qc qs xa xn xc w hW hB hP hQ (by omega) hpn hqn hne a0 a1
  have el : pn + (enc at_ qn qs).length = pn + (vb (Lib.zigzag at_)).length + (vb qn).length + qn := by rw [enc_length _ _ _ hQ.1]; omega
  rw [el, enc, ← List.append_assoc, ← List.append_assoc]
  clear hW hB hP hQ hne el
  generalize pn + (vb (Lib.zigzag at_)).length + (vb qn).length + qn = n' at *
  generalize bs ++ vb (Lib.zigzag at_) ++ vb qn ++ qs = bs' at *
  go_enter Try.func8, Try.ntmps8
  go_wp2_with fail
  refine H.mono ?_
  clear H
  rintro e w' ⟨rfl, h⟩
  have HA : Hid (Done B w S G size name pa n' bs' xa xn xc w') := h
  clear h
  go_wp2
  go_end0
  exact ⟨rfl, HA.out⟩
end Go.Proofs.Qxb6616327a

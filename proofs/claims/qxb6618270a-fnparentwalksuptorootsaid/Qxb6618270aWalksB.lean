/- THE LAW WALKED. -/
import Derived.Test.Qxb6618270aWalksA
namespace Go.Proofs.Qxb6618270a
open Go.RowKit

theorem info9 : (Try.prog.info? 9).map (fun i => (i.zero, i.size, i.bytes)) = some (some (.string ByteArray.empty), 1, 16) := by kernel_rfl

/-- 'names == nil', under a name that the walk does not lay open. -/
def nilB (a : Option Addr) : Bool := a.isNone

theorem row_next {wr : World} {B len k : Nat} {ss : Nat → ByteArray} (h : wr.rowIs B 9 len (fun j => if j < k then .string (ss j) else .string ByteArray.empty)) :
    (wr.setCell ⟨B, k, none⟩ (.string (ss k))).rowIs B 9 len (fun j => if j < k + 1 then .string (ss j) else .string ByteArray.empty) := by
  refine (h.set k _).congr fun j _ => ?_
  by_cases e : j = k
  · subst e
    simp
  · by_cases l : j < k
    · simp [e, l, Nat.lt_succ_of_lt l]
    · simp [e, l, show ¬ j < k + 1 by omega]
theorem row_all {wr : World} {B len k : Nat} {ss : Nat → ByteArray} (h : wr.rowIs B 9 len (fun j => if j < k then .string (ss j) else .string ByteArray.empty)) (hk : len ≤ k) :
    wr.rowIs B 9 len (fun j => .string (ss j)) := h.congr fun j hj => by simp [show j < k by omega]
theorem inv_start {w wr : World} {s : ByteArray} {a : Option Addr} {len cap : Nat} {ss : Nat → ByteArray} (h : wr.rowIs w.heap.size 9 len (fun j => .string (ss j))) (hb : Below w.heap.size w wr) :
    Inv w wr.heap.size (wr.alloc (.cells #[.string s, .slice a len cap] 25)) s a len cap ss len := by
  refine ⟨h.alloc _, ?_, hb.alloc hb.size _, h.lt⟩
  exact World.rowIs_alloc wr #[.string s, .slice a len cap] 25 (fun j => if j = 0 then .string s else .slice a len cap) (by
    intro i hi
    match i, hi with
    | 0, _ => simp
    | 1, _ => simp)

set_option maxRecDepth 8000 in
set_option maxHeartbeats 1000000 in
theorem law_in (s : ByteArray) (a : Option Addr) (len cap : Nat) (ss : Nat → ByteArray) (w : World) (hs : s.size ≤ maxLen) (hlc : len ≤ cap) (hcap : cap ≤ maxLen) (hn : Names w a len ss)
    (h1 : (s.size : Int) ≤ 1048576) (h2 : (len : Int) ≤ 1024) (h3 : (s.size : Int) + 16 * len ≤ 1048576) :
    Calls Try.prog 3 #[.string s, .slice a len cap] w fun e w' => e = .returned (.bool true) ∧ Below w.heap.size w w' := by
  have HB := bytes_any s a len cap ss w hs (by omega) hn
  unfold maxLen at hs hcap
  have HN : Hid (Names w a len ss) := hn
  clear hn
  have hmk := run_make_row' (P := Try.prog) 22 9 (.string ByteArray.empty) 16 Try.underlying22 info9 rfl .i64 .i64 len (by omega) (by omega)
  have hnil : ∀ (w : World) (a : Option Addr) (n c : Nat), (binOp .eql 22 (.slice a n c) (.slice none 0 0)).run Try.prog w = .ok (.bool (nilB a)) w := fun w a n c => Lib.run_eql_slice_nil w _ _ a n c 0 0 Try.underlying22
  go_enter Try.func3, Try.ntmps3
  go_wp2_with fail
  refine HB.mono ?_
  clear HB
  rintro e w' ⟨⟨v, rfl⟩, rfl⟩
  cases v with
  | false =>
    go_wp2
    go_ret
    exact ⟨rfl, Below.refl _ _⟩
  | true =>
    go_wp2
    go_loop [5, 6] (fun n i => ∃ (k : Nat) (z : Int), k ≤ len ∧ i = .int .i64 k ∧ n = .int .i64 z) (fun _ i => len - (intOf i).toNat)
    case atStart => exact ⟨0, _, Nat.zero_le _, rfl, rfl⟩
    case round =>
      obtain ⟨k, z, hk, rfl, rfl⟩ := hrel
      by_cases hlt : k < len
      · obtain ⟨b, off, rfl, hbB, hc, hz⟩ := HN.out k hlt
        have hcx := hc k hlt
        have hzx := hz k hlt
        unfold maxLen at hzx
        clear hc hz
        go_wp2
        · go_ret
          exact ⟨rfl, Below.refl _ _⟩
        · go_round
          case rel => exact ⟨k + 1, _, by omega, by go_num, rfl⟩
          case measure => simp [intOf]; omega
      · go_wp2
        go_loopw [9] (fun i wr => ∃ k : Nat, k ≤ len ∧ i = .int .i64 k ∧ wr.rowIs w'.heap.size 9 len (fun j => if j < k then .string (ss j) else .string ByteArray.empty) ∧ Below w'.heap.size w' wr) (fun i _ => len - (intOf i).toNat)
        case atStart => exact ⟨0, Nat.zero_le _, rfl, (World.rowIs_made _ _ _ _).congr (by intro j hj; simp), (Below.refl _ _).alloc (Nat.le_refl _) _⟩
        case round =>
          rename_i hx
          obtain ⟨k2, hk2, rfl, hrow, hbl⟩ := hrel
          by_cases hlt2 : k2 < len
          · obtain ⟨b, off, rfl, hbB, hc, hz⟩ := HN.out k2 hlt2
            have hcx := (hbl.cell (p := ⟨b, off + k2, none⟩) hbB).trans (hc k2 hlt2)
            have hcy := hrow.cell hlt2
            have hcf := hrow.frozen k2
            simp at hcy
            clear hc hz
            go_wp2
            go_roundw
            case rel => exact ⟨k2 + 1, by omega, by go_num, row_next hrow, hbl.setCell (by simp) _⟩
            case measure => simp [intOf]; omega
          · have hrow2 := row_all hrow (by omega)
            clear hrow
            have HI := inv_start (s := s) (a := a) (cap := cap) hrow2 hbl
            clear hrow2 hbl
            obtain ⟨P, hP⟩ : ∃ P, P = wr.heap.size := ⟨_, rfl⟩
            go_wp2
            rw [← hP]
            rw [← hP] at HI
            clear hP
            go_loopw [12] (fun i wi => ∃ t m : Nat, t ≤ len + 2 ∧ i = .int .i64 t ∧ Hid (m = len - t) ∧ Inv w' P wi s a len cap ss m) (fun i _ => len + 2 - (intOf i).toNat)
            case atStart => exact ⟨0, len, by omega, rfl, rfl, HI⟩
            case round =>
              obtain ⟨t, m, ht, rfl, hm, hi⟩ := hrel
              clear HI
              have c0 := hi.cell0
              have c1 := hi.cell1
              by_cases g1 : t ≤ len
              · have hm1 : m + t ≤ len := by have := hm.out; omega
                have hm2 : len ≤ m + t := by have := hm.out; omega
                have e1 : ((len : Int) - t == 0) = ((m : Int) == 0) := by rw [Bool.eq_iff_iff]; simp; omega
                go_wp2
                go_loopw [14] (fun j wj => ∃ q : Nat, q ≤ m ∧ j = .int .i64 q ∧ Inv w' P wj s a len cap ss m) (fun j _ => m - (intOf j).toNat)
                case atStart => exact ⟨0, Nat.zero_le _, rfl, hi⟩
                case round =>
                  obtain ⟨q, hq, rfl, hj⟩ := hrel
                  clear hi c0 c1
                  have c0 := hj.cell0
                  have c1 := hj.cell1
                  by_cases hqm : q < m
                  · obtain ⟨b, off, rfl, hbB, hc, hz⟩ := HN.out q (by omega)
                    have hcx := (hj.old (o := off + q) hbB).trans (hc q (by omega))
                    have hcy := hj.want (j := q) (by omega)
                    clear hc hz
                    go_wp2
                    go_region
                    go_wp2
                    go_roundw
                    case rel => exact ⟨q + 1, by omega, by go_num, hj.drew⟩
                    case measure => simp [intOf]; omega
                  · go_wp2_with fail
                    refine (isroot_any _ _ _ _ _).mono ?_
                    rintro e w1 ⟨rfl, cc, hw⟩
                    have h1i : Inv w' P w1 s a len cap ss m := by rw [hw]; exact hj.later ((Below.refl _ _).alloc (Nat.le_refl _) _)
                    clear hw hj c0 c1
                    have c0 := h1i.cell0
                    have c1 := h1i.cell1
                    by_cases hz : m = 0
                    · subst hz
                      go_wp2_with fail
                      refine (parent_root _ _ _ _).mono ?_
                      rintro e w2 ⟨rfl, hb⟩
                      have h2i := h1i.later hb
                      clear hb c0 c1
                      have c0 := h2i.cell0
                      have c1 := h2i.cell1
                      have f0 := h2i.frz 0
                      have f1 := h2i.frz 1
                      go_wp2
                      go_roundw
                      case rel => exact ⟨t + 1, 0, by omega, by go_num, (by show 0 = len - (t + 1); omega), h2i.put 0⟩
                      case measure => simp [intOf]; omega
                    · obtain ⟨m', hm'⟩ : ∃ m', Hid (m' + 1 = m) := ⟨m - 1, by show _ = _; omega⟩
                      obtain ⟨b, off, rfl, hbB, hc, hz⟩ := HN.out 0 (by omega)
                      clear hc hz e1
                      have e2 : ((len : Int) - t == 0) = false := by simp; omega
                      have e3 : ((m : Int) == 0) = false := by simp; omega
                      go_wp2_with fail
                      refine (parent_pos s b off m m' cap hm'.out (by omega) (by unfold maxLen; omega) _).mono ?_
                      rintro e w2 ⟨rfl, hb⟩
                      have h2i := h1i.later hb
                      have hk1 : Hid (m' = len - (t + 1)) := by show m' = len - (t + 1); have := hm'.out; omega
                      rename (((m : Int) != (len : Int) - t) = false) => hne
                      clear hb c0 c1 e2 e3 hne hbB hqm hq hm1 hm2 hm' hm hz
                      have c0 := h2i.cell0
                      have c1 := h2i.cell1
                      have f0 := h2i.frz 0
                      have f1 := h2i.frz 1
                      go_wp2
                      go_roundw
                      case rel => exact ⟨t + 1, m', by omega, by go_num, hk1, h2i.put m'⟩
                      case measure => simp [intOf]; omega
              · by_cases g2 : t ≤ len + 1
                · obtain rfl : m = 0 := by have := hm.out; omega
                  go_wp2
                  go_loopw [14] (fun j wj => j = .int .i64 0 ∧ Inv w' P wj s a len cap ss 0) (fun j _ => 0)
                  case atStart => exact ⟨rfl, hi⟩
                  case round =>
                    obtain ⟨rfl, hj⟩ := hrel
                    clear hi c0 c1
                    have c0 := hj.cell0
                    have c1 := hj.cell1
                    go_wp2_with fail
                    refine (isroot_any _ _ _ _ _).mono ?_
                    rintro e w1 ⟨rfl, cc, hw⟩
                    have h1i : Inv w' P w1 s a len cap ss 0 := by rw [hw]; exact hj.later ((Below.refl _ _).alloc (Nat.le_refl _) _)
                    clear hw hj c0 c1
                    go_wp2
                    go_roundw
                    case rel => exact ⟨t + 1, 0, by omega, by go_num, (by show 0 = len - (t + 1); omega), h1i⟩
                    case measure => simp [intOf]; omega
                · go_wp2
                  go_ret
                  exact ⟨rfl, hi.2.2.1⟩

set_option maxHeartbeats 1000000 in
theorem law_out (s : ByteArray) (a : Option Addr) (len cap : Nat) (ss : Nat → ByteArray) (w : World) (hs : s.size ≤ maxLen) (hlc : len ≤ cap) (hcap : cap ≤ maxLen) (hn : Names w a len ss)
    (h : ¬ ((s.size : Int) ≤ 1048576 ∧ (len : Int) ≤ 1024 ∧ (s.size : Int) + 16 * len ≤ 1048576)) :
    Calls Try.prog 3 #[.string s, .slice a len cap] w fun e w' => e = .returned (.bool true) ∧ Below w.heap.size w w' := by
  have HB := bytes_any s a len cap ss w hs (by omega) hn
  unfold maxLen at hs hcap
  clear hn
  have H : Hid (¬ ((s.size : Int) ≤ 1048576 ∧ (len : Int) ≤ 1024 ∧ (s.size : Int) + 16 * len ≤ 1048576)) := h
  clear h
  by_cases h1 : (s.size : Int) ≤ 1048576
  · by_cases h2 : (len : Int) ≤ 1024
    · have h3 : ¬ (s.size : Int) + 16 * len ≤ 1048576 := fun h => H.out ⟨h1, h2, h⟩
      go_enter Try.func3, Try.ntmps3
      go_wp2_with fail
      refine HB.mono ?_
      clear HB
      rintro e w' ⟨⟨v, rfl⟩, rfl⟩
      cases v <;> go_wp2 <;> go_ret <;> exact ⟨rfl, Below.refl _ _⟩
    · go_enter Try.func3, Try.ntmps3
      go_wp2_with fail
      refine HB.mono ?_
      clear HB
      rintro e w' ⟨⟨v, rfl⟩, rfl⟩
      cases v <;> go_wp2 <;> go_ret <;> exact ⟨rfl, Below.refl _ _⟩
  · go_enter Try.func3, Try.ntmps3
    go_wp2_with fail
    refine HB.mono ?_
    clear HB
    rintro e w' ⟨⟨v, rfl⟩, rfl⟩
    cases v <;> go_wp2 <;> go_ret <;> exact ⟨rfl, Below.refl _ _⟩

theorem law_any (s : ByteArray) (a : Option Addr) (len cap : Nat) (ss : Nat → ByteArray) (w : World) (hs : s.size ≤ maxLen) (hlc : len ≤ cap) (hcap : cap ≤ maxLen) (hn : Names w a len ss) :
    Calls Try.prog 3 #[.string s, .slice a len cap] w fun e w' => e = .returned (.bool true) ∧ Below w.heap.size w w' := by
  by_cases h : (s.size : Int) ≤ 1048576 ∧ (len : Int) ≤ 1024 ∧ (s.size : Int) + 16 * len ≤ 1048576
  · exact law_in s a len cap ss w hs hlc hcap hn h.1 h.2.1 h.2.2
  · exact law_out s a len cap ss w hs hlc hcap hn h
end Go.Proofs.Qxb6618270a

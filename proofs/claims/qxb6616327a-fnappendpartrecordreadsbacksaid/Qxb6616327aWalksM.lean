/- FnAppendPartRecordReadsBack (3): the walk. -/
import Derived.Test.Qxb6616327aWalksL
namespace Go.Proofs.Qxb6616327a
open Go.RowKit

set_option maxRecDepth 100000 in
set_option maxHeartbeats 8000000 in
theorem back_in (size : Int) (name : ByteArray) (a2 : Option Addr) (n2 c2 : Nat) (bs : List Int) (a3 : Option Addr) (n3 c3 : Nat) (qs : List Int) (at_ : Int) (a5 : Option Addr) (n5 c5 : Nat) (rs : List Int) (at2 : Int) (w : World) (hm : name.size ≤ maxLen) (hm2 : n2 ≤ maxLen) (hm3 : n3 ≤ maxLen) (hm5 : n5 ≤ maxLen)
    (s2 : Src w a2 n2 bs) (k2 : a2 = none → c2 = 0) (s3 : Src w a3 n3 qs) (k3 : a3 = none → c3 = 0) (s5 : Src w a5 n5 rs) (k5 : a5 = none → c5 = 0) (a0 : -9223372036854775808 ≤ at_) (a1 : at_ ≤ 9223372036854775807) (d0 : -9223372036854775808 ≤ at2) (d1 : at2 ≤ 9223372036854775807)
    (h1 : (name.size : Int) ≤ 1048576) (h2 : (n2 : Int) ≤ 1048576 - name.size) (h3 : (n3 : Int) ≤ 1048576 - (name.size + n2)) (h5 : (n5 : Int) ≤ 1048576 - (name.size + n2 + n3)) :
    Calls Try.prog 3 #[.int .i64 size, .string name, .slice a2 n2 c2, .slice a3 n3 c3, .int .i64 at_, .slice a5 n5 c5, .int .i64 at2] w fun e w' => e = .returned (.bool true) ∧ Below w.heap.size w w' := by
  have HY := bytes5 size name a2 n2 c2 a3 n3 c3 at_ a5 n5 c5 at2 w hm hm2 hm3 hm5
  clear hm hm2 hm3 hm5
  have e2 : n2 ≤ 1048576 := by omega
  have e3 : n3 ≤ 1048576 := by omega
  have e5 : n5 ≤ 1048576 := by omega
  go_enter Try.func3, Try.ntmps3
  go_wp2_with fail
  refine HY.mono ?_
  clear HY
  rintro e w0 ⟨⟨v, rfl⟩, rfl⟩
  cases v with
  | false =>
    clear s2 s3 k2 k3 s5 k5
    go_wp2
    go_ret
    exact ⟨rfl, Below.refl _ _⟩
  | true =>
    have S2 : Hid (Src w0 a2 n2 bs) := s2
    have S3 : Hid (Src w0 a3 n3 qs) := s3
    have S5 : Hid (Src w0 a5 n5 rs) := s5
    have Z2 : Hid (a2 = none → c2 = 0) := k2
    have Z3 : Hid (a3 = none → c3 = 0) := k3
    have Z5 : Hid (a5 = none → c5 = 0) := k5
    have B0 : Hid (Below w0.heap.size w0 w0) := Below.refl _ _
    clear s2 k2 s3 k3 s5 k5
    have C := clone_in w0.heap.size a2 n2 c2 Z2.out bs w0 B0.out.size e2 (S2.out.below B0.out)
    go_wp2_with fail
    refine C.mono ?_
    clear C
    rintro e w1 ⟨pa, pc, rfl, p1, b2, i2, z2⟩
    have Opa : Hid (Own w0.heap.size w1 pa n2 pc bs) := p1
    have B1 : Hid (Below w0.heap.size w0 w1) := B0.out.trans (b2.mono B0.out.size)
    have L1 : Hid (w0.heap.size ≤ w1.heap.size) := b2.size
    have Ipa : Hid (In pa w0.heap.size w1.heap.size) := i2
    have Zpa : Hid (pa = none → pc = 0) := z2
    clear p1 b2 i2 z2
    have C := clone_in w0.heap.size a3 n3 c3 Z3.out qs w1 B1.out.size e3 (S3.out.below B1.out)
    go_wp2_with fail
    refine C.mono ?_
    clear C
    rintro e w2 ⟨qa, qc, rfl, p1, b2, i2, z2⟩
    have Opa : Hid (Own w0.heap.size w2 pa n2 pc bs) := Opa.out.below b2
    have Oqa : Hid (Own w0.heap.size w2 qa n3 qc qs) := p1
    have B2 : Hid (Below w0.heap.size w0 w2) := B1.out.trans (b2.mono B1.out.size)
    have L2 : Hid (w1.heap.size ≤ w2.heap.size) := b2.size
    have Iqa : Hid (In qa w1.heap.size w2.heap.size) := i2
    have Zqa : Hid (qa = none → qc = 0) := z2
    clear p1 b2 i2 z2
    have C := clone_in w0.heap.size a5 n5 c5 Z5.out rs w2 B2.out.size e5 (S5.out.below B2.out)
    go_wp2_with fail
    refine C.mono ?_
    clear C
    rintro e w3 ⟨ra, rc, rfl, p1, b2, i2, z2⟩
    have Opa : Hid (Own w0.heap.size w3 pa n2 pc bs) := Opa.out.below b2
    have Oqa : Hid (Own w0.heap.size w3 qa n3 qc qs) := Oqa.out.below b2
    have Ora : Hid (Own w0.heap.size w3 ra n5 rc rs) := p1
    have B3 : Hid (Below w0.heap.size w0 w3) := B2.out.trans (b2.mono B2.out.size)
    have L3 : Hid (w2.heap.size ≤ w3.heap.size) := b2.size
    have Ira : Hid (In ra w2.heap.size w3.heap.size) := i2
    have Zra : Hid (ra = none → rc = 0) := z2
    clear p1 b2 i2 z2
    have C := clone_in w0.heap.size pa n2 pc Zpa.out bs w3 B3.out.size e2 Opa.out.src
    go_wp2_with fail
    refine C.mono ?_
    clear C
    rintro e w4 ⟨wpa, wpc, rfl, p1, b2, i2, z2⟩
    have Opa : Hid (Own w0.heap.size w4 pa n2 pc bs) := Opa.out.below b2
    have Oqa : Hid (Own w0.heap.size w4 qa n3 qc qs) := Oqa.out.below b2
    have Ora : Hid (Own w0.heap.size w4 ra n5 rc rs) := Ora.out.below b2
    have Owpa : Hid (Own w0.heap.size w4 wpa n2 wpc bs) := p1
    have B4 : Hid (Below w0.heap.size w0 w4) := B3.out.trans (b2.mono B3.out.size)
    have L4 : Hid (w3.heap.size ≤ w4.heap.size) := b2.size
    have Iwpa : Hid (In wpa w3.heap.size w4.heap.size) := i2
    have Zwpa : Hid (wpa = none → wpc = 0) := z2
    clear p1 b2 i2 z2
    have C := clone_in w0.heap.size qa n3 qc Zqa.out qs w4 B4.out.size e3 Oqa.out.src
    go_wp2_with fail
    refine C.mono ?_
    clear C
    rintro e w5 ⟨wqa, wqc, rfl, p1, b2, i2, z2⟩
    have Opa : Hid (Own w0.heap.size w5 pa n2 pc bs) := Opa.out.below b2
    have Oqa : Hid (Own w0.heap.size w5 qa n3 qc qs) := Oqa.out.below b2
    have Ora : Hid (Own w0.heap.size w5 ra n5 rc rs) := Ora.out.below b2
    have Owpa : Hid (Own w0.heap.size w5 wpa n2 wpc bs) := Owpa.out.below b2
    have Owqa : Hid (Own w0.heap.size w5 wqa n3 wqc qs) := p1
    have B5 : Hid (Below w0.heap.size w0 w5) := B4.out.trans (b2.mono B4.out.size)
    have L5 : Hid (w4.heap.size ≤ w5.heap.size) := b2.size
    have Iwqa : Hid (In wqa w4.heap.size w5.heap.size) := i2
    have Zwqa : Hid (wqa = none → wqc = 0) := z2
    clear p1 b2 i2 z2
    have C := clone_in w0.heap.size ra n5 rc Zra.out rs w5 B5.out.size e5 Ora.out.src
    go_wp2_with fail
    refine C.mono ?_
    clear C
    rintro e w6 ⟨wra, wrc, rfl, p1, b2, i2, z2⟩
    have Opa : Hid (Own w0.heap.size w6 pa n2 pc bs) := Opa.out.below b2
    have Oqa : Hid (Own w0.heap.size w6 qa n3 qc qs) := Oqa.out.below b2
    have Ora : Hid (Own w0.heap.size w6 ra n5 rc rs) := Ora.out.below b2
    have Owpa : Hid (Own w0.heap.size w6 wpa n2 wpc bs) := Owpa.out.below b2
    have Owqa : Hid (Own w0.heap.size w6 wqa n3 wqc qs) := Owqa.out.below b2
    have Owra : Hid (Own w0.heap.size w6 wra n5 wrc rs) := p1
    have B6 : Hid (Below w0.heap.size w0 w6) := B5.out.trans (b2.mono B5.out.size)
    have L6 : Hid (w5.heap.size ≤ w6.heap.size) := b2.size
    have Iwra : Hid (In wra w5.heap.size w6.heap.size) := i2
    have Zwra : Hid (wra = none → wrc = 0) := z2
    clear p1 b2 i2 z2
    clear S2 S3 S5 Z2 Z3 Z5 Zpa Zqa Zra Zwpa Zwqa Zwra
    go_wp2_with fail
    refine (new_any size name pa n2 pc qa n3 qc _).mono ?_
    rintro e w7 ⟨S, G, rfl, p1, b2, i2, i3⟩
    have Opa : Hid (Own w0.heap.size w7 pa n2 pc bs) := Opa.out.below b2
    have Oqa : Hid (Own w0.heap.size w7 qa n3 qc qs) := Oqa.out.below b2
    have Ora : Hid (Own w0.heap.size w7 ra n5 rc rs) := Ora.out.below b2
    have Owpa : Hid (Own w0.heap.size w7 wpa n2 wpc bs) := Owpa.out.below b2
    have Owqa : Hid (Own w0.heap.size w7 wqa n3 wqc qs) := Owqa.out.below b2
    have Owra : Hid (Own w0.heap.size w7 wra n5 wrc rs) := Owra.out.below b2
    have M : Pre3 w0.heap.size w0 w7 S G size at_ name n2 bs n3 qs n5 rs wpa wpc wqa wqc wra wrc pa pc qa qc ra rc := by
      have q0 := B6.out.size
      have l1 := L1.out
      have l2 := L2.out
      have l3 := L3.out
      have l4 := L4.out
      have l5 := L5.out
      have l6 := L6.out
      have l7 := b2.size
      have ip := Ipa.out
      have iq := Iqa.out
      have ir := Ira.out
      have jp := Iwpa.out
      have jq := Iwqa.out
      have jr := Iwra.out
      refine ⟨Opa.out, Oqa.out, Ora.out, Owpa.out, Owqa.out, Owra.out, p1, B6.out.trans (b2.mono B6.out.size), by omega, by omega, fun k hk => ⟨fun h => ?_, fun h => ?_, fun h => ?_, fun h => ?_, fun h => ?_⟩⟩
      · have := ip k hk
        have := iq k h
        omega
      · have := ip k hk
        have := ir k h
        omega
      · have := ip k hk
        have := jp k h
        omega
      · have := ip k hk
        have := jq k h
        omega
      · have := ip k hk
        have := jr k h
        omega
    clear p1 b2 i2 i3 Opa Oqa Ora Owpa Owqa Owra B0 B1 B2 B3 B4 B5 B6 L1 L2 L3 L4 L5 L6 Ipa Iqa Ira Iwpa Iwqa Iwra
    go_wp2_with fail
    refine (zzappend_any w0.heap.size S G size at_ name pa n2 pc bs qa n3 qc qs _ M.wr M.base M.p M.q (by omega) e3 (fun k h => (M.ne k h).1) a0 a1).mono ?_
    rintro e w8 ⟨rfl, hA⟩
    have hL1 := enc_le at_ n3 qs M.q.1 e3 a0 a1
    have hP1 : 1 ≤ (enc at_ n3 qs).length := by
      rw [enc_length at_ n3 qs M.q.1, vb_length]
      have := Lib.uvarint_pos (Lib.zigzag at_)
      omega
    obtain ⟨ga, gc, ta, tc, xa, xn, xc, N⟩ := M.mid hA
    clear hA M
    obtain ⟨E1, hE1⟩ : ∃ E1, E1 = enc at_ n3 qs := ⟨_, rfl⟩
    rw [← hE1] at N hL1 hP1
    obtain ⟨T1, hT1⟩ : ∃ T1, T1 = E1.length := ⟨_, rfl⟩
    rw [← hT1] at N hL1 hP1
    have HE1 : Hid (E1 = enc at_ n3 qs ∧ T1 = E1.length) := ⟨hE1, hT1⟩
    clear hE1 hT1
    go_wp2_with fail
    refine (zzpart_any N.wr).mono ?_
    rintro e w9 ⟨rfl, rfl⟩
    go_wp2_with fail
    refine (zzset_any N.wr ra n5 rc).mono ?_
    rintro e w10 ⟨rfl, hw⟩
    have N2 := N.set ra n5 rc
    rw [← hw] at N2
    clear hw N
    go_wp2_with fail
    refine (zzmore_any w0.heap.size S G size at2 name ga (n2 + T1) gc _ ra n5 rc rs xa xn xc _ N2.wr N2.base N2.own N2.r (by omega) (by omega) e5 (fun k h => (N2.ne k h).1) d0 d1).mono ?_
    rintro e w11 ⟨rfl, hA⟩
    have hL2 := enc_le at2 n5 rs N2.r.1 e5 d0 d1
    obtain ⟨g1, g1c, t1, t1c, F⟩ := N2.more hA
    clear hA N2
    obtain ⟨E2, hE2⟩ : ∃ E2, E2 = enc at2 n5 rs := ⟨_, rfl⟩
    rw [← hE2] at F hL2
    obtain ⟨T2, hT2⟩ : ∃ T2, T2 = E2.length := ⟨_, rfl⟩
    rw [← hT2] at F hL2
    have HE2 : Hid (E2 = enc at2 n5 rs ∧ T2 = E2.length) := ⟨hE2, hT2⟩
    clear hE2 hT2
    go_wp2_with fail
    refine (zzpart_any F.wr).mono ?_
    rintro e w12 ⟨rfl, rfl⟩
    go_wp2_with fail
    refine (zzpayload_any F.wr).mono ?_
    rintro e w12 ⟨rfl, rfl⟩
    go_wp2_with fail
    obtain ⟨g, rfl, _, _, _⟩ := F.own.at_ (by omega)
    go_loopw [21] (fun i wr => ∃ k : Nat, k ≤ n2 ∧ i = .int .i64 k ∧ Mid3 w0.heap.size w0 wr S G size at_ name n2 bs n3 qs n5 rs wpa wpc wqa wqc wra wrc ra rc (some ⟨g, 0, none⟩) (n2 + T1 + T2) g1c (bs ++ E1 ++ E2) t1 0 t1c xa xn xc) (fun i _ => n2 - (intOf i).toNat)
    case atStart => exact ⟨0, Nat.zero_le _, rfl, F⟩
    case round =>
      clear F
      obtain ⟨k, hk, rfl, F⟩ := hrel
      obtain ⟨g', hg', hglt, _, hd⟩ := F.own.at_ (by omega)
      obtain rfl : g' = g := by simpa using hg'.symm
      clear hg'
      by_cases hlt : k < n2
      · obtain ⟨gp, rfl, _, _, hc⟩ := F.wantP.at_ (by omega)
        have hcx := hc k hlt
        have hcy := hd k (by omega)
        have hbl := F.wantP.1
        rw [getD_left (bs ++ E1) E2 k (by rw [List.length_append]; omega), getD_left bs E1 k (by omega)] at hcy
        clear hc hd hbl
        generalize bs.getD k 0 = z at *
        go_wp2
        go_region
        go_wp2
        go_roundw
        case rel => exact ⟨k + 1, by omega, by go_num, F.later ((Below.refl _ _).drew)⟩
        case measure => simp [intOf]; omega
      · have hbl := F.wantP.1
        have R1 := readpart_at w0.heap.size g' (n2 + T1 + T2) g1c n2 at_ (bs ++ E1 ++ E2) wqa n3 wqc qs wr hglt (by omega) a0 a1 e3 hd F.wantQ (by
          rw [← HE1.out.1]
          intro j hj
          rw [getD_left (bs ++ E1) E2 (n2 + j) (by rw [List.length_append]; omega)]
          exact getD_right bs E1 j n2 hbl) (by rw [← HE1.out.1, ← HE1.out.2]; omega)
        rw [← HE1.out.1, ← HE1.out.2, show (((n2 + T1 : Nat)) : Int) = (n2 : Int) + (T1 : Int) from by omega] at R1
        clear hd hglt
        go_wp2_with fail
        refine R1.mono ?_
        clear R1
        rintro e w13 ⟨rfl, hb⟩
        have F2 := F.later hb
        clear F hb
        obtain ⟨g2, hg2, hglt, _, hd⟩ := F2.own.at_ (by omega)
        obtain rfl : g2 = g' := by simpa using hg2.symm
        clear hg2
        have R2 := readpart_at w0.heap.size g2 (n2 + T1 + T2) g1c (n2 + T1) at2 (bs ++ E1 ++ E2) wra n5 wrc rs w13 hglt (by omega) d0 d1 e5 hd F2.wantR (by
          rw [← HE2.out.1]
          intro j hj
          exact getD_right (bs ++ E1) E2 j (n2 + T1) (by rw [List.length_append, hbl, ← HE1.out.2])) (by rw [← HE2.out.1, ← HE2.out.2]; omega)
        rw [← HE2.out.1, ← HE2.out.2, show (((n2 + T1 : Nat)) : Int) = (n2 : Int) + (T1 : Int) from by omega, show (((n2 + T1 + T2 : Nat)) : Int) = (n2 : Int) + (T1 : Int) + (T2 : Int) from by omega] at R2
        clear hd hglt hbl
        go_wp2_with fail
        refine R2.mono ?_
        clear R2
        rintro e w14 ⟨rfl, hb⟩
        have F3 := F2.later hb
        clear F2 hb
        rcases F3.idx with ⟨hp0, rfl, ix⟩ | ⟨hp0, rfl⟩
        · have ht : ((n2 : Int) == 0) = true := by simp; omega
          go_wp2_with fail
          refine (zzlen_any F3.wr).mono ?_
          rintro e w15 ⟨rfl, rfl⟩
          go_wp2_with fail
          refine (entryis_any F3.wr at_ name size ix).mono ?_
          rintro e w16 ⟨rfl, hb⟩
          have HB : Hid (Below w0.heap.size w0 w16) := F3.below.trans (hb.mono F3.base)
          clear hb F3 ix
          go_wp2
          go_ret
          exact ⟨rfl, HB.out⟩
        · have ht : ((n2 : Int) == 0) = false := by simp; omega
          go_wp2_with fail
          refine (zzlen_any F3.wr).mono ?_
          rintro e w15 ⟨rfl, rfl⟩
          have HB : Hid (Below w0.heap.size w0 w15) := F3.below
          clear F3
          go_wp2
          go_ret
          exact ⟨rfl, HB.out⟩

set_option maxRecDepth 100000 in
set_option maxHeartbeats 2000000 in
theorem back_out (size : Int) (name : ByteArray) (a2 : Option Addr) (n2 c2 : Nat) (a3 : Option Addr) (n3 c3 : Nat) (at_ : Int) (a5 : Option Addr) (n5 c5 : Nat) (at2 : Int) (w : World) (hm : name.size ≤ maxLen) (hm2 : n2 ≤ maxLen) (hm3 : n3 ≤ maxLen) (hm5 : n5 ≤ maxLen)
    (h : ¬ ((name.size : Int) ≤ 1048576 ∧ (n2 : Int) ≤ 1048576 - name.size ∧ (n3 : Int) ≤ 1048576 - (name.size + n2) ∧ (n5 : Int) ≤ 1048576 - (name.size + n2 + n3))) :
    Calls Try.prog 3 #[.int .i64 size, .string name, .slice a2 n2 c2, .slice a3 n3 c3, .int .i64 at_, .slice a5 n5 c5, .int .i64 at2] w fun e w' => e = .returned (.bool true) ∧ Below w.heap.size w w' := by
  have HY := bytes5 size name a2 n2 c2 a3 n3 c3 at_ a5 n5 c5 at2 w hm hm2 hm3 hm5
  have H : Hid (¬ ((name.size : Int) ≤ 1048576 ∧ (n2 : Int) ≤ 1048576 - name.size ∧ (n3 : Int) ≤ 1048576 - (name.size + n2) ∧ (n5 : Int) ≤ 1048576 - (name.size + n2 + n3))) := h
  clear h
  unfold maxLen at hm hm2 hm3 hm5
  by_cases h1 : (name.size : Int) ≤ 1048576
  · by_cases h2 : (n2 : Int) ≤ 1048576 - name.size
    · by_cases h3 : (n3 : Int) ≤ 1048576 - (name.size + n2)
      · have h5 : ¬ (n5 : Int) ≤ 1048576 - (name.size + n2 + n3) := fun h => H.out ⟨h1, h2, h3, h⟩
        go_enter Try.func3, Try.ntmps3
        go_wp2_with fail
        refine HY.mono ?_
        clear HY
        rintro e w0 ⟨⟨v, rfl⟩, rfl⟩
        cases v <;> go_wp2 <;> go_ret <;> exact ⟨rfl, Below.refl _ _⟩
      · go_enter Try.func3, Try.ntmps3
        go_wp2_with fail
        refine HY.mono ?_
        clear HY
        rintro e w0 ⟨⟨v, rfl⟩, rfl⟩
        cases v <;> go_wp2 <;> go_ret <;> exact ⟨rfl, Below.refl _ _⟩
    · go_enter Try.func3, Try.ntmps3
      go_wp2_with fail
      refine HY.mono ?_
      clear HY
      rintro e w0 ⟨⟨v, rfl⟩, rfl⟩
      cases v <;> go_wp2 <;> go_ret <;> exact ⟨rfl, Below.refl _ _⟩
  · go_enter Try.func3, Try.ntmps3
    go_wp2_with fail
    refine HY.mono ?_
    clear HY
    rintro e w0 ⟨⟨v, rfl⟩, rfl⟩
    cases v <;> go_wp2 <;> go_ret <;> exact ⟨rfl, Below.refl _ _⟩

theorem back_any (size : Int) (name : ByteArray) (a2 : Option Addr) (n2 c2 : Nat) (bs : List Int) (a3 : Option Addr) (n3 c3 : Nat) (qs : List Int) (at_ : Int) (a5 : Option Addr) (n5 c5 : Nat) (rs : List Int) (at2 : Int) (w : World) (hm : name.size ≤ maxLen) (hm2 : n2 ≤ maxLen) (hm3 : n3 ≤ maxLen) (hm5 : n5 ≤ maxLen)
    (s2 : Src w a2 n2 bs) (k2 : a2 = none → c2 = 0) (s3 : Src w a3 n3 qs) (k3 : a3 = none → c3 = 0) (s5 : Src w a5 n5 rs) (k5 : a5 = none → c5 = 0) (a0 : -9223372036854775808 ≤ at_) (a1 : at_ ≤ 9223372036854775807) (d0 : -9223372036854775808 ≤ at2) (d1 : at2 ≤ 9223372036854775807) :
    Calls Try.prog 3 #[.int .i64 size, .string name, .slice a2 n2 c2, .slice a3 n3 c3, .int .i64 at_, .slice a5 n5 c5, .int .i64 at2] w fun e w' => e = .returned (.bool true) ∧ Below w.heap.size w w' := by
  by_cases h : (name.size : Int) ≤ 1048576 ∧ (n2 : Int) ≤ 1048576 - name.size ∧ (n3 : Int) ≤ 1048576 - (name.size + n2) ∧ (n5 : Int) ≤ 1048576 - (name.size + n2 + n3)
  · exact back_in size name a2 n2 c2 bs a3 n3 c3 qs at_ a5 n5 c5 rs at2 w hm hm2 hm3 hm5 s2 k2 s3 k3 s5 k5 a0 a1 d0 d1 h.1 h.2.1 h.2.2.1 h.2.2.2
  · exact back_out size name a2 n2 c2 a3 n3 c3 at_ a5 n5 c5 at2 w hm hm2 hm3 hm5 h
end Go.Proofs.Qxb6616327a

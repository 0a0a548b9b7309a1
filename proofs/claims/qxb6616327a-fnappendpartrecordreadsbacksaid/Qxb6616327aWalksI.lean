/- FnAppendPartKeepsWhatWasThere (4): the walk up to the two appends. -/
import Derived.Test.Qxb6616327aWalksH
import Derived.RegionTactic
namespace Go.Proofs.Qxb6616327a
open Go.RowKit

/-- The block of a lies in [lo, hi). -/
def In (a : Option Addr) (lo hi : Nat) : Prop := ∀ k, blk a = some k → lo ≤ k ∧ k < hi

theorem clone_in (B : Nat) (a : Option Addr) (n cap : Nat) (hc : a = none → cap = 0) (bs : List Int) (w : World) (hB : B ≤ w.heap.size) (hn : n ≤ 1048576) (hs : Src w a n bs) :
    Calls Try.prog 6 #[.slice a n cap] w fun e w' => ∃ a' c', e = .returned (.slice a' n c') ∧ Own B w' a' n c' bs ∧ Below w.heap.size w w' ∧ In a' w.heap.size w'.heap.size ∧ (a' = none → c' = 0) := by
  refine (clone_any B a n cap hc bs w hB hn hs).mono ?_
  rintro e w' ⟨a', c', rfl, h1, h2, h3, h4⟩
  exact ⟨a', c', rfl, h1, h2, fun k hk => ⟨h3 k hk, (h1.lt k hk).2⟩, h4⟩

/-- What holds when both writers have been appended to. -/
structure Fin (B : Nat) (w0 w : World) (S1 G1 S2 G2 : Nat) (size at_ : Int) (name : ByteArray) (pn : Nat) (bs : List Int) (qn : Nat) (qs : List Int) (E : List Int) (L : Nat)
    (wpa : Option Addr) (wpc : Nat) (wqa : Option Addr) (wqc : Nat) (g1a : Option Addr) (g1c : Nat) (r1a : Option Addr) (r1c : Nat) (x1a : Option Addr) (x1n x1c : Nat) (g2a : Option Addr) (g2c : Nat) (r2a : Option Addr) (r2c : Nat) (x2a : Option Addr) (x2c : Nat) : Prop where
  wantP : Own B w wpa pn wpc bs
  wantQ : Own B w wqa qn wqc qs
  wr1 : Wr w S1 G1 size name g1a (pn + L) g1c r1a 0 r1c x1a x1n x1c
  own1 : Own B w g1a (pn + L) g1c (bs ++ E)
  wr2 : Wr w S2 G2 size name g2a L g2c r2a 0 r2c x2a 1 x2c
  own2 : Own B w g2a L g2c E
  idx2 : Idx w x2a name at_ size
  idx1 : (pn = 0 ∧ x1n = 1 ∧ Idx w x1a name at_ size) ∨ (0 < pn ∧ x1n = 0)
  below : Below B w0 w

theorem Fin.later {B : Nat} {w0 w w' : World} {S1 G1 S2 G2 : Nat} {size at_ : Int} {name : ByteArray} {pn : Nat} {bs : List Int} {qn : Nat} {qs : List Int} {E : List Int} {L : Nat} {wpa : Option Addr} {wpc : Nat} {wqa : Option Addr} {wqc : Nat} {g1a : Option Addr} {g1c : Nat} {r1a : Option Addr} {r1c : Nat} {x1a : Option Addr} {x1n x1c : Nat} {g2a : Option Addr} {g2c : Nat} {r2a : Option Addr} {r2c : Nat} {x2a : Option Addr} {x2c : Nat}
    (m : Fin B w0 w S1 G1 S2 G2 size at_ name pn bs qn qs E L wpa wpc wqa wqc g1a g1c r1a r1c x1a x1n x1c g2a g2c r2a r2c x2a x2c) (hB : B ≤ w.heap.size) (h : Below w.heap.size w w') :
    Fin B w0 w' S1 G1 S2 G2 size at_ name pn bs qn qs E L wpa wpc wqa wqc g1a g1c r1a r1c x1a x1n x1c g2a g2c r2a r2c x2a x2c :=
  ⟨m.wantP.below h, m.wantQ.below h, m.wr1.below h, m.own1.below h, m.wr2.below h, m.own2.below h, m.idx2.below h, m.idx1.imp (fun e => ⟨e.1, e.2.1, e.2.2.below h⟩) id, m.below.trans (h.mono hB)⟩

theorem wr_apart {w : World} {S G S' G' : Nat} {size size' : Int} {name name' : ByteArray} {pa qa xa pa' qa' xa' : Option Addr} {pn pc qn qc xn xc pn' pc' qn' qc' xn' xc' : Nat}
    (h : Wr w S G size name pa pn pc qa qn qc xa xn xc) (h' : Wr w S' G' size' name' pa' pn' pc' qa' qn' qc' xa' xn' xc') : S ≠ G' ∧ G ≠ S' := by
  obtain ⟨c1, b1, _⟩ := h.1
  obtain ⟨c2, b2, _⟩ := h.2
  obtain ⟨c3, b3, _⟩ := h'.1
  obtain ⟨c4, b4, _⟩ := h'.2
  constructor
  · rintro rfl
    rw [b1] at b4
    simp at b4
  · rintro rfl
    rw [b2] at b3
    simp at b3

/-- What is known of both writers ahead of the first append. -/
structure Setup (B : Nat) (w0 w : World) (S1 G1 S2 G2 : Nat) (size : Int) (name : ByteArray) (pa : Option Addr) (pn pc : Nat) (bs : List Int) (qa : Option Addr) (qn qc : Nat) (qs : List Int) (wpa : Option Addr) (wpc : Nat) (wqa : Option Addr) (wqc : Nat) (ra : Option Addr) (rc : Nat) : Prop where
  p : Own B w pa pn pc bs
  q : Own B w qa qn qc qs
  wantP : Own B w wpa pn wpc bs
  wantQ : Own B w wqa qn wqc qs
  r : Own B w ra qn rc qs
  wr1 : Wr w S1 G1 size name pa pn pc qa qn qc none 0 0
  wr2 : Wr w S2 G2 size name none 0 0 ra qn rc none 0 0
  below : Below B w0 w
  base : B ≤ w.heap.size
  low : B ≤ S1 ∧ B ≤ G1 ∧ B ≤ S2 ∧ B ≤ G2
  ne : ∀ k, blk pa = some k → blk qa ≠ some k ∧ blk wpa ≠ some k ∧ blk wqa ≠ some k ∧ blk ra ≠ some k
  neS : S1 ≠ S2
  neG : G1 ≠ G2

/-- Between the two appends. -/
structure Half (B : Nat) (w0 w : World) (S1 G1 S2 G2 : Nat) (size at_ : Int) (name : ByteArray) (pn : Nat) (bs : List Int) (qn : Nat) (qs : List Int)
    (wpa : Option Addr) (wpc : Nat) (wqa : Option Addr) (wqc : Nat) (ra : Option Addr) (rc : Nat) (g1a : Option Addr) (g1c : Nat) (r1a : Option Addr) (r1c : Nat) (x1a : Option Addr) (x1n x1c : Nat) : Prop where
  wantP : Own B w wpa pn wpc bs
  wantQ : Own B w wqa qn wqc qs
  r : Own B w ra qn rc qs
  wr1 : Wr w S1 G1 size name g1a (pn + (enc at_ qn qs).length) g1c r1a 0 r1c x1a x1n x1c
  own1 : Own B w g1a (pn + (enc at_ qn qs).length) g1c (bs ++ enc at_ qn qs)
  wr2 : Wr w S2 G2 size name none 0 0 ra qn rc none 0 0
  idx1 : (pn = 0 ∧ x1n = 1 ∧ Idx w x1a name at_ size) ∨ (0 < pn ∧ x1n = 0)
  below : Below B w0 w
  base : B ≤ w.heap.size
  low : B ≤ S1 ∧ B ≤ G1 ∧ B ≤ S2 ∧ B ≤ G2
  neS : S1 ≠ S2
  neG : G1 ≠ G2

theorem Setup.half {B : Nat} {w0 w w' : World} {S1 G1 S2 G2 : Nat} {size at_ : Int} {name : ByteArray} {pa : Option Addr} {pn pc : Nat} {bs : List Int} {qa : Option Addr} {qn qc : Nat} {qs : List Int} {wpa : Option Addr} {wpc : Nat} {wqa : Option Addr} {wqc : Nat} {ra : Option Addr} {rc : Nat}
    (m : Setup B w0 w S1 G1 S2 G2 size name pa pn pc bs qa qn qc qs wpa wpc wqa wqc ra rc) (h : After B w S1 G1 size at_ name pa pn (pn + (enc at_ qn qs).length) (bs ++ enc at_ qn qs) w') :
    ∃ g1a g1c r1a r1c x1a x1n x1c, Half B w0 w' S1 G1 S2 G2 size at_ name pn bs qn qs wpa wpc wqa wqc ra rc g1a g1c r1a r1c x1a x1n x1c := by
  obtain ⟨xa, xn, xc, pa', pc', qa', qc', h1, h2, h3, h4, h5⟩ := h
  have hk : ∀ {x : Option Addr} {n c : Nat} {ys : List Int}, Own B w x n c ys → (∀ k, blk pa = some k → blk x ≠ some k) → Own B w' x n c ys := fun ho hn => h3.own ho fun k hk e => by
    rcases e with e | e | e
    · exact m.wr1.neS ho (by rw [hk, e])
    · exact m.wr1.neG ho (by rw [hk, e])
    · exact hn k e hk
  have ha := wr_apart m.wr1 m.wr2
  refine ⟨pa', pc', qa', qc', xa, xn, xc, hk m.wantP fun k h => (m.ne k h).2.1, hk m.wantQ fun k h => (m.ne k h).2.2.1, hk m.r fun k h => (m.ne k h).2.2.2, h1, h2, ?_, h5, ?_, ?_, m.low, m.neS, m.neG⟩
  · refine m.wr2.kept (h3.2 _ m.wr2.ltS fun e => ?_) (h3.2 _ m.wr2.ltG fun e => ?_)
    · rcases e with e | e | e
      · exact m.neS e.symm
      · exact ha.2 e.symm
      · exact m.wr2.neS m.p e
    · rcases e with e | e | e
      · exact ha.1 e.symm
      · exact m.neG e.symm
      · exact m.wr2.neG m.p e
  · refine m.below.trans (h3.below m.base fun k e => ?_)
    rcases e with e | e | e
    · rw [e]; exact m.low.1
    · rw [e]; exact m.low.2.1
    · exact (m.p.lt k e).1
  · have := h3.size
    have := m.base
    omega

theorem Half.fin {B : Nat} {w0 w w' : World} {S1 G1 S2 G2 : Nat} {size at_ : Int} {name : ByteArray} {pn : Nat} {bs : List Int} {qn : Nat} {qs : List Int} {wpa : Option Addr} {wpc : Nat} {wqa : Option Addr} {wqc : Nat} {ra : Option Addr} {rc : Nat} {g1a : Option Addr} {g1c : Nat} {r1a : Option Addr} {r1c : Nat} {x1a : Option Addr} {x1n x1c : Nat}
    (m : Half B w0 w S1 G1 S2 G2 size at_ name pn bs qn qs wpa wpc wqa wqc ra rc g1a g1c r1a r1c x1a x1n x1c) (h : After B w S2 G2 size at_ name none 0 (0 + (enc at_ qn qs).length) ([] ++ enc at_ qn qs) w') :
    ∃ g2a g2c r2a r2c x2a x2c, Fin B w0 w' S1 G1 S2 G2 size at_ name pn bs qn qs (enc at_ qn qs) (enc at_ qn qs).length wpa wpc wqa wqc g1a g1c r1a r1c x1a x1n x1c g2a g2c r2a r2c x2a x2c := by
  obtain ⟨xa, xn, xc, pa', pc', qa', qc', h1, h2, h3, h4, h5⟩ := h
  rw [Nat.zero_add] at h1 h2
  obtain ⟨rfl, hx⟩ : xn = 1 ∧ Idx w' xa name at_ size := by
    rcases h5 with h | h
    · exact h.2
    · omega
  have hk : ∀ {x : Option Addr} {n c : Nat} {ys : List Int}, Own B w x n c ys → Own B w' x n c ys := fun ho => h3.own ho fun k hk e => by
    rcases e with e | e | e
    · exact m.wr2.neS ho (by rw [hk, e])
    · exact m.wr2.neG ho (by rw [hk, e])
    · cases e
  have ha := wr_apart m.wr1 m.wr2
  refine ⟨pa', pc', qa', qc', xa, xc, hk m.wantP, hk m.wantQ, ?_, hk m.own1, h1, h2, hx, m.idx1.imp (fun h => ⟨h.1, h.2.1, h.2.2.kept fun k cur hc => ?_⟩) id, ?_⟩
  · refine m.wr1.kept (h3.2 _ m.wr1.ltS fun e => ?_) (h3.2 _ m.wr1.ltG fun e => ?_)
    · rcases e with e | e | e
      · exact m.neS e
      · exact ha.1 e
      · cases e
    · rcases e with e | e | e
      · exact ha.2 e
      · exact m.neG e
      · cases e
  · refine m.below.trans (h3.below m.base fun k e => ?_)
    rcases e with e | e | e
    · rw [e]; exact m.low.2.2.1
    · rw [e]; exact m.low.2.2.2
    · cases e
  · refine h3.2 k (Array.getElem?_eq_some_iff.1 hc).1 fun e => ?_
    rcases e with e | e | e
    · exact (wr_ne61 m.wr2 hc).1 e
    · exact (wr_ne61 m.wr2 hc).2 e
    · cases e

theorem getD_left (bs E : List Int) (k : Nat) (h : k < bs.length) : (bs ++ E).getD k 0 = bs.getD k 0 := by simp [List.getElem?_append_left h]
theorem getD_right (bs E : List Int) (k n : Nat) (h : bs.length = n) : (bs ++ E).getD (n + k) 0 = E.getD k 0 := by
  subst h
  simp [List.getElem?_append_right (Nat.le_add_right _ _)]

set_option maxRecDepth 100000 in
set_option maxHeartbeats 4000000 in
theorem keeps_in (size : Int) (name : ByteArray) (a2 : Option Addr) (n2 c2 : Nat) (bs : List Int) (a3 : Option Addr) (n3 c3 : Nat) (qs : List Int) (at_ : Int) (w : World) (hm : name.size ≤ maxLen) (hm2 : n2 ≤ maxLen) (hm3 : n3 ≤ maxLen)
    (s2 : Src w a2 n2 bs) (k2 : a2 = none → c2 = 0) (s3 : Src w a3 n3 qs) (k3 : a3 = none → c3 = 0) (a0 : -9223372036854775808 ≤ at_) (a1 : at_ ≤ 9223372036854775807)
    (h1 : (name.size : Int) ≤ 1048576) (h2 : (n2 : Int) ≤ 1048576 - name.size) (h3 : (n3 : Int) ≤ 1048576 - (name.size + n2)) :
    Calls Try.prog 4 #[.int .i64 size, .string name, .slice a2 n2 c2, .slice a3 n3 c3, .int .i64 at_] w fun e w' => e = .returned (.bool true) ∧ Below w.heap.size w w' := by
  have HY := bytes15 size name a2 n2 c2 a3 n3 c3 at_ w hm hm2 hm3
  clear hm hm2 hm3
  have e2 : n2 ≤ 1048576 := by omega
  have e3 : n3 ≤ 1048576 := by omega
  go_enter Try.func4, Try.ntmps4
  go_wp2_with fail
  refine HY.mono ?_
  clear HY
  rintro e w0 ⟨⟨v, rfl⟩, rfl⟩
  cases v with
  | false =>
    clear s2 s3 k2 k3
    go_wp2
    go_ret
    exact ⟨rfl, Below.refl _ _⟩
  | true =>
    have C2 := clone_in w0.heap.size a2 n2 c2 k2 bs w0 (Nat.le_refl _) e2 s2
    have S3 : Hid (Src w0 a3 n3 qs ∧ (a3 = none → c3 = 0)) := ⟨s3, k3⟩
    clear s2 k2 s3 k3
    go_wp2_with fail
    refine C2.mono ?_
    clear C2
    rintro e w1 ⟨pa, pc, rfl, p1, b1, i1, z1⟩
    have C3 := clone_in w0.heap.size a3 n3 c3 S3.out.2 qs w1 b1.size e3 (S3.out.1.below b1)
    clear S3
    have P1 : Hid (Own w0.heap.size w1 pa n2 pc bs) := p1
    have B1 : Hid (Below w0.heap.size w0 w1) := b1
    have I1 : Hid (In pa w0.heap.size w1.heap.size) := i1
    have Z1 : Hid (pa = none → pc = 0) := z1
    clear p1 b1 i1 z1
    go_wp2_with fail
    refine C3.mono ?_
    clear C3
    rintro e w2 ⟨qa, qc, rfl, q1, b2, i2, z2⟩
    have P2 : Hid (Own w0.heap.size w2 pa n2 pc bs) := P1.out.below b2
    have B2 : Hid (Below w0.heap.size w0 w2) := B1.out.trans (b2.mono B1.out.size)
    have L2 : Hid (w1.heap.size ≤ w2.heap.size) := b2.size
    have I2 : Hid (In qa w1.heap.size w2.heap.size) := i2
    have Z2 : Hid (qa = none → qc = 0) := z2
    have Q2 : Hid (Own w0.heap.size w2 qa n3 qc qs) := q1
    have C4 := clone_in w0.heap.size pa n2 pc Z1.out bs w2 B2.out.size e2 P2.out.src
    clear q1 b2 i2 z2 P1 Z1
    go_wp2_with fail
    refine C4.mono ?_
    clear C4
    rintro e w3 ⟨wpa, wpc, rfl, p1, b2, i2, _⟩
    have P3 : Hid (Own w0.heap.size w3 pa n2 pc bs) := P2.out.below b2
    have Q3 : Hid (Own w0.heap.size w3 qa n3 qc qs) := Q2.out.below b2
    have WP3 : Hid (Own w0.heap.size w3 wpa n2 wpc bs) := p1
    have B3 : Hid (Below w0.heap.size w0 w3) := B2.out.trans (b2.mono B2.out.size)
    have L3 : Hid (w2.heap.size ≤ w3.heap.size) := b2.size
    have I3 : Hid (In wpa w2.heap.size w3.heap.size) := i2
    have C5 := clone_in w0.heap.size qa n3 qc Z2.out qs w3 B3.out.size e3 Q3.out.src
    clear p1 b2 i2 P2 Q2 Z2
    go_wp2_with fail
    refine C5.mono ?_
    clear C5
    rintro e w4 ⟨wqa, wqc, rfl, p1, b2, i2, z2⟩
    have P4 : Hid (Own w0.heap.size w4 pa n2 pc bs) := P3.out.below b2
    have Q4 : Hid (Own w0.heap.size w4 qa n3 qc qs) := Q3.out.below b2
    have WP4 : Hid (Own w0.heap.size w4 wpa n2 wpc bs) := WP3.out.below b2
    have WQ4 : Hid (Own w0.heap.size w4 wqa n3 wqc qs) := p1
    have B4 : Hid (Below w0.heap.size w0 w4) := B3.out.trans (b2.mono B3.out.size)
    have L4 : Hid (w3.heap.size ≤ w4.heap.size) := b2.size
    have I4 : Hid (In wqa w3.heap.size w4.heap.size) := i2
    have Z4 : Hid (wqa = none → wqc = 0) := z2
    clear p1 b2 i2 z2 P3 Q3 WP3
    go_wp2_with fail
    refine (new_any size name pa n2 pc qa n3 qc _).mono ?_
    rintro e w5 ⟨S1, G1, rfl, p1, b2, i2, i3⟩
    have P5 : Hid (Own w0.heap.size w5 pa n2 pc bs) := P4.out.below b2
    have Q5 : Hid (Own w0.heap.size w5 qa n3 qc qs) := Q4.out.below b2
    have WP5 : Hid (Own w0.heap.size w5 wpa n2 wpc bs) := WP4.out.below b2
    have WQ5 : Hid (Own w0.heap.size w5 wqa n3 wqc qs) := WQ4.out.below b2
    have B5 : Hid (Below w0.heap.size w0 w5) := B4.out.trans (b2.mono B4.out.size)
    have L5 : Hid (w4.heap.size ≤ w5.heap.size) := b2.size
    have I5 : Hid ((w4.heap.size ≤ S1 ∧ S1 < w5.heap.size) ∧ w4.heap.size ≤ G1 ∧ G1 < w5.heap.size) := ⟨⟨i2, p1.ltS⟩, i3, p1.ltG⟩
    have W5 : Hid (Wr w5 S1 G1 size name pa n2 pc qa n3 qc none 0 0) := p1
    have C6 := clone_in w0.heap.size wqa n3 wqc Z4.out qs w5 B5.out.size e3 WQ5.out.src
    clear p1 b2 i2 i3 P4 Q4 WP4 WQ4 Z4
    go_wp2_with fail
    refine C6.mono ?_
    clear C6
    rintro e w6 ⟨qa2, qc2, rfl, p1, b2, i2, _⟩
    have P6 : Hid (Own w0.heap.size w6 pa n2 pc bs) := P5.out.below b2
    have Q6 : Hid (Own w0.heap.size w6 qa n3 qc qs) := Q5.out.below b2
    have WP6 : Hid (Own w0.heap.size w6 wpa n2 wpc bs) := WP5.out.below b2
    have WQ6 : Hid (Own w0.heap.size w6 wqa n3 wqc qs) := WQ5.out.below b2
    have QQ6 : Hid (Own w0.heap.size w6 qa2 n3 qc2 qs) := p1
    have B6 : Hid (Below w0.heap.size w0 w6) := B5.out.trans (b2.mono B5.out.size)
    have L6 : Hid (w5.heap.size ≤ w6.heap.size) := b2.size
    have I6 : Hid (In qa2 w5.heap.size w6.heap.size) := i2
    have W6 : Hid (Wr w6 S1 G1 size name pa n2 pc qa n3 qc none 0 0) := W5.out.below b2
    clear p1 b2 i2 P5 Q5 WP5 WQ5 W5
    go_wp2_with fail
    refine (new_any size name none 0 0 qa2 n3 qc2 _).mono ?_
    rintro e w7 ⟨S2, G2, rfl, p1, b2, i2, i3⟩
    have P7 : Hid (Own w0.heap.size w7 pa n2 pc bs) := P6.out.below b2
    have Q7 : Hid (Own w0.heap.size w7 qa n3 qc qs) := Q6.out.below b2
    have WP7 : Hid (Own w0.heap.size w7 wpa n2 wpc bs) := WP6.out.below b2
    have WQ7 : Hid (Own w0.heap.size w7 wqa n3 wqc qs) := WQ6.out.below b2
    have QQ7 : Hid (Own w0.heap.size w7 qa2 n3 qc2 qs) := QQ6.out.below b2
    have B7 : Hid (Below w0.heap.size w0 w7) := B6.out.trans (b2.mono B6.out.size)
    have L7 : Hid (w6.heap.size ≤ w7.heap.size) := b2.size
    have I7 : Hid ((w6.heap.size ≤ S2 ∧ S2 < w7.heap.size) ∧ w6.heap.size ≤ G2 ∧ G2 < w7.heap.size) := ⟨⟨i2, p1.ltS⟩, i3, p1.ltG⟩
    have W7 : Hid (Wr w7 S1 G1 size name pa n2 pc qa n3 qc none 0 0) := W6.out.below b2
    have V7 : Hid (Wr w7 S2 G2 size name none 0 0 qa2 n3 qc2 none 0 0) := p1
    clear p1 b2 i2 i3 P6 Q6 WP6 WQ6 QQ6 W6
    go_wp2_with fail
    have M : Setup w0.heap.size w0 w7 S1 G1 S2 G2 size name pa n2 pc bs qa n3 qc qs wpa wpc wqa wqc qa2 qc2 := by
      have q0 := B1.out.size
      have q1 := I1.out
      have q2 := I2.out
      have q3 := I3.out
      have q4 := I4.out
      have q5 := I5.out
      have q6 := I6.out
      have q7 := I7.out
      have l2 := L2.out
      have l3 := L3.out
      have l4 := L4.out
      have l5 := L5.out
      have l6 := L6.out
      have l7 := L7.out
      refine ⟨P7.out, Q7.out, WP7.out, WQ7.out, QQ7.out, W7.out, V7.out, B7.out, B7.out.size, by omega, fun k hk => ⟨fun h => ?_, fun h => ?_, fun h => ?_, fun h => ?_⟩, by omega, by omega⟩
      · have := q1 k hk
        have := q2 k h
        omega
      · have := q1 k hk
        have := q3 k h
        omega
      · have := q1 k hk
        have := q4 k h
        omega
      · have := q1 k hk
        have := q6 k h
        omega
    clear P7 Q7 WP7 WQ7 QQ7 W7 V7 B7 B1 B2 B3 B4 B5 B6 I1 I2 I3 I4 I5 I6 I7 L2 L3 L4 L5 L6 L7
    refine (zzappend_any w0.heap.size S1 G1 size at_ name pa n2 pc bs qa n3 qc qs _ M.wr1 M.base M.p M.q (by omega) e3 (fun k h => (M.ne k h).1) a0 a1).mono ?_
    rintro e w8 ⟨rfl, hA⟩
    obtain ⟨g1a, g1c, r1a, r1c, x1a, x1n, x1c, N⟩ := M.half hA
    clear hA M
    go_wp2_with fail
    refine (zzappend_any w0.heap.size S2 G2 size at_ name none 0 0 [] qa2 n3 qc2 qs _ N.wr2 N.base (Own.nil _ _) N.r (by omega) e3 (fun k h => by cases h) a0 a1).mono ?_
    rintro e w9 ⟨rfl, hA⟩
    obtain ⟨g2a, g2c, r2a, r2c, x2a, x2c, F⟩ := N.fin hA
    clear hA N
    go_wp2_with fail
    have hE : enc at_ n3 qs = vb (Lib.zigzag at_) ++ vb n3 ++ qs := rfl
    have hEl := enc_length at_ n3 qs F.wantQ.1
    have l1 : (vb (Lib.zigzag at_)).length ≤ 10 := vb_le (Lib.zigzag_lt a0 a1)
    have l2 : (vb n3).length ≤ 10 := vb_le (by omega)
    rw [vb_length] at l1 l2
    rw [vb_length, vb_length] at hEl
    generalize enc at_ n3 qs = E at *
    generalize E.length = L at *
    obtain ⟨T, hT⟩ : ∃ T, T = (Lib.uvarint (Lib.zigzag at_)).length + (Lib.uvarint n3).length := ⟨_, rfl⟩
    obtain rfl : L = T + n3 := by omega
    have HT1 : (T : Int) ≤ ((Lib.uvarint (Lib.zigzag at_)).length : Int) + ((Lib.uvarint n3).length : Int) := by omega
    have HT2 : ((Lib.uvarint (Lib.zigzag at_)).length : Int) + ((Lib.uvarint n3).length : Int) ≤ (T : Int) := by omega
    have HT3 : T ≤ 20 := by omega
    have HQ : Hid (∀ k, k < n3 → E.getD (T + k) 0 = qs.getD k 0) := by
      intro k _
      rw [hE]
      exact getD_right _ _ _ _ (by rw [List.length_append, vb_length, vb_length, hT])
    clear hE hEl hT
    refine (zzpart_any F.wr1).mono ?_
    rintro e w10 ⟨rfl, rfl⟩
    go_wp2_with fail
    refine (zzpart_any F.wr2).mono ?_
    rintro e w10 ⟨rfl, rfl⟩
    go_wp2_with fail
    refine (zzpayload_any F.wr1).mono ?_
    rintro e w10 ⟨rfl, rfl⟩
    go_wp2_with fail
    refine (zzpayload_any F.wr2).mono ?_
    rintro e w10 ⟨rfl, rfl⟩
    go_wp2_with fail
    refine (varlen_any at_ a0 a1 _).mono ?_
    rintro e w10 ⟨rfl, rfl⟩
    go_wp2_with fail
    refine (uvarlen_any n3 (by omega) _).mono ?_
    rintro e w10 ⟨rfl, rfl⟩
    go_wp2_with fail
    rename (((T : Int) + (n3 : Int) != ((Lib.uvarint (Lib.zigzag at_)).length : Int) + ((Lib.uvarint n3).length : Int) + (n3 : Int)) = false) => hx
    clear hx HT1 HT2 l1 l2
    go_loopw [18] (fun i wr => ∃ k : Nat, k ≤ n2 ∧ i = .int .i64 k ∧ Fin w0.heap.size w0 wr S1 G1 S2 G2 size at_ name n2 bs n3 qs E (T + n3) wpa wpc wqa wqc g1a g1c r1a r1c x1a x1n x1c g2a g2c r2a r2c x2a x2c) (fun i _ => n2 - (intOf i).toNat)
    case atStart => exact ⟨0, Nat.zero_le _, rfl, F⟩
    case round =>
      clear F
      obtain ⟨k, hk, rfl, F⟩ := hrel
      by_cases hlt : k < n2
      · obtain ⟨gp, rfl, _, _, hc⟩ := F.wantP.at_ (by omega)
        obtain ⟨gg, rfl, _, _, hd⟩ := F.own1.at_ (by omega)
        have hcx := hc k hlt
        have hcy := hd k (by omega)
        rw [getD_left bs E k (by rw [F.wantP.1]; exact hlt)] at hcy
        clear hc hd
        generalize bs.getD k 0 = z at *
        go_wp2
        go_region
        go_wp2
        go_roundw
        case rel => exact ⟨k + 1, by omega, by go_num, F.later F.below.size ((Below.refl _ _).drew)⟩
        case measure => simp [intOf]; omega
      · go_wp2
        go_loopw [19] (fun i wr => ∃ k : Nat, k ≤ T + n3 ∧ i = .int .i64 k ∧ Fin w0.heap.size w0 wr S1 G1 S2 G2 size at_ name n2 bs n3 qs E (T + n3) wpa wpc wqa wqc g1a g1c r1a r1c x1a x1n x1c g2a g2c r2a r2c x2a x2c) (fun i _ => T + n3 - (intOf i).toNat)
        case atStart => exact ⟨0, Nat.zero_le _, rfl, F⟩
        case round =>
          clear F
          obtain ⟨j, hj, rfl, F⟩ := hrel
          by_cases hlt2 : j < T + n3
          · obtain ⟨gg, rfl, _, _, hd⟩ := F.own1.at_ (by omega)
            obtain ⟨gh, rfl, _, _, he⟩ := F.own2.at_ (by omega)
            have hcx := he j hlt2
            have hcy := hd (n2 + j) (by omega)
            rw [getD_right bs E j n2 F.wantP.1] at hcy
            clear hd he
            generalize E.getD j 0 = z at *
            go_wp2
            go_region
            go_wp2
            go_roundw
            case rel => exact ⟨j + 1, by omega, by go_num, F.later F.below.size ((Below.refl _ _).drew)⟩
            case measure => simp [intOf]; omega
          · go_wp2
            go_loopw [20] (fun i wr => ∃ k : Nat, k ≤ n3 ∧ i = .int .i64 k ∧ Fin w0.heap.size w0 wr S1 G1 S2 G2 size at_ name n2 bs n3 qs E (T + n3) wpa wpc wqa wqc g1a g1c r1a r1c x1a x1n x1c g2a g2c r2a r2c x2a x2c) (fun i _ => n3 - (intOf i).toNat)
            case atStart => exact ⟨0, Nat.zero_le _, rfl, F⟩
            case round =>
              clear F
              obtain ⟨l, hl, rfl, F⟩ := hrel
              by_cases hlt3 : l < n3
              · obtain ⟨gq, rfl, _, _, hd⟩ := F.wantQ.at_ (by omega)
                obtain ⟨gh, rfl, _, _, he⟩ := F.own2.at_ (by omega)
                have hcx := he (T + l) (by omega)
                have hcy := hd l hlt3
                rw [HQ.out l hlt3] at hcx
                clear hd he
                generalize qs.getD l 0 = z at *
                go_wp2
                go_region
                go_wp2
                go_roundw
                case rel => exact ⟨l + 1, by omega, by go_num, F.later F.below.size ((Below.refl _ _).drew)⟩
                case measure => simp [intOf]; omega
              · go_wp2_with fail
                refine (zzlen_any F.wr2).mono ?_
                rintro e w11 ⟨rfl, rfl⟩
                go_wp2_with fail
                refine (entryis_any F.wr2 at_ name size F.idx2).mono ?_
                rintro e w12 ⟨rfl, hb⟩
                have F2 := F.later F.below.size hb
                clear F hb
                rcases F2.idx1 with ⟨hp0, rfl, ix⟩ | ⟨hp0, rfl⟩
                · have ht : ((n2 : Int) == 0) = true := by simp; omega
                  go_wp2_with fail
                  refine (zzlen_any F2.wr1).mono ?_
                  rintro e w13 ⟨rfl, rfl⟩
                  go_wp2_with fail
                  refine (entryis_any F2.wr1 at_ name size ix).mono ?_
                  rintro e w14 ⟨rfl, hb⟩
                  have HB : Hid (Below w0.heap.size w0 w14) := F2.below.trans (hb.mono F2.below.size)
                  clear hb F2 ix
                  go_wp2
                  go_ret
                  exact ⟨rfl, HB.out⟩
                · have ht : ((n2 : Int) == 0) = false := by simp; omega
                  go_wp2_with fail
                  refine (zzlen_any F2.wr1).mono ?_
                  rintro e w13 ⟨rfl, rfl⟩
                  have HB : Hid (Below w0.heap.size w0 w13) := F2.below
                  clear F2
                  go_wp2
                  go_ret
                  exact ⟨rfl, HB.out⟩

set_option maxRecDepth 100000 in
set_option maxHeartbeats 1000000 in
theorem keeps_out (size : Int) (name : ByteArray) (a2 : Option Addr) (n2 c2 : Nat) (a3 : Option Addr) (n3 c3 : Nat) (at_ : Int) (w : World) (hm : name.size ≤ maxLen) (hm2 : n2 ≤ maxLen) (hm3 : n3 ≤ maxLen)
    (h : ¬ ((name.size : Int) ≤ 1048576 ∧ (n2 : Int) ≤ 1048576 - name.size ∧ (n3 : Int) ≤ 1048576 - (name.size + n2))) :
    Calls Try.prog 4 #[.int .i64 size, .string name, .slice a2 n2 c2, .slice a3 n3 c3, .int .i64 at_] w fun e w' => e = .returned (.bool true) ∧ Below w.heap.size w w' := by
  have HY := bytes15 size name a2 n2 c2 a3 n3 c3 at_ w hm hm2 hm3
  have H : Hid (¬ ((name.size : Int) ≤ 1048576 ∧ (n2 : Int) ≤ 1048576 - name.size ∧ (n3 : Int) ≤ 1048576 - (name.size + n2))) := h
  clear h
  unfold maxLen at hm hm2 hm3
  by_cases h1 : (name.size : Int) ≤ 1048576
  · by_cases h2 : (n2 : Int) ≤ 1048576 - name.size
    · have h3 : ¬ (n3 : Int) ≤ 1048576 - (name.size + n2) := fun h => H.out ⟨h1, h2, h⟩
      go_enter Try.func4, Try.ntmps4
      go_wp2_with fail
      refine HY.mono ?_
      clear HY
      rintro e w0 ⟨⟨v, rfl⟩, rfl⟩
      cases v <;> go_wp2 <;> go_ret <;> exact ⟨rfl, Below.refl _ _⟩
    · go_enter Try.func4, Try.ntmps4
      go_wp2_with fail
      refine HY.mono ?_
      clear HY
      rintro e w0 ⟨⟨v, rfl⟩, rfl⟩
      cases v <;> go_wp2 <;> go_ret <;> exact ⟨rfl, Below.refl _ _⟩
  · go_enter Try.func4, Try.ntmps4
    go_wp2_with fail
    refine HY.mono ?_
    clear HY
    rintro e w0 ⟨⟨v, rfl⟩, rfl⟩
    cases v <;> go_wp2 <;> go_ret <;> exact ⟨rfl, Below.refl _ _⟩

theorem keeps_any (size : Int) (name : ByteArray) (a2 : Option Addr) (n2 c2 : Nat) (bs : List Int) (a3 : Option Addr) (n3 c3 : Nat) (qs : List Int) (at_ : Int) (w : World) (hm : name.size ≤ maxLen) (hm2 : n2 ≤ maxLen) (hm3 : n3 ≤ maxLen)
    (s2 : Src w a2 n2 bs) (k2 : a2 = none → c2 = 0) (s3 : Src w a3 n3 qs) (k3 : a3 = none → c3 = 0) (a0 : -9223372036854775808 ≤ at_) (a1 : at_ ≤ 9223372036854775807) :
    Calls Try.prog 4 #[.int .i64 size, .string name, .slice a2 n2 c2, .slice a3 n3 c3, .int .i64 at_] w fun e w' => e = .returned (.bool true) ∧ Below w.heap.size w w' := by
  by_cases h : (name.size : Int) ≤ 1048576 ∧ (n2 : Int) ≤ 1048576 - name.size ∧ (n3 : Int) ≤ 1048576 - (name.size + n2)
  · exact keeps_in size name a2 n2 c2 bs a3 n3 c3 qs at_ w hm hm2 hm3 s2 k2 s3 k3 a0 a1 h.1 h.2.1 h.2.2
  · exact keeps_out size name a2 n2 c2 a3 n3 c3 at_ w hm hm2 hm3 h
end Go.Proofs.Qxb6616327a

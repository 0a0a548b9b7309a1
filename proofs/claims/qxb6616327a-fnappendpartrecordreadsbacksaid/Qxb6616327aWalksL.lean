/- FnAppendPartRecordReadsBack (3): what holds of its own memory. -/
import Derived.Test.Qxb6616327aWalksI
import Derived.Test.Qxb6616327aWalksK
namespace Go.Proofs.Qxb6616327a
open Go.RowKit

/-- Ahead of the first append. -/
structure Pre3 (B : Nat) (w0 w : World) (S G : Nat) (size at_ : Int) (name : ByteArray) (n2 : Nat) (bs : List Int) (n3 : Nat) (qs : List Int) (n5 : Nat) (rs : List Int) (wpa : Option Addr) (wpc : Nat) (wqa : Option Addr) (wqc : Nat) (wra : Option Addr) (wrc : Nat) (pa : Option Addr) (pc : Nat) (qa : Option Addr) (qc : Nat) (ra : Option Addr) (rc : Nat) : Prop where
  p : Own B w pa n2 pc bs
  q : Own B w qa n3 qc qs
  r : Own B w ra n5 rc rs
  wantP : Own B w wpa n2 wpc bs
  wantQ : Own B w wqa n3 wqc qs
  wantR : Own B w wra n5 wrc rs
  wr : Wr w S G size name pa n2 pc qa n3 qc none 0 0
  below : Below B w0 w
  base : B ≤ w.heap.size
  low : B ≤ S ∧ B ≤ G
  ne : ∀ k, blk pa = some k → blk qa ≠ some k ∧ blk ra ≠ some k ∧ blk wpa ≠ some k ∧ blk wqa ≠ some k ∧ blk wra ≠ some k

/-- Between the two appends: the record holds n1 bytes, cs. -/
structure Mid3 (B : Nat) (w0 w : World) (S G : Nat) (size at_ : Int) (name : ByteArray) (n2 : Nat) (bs : List Int) (n3 : Nat) (qs : List Int) (n5 : Nat) (rs : List Int) (wpa : Option Addr) (wpc : Nat) (wqa : Option Addr) (wqc : Nat) (wra : Option Addr) (wrc : Nat) (ra : Option Addr) (rc : Nat) (ga : Option Addr) (n1 gc : Nat) (cs : List Int) (ta : Option Addr) (tn tc : Nat) (xa : Option Addr) (xn xc : Nat) : Prop where
  r : Own B w ra n5 rc rs
  wantP : Own B w wpa n2 wpc bs
  wantQ : Own B w wqa n3 wqc qs
  wantR : Own B w wra n5 wrc rs
  wr : Wr w S G size name ga n1 gc ta tn tc xa xn xc
  own : Own B w ga n1 gc cs
  idx : (n2 = 0 ∧ xn = 1 ∧ Idx w xa name at_ size) ∨ (0 < n2 ∧ xn = 0)
  below : Below B w0 w
  base : B ≤ w.heap.size
  low : B ≤ S ∧ B ≤ G
  ne : ∀ k, blk ga = some k → blk ra ≠ some k ∧ blk wpa ≠ some k ∧ blk wqa ≠ some k ∧ blk wra ≠ some k

theorem Pre3.mid {B : Nat} {w0 w : World} {S G : Nat} {size at_ : Int} {name : ByteArray} {n2 : Nat} {bs : List Int} {n3 : Nat} {qs : List Int} {n5 : Nat} {rs : List Int} {wpa : Option Addr} {wpc : Nat} {wqa : Option Addr} {wqc : Nat} {wra : Option Addr} {wrc : Nat} {w' : World} {pa : Option Addr} {pc : Nat} {qa : Option Addr} {qc : Nat} {ra : Option Addr} {rc : Nat} {n1 : Nat} {cs : List Int}
    (m : Pre3 B w0 w S G size at_ name n2 bs n3 qs n5 rs wpa wpc wqa wqc wra wrc pa pc qa qc ra rc) (h : After B w S G size at_ name pa n2 n1 cs w') :
    ∃ ga gc ta tc xa xn xc, Mid3 B w0 w' S G size at_ name n2 bs n3 qs n5 rs wpa wpc wqa wqc wra wrc ra rc ga n1 gc cs ta 0 tc xa xn xc := by
  obtain ⟨xa, xn, xc, pa', pc', qa', qc', h1, h2, h3, h4, h5⟩ := h
  have hk : ∀ {x : Option Addr} {n c : Nat} {ys : List Int}, Own B w x n c ys → (∀ k, blk pa = some k → blk x ≠ some k) → Own B w' x n c ys := fun ho hn => h3.own ho fun k hk e => by
    rcases e with e | e | e
    · exact m.wr.neS ho (by rw [hk, e])
    · exact m.wr.neG ho (by rw [hk, e])
    · exact hn k e hk
  have hn : ∀ {x : Option Addr} {n c : Nat} {ys : List Int}, Own B w x n c ys → (∀ k, blk pa = some k → blk x ≠ some k) → ∀ k, blk pa' = some k → blk x ≠ some k := fun ho hn k hk e => by
    rcases h4 k hk with h | h
    · exact hn k h e
    · have := (ho.lt k e).2
      omega
  have n0 := fun k h => (m.ne k h).2.1
  have n1 := fun k h => (m.ne k h).2.2.1
  have n2 := fun k h => (m.ne k h).2.2.2.1
  have n3 := fun k h => (m.ne k h).2.2.2.2
  refine ⟨pa', pc', qa', qc', xa, xn, xc, hk m.r n0, hk m.wantP n1, hk m.wantQ n2, hk m.wantR n3, h1, h2, h5, ?_, ?_, m.low, fun k h => ⟨hn m.r n0 k h, hn m.wantP n1 k h, hn m.wantQ n2 k h, hn m.wantR n3 k h⟩⟩
  · refine m.below.trans (h3.below m.base fun k e => ?_)
    rcases e with e | e | e
    · rw [e]; exact m.low.1
    · rw [e]; exact m.low.2
    · exact (m.p.lt k e).1
  · have := h3.size
    have := m.base
    omega

theorem Mid3.set {B : Nat} {w0 w : World} {S G : Nat} {size at_ : Int} {name : ByteArray} {n2 : Nat} {bs : List Int} {n3 : Nat} {qs : List Int} {n5 : Nat} {rs : List Int} {wpa : Option Addr} {wpc : Nat} {wqa : Option Addr} {wqc : Nat} {wra : Option Addr} {wrc : Nat} {ra : Option Addr} {rc : Nat} {ga : Option Addr} {n1 gc : Nat} {cs : List Int} {ta : Option Addr} {tn tc : Nat} {xa : Option Addr} {xn xc : Nat}
    (m : Mid3 B w0 w S G size at_ name n2 bs n3 qs n5 rs wpa wpc wqa wqc wra wrc ra rc ga n1 gc cs ta tn tc xa xn xc) (a : Option Addr) (n c : Nat) :
    Mid3 B w0 (w.setCell ⟨S, 5, none⟩ (.slice a n c)) S G size at_ name n2 bs n3 qs n5 rs wpa wpc wqa wqc wra wrc ra rc ga n1 gc cs a n c xa xn xc := by
  have hS : ∀ {x : Option Addr} {n' c' : Nat} {ys : List Int}, Own B w x n' c' ys → Own B (w.setCell ⟨S, 5, none⟩ (.slice a n c)) x n' c' ys := fun h =>
    h.kept fun k hk => Below.heap_setCell _ _ _ _ fun e => m.wr.neS h (by rw [hk, e])
  refine ⟨hS m.r, hS m.wantP, hS m.wantQ, hS m.wantR, m.wr.put5 _ _ _, hS m.own, m.idx.imp (fun h => ⟨h.1, h.2.1, h.2.2.kept fun k cur hc => Below.heap_setCell _ _ _ _ (wr_ne61 m.wr hc).1⟩) id, m.below.setCell m.low.1 _, ?_, m.low, m.ne⟩
  have := m.base
  simpa [World.setCell] using this

theorem Mid3.more {B : Nat} {w0 w : World} {S G : Nat} {size at_ : Int} {name : ByteArray} {n2 : Nat} {bs : List Int} {n3 : Nat} {qs : List Int} {n5 : Nat} {rs : List Int} {wpa : Option Addr} {wpc : Nat} {wqa : Option Addr} {wqc : Nat} {wra : Option Addr} {wrc : Nat} {w' : World} {ra : Option Addr} {rc : Nat} {ga : Option Addr} {n1 gc : Nat} {cs : List Int} {ta : Option Addr} {tn tc : Nat} {xa : Option Addr} {xn xc : Nat} {n' : Nat} {cs' : List Int}
    (m : Mid3 B w0 w S G size at_ name n2 bs n3 qs n5 rs wpa wpc wqa wqc wra wrc ra rc ga n1 gc cs ta tn tc xa xn xc) (h : Done B w S G size name ga n' cs' xa xn xc w') :
    ∃ ga' gc' ta' tc', Mid3 B w0 w' S G size at_ name n2 bs n3 qs n5 rs wpa wpc wqa wqc wra wrc ra rc ga' n' gc' cs' ta' 0 tc' xa xn xc := by
  obtain ⟨pa', pc', qa', qc', h1, h2, h3, h4⟩ := h
  have hk : ∀ {x : Option Addr} {n c : Nat} {ys : List Int}, Own B w x n c ys → (∀ k, blk ga = some k → blk x ≠ some k) → Own B w' x n c ys := fun ho hn => h3.own ho fun k hk e => by
    rcases e with e | e
    · exact m.wr.neS ho (by rw [hk, e])
    · exact hn k e hk
  have hn : ∀ {x : Option Addr} {n c : Nat} {ys : List Int}, Own B w x n c ys → (∀ k, blk ga = some k → blk x ≠ some k) → ∀ k, blk pa' = some k → blk x ≠ some k := fun ho hn k hk e => by
    rcases h4 k hk with h | h
    · exact hn k h e
    · have := (ho.lt k e).2
      omega
  have n0 := fun k h => (m.ne k h).1
  have n1 := fun k h => (m.ne k h).2.1
  have n2 := fun k h => (m.ne k h).2.2.1
  have n3 := fun k h => (m.ne k h).2.2.2
  refine ⟨pa', pc', qa', qc', hk m.r n0, hk m.wantP n1, hk m.wantQ n2, hk m.wantR n3, h1, h2, m.idx.imp (fun h => ⟨h.1, h.2.1, h.2.2.kept fun k cur hc => h3.2 k (Array.getElem?_eq_some_iff.1 hc).1 fun e => ?_⟩) id, ?_, ?_, m.low, fun k h => ⟨hn m.r n0 k h, hn m.wantP n1 k h, hn m.wantQ n2 k h, hn m.wantR n3 k h⟩⟩
  · refine m.below.trans (h3.below m.base fun k e => ?_)
    rcases e with e | e
    · rw [e]; exact m.low.1
    · exact (m.own.lt k e).1
  · have := h3.size
    have := m.base
    omega
  · rcases e with e | e
    · exact (wr_ne61 m.wr hc).1 e
    · exact own_ne61 m.own hc e

theorem Mid3.later {B : Nat} {w0 w : World} {S G : Nat} {size at_ : Int} {name : ByteArray} {n2 : Nat} {bs : List Int} {n3 : Nat} {qs : List Int} {n5 : Nat} {rs : List Int} {wpa : Option Addr} {wpc : Nat} {wqa : Option Addr} {wqc : Nat} {wra : Option Addr} {wrc : Nat} {w' : World} {ra : Option Addr} {rc : Nat} {ga : Option Addr} {n1 gc : Nat} {cs : List Int} {ta : Option Addr} {tn tc : Nat} {xa : Option Addr} {xn xc : Nat}
    (m : Mid3 B w0 w S G size at_ name n2 bs n3 qs n5 rs wpa wpc wqa wqc wra wrc ra rc ga n1 gc cs ta tn tc xa xn xc) (h : Below w.heap.size w w') : Mid3 B w0 w' S G size at_ name n2 bs n3 qs n5 rs wpa wpc wqa wqc wra wrc ra rc ga n1 gc cs ta tn tc xa xn xc :=
  ⟨m.r.below h, m.wantP.below h, m.wantQ.below h, m.wantR.below h, m.wr.below h, m.own.below h, m.idx.imp (fun e => ⟨e.1, e.2.1, e.2.2.below h⟩) id, m.below.trans (h.mono m.base), Nat.le_trans m.base h.size, m.low, m.ne⟩
end Go.Proofs.Qxb6616327a

/- THE APPENDERS OVER 'Own'; frames by the set of blocks that may turn ('Kp'). -/
import Derived.Test.Qxb6616327aWalksB
import Derived.Deep.AppendLies
namespace Go.Proofs.Qxb6616327a
open Go.RowKit

/-- The bytes of x's varint, as numbers. -/
def vb (x : Nat) : List Int := (Lib.uvarint x).map fun b => (b.toNat : Int)
theorem vb_cells (x : Nat) : (vb x).map (Value.int .u8) = Lib.byteCells (Lib.uvarint x) := by simp [vb, Lib.byteCells]
theorem vb_length (x : Nat) : (vb x).length = (Lib.uvarint x).length := by simp [vb]
theorem vb_le {x : Nat} (h : x < 18446744073709551616) : (vb x).length ≤ 10 := by rw [vb_length]; exact Lib.uvarint_length64 h

theorem own_of {B : Nat} {w : World} {v : Value} {n : Nat} {bs : List Int} (hl : bs.length = n) (h : w.ownsRow B 5 1 v n (bs.map (Value.int .u8))) : ∃ a c, v = .slice a n c ∧ Own B w a n c bs := by
  rcases h.2 with ⟨rfl, rfl⟩ | ⟨g, cap, cur, rfl, r⟩
  · exact ⟨none, 0, rfl, hl, h⟩
  · exact ⟨_, cap, rfl, hl, h⟩

theorem uvar_own (B x : Nat) (hx : x < 18446744073709551616) (a : Option Addr) (n c : Nat) (bs : List Int) (w : World) (h : Own B w a n c bs) (hB : B ≤ w.heap.size) (hn : n ≤ 8388608) :
    Calls Try.prog 23 #[.slice a n c, .int .u64 x] w fun e w' => ∃ a' c', e = .returned (.slice a' (n + (vb x).length) c') ∧ Own B w' a' (n + (vb x).length) c' (bs ++ vb x) ∧ w.grownBy w' (blk a) ∧ FreshA w a a' := by
  refine (uvar_app B n x hx (.slice a n c) (bs.map (Value.int .u8)) w h.2 hB (by omega)).mono ?_
  rintro e w' ⟨v', rfl, ho, hg, hf⟩
  rw [← vb_cells, ← List.map_append, ← vb_length] at ho
  obtain ⟨a', c', rfl, ho'⟩ := own_of (by simp [h.1]) ho
  rw [ownBlock_slice] at hg
  exact ⟨a', c', rfl, ho', hg, fun k hk => by have := hf k (by rw [ownBlock_slice]; exact hk); rw [ownBlock_slice] at this; exact this⟩
theorem var_own (B : Nat) (x : Int) (h0 : -9223372036854775808 ≤ x) (h1 : x ≤ 9223372036854775807) (a : Option Addr) (n c : Nat) (bs : List Int) (w : World) (h : Own B w a n c bs) (hB : B ≤ w.heap.size) (hn : n ≤ 8388608) :
    Calls Try.prog 22 #[.slice a n c, .int .i64 x] w fun e w' => ∃ a' c', e = .returned (.slice a' (n + (vb (Lib.zigzag x)).length) c') ∧ Own B w' a' (n + (vb (Lib.zigzag x)).length) c' (bs ++ vb (Lib.zigzag x)) ∧ w.grownBy w' (blk a) ∧ FreshA w a a' := by
  refine (var_app B n x h0 h1 (.slice a n c) (bs.map (Value.int .u8)) w h.2 hB (by omega)).mono ?_
  rintro e w' ⟨v', rfl, ho, hg, hf⟩
  rw [← vb_cells, ← List.map_append, ← vb_length] at ho
  obtain ⟨a', c', rfl, ho'⟩ := own_of (by simp [h.1]) ho
  rw [ownBlock_slice] at hg
  exact ⟨a', c', rfl, ho', hg, fun k hk => by have := hf k (by rw [ownBlock_slice]; exact hk); rw [ownBlock_slice] at this; exact this⟩

/-- From w to w' no block has turned but those of X; nothing else has turned. -/
def Kp (X : Nat → Prop) (w w' : World) : Prop := Below 0 w w' ∧ ∀ k, k < w.heap.size → ¬ X k → w'.heap[k]? = w.heap[k]?
namespace Kp
variable {X Y : Nat → Prop} {a b c : World}
theorem refl (X : Nat → Prop) (a : World) : Kp X a a := ⟨Below.refl _ _, fun _ _ _ => rfl⟩
theorem size (h : Kp X a b) : a.heap.size ≤ b.heap.size := h.1.size
theorem trans (h : Kp X a b) (k : Kp Y b c) (hY : ∀ i, i < a.heap.size → Y i → X i) : Kp X a c :=
  ⟨h.1.trans k.1, fun i hi hx => (k.2 i (Nat.lt_of_lt_of_le hi h.size) (fun y => hx (hY i hi y))).trans (h.2 i hi hx)⟩
theorem mono (h : Kp X a b) (hX : ∀ i, i < a.heap.size → X i → Y i) : Kp Y a b := ⟨h.1, fun i hi hy => h.2 i hi fun x => hy (hX i hi x)⟩
theorem drew (h : Kp X a b) : Kp X a b.drew := ⟨h.1.drew, h.2⟩
theorem alloc (h : Kp X a b) (o : Obj) : Kp X a (b.alloc o) :=
  ⟨h.1.alloc (Nat.zero_le _) o, fun i hi hx => (Below.heap_alloc b o i (Nat.lt_of_lt_of_le hi h.size)).trans (h.2 i hi hx)⟩
theorem setCell (h : Kp X a b) {p : Addr} (hp : p.block < a.heap.size → X p.block) (v : Value) : Kp X a (b.setCell p v) :=
  ⟨h.1.setCell (Nat.zero_le _) v, fun i hi hx => (Below.heap_setCell b p v i (fun e => hx (e ▸ hp (e ▸ hi)))).trans (h.2 i hi hx)⟩
theorem grown (h : Kp X a b) {row : Option Nat} (hg : b.grownBy c row) (hr : ∀ k, row = some k → k < a.heap.size → X k) : Kp X a c :=
  h.trans ⟨⟨hg.os, hg.tape, hg.output, hg.size, fun _ hk => absurd hk (Nat.not_lt_zero _)⟩, fun k hk hy => hg.block k hk (fun e => hy e.symm)⟩ (Y := fun k => row = some k) fun i hi e => hr i e hi
theorem below (h : Kp X a b) {B : Nat} (hB : B ≤ a.heap.size) (hX : ∀ k, X k → B ≤ k) : Below B a b :=
  ⟨h.1.os, h.1.tape, h.1.output, h.1.size, fun k hk => h.2 k (by omega) fun x => by have := hX k x; omega⟩
theorem own (h : Kp X a b) {B : Nat} {x : Option Addr} {n c : Nat} {bs : List Int} (ho : Own B a x n c bs) (hx : ∀ k, blk x = some k → ¬ X k) : Own B b x n c bs :=
  ho.kept fun k hk => h.2 k (ho.lt k hk).2 (hx k hk)
end Kp
theorem FreshA.trans {w w1 : World} {a b c : Option Addr} (h : FreshA w a b) (k : FreshA w1 b c) (hs : w.heap.size ≤ w1.heap.size) : FreshA w a c := by
  intro i hi
  rcases k i hi with h1 | h1
  · exact h i h1
  · right; omega
end Go.Proofs.Qxb6616327a

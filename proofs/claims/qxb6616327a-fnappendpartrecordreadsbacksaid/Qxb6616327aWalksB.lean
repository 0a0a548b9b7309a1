/- BYTES THAT THE CALL OWNS ('Own'); the contracts of zzClone (6), ZZnewSegWriter (7). -/
import Derived.Test.Qxb6616327aWalksA
import Derived.Laws.CopyOwn
namespace Go.Proofs.Qxb6616327a
open Go.RowKit

/-- The block in which a slice at this address lies. -/
def blk : Option Addr → Option Nat
  | some a => some a.block
  | none => none
theorem ownBlock_slice (a : Option Addr) (n c : Nat) : (Value.slice a n c).ownBlock = blk a := by cases a <;> rfl

/-- The slice '.slice a n c' owns the bytes bs, in a row among the blocks from B on (or it is nil). -/
def Own (B : Nat) (w : World) (a : Option Addr) (n c : Nat) (bs : List Int) : Prop :=
  bs.length = n ∧ w.ownsRow B 5 1 (.slice a n c) n (bs.map (Value.int .u8))
/-- The slice at a reads as the bytes bs. -/
def Src (w : World) (a : Option Addr) (n : Nat) (bs : List Int) : Prop :=
  bs.length = n ∧ (a = none → n = 0) ∧ ∀ i, i < n → ∃ b off : Nat, a = some ⟨b, off, none⟩ ∧ b < w.heap.size ∧ ∀ j, j < n → w.cell? ⟨b, off + j, none⟩ = some (.int .u8 (bs.getD j 0))
/-- The new address lies in the old one's row, or in a new block. -/
def FreshA (w : World) (a a' : Option Addr) : Prop := ∀ k, blk a' = some k → blk a = some k ∨ w.heap.size ≤ k

theorem map_getD (bs : List Int) (j : Nat) (hj : j < bs.length) : (bs.map (Value.int .u8))[j]? = some (.int .u8 (bs.getD j 0)) := by
  simp [hj]

namespace Own
variable {B : Nat} {w : World} {a : Option Addr} {n c : Nat} {bs : List Int}
theorem len (h : Own B w a n c bs) : bs.length = n := h.1
theorem lt (h : Own B w a n c bs) : ∀ k, blk a = some k → B ≤ k ∧ k < w.heap.size := fun k hk => h.2.lt k (by rw [ownBlock_slice]; exact hk)
theorem at_ (h : Own B w a n c bs) (hn : 0 < n) : ∃ g : Nat, a = some ⟨g, 0, none⟩ ∧ g < w.heap.size ∧ B ≤ g ∧ ∀ j, j < n → w.cell? ⟨g, j, none⟩ = some (.int .u8 (bs.getD j 0)) := by
  rcases h.2.2 with ⟨hv, h0⟩ | ⟨g, cap, cur, hv, hb, hg, hnc, hcm, hcs, htake⟩
  · omega
  · obtain ⟨rfl, _, rfl⟩ : a = some ⟨g, 0, none⟩ ∧ n = n ∧ c = cap := by simpa using hv
    refine ⟨g, rfl, (Array.getElem?_eq_some_iff.1 hg).1, hb, fun j hj => ?_⟩
    have := h.2.cells (g := g) rfl j (.int .u8 (bs.getD j 0)) (map_getD bs j (by rw [h.1]; exact hj))
    have hadd : (⟨g, 0, none⟩ : Addr).add j = ⟨g, j, none⟩ := by unfold Addr.add; split <;> simp_all
    rw [hadd] at this
    exact this
theorem nil0 (h : Own B w none n c bs) : n = 0 := by
  rcases h.2.2 with ⟨_, h0⟩ | ⟨g, cap, cur, hv, _⟩
  · exact h0
  · simp at hv
theorem src (h : Own B w a n c bs) : Src w a n bs := by
  refine ⟨h.1, fun e => by subst e; exact h.nil0, fun i hi => ?_⟩
  obtain ⟨g, hg, hlt, _, hc⟩ := h.at_ (by omega)
  exact ⟨g, 0, hg, hlt, fun j hj => by rw [Nat.zero_add]; exact hc j hj⟩
/-- The row stands where its block stands. -/
theorem kept {w' : World} (h : Own B w a n c bs) (hk : ∀ k, blk a = some k → w'.heap[k]? = w.heap[k]?) : Own B w' a n c bs := by
  refine ⟨h.1, h.2.1, ?_⟩
  rcases h.2.2 with hn | ⟨g, cap, cur, hv, hb, hg, r⟩
  · exact .inl hn
  · refine .inr ⟨g, cap, cur, hv, hb, ?_, r⟩
    obtain ⟨rfl, _⟩ : a = some ⟨g, 0, none⟩ ∧ c = cap := by simpa using hv
    rw [hk g rfl]
    exact hg
theorem below {w' : World} (h : Own B w a n c bs) (hb : Below w.heap.size w w') : Own B w' a n c bs := h.kept fun k hk => hb.block k (h.lt k hk).2
theorem nil (B : Nat) (w : World) : Own B w none 0 0 [] := ⟨rfl, World.ownsRow_nil w B 5 1⟩
end Own
theorem Src.below {w w' : World} {a : Option Addr} {n : Nat} {bs : List Int} (h : Src w a n bs) (hb : Below w.heap.size w w') : Src w' a n bs := by
  refine ⟨h.1, h.2.1, fun i hi => ?_⟩
  obtain ⟨b, off, ha, hlt, hc⟩ := h.2.2 i hi
  have := hb.size
  exact ⟨b, off, ha, by omega, fun j hj => (hb.cell (p := ⟨b, off + j, none⟩) hlt).trans (hc j hj)⟩

theorem src_cells {w : World} {x : Addr} {n : Nat} {bs : List Int} (h : Src w (some x) n bs) (j : Nat) (v : Int) (hv : bs[j]? = some v) : w.cell? (x.add j) = some (.int .u8 v) := by
  obtain ⟨hj, rfl⟩ := List.getElem?_eq_some_iff.1 hv
  have hn := h.1
  obtain ⟨b, off, hx, hlt, hc⟩ := h.2.2 j (by omega)
  obtain rfl : x = ⟨b, off, none⟩ := by simpa using hx
  rw [Go.WideShapes.add_plain, hc j (by omega)]
  simp [hj]

/-- zzClone: the same bytes, in a row of their own. -/
theorem clone_nil (w : World) : Calls Try.prog 6 #[.slice none 0 0] w fun e w' => e = .returned (.slice none 0 0) ∧ w' = w := by
  have hnil : ∀ (w : World) (a : Option Addr) (n c : Nat), (binOp .eql 22 (.slice a n c) (.slice none 0 0)).run Try.prog w = .ok (.bool a.isNone) w := fun w a n c => Lib.run_eql_slice_nil w _ _ a n c 0 0 Try.underlying22
  go_enter Try.func6, Try.ntmps6
  go_wp2
  go_ret
  exact ⟨rfl, rfl⟩
theorem clone_some (x : Addr) (n cap : Nat) (bs : List Int) (w : World) (hn : n ≤ 1048576) (hs : Src w (some x) n bs) :
    Calls Try.prog 6 #[.slice (some x) n cap] w fun e w' => e = .returned (.slice (some ⟨w.heap.size, 0, none⟩) n n) ∧ Hid (w'.heap[w.heap.size]? = some (.cells (bs.map (Value.int .u8)).toArray 5 (0, 0))) ∧ Below w.heap.size w w' := by
  have hmk := run_make_row' (P := Try.prog) 22 5 (.int .u8 0) 1 Try.underlying22 info5 rfl .i64 .i64 n (by omega) (by omega)
  have hnil : ∀ (w : World) (a : Option Addr) (n c : Nat), (binOp .eql 22 (.slice a n c) (.slice none 0 0)).run Try.prog w = .ok (.bool a.isNone) w := fun w a n c => Lib.run_eql_slice_nil w _ _ a n c 0 0 Try.underlying22
  have HS : Hid (Src w (some x) n bs) := hs
  clear hs
  go_enter Try.func6, Try.ntmps6
  go_wp2_with (refine wpList_copy_splice rfl _ _ 22 22 rfl 5 Try.underlying22 (by kernel_rfl) _ _ _ _ _ _ rfl rfl w.heap.size 0 (madeCells #[.int .u8 0] n).toList 5 ?c1 (bs.map (Value.int .u8)) ?c2 ?c3 ?c4 ?c5 w.heap.size w ?c6 (Nat.le_refl _) ?_)
  case c1 => simpa using heap_alloc_new w _
  case c2 => simp [HS.out.1]
  case c3 =>
    intro h0 j v hv
    have h1 := src_cells HS.out j v hv
    exact cell_later ((Below.refl _ _).alloc (Nat.le_refl _) _) h1
  case c4 => simp [HS.out.1, size_madeCells]
  case c5 => intro v hv; obtain ⟨_, _, rfl⟩ := List.mem_map.1 hv; rfl
  case c6 => exact (Below.refl _ _).alloc (Nat.le_refl _) _
  intro w2 hg2 hb2
  go_wp2
  go_ret
  refine ⟨rfl, ?_, hb2⟩
  have e : splice (madeCells #[.int .u8 0] n).toList 0 (bs.map (Value.int .u8)) = bs.map (Value.int .u8) := by
    simp [splice, HS.out.1, size_madeCells]
  rw [e] at hg2
  exact hg2

theorem own_new {B : Nat} {w' : World} {g n : Nat} {bs : List Int} (hl : bs.length = n) (hn : n ≤ 1048576) (hB : B ≤ g) (h : w'.heap[g]? = some (.cells (bs.map (Value.int .u8)).toArray 5 (0, 0))) : Own B w' (some ⟨g, 0, none⟩) n n bs :=
  ⟨hl, by simpa using hl, .inr ⟨g, n, _, rfl, hB, h, Nat.le_refl _, by unfold maxLen; omega, by simpa using hl, by rw [Nat.mul_one]; exact List.take_of_length_le (by simp [hl])⟩⟩

theorem clone_any (B : Nat) (a : Option Addr) (n cap : Nat) (hc : a = none → cap = 0) (bs : List Int) (w : World) (hB : B ≤ w.heap.size) (hn : n ≤ 1048576) (hs : Src w a n bs) :
    Calls Try.prog 6 #[.slice a n cap] w fun e w' => ∃ a' c', e = .returned (.slice a' n c') ∧ Own B w' a' n c' bs ∧ Below w.heap.size w w' ∧ (∀ k, blk a' = some k → w.heap.size ≤ k) ∧ (a' = none → c' = 0) := by
  cases a with
  | none =>
    obtain rfl : n = 0 := hs.2.1 rfl
    obtain rfl : cap = 0 := hc rfl
    obtain rfl : bs = [] := List.eq_nil_of_length_eq_zero hs.1
    refine (clone_nil w).mono ?_
    rintro e w' ⟨rfl, rfl⟩
    exact ⟨none, 0, rfl, Own.nil _ _, Below.refl _ _, (fun k hk => by cases hk), fun _ => rfl⟩
  | some x =>
    refine (clone_some x n cap bs w hn hs).mono ?_
    rintro e w' ⟨rfl, hg, hb⟩
    exact ⟨_, n, rfl, own_new hs.1 hn hB hg.out, hb, (fun k hk => by simp [blk] at hk; omega), fun h => by cases h⟩

/-- The segWriter in block S, its segment in block G: the fields that the laws speak of. -/
def Wr (w : World) (S G : Nat) (size : Int) (name : ByteArray) (pa : Option Addr) (pn pc : Nat) (qa : Option Addr) (qn qc : Nat) (xa : Option Addr) (xn xc : Nat) : Prop :=
  w.rowIs S 51 7 (fun j => if j = 0 then .pointer none else if j = 1 then .pointer (some ⟨G, 0, none⟩) else if j = 2 then .int .i64 size else if j = 3 then .string name else if j = 4 then .slice pa pn pc else if j = 5 then .slice qa qn qc else .slice none 0 0) ∧
  w.rowIs G 48 11 (fun j => if j = 0 then .string { data := #[] } else if j = 1 then .int .u64 0 else if j = 6 then .slice xa xn xc else if j = 7 then .int .i32 0 else if j = 8 then .int .u32 0 else if j = 10 then .bool false else .int .i64 0)
namespace Wr
variable {w : World} {S G : Nat} {size : Int} {name : ByteArray} {pa qa xa : Option Addr} {pn pc qn qc xn xc : Nat}
theorem c1 (h : Wr w S G size name pa pn pc qa qn qc xa xn xc) : w.cell? ⟨S, 1, none⟩ = some (.pointer (some ⟨G, 0, none⟩)) := by simpa using h.1.cell (i := 1) (by omega)
theorem c2 (h : Wr w S G size name pa pn pc qa qn qc xa xn xc) : w.cell? ⟨S, 2, none⟩ = some (.int .i64 size) := by simpa using h.1.cell (i := 2) (by omega)
theorem c3 (h : Wr w S G size name pa pn pc qa qn qc xa xn xc) : w.cell? ⟨S, 3, none⟩ = some (.string name) := by simpa using h.1.cell (i := 3) (by omega)
theorem c4 (h : Wr w S G size name pa pn pc qa qn qc xa xn xc) : w.cell? ⟨S, 4, none⟩ = some (.slice pa pn pc) := by simpa using h.1.cell (i := 4) (by omega)
theorem c5 (h : Wr w S G size name pa pn pc qa qn qc xa xn xc) : w.cell? ⟨S, 5, none⟩ = some (.slice qa qn qc) := by simpa using h.1.cell (i := 5) (by omega)
theorem g6 (h : Wr w S G size name pa pn pc qa qn qc xa xn xc) : w.cell? ⟨G, 6, none⟩ = some (.slice xa xn xc) := by simpa using h.2.cell (i := 6) (by omega)
theorem fS (h : Wr w S G size name pa pn pc qa qn qc xa xn xc) (j : Nat) : w.frozen? ⟨S, j, none⟩ = false := h.1.frozen j
theorem fG (h : Wr w S G size name pa pn pc qa qn qc xa xn xc) (j : Nat) : w.frozen? ⟨G, j, none⟩ = false := h.2.frozen j
theorem ltS (h : Wr w S G size name pa pn pc qa qn qc xa xn xc) : S < w.heap.size := h.1.lt
theorem ltG (h : Wr w S G size name pa pn pc qa qn qc xa xn xc) : G < w.heap.size := h.2.lt
theorem kept {w' : World} (h : Wr w S G size name pa pn pc qa qn qc xa xn xc) (hS : w'.heap[S]? = w.heap[S]?) (hG : w'.heap[G]? = w.heap[G]?) : Wr w' S G size name pa pn pc qa qn qc xa xn xc := ⟨h.1.of_block hS, h.2.of_block hG⟩
theorem below {w' : World} (h : Wr w S G size name pa pn pc qa qn qc xa xn xc) (hb : Below w.heap.size w w') : Wr w' S G size name pa pn pc qa qn qc xa xn xc := h.kept (hb.block _ h.ltS) (hb.block _ h.ltG)
/-- A row of bytes is neither the writer nor the segment. -/
theorem neS (h : Wr w S G size name pa pn pc qa qn qc xa xn xc) {B : Nat} {a : Option Addr} {n c : Nat} {bs : List Int} (ho : Own B w a n c bs) : blk a ≠ some S := by
  intro e
  obtain ⟨cs, hb, _⟩ := h.1
  rcases ho.2.2 with ⟨hv, _⟩ | ⟨g, cap, cur, hv, _, hg, _⟩
  · obtain ⟨rfl, _⟩ : a = none ∧ c = 0 := by simp at hv; exact ⟨hv.1, hv.2.2⟩
    cases e
  · obtain ⟨rfl, _⟩ : a = some ⟨g, 0, none⟩ ∧ c = cap := by simpa using hv
    simp [blk] at e
    subst e
    rw [hb] at hg
    simp at hg
theorem neG (h : Wr w S G size name pa pn pc qa qn qc xa xn xc) {B : Nat} {a : Option Addr} {n c : Nat} {bs : List Int} (ho : Own B w a n c bs) : blk a ≠ some G := by
  intro e
  obtain ⟨cs, hb, _⟩ := h.2
  rcases ho.2.2 with ⟨hv, _⟩ | ⟨g, cap, cur, hv, _, hg, _⟩
  · obtain ⟨rfl, _⟩ : a = none ∧ c = 0 := by simp at hv; exact ⟨hv.1, hv.2.2⟩
    cases e
  · obtain ⟨rfl, _⟩ : a = some ⟨g, 0, none⟩ ∧ c = cap := by simpa using hv
    simp [blk] at e
    subst e
    rw [hb] at hg
    simp at hg
theorem neSG (h : Wr w S G size name pa pn pc qa qn qc xa xn xc) : S ≠ G := by
  rintro rfl
  obtain ⟨cs, hb, _⟩ := h.1
  obtain ⟨cs', hb', _⟩ := h.2
  rw [hb] at hb'
  simp at hb'
/-- The payload stored anew. -/
theorem put4 (h : Wr w S G size name pa pn pc qa qn qc xa xn xc) (a : Option Addr) (n c : Nat) : Wr (w.setCell ⟨S, 4, none⟩ (.slice a n c)) S G size name a n c qa qn qc xa xn xc := by
  refine ⟨(h.1.set 4 _).congr fun j _ => ?_, h.2.setOther h.neSG.symm _⟩
  by_cases e : j = 4
  · simp [e]
  · simp [e]
theorem put5 (h : Wr w S G size name pa pn pc qa qn qc xa xn xc) (a : Option Addr) (n c : Nat) : Wr (w.setCell ⟨S, 5, none⟩ (.slice a n c)) S G size name pa pn pc a n c xa xn xc := by
  refine ⟨(h.1.set 5 _).congr fun j _ => ?_, h.2.setOther h.neSG.symm _⟩
  by_cases e : j = 5
  · simp [e]
  · simp [e]
theorem put6 (h : Wr w S G size name pa pn pc qa qn qc xa xn xc) (a : Option Addr) (n c : Nat) : Wr (w.setCell ⟨G, 6, none⟩ (.slice a n c)) S G size name pa pn pc qa qn qc a n c := by
  refine ⟨h.1.setOther h.neSG _, (h.2.set 6 _).congr fun j _ => ?_⟩
  by_cases e : j = 6
  · simp [e]
  · simp [e]
end Wr

/-- ZZnewSegWriter. -/
theorem new_any (size : Int) (name : ByteArray) (pa : Option Addr) (pn pc : Nat) (qa : Option Addr) (qn qc : Nat) (w : World) :
    Calls Try.prog 7 #[.int .i64 size, .string name, .slice pa pn pc, .slice qa qn qc] w fun e w' => ∃ S G : Nat, e = .returned (.pointer (some ⟨S, 0, none⟩)) ∧ Wr w' S G size name pa pn pc qa qn qc none 0 0 ∧ Below w.heap.size w w' ∧ w.heap.size ≤ S ∧ w.heap.size ≤ G := by
  go_enter Try.func7, Try.ntmps7
  go_wp2
  go_ret
  refine ⟨w.heap.size + 1, w.heap.size, rfl, ⟨?_, ?_⟩, ((Below.refl _ _).alloc (Nat.le_refl _) _).alloc (by simp) _, by omega, Nat.le_refl _⟩
  · have h := World.rowIs_alloc (w.alloc (.cells #[.string { data := #[] }, .int .u64 0, .int .i64 0, .int .i64 0, .int .i64 0, .int .i64 0, .slice none 0 0, .int .i32 0, .int .u32 0, .int .i64 0, .bool false] 48)) #[.pointer none, .pointer (some ⟨w.heap.size, 0, none⟩), .int .i64 size, .string name, .slice pa pn pc, .slice qa qn qc, .slice none 0 0] 51 (fun j => if j = 0 then .pointer none else if j = 1 then .pointer (some ⟨w.heap.size, 0, none⟩) else if j = 2 then .int .i64 size else if j = 3 then .string name else if j = 4 then .slice pa pn pc else if j = 5 then .slice qa qn qc else .slice none 0 0) (by
      intro i hi
      match i, hi with
      | 0, _ => simp
      | 1, _ => simp
      | 2, _ => simp
      | 3, _ => simp
      | 4, _ => simp
      | 5, _ => simp
      | 6, _ => simp)
    rw [World.size_alloc] at h
    exact h
  · refine World.rowIs.alloc ?_ _
    exact World.rowIs_alloc w #[.string { data := #[] }, .int .u64 0, .int .i64 0, .int .i64 0, .int .i64 0, .int .i64 0, .slice none 0 0, .int .i32 0, .int .u32 0, .int .i64 0, .bool false] 48 _ (by
      intro i hi
      match i, hi with
      | 0, _ => simp
      | 1, _ => simp
      | 2, _ => simp
      | 3, _ => simp
      | 4, _ => simp
      | 5, _ => simp
      | 6, _ => simp
      | 7, _ => simp
      | 8, _ => simp
      | 9, _ => simp
      | 10, _ => simp)
end Go.Proofs.Qxb6616327a

/- INSIDE appendPart: what holds between its statements ('Mid'); 'append(payload, part...)' as a step of a region that draws. -/
import Derived.Test.Qxb6616327aWalksC
import Derived.Laws.AppendOwnNone
namespace Go.Proofs.Qxb6616327a
open Go.RowKit

/-- append(p, q...), both the call's own; q nil or not. -/
theorem run_app (w : World) (ty : TypeId) (B : Nat) (a : Option Addr) (n c : Nat) (bs : List Int) (ho : Own B w a n c bs) (qa : Option Addr) (qn qc : Nat) (qs : List Int) (hq : Own B w qa qn qc qs) (hB : B ≤ w.heap.size) (hn : n + qn ≤ 8388608) :
    ∃ a' c' w', (Builtin.append_ #[22, 22] ty #[.slice a n c, .slice qa qn qc]).run Try.prog w = .ok (.slice a' (n + qn) c') w' ∧ Own B w' a' (n + qn) c' (bs ++ qs) ∧ w.grownBy w' (blk a) ∧ FreshA w a a' := by
  obtain ⟨i0, hi, hz0, hz1, hz2⟩ := info_parts info5
  cases qa with
  | none =>
    obtain rfl : qn = 0 := hq.nil0
    obtain rfl : qc = 0 := by
      rcases hq.2.2 with ⟨h, _⟩ | ⟨g, cap, cur, hv, _⟩
      · simpa using h
      · simp at hv
    obtain rfl : qs = [] := List.eq_nil_of_length_eq_zero hq.1
    refine ⟨a, c, w, run_append_owned_none (P := Try.prog) (w := w) B 22 ty 5 i0 1 Try.underlying22 hi _ n _ ho.2, ?_, World.grownBy.refl _ _, fun k hk => .inl hk⟩
    simpa using ho
  | some x =>
    obtain ⟨v', w', hr, h2, h3, _, h5⟩ := run_append_own_at (P := Try.prog) w B 22 ty 5 i0 (.int .u8 0) 1 1 Try.underlying22 hi hz0 hz1 hz2 rfl (by decide) (.slice a n c) n (bs.map (Value.int .u8)) ho.2 x qn qc (qs.map (Value.int .u8))
      (by simp [hq.1]) (fun j u hu => by
        have hj : j < qs.length := by have := (List.getElem?_eq_some_iff.1 hu).1; simpa using this
        rw [map_getD qs j hj] at hu
        obtain rfl := Option.some.inj hu
        exact src_cells hq.src j _ (by simp [hj])) (fun u hu => by obtain ⟨_, _, rfl⟩ := List.mem_map.1 hu; rfl) (by unfold maxLen; omega) (by omega) hB
    rw [← List.map_append] at h2
    obtain ⟨a', c', rfl, h2'⟩ := own_of (by simp [ho.1, hq.1]) h2
    rw [ownBlock_slice] at h3
    refine ⟨a', c', w', hr, h2', h3, fun k hk => ?_⟩
    rw [ownBlock_slice, ownBlock_slice] at h5
    rcases h5 with h5 | h5
    · exact .inl (by rw [← h5]; exact hk)
    · rw [h5] at hk
      simp at hk
      right
      omega

theorem step_app {ops : Array Oper} {o : Oper} {act : Act} {w : World} {K : Act → World → Prop} {Q : Exit → Act → World → Prop} {E : Prop} (hgd : o.guard = none) (s x : Operand)
    (hop : o.op = .call { callee := .builtin .append, args := #[s, x], argTypes := #[22, 22] })
    (B : Nat) (a : Option Addr) (n c : Nat) (bs : List Int) (qa : Option Addr) (qn qc : Nat) (qs : List Int) (hs : act.eval s = .slice a n c) (hx : act.eval x = .slice qa qn qc)
    (ho : Own B w a n c bs) (hq : Own B w qa qn qc qs) (hB : B ≤ w.heap.size) (hn : n + qn ≤ 8388608)
    (h : ∀ a' c' w', Own B w' a' (n + qn) c' (bs ++ qs) → w.grownBy w' (blk a) → FreshA w a a' → K (act.put o.dst (.slice a' (n + qn) c')) w') :
    if Region.wanted o (yielded ops act.tmps) = true then Oper.wp Try.prog o act w K Q else E := by
  have hw : Region.wanted o (yielded ops act.tmps) = true := by simp [Region.wanted, hgd]
  rw [if_pos hw]
  obtain ⟨a', c', w', hr, h2, h3, h4⟩ := run_app w o.type B a n c bs ho qa qn qc qs hq hB hn
  unfold Oper.wp execOp
  simp only [hop, resolve, invoke, builtin, Sem.run_bind, Sem.run_pure, Result.andThen_ok, List.map_toArray, List.map_cons, List.map_nil, hs, hx, hr]
  exact h a' c' w' h2 h3 h4

/-- Between two statements of appendPart: wI the world behind the index's statement. -/
structure Mid (B : Nat) (wI : World) (p0 : Option Addr) (S G : Nat) (size : Int) (name : ByteArray) (w : World) (pa : Option Addr) (pn pc : Nat) (bs : List Int) (qa : Option Addr) (qn qc : Nat) (qs : List Int) (xa : Option Addr) (xn xc : Nat) : Prop where
  wr : Wr w S G size name pa pn pc qa qn qc xa xn xc
  own : Own B w pa pn pc bs
  src : Own B w qa qn qc qs
  ne : ∀ k, blk pa = some k → blk qa ≠ some k
  base : B ≤ w.heap.size
  kp : Kp (fun k => k = S ∨ blk p0 = some k) wI w
  fresh : FreshA wI p0 pa

namespace Mid
variable {B : Nat} {wI : World} {p0 : Option Addr} {S G : Nat} {size : Int} {name : ByteArray} {w : World} {pa : Option Addr} {pn pc : Nat} {bs : List Int} {qa : Option Addr} {qn qc : Nat} {qs : List Int} {xa : Option Addr} {xn xc : Nat}
theorem drew (m : Mid B wI p0 S G size name w pa pn pc bs qa qn qc qs xa xn xc) : Mid B wI p0 S G size name w.drew pa pn pc bs qa qn qc qs xa xn xc :=
  ⟨⟨m.wr.1.drew, m.wr.2.drew⟩, m.own, m.src, m.ne, m.base, m.kp.drew, m.fresh⟩
theorem wr2 (m : Mid B wI p0 S G size name w pa pn pc bs qa qn qc qs xa xn xc) {w2 : World} (hg : w.grownBy w2 (blk pa)) : Wr w2 S G size name pa pn pc qa qn qc xa xn xc :=
  m.wr.kept (hg.block _ m.wr.ltS (m.wr.neS m.own).symm) (hg.block _ m.wr.ltG (m.wr.neG m.own).symm)
theorem src2 (m : Mid B wI p0 S G size name w pa pn pc bs qa qn qc qs xa xn xc) {w2 : World} (hg : w.grownBy w2 (blk pa)) : Own B w2 qa qn qc qs :=
  m.src.kept fun k hk => hg.block k (m.src.lt k hk).2 fun e => m.ne k e.symm hk
/-- p has been appended to, and stored anew. -/
theorem app (m : Mid B wI p0 S G size name w pa pn pc bs qa qn qc qs xa xn xc) {w2 : World} {a' : Option Addr} {n' c' : Nat} {bs' : List Int} (ho : Own B w2 a' n' c' bs') (hg : w.grownBy w2 (blk pa)) (hf : FreshA w pa a') :
    Mid B wI p0 S G size name (w2.setCell ⟨S, 4, none⟩ (.slice a' n' c')) a' n' c' bs' qa qn qc qs xa xn xc := by
  have h2 := m.wr2 hg
  have hS : ∀ {x : Option Addr} {n c : Nat} {ys : List Int}, Own B w2 x n c ys → Own B (w2.setCell ⟨S, 4, none⟩ (.slice a' n' c')) x n c ys := fun h =>
    h.kept fun k hk => Below.heap_setCell _ _ _ _ fun e => h2.neS h (by rw [hk, e])
  refine ⟨h2.put4 _ _ _, hS ho, hS (m.src2 hg), fun k hk hq => ?_, ?_, ?_, ?_⟩
  · rcases hf k hk with h | h
    · exact m.ne k h hq
    · have := (m.src.lt k hq).2
      omega
  · have h1 := hg.size
    have h3 := m.base
    simp [World.setCell]
    omega
  · refine (m.kp.grown hg fun k hk hlt => ?_).setCell (fun _ => .inl rfl) _
    rcases m.fresh k hk with h | h
    · exact .inr h
    · omega
  · exact m.fresh.trans hf m.kp.size
/-- part = part[:0]. -/
theorem cut (m : Mid B wI p0 S G size name w pa pn pc bs qa qn qc qs xa xn xc) (a : Option Addr) (n c : Nat) :
    Wr (w.setCell ⟨S, 5, none⟩ (.slice a n c)) S G size name pa pn pc a n c xa xn xc ∧ Own B (w.setCell ⟨S, 5, none⟩ (.slice a n c)) pa pn pc bs ∧ Kp (fun k => k = S ∨ blk p0 = some k) wI (w.setCell ⟨S, 5, none⟩ (.slice a n c)) ∧ FreshA wI p0 pa :=
  ⟨m.wr.put5 _ _ _, m.own.kept fun _ hk => Below.heap_setCell _ _ _ _ fun e => m.wr.neS m.own (by rw [hk, e]), m.kp.setCell (fun _ => .inl rfl) _, m.fresh⟩
theorem start (hw : Wr w S G size name pa pn pc qa qn qc xa xn xc) (ho : Own B w pa pn pc bs) (hq : Own B w qa qn qc qs) (hne : ∀ k, blk pa = some k → blk qa ≠ some k) (hB : B ≤ w.heap.size) :
    Mid B w pa S G size name w pa pn pc bs qa qn qc qs xa xn xc := ⟨hw, ho, hq, hne, hB, Kp.refl _ _, fun _ hk => .inl hk⟩
end Mid

/-- The one entry of the index. -/
def Idx (w : World) (xa : Option Addr) (name : ByteArray) (at_ size : Int) : Prop :=
  ∃ g cur, xa = some ⟨g, 0, none⟩ ∧ w.heap[g]? = some (.cells cur 61 (0, 0)) ∧ cur[0]? = some (.string name) ∧ cur[1]? = some (.int .i64 at_) ∧ cur[2]? = some (.int .i64 size)
theorem Idx.kept {w w' : World} {xa : Option Addr} {name : ByteArray} {at_ size : Int} (h : Idx w xa name at_ size) (hk : ∀ (k : Nat) (cur : Array Value), w.heap[k]? = some (Obj.cells cur 61 (0, 0)) → w'.heap[k]? = w.heap[k]?) : Idx w' xa name at_ size := by
  obtain ⟨g, cur, hx, hg, r⟩ := h
  exact ⟨g, cur, hx, (hk g cur hg).trans hg, r⟩
theorem Idx.below {w w' : World} {xa : Option Addr} {name : ByteArray} {at_ size : Int} (h : Idx w xa name at_ size) (hb : Below w.heap.size w w') : Idx w' xa name at_ size :=
  h.kept fun k _ hk => hb.block k (Array.getElem?_eq_some_iff.1 hk).1
/-- A row of bytes is no row of entries. -/
theorem own_ne61 {B : Nat} {w : World} {a : Option Addr} {n c : Nat} {bs : List Int} (ho : Own B w a n c bs) {k : Nat} {cur : Array Value} (hk : w.heap[k]? = some (.cells cur 61 (0, 0))) : blk a ≠ some k := by
  intro e
  rcases ho.2.2 with ⟨hv, _⟩ | ⟨g, cap, cur', hv, _, hg, _⟩
  · obtain ⟨rfl, _⟩ : a = none ∧ c = 0 := by simp at hv; exact ⟨hv.1, hv.2.2⟩
    cases e
  · obtain ⟨rfl, _⟩ : a = some ⟨g, 0, none⟩ ∧ c = cap := by simpa using hv
    simp [blk] at e
    subst e
    rw [hk] at hg
    simp at hg
theorem wr_ne61 {w : World} {S G : Nat} {size : Int} {name : ByteArray} {pa qa xa : Option Addr} {pn pc qn qc xn xc : Nat} (h : Wr w S G size name pa pn pc qa qn qc xa xn xc) {k : Nat} {cur : Array Value} (hk : w.heap[k]? = some (.cells cur 61 (0, 0))) : k ≠ S ∧ k ≠ G := by
  constructor
  · rintro rfl
    obtain ⟨cs, hb, _⟩ := h.1
    rw [hk] at hb
    simp at hb
  · rintro rfl
    obtain ⟨cs, hb, _⟩ := h.2
    rw [hk] at hb
    simp at hb

/-- The world behind the index's first entry, as the walk spells it. -/
theorem first_world {B : Nat} {w : World} {S G : Nat} {size : Int} {name : ByteArray} {pa qa : Option Addr} {pn pc qn qc : Nat} {bs qs : List Int} (hW : Wr w S G size name pa pn pc qa qn qc none 0 0) (hP : Own B w pa pn pc bs) (hQ : Own B w qa qn qc qs) (at_ : Int) (c : Nat) (o : Obj) (Z : Array Value) :
    Wr (((w.setCell ⟨G, 6, none⟩ (.slice (some ⟨w.heap.size + 1, 0, none⟩) 1 c)).alloc o).alloc (.cells (#[.string name, .int .i64 at_, .int .i64 size] ++ Z) 61)).drew.drew S G size name pa pn pc qa qn qc (some ⟨w.heap.size + 1, 0, none⟩) 1 c ∧
    Own B (((w.setCell ⟨G, 6, none⟩ (.slice (some ⟨w.heap.size + 1, 0, none⟩) 1 c)).alloc o).alloc (.cells (#[.string name, .int .i64 at_, .int .i64 size] ++ Z) 61)).drew.drew pa pn pc bs ∧
    Own B (((w.setCell ⟨G, 6, none⟩ (.slice (some ⟨w.heap.size + 1, 0, none⟩) 1 c)).alloc o).alloc (.cells (#[.string name, .int .i64 at_, .int .i64 size] ++ Z) 61)).drew.drew qa qn qc qs ∧
    Kp (fun k => k = G) w (((w.setCell ⟨G, 6, none⟩ (.slice (some ⟨w.heap.size + 1, 0, none⟩) 1 c)).alloc o).alloc (.cells (#[.string name, .int .i64 at_, .int .i64 size] ++ Z) 61)).drew.drew ∧
    Idx (((w.setCell ⟨G, 6, none⟩ (.slice (some ⟨w.heap.size + 1, 0, none⟩) 1 c)).alloc o).alloc (.cells (#[.string name, .int .i64 at_, .int .i64 size] ++ Z) 61)).drew.drew (some ⟨w.heap.size + 1, 0, none⟩) name at_ size := by
  have hk : Kp (fun k => k = G) w (((w.setCell ⟨G, 6, none⟩ (.slice (some ⟨w.heap.size + 1, 0, none⟩) 1 c)).alloc o).alloc (.cells (#[.string name, .int .i64 at_, .int .i64 size] ++ Z) 61)).drew.drew :=
    (((((Kp.refl (fun k => k = G) w).setCell (p := ⟨G, 6, none⟩) (fun _ => rfl) _).alloc _).alloc _).drew).drew
  refine ⟨?_, hk.own hP fun k h e => hW.neG hP (by rw [h, e]), hk.own hQ fun k h e => hW.neG hQ (by rw [h, e]), hk, ?_⟩
  · have h1 := hW.put6 (some ⟨w.heap.size + 1, 0, none⟩) 1 c
    exact ⟨((h1.1.alloc _).alloc _).drew.drew, ((h1.2.alloc _).alloc _).drew.drew⟩
  · refine ⟨w.heap.size + 1, #[.string name, .int .i64 at_, .int .i64 size] ++ Z, rfl, ?_, by rw [Array.getElem?_append_left (by simp)]; rfl, by rw [Array.getElem?_append_left (by simp)]; rfl, by rw [Array.getElem?_append_left (by simp)]; rfl⟩
    have h := heap_alloc_new ((w.setCell ⟨G, 6, none⟩ (.slice (some ⟨w.heap.size + 1, 0, none⟩) 1 c)).alloc o) (.cells (#[.string name, .int .i64 at_, .int .i64 size] ++ Z) 61)
    have e : ((w.setCell ⟨G, 6, none⟩ (.slice (some ⟨w.heap.size + 1, 0, none⟩) 1 c)).alloc o).heap.size = w.heap.size + 1 := by simp [World.setCell]
    rw [e] at h
    exact h
end Go.Proofs.Qxb6616327a

/-
  '(*cache.Cache).Put' by its contract.
-/
import Derived.Test.YbulkeilaCGet
import Derived.Deep.LoopGhost
import Derived.Deep.Light
import Derived.Deep.RegionLaw
namespace Go.Proofs.Ybulkeila
open Go Go.Deep Go.RowKit
open Go.ChangeMaps (setBlock)
set_option linter.unusedSimpArgs false

/-- Nothing but the blocks of S has turned. -/
structure Kept (S : Nat → Prop) (w w' : World) : Prop where
  os : w'.os = w.os
  tape : w'.tape = w.tape
  output : w'.output = w.output
  size : w.heap.size ≤ w'.heap.size
  block : ∀ i, i < w.heap.size → ¬ S i → w'.heap[i]? = w.heap[i]?

theorem Kept.refl (S : Nat → Prop) (w : World) : Kept S w w := ⟨rfl, rfl, rfl, Nat.le_refl _, fun _ _ _ => rfl⟩
theorem Kept.trans {S : Nat → Prop} {a b c : World} (h : Kept S a b) (k : Kept S b c) : Kept S a c :=
  ⟨k.os.trans h.os, k.tape.trans h.tape, k.output.trans h.output, Nat.le_trans h.size k.size, fun i hi hs => (k.block i (Nat.lt_of_lt_of_le hi h.size) hs).trans (h.block i hi hs)⟩
theorem Kept.mono {S T : Nat → Prop} {a b : World} (h : Kept S a b) (hs : ∀ i, S i → T i) : Kept T a b := ⟨h.os, h.tape, h.output, h.size, fun i hi ht => h.block i hi (fun e => ht (hs i e))⟩
theorem Kept.drew {S : Nat → Prop} {a b : World} (h : Kept S a b) : Kept S a b.drew := ⟨h.os, h.tape, h.output, h.size, h.block⟩
theorem Kept.drewN {S : Nat → Prop} {a b : World} (h : Kept S a b) (n : Nat) : Kept S a (b.drewN n) := ⟨h.os, h.tape, h.output, h.size, h.block⟩
theorem Kept.setCell {S : Nat → Prop} {a b : World} (h : Kept S a b) {p : Addr} (hp : S p.block ∨ a.heap.size ≤ p.block) (v : Value) : Kept S a (b.setCell p v) :=
  ⟨h.os, h.tape, h.output, by rw [nblk_setCell]; exact h.size, fun i hi hs => (blk_setCell_other _ _ _ i (fun e => by subst e; rcases hp with hp | hp; exact hs hp; omega)).trans (h.block i hi hs)⟩
theorem Kept.alloc {S : Nat → Prop} {a b : World} (h : Kept S a b) (o : Obj) : Kept S a (b.alloc o) :=
  ⟨h.os, h.tape, h.output, by rw [nblk_alloc]; have := h.size; omega, fun i hi hs => (blk_alloc_lt _ _ i (by have := h.size; omega)).trans (h.block i hi hs)⟩
theorem Kept.setBlock {S : Nat → Prop} {a b : World} (h : Kept S a b) {r : Nat} (hp : S r ∨ a.heap.size ≤ r) (o : Obj) : Kept S a (Go.ChangeMaps.setBlock b r o) :=
  ⟨h.os, h.tape, h.output, by simpa [Go.ChangeMaps.setBlock] using h.size, fun i hi hs => by
    have hne : i ≠ r := fun e => by subst e; rcases hp with hp | hp; exact hs hp; omega
    have : (Go.ChangeMaps.setBlock b r o).heap[i]? = b.heap[i]? := by simp [Go.ChangeMaps.setBlock, Ne.symm hne]
    exact this.trans (h.block i hi hs)⟩
theorem Kept.of_grown {S : Nat → Prop} {a b c : World} {row : Option Nat} (h : Kept S a b) (hg : b.grownBy c row) (hr : ∀ k, row = some k → S k ∨ a.heap.size ≤ k) : Kept S a c :=
  ⟨hg.os.trans h.os, hg.tape.trans h.tape, hg.output.trans h.output, Nat.le_trans h.size hg.size, fun i hi hs =>
    (hg.block i (Nat.lt_of_lt_of_le hi h.size) (fun e => by rcases hr i e.symm with h1 | h1; exact hs h1; omega)).trans (h.block i hi hs)⟩
theorem Kept.of_below {S : Nat → Prop} {a b : World} (h : Below a.heap.size a b) : Kept S a b := ⟨h.os, h.tape, h.output, h.size, fun i hi _ => h.block i hi⟩
theorem Kept.below {S : Nat → Prop} {a b : World} (h : Kept S a b) {B : Nat} (hB : B ≤ a.heap.size) (hS : ∀ i, S i → B ≤ i) : Below B a b := ⟨h.os, h.tape, h.output, h.size, fun i hi => h.block i (by omega) (fun e => by have := hS i e; omega)⟩
theorem Kept.cell {S : Nat → Prop} {a b : World} (h : Kept S a b) {x y : Nat} (hx : x < a.heap.size) (hs : ¬ S x) : b.cell? ⟨x, y, none⟩ = a.cell? ⟨x, y, none⟩ := cell_of_block (h.block x hx hs) y

/-- The oldest go until the rest and n bytes more fit. -/
def roomL (bud : Int) (n : Nat) : List E → List E
  | [] => []
  | e :: r => if bud < (total (e :: r) : Int) + n then roomL bud n r else e :: r

def putL (bud : Int) (e : E) (L : List E) : List E := if hasK L e.k then L else if bud < e.len then L else roomL bud e.len L ++ [e]

/-- What the cache stands on is in the blocks of S or among the packs: the state carried to a world in which those stand. -/
theorem Cache.kept {bud : Int} {cb bm p0 p1 : Nat} {L : List E} {ob : Option Nat} {w w' : World} (h : Cache bud cb bm p0 p1 L ob w) (h1 : w'.heap[cb]? = w.heap[cb]?) (h2 : w'.heap[bm]? = w.heap[bm]?) (h3 : ∀ k, ob = some k → w'.heap[k]? = w.heap[k]?) (h4 : w'.heap[p0]? = w.heap[p0]?) (h5 : w'.heap[p1]? = w.heap[p1]?) :
    Cache bud cb bm p0 p1 L ob w' := by
  obtain ⟨a, cap, h6, h7⟩ := h.c3
  obtain ⟨es, cl, h8, h9⟩ := h.map
  obtain ⟨hne, ⟨x0, hx0⟩, x1, hx1⟩ := h.packs
  exact ⟨by rw [cell_of_block h1]; exact h.c0, by rw [cell_of_block h1]; exact h.c1, by rw [cell_of_block h1]; exact h.c2, ⟨a, cap, by rw [cell_of_block h1]; exact h6, h7.kept h3⟩, ⟨es, cl, h2.trans h8, h9⟩, h.keys, ⟨hne, ⟨x0, h4.trans hx0⟩, x1, h5.trans hx1⟩, fun o => by rw [frozen_of_block h1]; exact h.frz o⟩

theorem Cache.below {bud : Int} {cb bm p0 p1 : Nat} {L : List E} {ob : Option Nat} {w w' : World} (h : Cache bud cb bm p0 p1 L ob w) (hb : ∀ i, i < w.heap.size → w'.heap[i]? = w.heap[i]?) : Cache bud cb bm p0 p1 L ob w' := by
  obtain ⟨a, cap, h6, h7⟩ := h.c3
  obtain ⟨es, cl, h8, h9⟩ := h.map
  obtain ⟨hne, ⟨x0, hx0⟩, x1, hx1⟩ := h.packs
  exact h.kept (hb cb (cell_lt h.c0)) (hb bm (Array.getElem?_eq_some_iff.1 h8).1) (fun k hk => hb k (h7.lt (by omega) k hk)) (hb p0 (Array.getElem?_eq_some_iff.1 hx0).1) (hb p1 (Array.getElem?_eq_some_iff.1 hx1).1)

theorem total_cons (e : E) (r : List E) : total (e :: r) = e.len + total r := by simp [total]
theorem total_append (L : List E) (e : E) : total (L ++ [e]) = total L + e.len := by simp [total]

theorem roomL_total (bud : Int) (n : Nat) : ∀ L, total (roomL bud n L) ≤ total L
  | [] => Nat.le_refl _
  | e :: r => by
    unfold roomL
    split
    · have := roomL_total bud n r; rw [total_cons]; omega
    · exact Nat.le_refl _

theorem roomL_sub (bud : Int) (n : Nat) : ∀ L : List E, ∃ p, L = p ++ roomL bud n L
  | [] => ⟨[], rfl⟩
  | e :: r => by
    unfold roomL
    split
    · obtain ⟨p, hp⟩ := roomL_sub bud n r
      exact ⟨e :: p, by rw [List.cons_append, ← hp]⟩
    · exact ⟨[], rfl⟩

theorem field79 (a b c : Value) (W : World) : (Instr.field 79 (.agg #[a, b, c]) 1).run Yba.prog W = .ok c W := by kernel_rfl

theorem cell_heap {w w' : World} (h : w'.heap = w.heap) (a : Addr) : w'.cell? a = w.cell? a := by simp only [World.cell?, h]
theorem heap_setCell {w w' : World} (h : w'.heap = w.heap) (a : Addr) (v : Value) : (w'.setCell a v).heap = (w.setCell a v).heap := by simp only [World.setCell, h]
theorem frozen_heap {w w' : World} (h : w'.heap = w.heap) (a : Addr) : w'.frozen? a = w.frozen? a := by simp only [World.frozen?, h]

/-- The oldest has gone. -/
theorem Cache.shrink {bud : Int} {cb bm p0 p1 : Nat} {x : E} {r : List E} {ob : Option Nat} {w w' : World} {a : Option Addr} {cap clock : Nat} {es : Array MapEntry} (h : Cache bud cb bm p0 p1 (x :: r) ob w) (hM : MapIs p0 p1 es r) (hR : Row 2 ob a (r.length + 1) cap ((x :: r).flatMap (keyCells p0 p1)) w)
    (hd : ∀ k, ob = some k → k ≠ cb ∧ k ≠ bm ∧ k ≠ p0 ∧ k ≠ p1) (hP : cb ≠ bm ∧ cb ≠ p0 ∧ cb ≠ p1 ∧ bm ≠ p0 ∧ bm ≠ p1)
    (hw : w'.heap = ((setBlock (w.setCell ⟨cb, 1, none⟩ (.int .i64 (total r))) bm (.map es clock)).setCell ⟨cb, 3, none⟩ (.slice (if cap = 1 then a else a.map (·.add 2)) r.length (cap - 1))).heap) :
    ∃ ob', Cache bud cb bm p0 p1 r ob' w' ∧ (ob' = ob ∨ ob' = none) := by
  obtain ⟨ob', hR', hob⟩ := hR.tail
  obtain ⟨a3, cap3, h3, _⟩ := h.c3
  have hbm : bm < w.heap.size := by obtain ⟨es0, cl0, hb0, _⟩ := h.map; exact (Array.getElem?_eq_some_iff.1 hb0).1
  have e0 : ∀ k, k ≠ cb → k ≠ bm → w'.heap[k]? = w.heap[k]? := fun k h1 h2 => by
    rw [hw, blk_setCell_other _ _ _ k h1]
    have : (setBlock (w.setCell ⟨cb, 1, none⟩ (.int .i64 (total r))) bm (.map es clock)).heap[k]? = (w.setCell ⟨cb, 1, none⟩ (.int .i64 (total r))).heap[k]? := by simp [setBlock, Ne.symm h2]
    rw [this, blk_setCell_other _ _ _ k h1]
  have eb : (setBlock (w.setCell ⟨cb, 1, none⟩ (.int .i64 (total r))) bm (.map es clock)).heap[cb]? = (w.setCell ⟨cb, 1, none⟩ (.int .i64 (total r))).heap[cb]? := by simp [setBlock, Ne.symm hP.1]
  have c : ∀ o, o ≠ 3 → w'.cell? ⟨cb, o, none⟩ = (w.setCell ⟨cb, 1, none⟩ (.int .i64 (total r))).cell? ⟨cb, o, none⟩ := fun o ho => by
    rw [cell_heap hw, World.cell?_setCell_other _ _ _ _ (by simp [Ne.symm ho]), cell_of_block eb]
  refine ⟨ob', ⟨?_, ?_, ?_, ⟨if cap = 1 then a else a.map (·.add 2), cap - 1, ?_, ?_⟩, ⟨es, clock, ?_, hM⟩, ?_, ?_, ?_⟩, hob⟩
  · rw [c 0 (by omega), World.cell?_setCell_other _ _ _ _ (by simp)]; exact h.c0
  · rw [c 1 (by omega)]; exact World.cell?_setCell_same _ _ _ h.c1
  · rw [c 2 (by omega), World.cell?_setCell_other _ _ _ _ (by simp)]; exact h.c2
  · rw [cell_heap hw]
    exact World.cell?_setCell_same _ _ _ ((cell_of_block eb 3).trans ((World.cell?_setCell_other _ _ _ _ (by simp)).trans h3))
  · refine (hR'.kept (w' := w') fun k hk => ?_)
    have hk' : ob = some k := by
      rcases hob with h1 | h1
      · rw [← h1]; exact hk
      · rw [h1] at hk; cases hk
    obtain ⟨d1, d2, _⟩ := hd k hk'
    exact e0 k d1 d2
  · rw [hw, blk_setCell_other _ _ _ bm (by simp; exact Ne.symm hP.1)]
    simp [setBlock, hbm]
  · exact ⟨fun y hy => h.keys.1 y (by simp [hy]), by have := h.keys.2; simp at this; exact this.2⟩
  · obtain ⟨hne, ⟨x0, hx0⟩, x1, hx1⟩ := h.packs
    exact ⟨hne, ⟨x0, (e0 p0 (Ne.symm hP.2.1) (Ne.symm hP.2.2.2.1)).trans hx0⟩, x1, (e0 p1 (Ne.symm hP.2.2.1) (Ne.symm hP.2.2.2.2)).trans hx1⟩
  · intro o
    rw [frozen_heap hw, World.frozen?_setCell, frozen_of_block eb, World.frozen?_setCell]
    exact h.frz o

/-- One more is kept. -/
theorem Cache.grow {bud : Int} {cb bm p0 p1 : Nat} {e : E} {L : List E} {ob ob' : Option Nat} {w w4 w5 w6 : World} {a : Option Addr} {cap clock : Nat} {es : Array MapEntry} {O : Obj} (h : Cache bud cb bm p0 p1 L ob w) (hM : MapIs p0 p1 es (L ++ [e])) (hK : KeysOk (L ++ [e]))
    (hd : ∀ k, ob = some k → k ≠ cb ∧ k ≠ bm ∧ k ≠ p0 ∧ k ≠ p1) (hP : cb ≠ bm ∧ cb ≠ p0 ∧ cb ≠ p1 ∧ bm ≠ p0 ∧ bm ≠ p1)
    (h4 : w4.heap = (setBlock w bm (.map es clock)).heap) (h5 : (w4.alloc O).grownBy w5 ob) (hR : Row 2 ob' a (L.length + 1) cap ((L ++ [e]).flatMap (keyCells p0 p1)) w5) (ho : ∀ k, ob' = some k → ob = some k ∨ (w4.alloc O).heap.size ≤ k)
    (h6 : w6.heap = ((w5.setCell ⟨cb, 3, none⟩ (.slice a (L.length + 1) cap)).setCell ⟨cb, 1, none⟩ (.int .i64 (total (L ++ [e])))).heap) :
    Cache bud cb bm p0 p1 (L ++ [e]) ob' w6 := by
  obtain ⟨a3, cap3, h3, _⟩ := h.c3
  have hbm : bm < w.heap.size := by obtain ⟨es0, cl0, hb0, _⟩ := h.map; exact (Array.getElem?_eq_some_iff.1 hb0).1
  have hs4 : w4.heap.size = w.heap.size := by rw [h4]; simp [setBlock]
  have e4 : ∀ k, k ≠ bm → w4.heap[k]? = w.heap[k]? := fun k hk => by
    rw [h4]
    show (w.heap.setIfInBounds bm _)[k]? = _
    exact Array.getElem?_setIfInBounds_ne (Ne.symm hk)
  have b4 : w4.heap[bm]? = some (.map es clock) := by
    rw [h4]
    simp [setBlock, hbm]
  have e5 : ∀ k, k < w.heap.size → some k ≠ ob → w5.heap[k]? = w4.heap[k]? := fun k hk hne => (h5.block k (by rw [nblk_alloc]; omega) hne).trans (blk_alloc_lt _ _ k (by omega))
  have e6 : ∀ k, k ≠ cb → w6.heap[k]? = w5.heap[k]? := fun k hk => by rw [h6, blk_setCell_other _ _ _ k hk, blk_setCell_other _ _ _ k hk]
  have hcb := cell_lt h.c0
  have ncb : some cb ≠ ob := fun e1 => (hd cb e1.symm).1 rfl
  have nbm : some bm ≠ ob := fun e1 => (hd bm e1.symm).2.1 rfl
  have k5 : ∀ o, w5.cell? ⟨cb, o, none⟩ = w.cell? ⟨cb, o, none⟩ := fun o => by rw [cell_of_block (e5 cb hcb ncb), cell_of_block (e4 cb hP.1)]
  have f5 : ∀ o, w5.frozen? ⟨cb, o, none⟩ = w.frozen? ⟨cb, o, none⟩ := fun o => by rw [frozen_of_block (e5 cb hcb ncb), frozen_of_block (e4 cb hP.1)]
  have gk : ∀ k, k < w.heap.size → k ≠ cb → k ≠ bm → some k ≠ ob → w6.heap[k]? = w.heap[k]? := fun k h1 h2 h3 h4' => (e6 k h2).trans ((e5 k h1 h4').trans (e4 k h3))
  refine ⟨?_, ?_, ?_, ⟨a, cap, ?_, ?_⟩, ⟨es, clock, ?_, hM⟩, hK, ?_, ?_⟩
  · rw [cell_heap h6, World.cell?_setCell_other _ _ _ _ (by simp), World.cell?_setCell_other _ _ _ _ (by simp), k5]; exact h.c0
  · rw [cell_heap h6]
    exact World.cell?_setCell_same _ _ _ ((World.cell?_setCell_other _ _ _ _ (by simp)).trans ((k5 1).trans h.c1))
  · rw [cell_heap h6, World.cell?_setCell_other _ _ _ _ (by simp), World.cell?_setCell_other _ _ _ _ (by simp), k5]; exact h.c2
  · rw [cell_heap h6, World.cell?_setCell_other _ _ _ _ (by simp), List.length_append]
    exact World.cell?_setCell_same _ _ _ ((k5 3).trans h3)
  · rw [List.length_append]
    refine hR.kept fun k hk => e6 k ?_
    rcases ho k hk with h1 | h1
    · exact (hd k h1).1
    · rw [nblk_alloc] at h1; have : cb < w.heap.size := hcb; omega
  · rw [e6 bm (Ne.symm hP.1), e5 bm hbm nbm]; exact b4
  · obtain ⟨hne, ⟨x0, hx0⟩, x1, hx1⟩ := h.packs
    exact ⟨hne, ⟨x0, (gk p0 (Array.getElem?_eq_some_iff.1 hx0).1 (Ne.symm hP.2.1) (Ne.symm hP.2.2.2.1) (fun e1 => (hd p0 e1.symm).2.2.1 rfl)).trans hx0⟩, x1, (gk p1 (Array.getElem?_eq_some_iff.1 hx1).1 (Ne.symm hP.2.2.1) (Ne.symm hP.2.2.2.2) (fun e1 => (hd p1 e1.symm).2.2.2 rfl)).trans hx1⟩
  · intro o
    rw [frozen_heap h6, World.frozen?_setCell, World.frozen?_setCell, f5]
    exact h.frz o

/-- An append whose run is known, as one step of a region that draws. -/
theorem step_append_run {P : Program} {ops : Array Oper} {o : Oper} {a : Act} {w : World} {K : Act → World → Prop} {Q : Exit → Act → World → Prop} {F : Prop}
    (hg : o.guard = none) (s x : Operand) (t : TypeId) (hop : o.op = Op.call { callee := Callee.builtin Builtin.append, args := #[s, x], argTypes := #[t, t] }) {vs vx v' : Value} {w' : World} (hs : a.eval s = vs) (hx : a.eval x = vx)
    (hrun : (Builtin.append_ #[t, t] o.type #[vs, vx]).run P w = .ok v' w') (hK : K (a.put o.dst v') w') :
    if Region.wanted o (yielded ops a.tmps) = true then Oper.wp P o a w K Q else F := by
  have hw : Region.wanted o (yielded ops a.tmps) = true := by simp [Region.wanted, hg]
  rw [if_pos hw]
  unfold Oper.wp
  simp [execOp, hop, resolve, invoke, builtin, hs, hx, hrun, Result.andThen]
  exact hK

theorem inf73 : (Yba.prog.info? 73).map (fun i => (i.zero, i.size, i.bytes)) = some (some (.agg #[.pointer none, .int .i64 0]), 2, 16) := by kernel_rfl

/-- 'append(c.order, key)'. -/
theorem append_key {ob : Option Nat} {a : Option Addr} {n cap : Nat} {xs : List Value} {w : World} (h : Row 2 ob a n cap xs w) (hn : n ≤ 10000) {N : Nat} {u v : Value} (h0 : w.cell? ⟨N, 0, none⟩ = some u) (h1 : w.cell? ⟨N, 1, none⟩ = some v) (hu : u.oneCell' = true) (hv : v.oneCell' = true) (c : Nat) (ty : TypeId) :
    ∃ a' cap' ob' w', (Builtin.append_ #[82, 82] ty #[.slice a n cap, .slice (some ⟨N, 0, none⟩) 1 c]).run Yba.prog w = .ok (.slice a' (n + 1) cap') w' ∧ Row 2 ob' a' (n + 1) cap' (xs ++ [u, v]) w' ∧ w.grownBy w' ob ∧ (∀ k, ob' = some k → ob = some k ∨ w.heap.size ≤ k) := by
  obtain ⟨i, hi, hh⟩ := Option.map_eq_some_iff.1 inf73
  simp only [Prod.mk.injEq] at hh
  obtain ⟨z1, z2, z3⟩ := hh
  refine h.append Yba.underlying82 hi z1 z2 rfl (by rw [z3]; omega) (by omega) (by omega) (news := [u, v]) rfl ?_ ?_
  · intro j x hx
    match j with
    | 0 => simp at hx; subst hx; simpa [Addr.add] using h0
    | 1 => simp at hx; subst hx; simpa [Addr.add] using h1
    | j + 2 => simp at hx
  · intro x hx
    simp at hx
    rcases hx with rfl | rfl
    · exact hu
    · exact hv

set_option maxRecDepth 100000 in
set_option maxHeartbeats 3200000 in
theorem put_any {bud : Int} {cb bm p0 p1 : Nat} {L : List E} {ob : Option Nat} {w : World} (h : Cache bud cb bm p0 p1 L ob w) (e : E) (hk : e.k < 8) (hl : e.len ≤ 1073741824) (ht : total L ≤ 1073741824) (hn : L.length ≤ 10000) (hd : ∀ k, ob = some k → k ≠ cb ∧ k ≠ bm ∧ k ≠ p0 ∧ k ≠ p1)
    (hcm : cb ≠ bm) (hcp : cb ≠ p0 ∧ cb ≠ p1 ∧ bm ≠ p0 ∧ bm ≠ p1) (hbud : -9223372036854775808 ≤ bud ∧ bud ≤ 9223372036854775807) :
    Calls Yba.prog 11 #[.pointer (some ⟨cb, 0, none⟩), keyV p0 p1 e.k, .agg #[.int .u8 e.t, .slice e.a e.len e.cap], .int .i64 e.len] w fun x w' => x = .returned (.tuple #[]) ∧
      ∃ ob', Cache bud cb bm p0 p1 (putL bud e L) ob' w' ∧ Kept (fun i => i = cb ∨ i = bm ∨ ob = some i) w w' ∧ (∀ k, ob' = some k → ob = some k ∨ w.heap.size ≤ k) := by
  obtain ⟨es, clock, hb, hM⟩ := h.map
  obtain ⟨tL, aL, lL, cL, hv, _⟩ := lookV_eq L e.k
  have hlt : cb < w.heap.size := cell_lt h.c2
  have hblt : bm < w.heap.size := (Array.getElem?_eq_some_iff.1 hb).1
  have hlook : ∀ W : World, (∀ i, i < w.heap.size → W.heap[i]? = w.heap[i]?) → (Instr.lookup 81 (.map (some bm)) (keyV p0 p1 e.k) true).run Yba.prog W = .ok (.tuple #[.agg #[.int .u8 tL, .slice aL lL cL, .int .i64 lL], .bool (hasK L e.k)]) W := fun W hW => by
    rw [← hv]
    obtain ⟨hne, ⟨x0, h0⟩, x1, h1⟩ := h.packs
    exact look_ok ((hW bm hblt).trans hb) ⟨hne, ⟨x0, (hW p0 (Array.getElem?_eq_some_iff.1 h0).1).trans h0⟩, x1, (hW p1 (Array.getElem?_eq_some_iff.1 h1).1).trans h1⟩ hM h.keys hk
  have c2 := h.c2
  have HL : Hid (∀ W : World, (∀ i, i < w.heap.size → W.heap[i]? = w.heap[i]?) → (Instr.lookup 81 (.map (some bm)) (keyV p0 p1 e.k) true).run Yba.prog W = .ok (.tuple #[.agg #[.int .u8 tL, .slice aL lL cL, .int .i64 lL], .bool (hasK L e.k)]) W) := hlook
  have HH : Hid (Cache bud cb bm p0 p1 L ob w) := h
  have HD : Hid (∀ k, ob = some k → k ≠ cb ∧ k ≠ bm ∧ k ≠ p0 ∧ k ≠ p1) := hd
  have HP : Hid (cb ≠ bm ∧ cb ≠ p0 ∧ cb ≠ p1 ∧ bm ≠ p0 ∧ bm ≠ p1) := ⟨hcm, hcp⟩
  have HN : Hid (e.len ≤ 1073741824 ∧ total L ≤ 1073741824 ∧ L.length ≤ 10000 ∧ e.k < 8) := ⟨hl, ht, hn, hk⟩
  have HBD : Hid (-9223372036854775808 ≤ bud ∧ bud ≤ 9223372036854775807) := hbud
  have HLT : Hid (cb < w.heap.size ∧ bm < w.heap.size ∧ ∀ k, ob = some k → k < w.heap.size) := ⟨hlt, hblt, by obtain ⟨_, _, _, hR⟩ := h.c3; exact hR.lt (by omega)⟩
  clear hlook hv hM hb h es clock hd hcm hcp hl ht hn hk hbud
  have hkey : ∃ (pp : Nat) (o : Int), keyV p0 p1 e.k = .agg #[.pointer (some ⟨pp, 0, none⟩), .int .i64 o] ∧ keyCells p0 p1 e = [.pointer (some ⟨pp, 0, none⟩), .int .i64 o] := ⟨_, _, rfl, rfl⟩
  obtain ⟨pp, o, hkey, hkc⟩ := hkey
  have HKC : Hid (keyCells p0 p1 e = [.pointer (some ⟨pp, 0, none⟩), .int .i64 o]) := hkc
  clear hkc
  have HK : Hid (keyV p0 p1 e.k = .agg #[.pointer (some ⟨pp, 0, none⟩), .int .i64 o]) := hkey
  rw [hkey] at HL ⊢
  clear hkey
  obtain ⟨hk, hhk⟩ : ∃ x, hasK L e.k = x := ⟨_, rfl⟩
  rw [hhk] at HL
  have HHK : Hid (hasK L e.k = hk) := hhk
  clear hhk
  go_enter Yba.func11, Yba.ntmps11
  go_wp2_with fail
  have hB : Below w.heap.size w ((w.alloc (.cells #[.pointer (some ⟨pp, 0, none⟩), .int .i64 o] 73)).alloc (.cells #[.int .u8 e.t, .slice e.a e.len e.cap] 59)) := ((Below.refl _ _).alloc (Nat.le_refl _) _).alloc (by simp) _
  have g0 : ((w.alloc (.cells #[.pointer (some ⟨pp, 0, none⟩), .int .i64 o] 73)).alloc (.cells #[.int .u8 e.t, .slice e.a e.len e.cap] 59)).cell? ⟨cb, 2, none⟩ = some (.map (some bm)) := by rw [cell_of_block (hB.block cb hlt)]; exact c2
  have g1 : ((w.alloc (.cells #[.pointer (some ⟨pp, 0, none⟩), .int .i64 o] 73)).alloc (.cells #[.int .u8 e.t, .slice e.a e.len e.cap] 59)).cell? ⟨w.heap.size, 0, none⟩ = some (.pointer (some ⟨pp, 0, none⟩)) := by simp
  have g2 : ((w.alloc (.cells #[.pointer (some ⟨pp, 0, none⟩), .int .i64 o] 73)).alloc (.cells #[.int .u8 e.t, .slice e.a e.len e.cap] 59)).cell? ⟨w.heap.size, 1, none⟩ = some (.int .i64 o) := by simp
  have g3 : ((w.alloc (.cells #[.pointer (some ⟨pp, 0, none⟩), .int .i64 o] 73)).alloc (.cells #[.int .u8 e.t, .slice e.a e.len e.cap] 59)).cell? ⟨w.heap.size + 1, 0, none⟩ = some (.int .u8 e.t) := by simp
  have g4 : ((w.alloc (.cells #[.pointer (some ⟨pp, 0, none⟩), .int .i64 o] 73)).alloc (.cells #[.int .u8 e.t, .slice e.a e.len e.cap] 59)).cell? ⟨w.heap.size + 1, 1, none⟩ = some (.slice e.a e.len e.cap) := by simp
  have gs : ((w.alloc (.cells #[.pointer (some ⟨pp, 0, none⟩), .int .i64 o] 73)).alloc (.cells #[.int .u8 e.t, .slice e.a e.len e.cap] 59)).heap.size = w.heap.size + 2 := by simp
  generalize ((w.alloc (.cells #[.pointer (some ⟨pp, 0, none⟩), .int .i64 o] 73)).alloc (.cells #[.int .u8 e.t, .slice e.a e.len e.cap] 59)) = w1 at hB g0 g1 g2 g3 g4 gs ⊢
  have l1 := HL.out w1 hB.block
  have l2 := HL.out w1.drew hB.block
  have hbA : ∀ O, ∀ i, i < w.heap.size → (w1.alloc O).heap[i]? = w.heap[i]? := fun O i hi => (blk_alloc_lt _ _ i (by omega)).trans (hB.block i hi)
  have l3 := fun O => HL.out (w1.alloc O) (hbA O)
  have l4 := fun O => HL.out (w1.alloc O).drew (hbA O)
  have gA : ∀ O x y, x < w.heap.size + 2 → (w1.alloc O).cell? ⟨x, y, none⟩ = w1.cell? ⟨x, y, none⟩ := fun O x y hx => cell_of_block (blk_alloc_lt _ _ x (by omega)) y
  have a0 : ∀ O, (w1.alloc O).cell? ⟨cb, 2, none⟩ = some (.map (some bm)) := fun O => (gA O cb 2 (by omega)).trans g0
  have a1 : ∀ O, (w1.alloc O).cell? ⟨w.heap.size, 0, none⟩ = some (.pointer (some ⟨pp, 0, none⟩)) := fun O => (gA O _ 0 (by omega)).trans g1
  have a2 : ∀ O, (w1.alloc O).cell? ⟨w.heap.size, 1, none⟩ = some (.int .i64 o) := fun O => (gA O _ 1 (by omega)).trans g2
  have a3 : ∀ O, (w1.alloc O).cell? ⟨w.heap.size + 1, 0, none⟩ = some (.int .u8 e.t) := fun O => (gA O _ 0 (by omega)).trans g3
  have a4 : ∀ O, (w1.alloc O).cell? ⟨w.heap.size + 1, 1, none⟩ = some (.slice e.a e.len e.cap) := fun O => (gA O _ 1 (by omega)).trans g4
  have HB2 : ∀ O, Below w.heap.size w (w1.alloc O).drew := fun O => (hB.alloc (by omega) O).drew
  have hs2 : ∀ O, (w1.alloc O).drew.heap.size = w.heap.size + 3 := fun O => by simp [gs]
  clear gA hbA hB c2 hblt hlt
  go_region
  have d0 := a1 (.cells #[.int .u8 tL, .slice aL lL cL, .int .i64 lL] 79)
  have d1 := a2 (.cells #[.int .u8 tL, .slice aL lL cL, .int .i64 lL] 79)
  have d2 := a3 (.cells #[.int .u8 tL, .slice aL lL cL, .int .i64 lL] 79)
  have d3 := a4 (.cells #[.int .u8 tL, .slice aL lL cL, .int .i64 lL] 79)
  have HB3 := HB2 (.cells #[.int .u8 tL, .slice aL lL cL, .int .i64 lL] 79)
  have hs3 := hs2 (.cells #[.int .u8 tL, .slice aL lL cL, .int .i64 lL] 79)
  rw [← World.cell?_drew] at d0 d1 d2 d3
  generalize (w1.alloc (.cells #[.int .u8 tL, .slice aL lL cL, .int .i64 lL] 79)).drew = w2 at HB3 hs3 d0 d1 d2 d3 ⊢
  clear HB2 hs2 a0 a1 a2 a3 a4 l1 l2 l3 l4 HL g0 g1 g2 g3 g4 gs w1
  have HC : Hid (Cache bud cb bm p0 p1 L ob w2) := HH.out.below HB3.block
  have HB4 : Hid (Below w.heap.size w w2) := HB3
  have q0 := HC.out.c0
  clear HB3 HH
  cases hk with
  | true =>
    go_wp2_with fail
    first | go_end0 | refine bodyPost_ret (results_none rfl _ _ _) rfl ?_
    refine ⟨rfl, ob, ?_, Kept.of_below HB4.out, fun k hk => .inl hk⟩
    unfold putL
    rw [HHK.out]
    exact HC.out
  | false =>
    by_cases hbl : bud < e.len
    · go_wp2_with fail
      first | go_end0 | refine bodyPost_ret (results_none rfl _ _ _) rfl ?_
      refine ⟨rfl, ob, ?_, Kept.of_below HB4.out, fun k hk => .inl hk⟩
      unfold putL
      rw [HHK.out, if_pos hbl]
      exact HC.out
    · go_wp2_with fail
      have hsz2 : Hid (w2.heap.size = w.heap.size + 3) := hs3
      have hD : Hid (w2.cell? ⟨w.heap.size, 0, none⟩ = some (.pointer (some ⟨pp, 0, none⟩)) ∧ w2.cell? ⟨w.heap.size, 1, none⟩ = some (.int .i64 o) ∧ w2.cell? ⟨w.heap.size + 1, 0, none⟩ = some (.int .u8 e.t) ∧ w2.cell? ⟨w.heap.size + 1, 1, none⟩ = some (.slice e.a e.len e.cap)) := ⟨d0, d1, d2, d3⟩
      have HBL : Hid ((e.len : Int) ≤ bud) := hbl
      clear hs3 d0 d1 d2 d3 q0 hbl
      go_loopg [28] L.length (fun g s28 wr => ∃ L' ob', L'.length ≤ g ∧ (∃ p, L = p ++ L') ∧ roomL bud e.len L' = roomL bud e.len L ∧ Cache bud cb bm p0 p1 L' ob' wr ∧ Kept (fun i => i = cb ∨ i = bm ∨ ob = some i) w2 wr ∧ (ob' = ob ∨ ob' = none))
      case atStart => exact ⟨L, ob, Nat.le_refl _, ⟨[], rfl⟩, rfl, HC.out, Kept.refl _ _, .inl rfl⟩
      case round =>
        obtain ⟨L', ob', hLg, ⟨pre, hpre⟩, hroom, hC, hKp, hob⟩ := hrel
        have HC1 : Hid (Cache bud cb bm p0 p1 L' ob' wr) := hC
        have HI : Hid ((∃ p, L = p ++ L') ∧ roomL bud e.len L' = roomL bud e.len L ∧ Kept (fun i => i = cb ∨ i = bm ∨ ob = some i) w2 wr ∧ (ob' = ob ∨ ob' = none)) := ⟨⟨pre, hpre⟩, hroom, hKp, hob⟩
        have htl : total L' ≤ total L := by rw [hpre]; simp [total]
        obtain ⟨n1, n2, n3, n4⟩ := HN.out
        have x0 := hC.c0
        have x1 := hC.c1
        have hw1 : wrap64 ((total L' : Int) + (e.len : Int)) = (total L' : Int) + e.len := by unfold wrap64; omega
        clear hC hKp hob hroom hpre HC
        by_cases hfit : bud < (total L' : Int) + e.len
        · have hne : ∃ x r, L' = x :: r := by
            cases L' with
            | nil => exfalso; have := HBL.out; simp [total] at hfit; omega
            | cons x r => exact ⟨x, r, rfl⟩
          obtain ⟨x, r, rfl⟩ := hne
          clear n1 n2 n3 n4
          go_wp2_with fail
          go_quiet (fail)
          go_wp2_with fail
          have HC2 : Hid (Cache bud cb bm p0 p1 (x :: r) ob' (wr.drewN nq)) := HC1.out.below (fun _ _ => rfl)
          have HI2 : Hid ((∃ p, L = p ++ x :: r) ∧ roomL bud e.len (x :: r) = roomL bud e.len L ∧ Kept (fun i => i = cb ∨ i = bm ∨ ob = some i) w2 (wr.drewN nq) ∧ (ob' = ob ∨ ob' = none)) := ⟨HI.out.1, HI.out.2.1, HI.out.2.2.1.drewN nq, HI.out.2.2.2⟩
          clear HC1 HI x0 x1 hw1
          generalize wr.drewN nq = w3 at HC2 HI2 ⊢
          clear wr nq
          obtain ⟨a, cap, y3, hR⟩ := HC2.out.c3
          obtain ⟨b, off, rfl, hob', hcs⟩ := hR.addr (by simp)
          have y4 := hcs 0 (by simp)
          have y5 := hcs 1 (by simp; omega)
          obtain ⟨es, clock, hmb, hM⟩ := HC2.out.map
          have y1 := HC2.out.c1
          have y2 := HC2.out.c2
          have hlk := fun (W : World) (hW : W.heap = w3.heap) => look_head (w := W) (bm := bm) (clock := clock) (by rw [hW]; exact hmb) (by obtain ⟨h1, h2, h3⟩ := HC2.out.packs; exact ⟨h1, by rw [hW]; exact h2, by rw [hW]; exact h3⟩) hM HC2.out.keys
          have hk1 := hlk w3 rfl
          have hk2 := hlk w3.drew rfl
          have fz := HC2.out.frz
          have hw2 : wrap64 ((total (x :: r) : Int) - (x.len : Int)) = (total r : Int) := by
            have := HN.out; rw [total_cons] at htl ⊢; unfold wrap64; omega
          obtain ⟨ppx, ox, hkx⟩ : ∃ (pp : Nat) (o : Int), keyV p0 p1 x.k = .agg #[.pointer (some ⟨pp, 0, none⟩), .int .i64 o] ∧ keyCells p0 p1 x = [.pointer (some ⟨pp, 0, none⟩), .int .i64 o] := ⟨_, _, rfl, rfl⟩
          rw [hkx.1, valV] at hk1 hk2
          simp only [List.flatMap_cons, hkx.2, List.cons_append, List.getElem?_cons_zero, List.getElem?_cons_succ, Nat.add_zero] at y4 y5
          have HR : Hid (Row 2 ob' (some ⟨b, off, none⟩) (x :: r).length cap ((x :: r).flatMap (keyCells p0 p1)) w3) := hR
          have HKX : Hid (keyV p0 p1 x.k = .agg #[.pointer (some ⟨ppx, 0, none⟩), .int .i64 ox]) := hkx.1
          have HMB : Hid (w3.heap[bm]? = some (.map es clock) ∧ MapIs p0 p1 es (x :: r)) := ⟨hmb, hM⟩
          simp only [List.length_cons] at y3
          have hi1 : (0 : Int) < ((r.length + 1 : Nat) : Int) := by omega
          have hfl := field79
          clear hlk hcs hR hkx hmb hM
          go_region
          have hE4 : ((w3.setCell ⟨cb, 1, none⟩ (.int .i64 (total r))).drew).heap = (w3.setCell ⟨cb, 1, none⟩ (.int .i64 (total r))).heap := rfl
          have hK4 : Kept (fun i => i = cb ∨ i = bm ∨ ob = some i) w2 (w3.setCell ⟨cb, 1, none⟩ (.int .i64 (total r))).drew := (HI2.out.2.2.1.setCell (.inl (.inl rfl)) _).drew
          generalize (w3.setCell ⟨cb, 1, none⟩ (.int .i64 (total r))).drew = w4 at hE4 hK4 ⊢
          have HK4 : Hid (Kept (fun i => i = cb ∨ i = bm ∨ ob = some i) w2 w4) := hK4
          have hoth : ∀ k, k ≠ cb → w4.heap[k]? = w3.heap[k]? := fun k hk => by rw [hE4, blk_setCell_other _ _ _ k hk]
          have hbd : b ≠ cb := (HD.out b (by
            rcases HI2.out.2.2.2 with h1 | h1
            · rw [← h1]; exact hob'
            · rw [h1] at hob'; cases hob')).1
          have v2 : w4.cell? ⟨cb, 2, none⟩ = some (.map (some bm)) := by rw [cell_heap hE4, World.cell?_setCell_other _ _ _ _ (by simp)]; exact y2
          have v3 : w4.cell? ⟨cb, 3, none⟩ = some (.slice (some ⟨b, off, none⟩) (r.length + 1) cap) := by rw [cell_heap hE4, World.cell?_setCell_other _ _ _ _ (by simp)]; exact y3
          have v4 : w4.cell? ⟨b, off, none⟩ = some (.pointer (some ⟨ppx, 0, none⟩)) := by rw [cell_of_block (hoth b hbd)]; exact y4
          have v5 : w4.cell? ⟨b, off + 1, none⟩ = some (.int .i64 ox) := by rw [cell_of_block (hoth b hbd)]; exact y5
          have vf : ∀ o, w4.frozen? ⟨cb, o, none⟩ = false := fun o => by rw [frozen_heap hE4, World.frozen?_setCell]; exact fz o
          have hdrop := fun (W : World) (hW : W.heap = w4.heap) (ty : TypeId) => drop_head (w := W) (bm := bm) (clock := clock) (by rw [hW, hoth bm (Ne.symm HP.out.1)]; exact HMB.out.1) (by obtain ⟨h1, h2, h3⟩ := HC2.out.packs; exact ⟨h1, by rw [hW, hoth p0 (Ne.symm HP.out.2.1)]; exact h2, by rw [hW, hoth p1 (Ne.symm HP.out.2.2.1)]; exact h3⟩) HMB.out.2 HC2.out.keys ty
          have HMR : Hid (MapIs p0 p1 (es.eraseIdxIfInBounds 0) r) := (hdrop w4 rfl 0).2
          have k1 := fun ty => (hdrop w4 rfl ty).1
          have k2 := fun ty => (hdrop w4.drew rfl ty).1
          rw [HKX.out] at k1 k2
          have HE4 : Hid (w4.heap = (w3.setCell ⟨cb, 1, none⟩ (.int .i64 (total r))).heap) := hE4
          clear hE4 hK4 hoth hdrop y1 y2 y3 y4 y5 hk1 hk2 fz hw2 hfl
          go_wp2_with fail
          go_region
          have hE5 : (setBlock w4.drew bm (.map (es.eraseIdxIfInBounds 0) clock)).heap = (setBlock (w3.setCell ⟨cb, 1, none⟩ (.int .i64 (total r))) bm (.map (es.eraseIdxIfInBounds 0) clock)).heap := by
            show (w4.heap.setIfInBounds bm _) = ((w3.setCell ⟨cb, 1, none⟩ (.int .i64 (total r))).heap.setIfInBounds bm _)
            rw [HE4.out]
          have hK5 : Hid (Kept (fun i => i = cb ∨ i = bm ∨ ob = some i) w2 (setBlock w4.drew bm (.map (es.eraseIdxIfInBounds 0) clock))) := HK4.out.drew.setBlock (.inl (.inr (.inl rfl))) _
          have hcb5 : (setBlock w4.drew bm (.map (es.eraseIdxIfInBounds 0) clock)).heap[cb]? = w4.heap[cb]? := by
            have hne : bm ≠ cb := Ne.symm HP.out.1
            show (w4.heap.setIfInBounds bm _)[cb]? = _
            exact Array.getElem?_setIfInBounds_ne hne
          have u3 := (cell_of_block hcb5 3).trans v3
          have uf := fun o => (frozen_of_block hcb5 o).trans (vf o)
          have HE5 : Hid ((setBlock w4.drew bm (.map (es.eraseIdxIfInBounds 0) clock)).heap = (setBlock (w3.setCell ⟨cb, 1, none⟩ (.int .i64 (total r))) bm (.map (es.eraseIdxIfInBounds 0) clock)).heap) := hE5
          generalize setBlock w4.drew bm (.map (es.eraseIdxIfInBounds 0) clock) = w5 at HE5 hK5 u3 uf ⊢
          have hi2 : (1 : Int) ≤ ((r.length + 1 : Nat) : Int) := by omega
          clear hE5 hcb5 v2 v3 v4 v5 vf k1 k2 HE4 HK4 w4
          have hpr : ∃ p, L = p ++ r := by obtain ⟨p, hp⟩ := HI2.out.1; exact ⟨p ++ [x], by simp [hp]⟩
          have hrm : roomL bud e.len r = roomL bud e.len L := by rw [← HI2.out.2.1]; conv => rhs; unfold roomL; rw [if_pos hfit]
          have HPR : Hid ((∃ p, L = p ++ r) ∧ roomL bud e.len r = roomL bud e.len L) := ⟨hpr, hrm⟩
          clear hpr hrm
          have hdd : ∀ k, ob' = some k → k ≠ cb ∧ k ≠ bm ∧ k ≠ p0 ∧ k ≠ p1 := fun k hk => HD.out k (by
            rcases HI2.out.2.2.2 with h1 | h1
            · rw [← h1]; exact hk
            · rw [h1] at hk; cases hk)
          have HDD : Hid (∀ k, ob' = some k → k ≠ cb ∧ k ≠ bm ∧ k ≠ p0 ∧ k ≠ p1) := hdd
          clear hdd
          go_wp2_with fail
          all_goals go_roundg r.length
          all_goals try (case measure => simp at hLg; omega)
          all_goals (
            case rel =>
              obtain ⟨ob2, hc2, ho2⟩ := HC2.out.shrink (w' := w5.setCell ⟨cb, 3, none⟩ (.slice (if cap = 1 then some ⟨b, off, none⟩ else (some (⟨b, off, none⟩ : Addr)).map (·.add 2)) r.length (cap - 1))) HMR.out HR.out HDD.out HP.out (clock := clock) (heap_setCell HE5.out _ _)
              refine ⟨r, ob2, Nat.le_refl _, HPR.out.1, HPR.out.2, ?_, hK5.out.setCell (.inl (.inl rfl)) _, ?_⟩
              · simpa [h, Addr.add] using hc2
              · rcases ho2 with h1 | h1
                · rw [h1]; exact HI2.out.2.2.2
                · exact .inr h1)
        · have hroomL : roomL bud e.len L = L' := by
            rw [← HI.out.2.1]
            cases L' with
            | nil => rfl
            | cons x r => unfold roomL; rw [if_neg hfit]
          obtain ⟨hpre, _, hKw, hobb⟩ := HI.out
          have hnew : ∀ x ∈ L', x.k ≠ e.k := by
            obtain ⟨p, hp⟩ := hpre
            have := HHK.out
            unfold hasK at this
            rw [hp] at this
            simp at this
            exact this.2
          have hfit' : ¬ (bud < (total L' : Int) + (e.len : Int)) := hfit
          have hln : L'.length ≤ 10000 := by
            obtain ⟨p, hp⟩ := hpre
            have := congrArg List.length hp
            rw [List.length_append] at this
            omega
          have HJ : Hid (roomL bud e.len L = L' ∧ (∀ x ∈ L', x.k ≠ e.k) ∧ L'.length ≤ 10000 ∧ total L' ≤ 1073741824 ∧ Kept (fun i => i = cb ∨ i = bm ∨ ob = some i) w2 wr ∧ (ob' = ob ∨ ob' = none)) := ⟨hroomL, hnew, hln, by omega, hKw, hobb⟩
          clear HI hroomL hpre hKw hobb hnew hln htl hfit
          go_wp2_with fail
          go_quiet (fail)
          go_wp2_with fail
          have HC2 : Hid (Cache bud cb bm p0 p1 L' ob' (wr.drewN nq)) := HC1.out.below (fun _ _ => rfl)
          have HJ2 : Hid (Kept (fun i => i = cb ∨ i = bm ∨ ob = some i) w2 (wr.drewN nq)) := HJ.out.2.2.2.2.1.drewN nq
          clear HC1 x0 x1 hw1 n1 n2 n3 n4 hfit'
          generalize wr.drewN nq = w3 at HC2 HJ2 ⊢
          have hS : ∀ i, w.heap.size ≤ i → ¬ (i = cb ∨ i = bm ∨ ob = some i) := fun i hi hs => by
            obtain ⟨h1, h2, h3⟩ := HLT.out
            rcases hs with rfl | rfl | hs
            · omega
            · omega
            · have := h3 i hs; omega
          have y0 : w3.cell? ⟨w.heap.size, 0, none⟩ = some (.pointer (some ⟨pp, 0, none⟩)) := (HJ2.out.cell (by rw [hsz2.out]; omega) (hS _ (Nat.le_refl _))).trans hD.out.1
          have y1 : w3.cell? ⟨w.heap.size, 1, none⟩ = some (.int .i64 o) := (HJ2.out.cell (by rw [hsz2.out]; omega) (hS _ (Nat.le_refl _))).trans hD.out.2.1
          have y2 : w3.cell? ⟨w.heap.size + 1, 0, none⟩ = some (.int .u8 e.t) := (HJ2.out.cell (by rw [hsz2.out]; omega) (hS _ (by omega))).trans hD.out.2.2.1
          have y3 : w3.cell? ⟨w.heap.size + 1, 1, none⟩ = some (.slice e.a e.len e.cap) := (HJ2.out.cell (by rw [hsz2.out]; omega) (hS _ (by omega))).trans hD.out.2.2.2
          have y4 := HC2.out.c2
          obtain ⟨es, clock, hmb, hM⟩ := HC2.out.map
          have hst := fun (W : World) (hW : W.heap = w3.heap) => store_new (w := W) (bm := bm) (clock := clock) (e := e) (by rw [hW]; exact hmb) (by obtain ⟨h1, h2, h3⟩ := HC2.out.packs; exact ⟨h1, by rw [hW]; exact h2, by rw [hW]; exact h3⟩) hM HC2.out.keys HN.out.2.2.2 HJ.out.2.1
          have HMR : Hid (MapIs p0 p1 (es.push { key := keyV p0 p1 e.k, val := valV e, born := clock }) (L' ++ [e]) ∧ KeysOk (L' ++ [e])) := (hst w3 rfl).2
          have k1 := (hst w3 rfl).1
          have k2 := (hst w3.drew rfl).1
          generalize hO : Obj.map (es.push { key := keyV p0 p1 e.k, val := valV e, born := clock }) (clock + 1) = OM at k1 k2
          have HOM : Hid (Obj.map (es.push { key := keyV p0 p1 e.k, val := valV e, born := clock }) (clock + 1) = OM) := hO
          rw [HK.out, valV] at k1 k2
          clear hS hst hO hmb hM
          go_region
          have hE4 : (setBlock w3.drew bm OM).heap = (setBlock w3 bm OM).heap := rfl
          have hK4 : Hid (Kept (fun i => i = cb ∨ i = bm ∨ ob = some i) w2 (setBlock w3.drew bm OM)) := HJ2.out.drew.setBlock (.inl (.inr (.inl rfl))) _
          have hoth : ∀ k, k ≠ bm → (setBlock w3.drew bm OM).heap[k]? = w3.heap[k]? := fun k hk => by
            show (w3.heap.setIfInBounds bm _)[k]? = _
            exact Array.getElem?_setIfInBounds_ne (Ne.symm hk)
          have HE4 : Hid ((setBlock w3.drew bm OM).heap = (setBlock w3 bm OM).heap) := hE4
          have hs4 : (setBlock w3.drew bm OM).heap.size = w3.heap.size := by simp [setBlock]
          generalize setBlock w3.drew bm OM = w4 at HE4 hK4 hoth hs4 ⊢
          clear hE4 k1 k2
          obtain ⟨a, cap, z3, hR⟩ := HC2.out.c3
          have hlw : w.heap.size + 3 ≤ w3.heap.size := by have := HJ2.out.size; rw [hsz2.out] at this; exact this
          have nB : w.heap.size ≠ bm := by have := HLT.out.2.1; omega
          have v0 : w4.cell? ⟨w.heap.size, 0, none⟩ = some (.pointer (some ⟨pp, 0, none⟩)) := by rw [cell_of_block (hoth _ nB)]; exact y0
          have v1 : w4.cell? ⟨w.heap.size, 1, none⟩ = some (.int .i64 o) := by rw [cell_of_block (hoth _ nB)]; exact y1
          have v3 : w4.cell? ⟨cb, 3, none⟩ = some (.slice a L'.length cap) := by rw [cell_of_block (hoth _ HP.out.1)]; exact z3
          have v4 : w4.cell? ⟨cb, 1, none⟩ = some (.int .i64 (total L')) := by rw [cell_of_block (hoth _ HP.out.1)]; exact HC2.out.c1
          have vf : ∀ o, w4.frozen? ⟨cb, o, none⟩ = false := fun o => by rw [frozen_of_block (hoth _ HP.out.1)]; exact HC2.out.frz o
          have hdd : ∀ k, ob' = some k → k ≠ cb ∧ k ≠ bm ∧ k ≠ p0 ∧ k ≠ p1 := fun k hk => HD.out k (by
            rcases HJ.out.2.2.2.2.2 with h1 | h1
            · rw [← h1]; exact hk
            · rw [h1] at hk; cases hk)
          have hR4 : Row 2 ob' a L'.length cap (L'.flatMap (keyCells p0 p1)) ((w4.alloc (.cells #[.pointer (some ⟨pp, 0, none⟩), .int .i64 o] 73)).drew) := hR.kept fun k hk => by
            have hk3 : k < w3.heap.size := hR.lt (by omega) k hk
            exact (blk_alloc_lt w4 _ k (by omega)).trans (hoth k (hdd k hk).2.1)
          have q1 : (w4.alloc (.cells #[.pointer (some ⟨pp, 0, none⟩), .int .i64 o] 73)).drew.cell? ⟨w4.heap.size, 0, none⟩ = some (.pointer (some ⟨pp, 0, none⟩)) := by simp
          have q2 : (w4.alloc (.cells #[.pointer (some ⟨pp, 0, none⟩), .int .i64 o] 73)).drew.cell? ⟨w4.heap.size, 1, none⟩ = some (.int .i64 o) := by simp
          obtain ⟨a', cap', ob2, w5, hrun, hR5, hg5, ho5⟩ := append_key hR4 HJ.out.2.2.1 q1 q2 rfl rfl 1 82
          have hlc : cb < w4.heap.size := by rw [hs4]; have := HLT.out.1; omega
          have r3 : ∀ O, (w4.alloc O).cell? ⟨cb, 3, none⟩ = some (.slice a L'.length cap) := fun O => by rw [cell_of_block (blk_alloc_lt w4 O cb hlc)]; exact v3
          have ncb : some cb ≠ ob' := fun e1 => (hdd cb e1.symm).1 rfl
          have hcb5 : w5.heap[cb]? = w4.heap[cb]? := (hg5.block cb (by show cb < (w4.alloc _).heap.size; rw [nblk_alloc]; omega) ncb).trans (blk_alloc_lt w4 _ cb hlc)
          have t3 : w5.cell? ⟨cb, 3, none⟩ = some (.slice a L'.length cap) := (cell_of_block hcb5 3).trans v3
          have t1 : w5.cell? ⟨cb, 1, none⟩ = some (.int .i64 (total L')) := (cell_of_block hcb5 1).trans v4
          have tf : ∀ o, w5.frozen? ⟨cb, o, none⟩ = false := fun o => (frozen_of_block hcb5 o).trans (vf o)
          have HG : Hid ((w4.alloc (.cells #[.pointer (some ⟨pp, 0, none⟩), .int .i64 o] 73)).grownBy w5 ob') := ⟨hg5.os, hg5.tape, hg5.output, hg5.size, hg5.block⟩
          have HR5 : Hid (Row 2 ob2 a' (L'.length + 1) cap' (L'.flatMap (keyCells p0 p1) ++ [.pointer (some ⟨pp, 0, none⟩), .int .i64 o]) w5) := hR5
          have HO5 : Hid (∀ k, ob2 = some k → ob' = some k ∨ (w4.alloc (.cells #[.pointer (some ⟨pp, 0, none⟩), .int .i64 o] 73)).heap.size ≤ k) := ho5
          have HDD : Hid (∀ k, ob' = some k → k ≠ cb ∧ k ≠ bm ∧ k ≠ p0 ∧ k ≠ p1) := hdd
          have HS4 : Hid (w4.heap.size = w3.heap.size) := hs4
          have HLW : Hid (w.heap.size + 3 ≤ w3.heap.size) := hlw
          have hw9 : wrap64 ((total L' : Int) + (e.len : Int)) = ((total (L' ++ [e]) : Nat) : Int) := by
            have h1 := HN.out.1
            have h2 := HJ.out.2.2.2.1
            rw [total_append]; unfold wrap64; omega
          clear hoth hdd hR4 hR y0 y1 y2 y3 y4 hs4 hlw hcb5 hg5 hR5 ho5 ncb q1 q2 nB hlc v4
          have HRUN : Hid ((Builtin.append_ #[82, 82] 82 #[.slice a L'.length cap, .slice (some ⟨w4.heap.size, 0, none⟩) 1 1]).run Yba.prog ((w4.alloc (.cells #[.pointer (some ⟨pp, 0, none⟩), .int .i64 o] 73)).drew) = .ok (.slice a' (L'.length + 1) cap') w5) := hrun
          clear hrun
          go_wp2_with fail
          go_region_law (refine step_append_run rfl (.tmp 88) (.tmp 90) 82 rfl (by simp [Act.eval, Act.put]) (by simp [Act.eval, Act.put]) HRUN.out ?_)
          all_goals (
            clear r3 v0 v1 v3 vf HRUN
            go_wp2_with fail
            first | go_end0 | refine bodyPost_ret (results_none rfl _ _ _) rfl ?_
            refine ⟨rfl, ob2, ?_, ?_, ?_⟩
            · unfold putL
              rw [HHK.out, if_neg (show ¬ (false = true) by simp), if_neg (show ¬ (bud < (e.len : Int)) from Int.not_lt.2 HBL.out), HJ.out.1]
              refine HC2.out.grow (e := e) (clock := clock + 1) (w4 := w4) (w5 := w5) (O := .cells #[.pointer (some ⟨pp, 0, none⟩), .int .i64 o] 73) HMR.out.1 HMR.out.2 HDD.out HP.out (by rw [HOM.out]; exact HE4.out) HG.out ?_ HO5.out rfl
              rw [List.flatMap_append, List.flatMap_singleton, HKC.out]
              exact HR5.out
            · refine (Kept.of_below HB4.out).trans ((((((hK4.out.alloc _).of_grown HG.out ?_).setCell (.inl (.inl rfl)) _).setCell (.inl (.inl rfl)) _)))
              intro k hk
              rcases HJ.out.2.2.2.2.2 with h1 | h1
              · exact .inl (.inr (.inr (by rw [← h1]; exact hk)))
              · rw [h1] at hk; cases hk
            · intro k hk
              rcases HO5.out k hk with h2 | h2
              · rcases HJ.out.2.2.2.2.2 with h1 | h1
                · exact .inl (by rw [← h1]; exact h2)
                · rw [h1] at h2; cases h2
              · rw [nblk_alloc, HS4.out] at h2
                have := HLW.out
                exact .inr (by omega))
end Go.Proofs.Ybulkeila

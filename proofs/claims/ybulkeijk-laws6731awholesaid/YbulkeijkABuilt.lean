/-
  What the law has built after i rounds of its second loop; a round on; what 'closeAll' asks of it; what stands behind it.
  B: the heap's size at the entry. Blocks: B: stands (the array); B + 1 .. B + 4: the stand-ins; B + 5: want; B + 6: cs; B + 7: the map; B + 8: conns; B + 9: vals; B + 10 + j: connection j.
-/
import Derived.Test.YbulkeijkAClose
import Derived.Laws.MakeOwn
import Derived.Deep.Draws
namespace Go.Proofs.Ybulkeijk
open Go.RowKit Go.MuLone Go.Maps Go.Deep
open Go.ChangeMaps (setBlock)
set_option linter.unusedSimpArgs false

def ent (B : Nat) (v : Nat → Bool) (j : Nat) : MapEntry := { key := .pointer (some ⟨B + 10 + j, 0, none⟩), val := .bool (v j), born := j }
def ents (B : Nat) (v : Nat → Bool) (n : Nat) : Array MapEntry := ((List.range n).map (ent B v)).toArray

theorem ents_push (B : Nat) (v : Nat → Bool) (i : Nat) : ents B v (i + 1) = (ents B v i).push (ent B v i) := by
  simp [ents, List.range_succ]

theorem ents_size (B : Nat) (v : Nat → Bool) (i : Nat) : (ents B v i).size = i := by simp [ents]

theorem mem_ents {B : Nat} {v : Nat → Bool} {n : Nat} {e : MapEntry} (h : e ∈ (ents B v n).toList) : ∃ j, j < n ∧ e = ent B v j := by
  simp only [ents, List.mem_map, List.mem_range] at h
  obtain ⟨j, hj, rfl⟩ := h
  exact ⟨j, hj, rfl⟩

theorem ents_at {B : Nat} {v : Nat → Bool} {n j : Nat} (h : j < n) : (ents B v n).toList[j]? = some (ent B v j) := by
  simp [ents, h]

theorem ents_nodup (B : Nat) (v : Nat → Bool) (n : Nat) : ((ents B v n).toList.map (·.born)).Nodup := by
  have : (ents B v n).toList.map (·.born) = List.range n := by
    simp only [ents, List.map_map]
    exact (List.map_congr_left (fun j _ => rfl)).trans (List.map_id _)
  rw [this]
  exact List.nodup_range

/-- How many of the first i have q j = s. -/
def cntTo (q : Nat → Nat) : Nat → Nat → Nat
  | 0, _ => 0
  | i + 1, s => cntTo q i s + if q i = s then 1 else 0

theorem cntTo_le (q : Nat → Nat) (s : Nat) : ∀ i, cntTo q i s ≤ i
  | 0 => Nat.le_refl _
  | i + 1 => by have := cntTo_le q s i; simp only [cntTo]; split <;> omega

theorem ents_count (B : Nat) (v : Nat → Bool) (q : Nat → Nat) (s : Nat) : ∀ n, (ents B v n).toList.countP (fun e => B + 1 + q e.born == B + 1 + s) = cntTo q n s
  | 0 => by simp [ents, cntTo]
  | n + 1 => by
    rw [ents_push, Array.toList_push, List.countP_append, ents_count B v q s n]
    simp only [cntTo, ent, List.countP_singleton]
    congr 1
    by_cases h : q n = s <;> simp [h]

def connObj (B s : Nat) : Obj := .cells #[.iface 24 (.pointer (some ⟨B + 1 + s, 0, none⟩)), .int .u64 0, .int .i64 0, .pointer none, .int .i64 0] 53

structure Built (q : Nat → Nat) (v : Nat → Bool) (n i B : Nat) (w wr : World) : Prop where
  below : Below B w wr
  size : wr.heap.size = B + 10 + i
  arr : ∀ j, j < 4 → wr.cell? ⟨B, j, none⟩ = some (.pointer (some ⟨B + 1 + j, 0, none⟩))
  st : ∀ j, j < 4 → wr.cell? ⟨B + 1 + j, 0, none⟩ = some (.int .i64 0)
  want : ∀ j, j < 4 → wr.cell? ⟨B + 5, j, none⟩ = some (.int .i64 (cntTo q i j))
  lock : wr.cell? ⟨B + 6, 0, none⟩ = some (.int .i32 0)
  opn : wr.cell? ⟨B + 6, 2, none⟩ = some (.map (some (B + 7)))
  map : wr.heap[B + 7]? = some (.map (ents B v i) i)
  conns : ∀ j, j < n → wr.cell? ⟨B + 8, j, none⟩ = some (.pointer (if j < i then some ⟨B + 10 + j, 0, none⟩ else none))
  vals : ∀ j, j < n → wr.cell? ⟨B + 9, j, none⟩ = some (.bool (if j < i then v j else false))
  conn : ∀ j, j < i → wr.heap[B + 10 + j]? = some (connObj B (q j))
  frz : ∀ k o, k < 10 → wr.frozen? ⟨B + k, o, none⟩ = false

theorem frozen_of_block {w w' : World} {k : Nat} (h : w'.heap[k]? = w.heap[k]?) (o : Nat) : w'.frozen? ⟨k, o, none⟩ = w.frozen? ⟨k, o, none⟩ := by
  simp only [World.frozen?, h]

variable {q : Nat → Nat} {v : Nat → Bool} {n i B : Nat} {w wr : World}

/-- ONE ROUND ON. -/
theorem Built.step (h : Built q v n i B w wr) (hi : i < n) (hq : q i < 4) {w4 : World}
    (hw4 : w4 = setBlock (((wr.alloc (connObj B (q i))).setCell ⟨B + 8, i, none⟩ (.pointer (some ⟨B + 10 + i, 0, none⟩))).setCell ⟨B + 9, i, none⟩ (.bool (v i))) (B + 7) (.map ((ents B v i).push (ent B v i)) (i + 1))) :
    Built q v n (i + 1) B w (w4.setCell ⟨B + 5, q i, none⟩ (.int .i64 ((cntTo q i (q i) : Int) + 1))) := by
  have hsz := h.size
  -- what each store and the new block leave of block k
  have s1 : ∀ k, k < B + 10 + i → (wr.alloc (connObj B (q i))).heap[k]? = wr.heap[k]? := fun k hk => blk_alloc_lt _ _ k (by omega)
  have s4 : ∀ k, k ≠ B + 7 → w4.heap[k]? = (((wr.alloc (connObj B (q i))).setCell ⟨B + 8, i, none⟩ (.pointer (some ⟨B + 10 + i, 0, none⟩))).setCell ⟨B + 9, i, none⟩ (.bool (v i))).heap[k]? := fun k hk => by
    rw [hw4, setBlock_other _ _ _ hk]
  have s5 : ∀ k, k ≠ B + 5 → (w4.setCell ⟨B + 5, q i, none⟩ (.int .i64 ((cntTo q i (q i) : Int) + 1))).heap[k]? = w4.heap[k]? := fun k hk => blk_setCell_other _ _ _ k hk
  -- a block that none of them touches
  have old : ∀ k, k < B + 10 + i → k ≠ B + 5 → k ≠ B + 7 → k ≠ B + 8 → k ≠ B + 9 → (w4.setCell ⟨B + 5, q i, none⟩ (.int .i64 ((cntTo q i (q i) : Int) + 1))).heap[k]? = wr.heap[k]? := fun k h0 h5 h7 h8 h9 => by
    rw [s5 k h5, s4 k h7, blk_setCell_other _ _ _ k h9, blk_setCell_other _ _ _ k h8, s1 k h0]
  have c9 : ∀ o, (wr.alloc (connObj B (q i))).cell? ⟨B + 9, o, none⟩ = wr.cell? ⟨B + 9, o, none⟩ := fun o => cell_of_block (s1 (B + 9) (by omega)) o
  have c8 : ∀ o, (wr.alloc (connObj B (q i))).cell? ⟨B + 8, o, none⟩ = wr.cell? ⟨B + 8, o, none⟩ := fun o => cell_of_block (s1 (B + 8) (by omega)) o
  refine ⟨?_, ?_, ?_, ?_, ?_, ?_, ?_, ?_, ?_, ?_, ?_, ?_⟩
  · have b3 : Below B w (((wr.alloc (connObj B (q i))).setCell ⟨B + 8, i, none⟩ (.pointer (some ⟨B + 10 + i, 0, none⟩))).setCell ⟨B + 9, i, none⟩ (.bool (v i))) :=
      ((h.below.alloc (by omega) _).setCell (by simp) _).setCell (by simp) _
    have b4 : Below B w w4 := by
      rw [hw4]
      exact ⟨b3.os, b3.tape, b3.output, by simpa [setBlock] using b3.size, fun k hk => by rw [setBlock_other _ _ _ (by omega)]; exact b3.block k hk⟩
    exact b4.setCell (by simp) _
  · rw [nblk_setCell, hw4]
    simp [setBlock, hsz]
    omega
  · intro j hj
    rw [cell_of_block (old B (by omega) (by omega) (by omega) (by omega) (by omega))]
    exact h.arr j hj
  · intro j hj
    rw [cell_of_block (old (B + 1 + j) (by omega) (by omega) (by omega) (by omega) (by omega))]
    exact h.st j hj
  · intro j hj
    have e4 : ∀ o, w4.cell? ⟨B + 5, o, none⟩ = wr.cell? ⟨B + 5, o, none⟩ := fun o => by
      rw [cell_of_block (s4 (B + 5) (by omega)), cell_of_block (blk_setCell_other _ _ _ (B + 5) (by simp)), cell_of_block (blk_setCell_other _ _ _ (B + 5) (by simp)), cell_of_block (s1 (B + 5) (by omega))]
    by_cases e : q i = j
    · subst e
      rw [World.cell?_setCell_same _ _ _ ((e4 (q i)).trans (h.want (q i) hq))]
      simp [cntTo]
    · rw [World.cell?_setCell_other _ _ _ _ (by simp [e]), e4, h.want j hj]
      simp [cntTo, e]
  · rw [cell_of_block (old (B + 6) (by omega) (by omega) (by omega) (by omega) (by omega))]
    exact h.lock
  · rw [cell_of_block (old (B + 6) (by omega) (by omega) (by omega) (by omega) (by omega))]
    exact h.opn
  · rw [s5 (B + 7) (by omega), hw4, setBlock_same _ _ _ (by simp [hsz]; omega), ents_push]
  · intro j hj
    rw [cell_of_block (s5 (B + 8) (by omega)), cell_of_block (s4 (B + 8) (by omega)), cell_of_block (blk_setCell_other _ _ _ (B + 8) (by simp))]
    by_cases e : i = j
    · subst e
      rw [World.cell?_setCell_same _ _ _ ((c8 i).trans (h.conns i hi))]
      simp
    · rw [World.cell?_setCell_other _ _ _ _ (by simp [e]), c8, h.conns j hj]
      have : (j < i + 1) = (j < i) := by simp; omega
      simp [this]
  · intro j hj
    rw [cell_of_block (s5 (B + 9) (by omega)), cell_of_block (s4 (B + 9) (by omega))]
    have e8 : ∀ o, ((wr.alloc (connObj B (q i))).setCell ⟨B + 8, i, none⟩ (.pointer (some ⟨B + 10 + i, 0, none⟩))).cell? ⟨B + 9, o, none⟩ = wr.cell? ⟨B + 9, o, none⟩ := fun o => by
      rw [cell_of_block (blk_setCell_other _ _ _ (B + 9) (by simp)), c9]
    by_cases e : i = j
    · subst e
      rw [World.cell?_setCell_same _ _ _ ((e8 i).trans (h.vals i hi))]
      simp
    · rw [World.cell?_setCell_other _ _ _ _ (by simp [e]), e8, h.vals j hj]
      have : (j < i + 1) = (j < i) := by simp; omega
      simp [this]
  · intro j hj
    by_cases e : j = i
    · subst e
      rw [s5 _ (by omega), s4 _ (by omega), blk_setCell_other _ _ _ _ (by simp; omega), blk_setCell_other _ _ _ _ (by simp; omega), ← hsz]
      exact blk_alloc_new _ _
    · rw [old (B + 10 + j) (by omega) (by omega) (by omega) (by omega) (by omega)]
      exact h.conn j (by omega)
  · intro k o hk
    have f0 := h.frz k o hk
    have f4 : w4.frozen? ⟨B + k, o, none⟩ = false := by
      by_cases e : k = 7
      · subst e
        rw [hw4]
        simp [World.frozen?, setBlock_same _ _ _ (show B + 7 < (((wr.alloc (connObj B (q i))).setCell ⟨B + 8, i, none⟩ (.pointer (some ⟨B + 10 + i, 0, none⟩))).setCell ⟨B + 9, i, none⟩ (.bool (v i))).heap.size by simp [hsz]; omega)]
      · rw [frozen_of_block (s4 (B + k) (by omega))]
        simp only [World.frozen?_setCell]
        rw [frozen_of_block (s1 (B + k) (by omega))]
        exact f0
    rw [World.frozen?_setCell]
    exact f4


/-! ### at the loop's start -/
theorem inf41 : (Yba.prog.info? 41).map (fun i => (i.zero, i.size, i.bytes)) = some (some (.pointer none), 1, 8) := by kernel_rfl
theorem inf4 : (Yba.prog.info? 4).map (fun i => (i.zero, i.size, i.bytes)) = some (some (.bool false), 1, 1) := by kernel_rfl
theorem mkConns (n : Nat) (h : n ≤ 65536) (W : World) : (Instr.makeSlice 40 (.int .i64 (n : Int)) (.int .i64 (n : Int))).run Yba.prog W =
    .ok (.slice (some ⟨W.heap.size, 0, none⟩) n n) (W.alloc (.cells (madeCells #[.pointer none] (n * 1)) 41)) := by
  obtain ⟨i, hi, hh⟩ := Option.map_eq_some_iff.1 inf41
  simp only [Prod.mk.injEq] at hh
  obtain ⟨h1, h2, h3⟩ := hh
  have := run_make (P := Yba.prog) W 40 41 i _ Yba.underlying40 hi h1 .i64 .i64 n n (by omega) (by omega) (by rw [h3]; omega) (by omega)
  rw [this, h2]; rfl
theorem mkVals (n : Nat) (h : n ≤ 65536) (W : World) : (Instr.makeSlice 23 (.int .i64 (n : Int)) (.int .i64 (n : Int))).run Yba.prog W =
    .ok (.slice (some ⟨W.heap.size, 0, none⟩) n n) (W.alloc (.cells (madeCells #[.bool false] (n * 1)) 4)) := by
  obtain ⟨i, hi, hh⟩ := Option.map_eq_some_iff.1 inf4
  simp only [Prod.mk.injEq] at hh
  obtain ⟨h1, h2, h3⟩ := hh
  have := run_make (P := Yba.prog) W 23 4 i _ Yba.underlying23 hi h1 .i64 .i64 n n (by omega) (by omega) (by rw [h3]; omega) (by omega)
  rw [this, h2]; rfl

theorem made_at (z : Value) (n j : Nat) (h : j < n) : (madeCells #[z] n)[j]? = some z := by
  simp [madeCells, h, Nat.mod_one]

/-- The world ahead of 'isNil := ..'. -/
def start0 (w : World) : World :=
  (((((w.alloc (.cells #[.pointer (some ⟨w.heap.size + 1, 0, none⟩), .pointer (some ⟨w.heap.size + 1 + 1, 0, none⟩), .pointer (some ⟨w.heap.size + 1 + 1 + 1, 0, none⟩), .pointer (some ⟨w.heap.size + 1 + 1 + 1 + 1, 0, none⟩)] 25)).alloc
    (.cells #[.int .i64 0] 27)).alloc (.cells #[.int .i64 0] 27)).alloc (.cells #[.int .i64 0] 27)).alloc (.cells #[.int .i64 0] 27)).alloc (.cells #[.int .i64 0, .int .i64 0, .int .i64 0, .int .i64 0] 28)

/-- The world ahead of the second loop. -/
def start (w : World) (n : Nat) : World :=
  (((((start0 w).alloc (.cells #[.int .i32 0, .int .u32 0, .map (some (w.heap.size + 7))] 39)).alloc (.map #[] 0)).alloc (.cells (madeCells #[.pointer none] n) 41)).alloc (.cells (madeCells #[.bool false] n) 4))

theorem toList_alloc (W : World) (o : Obj) : (W.alloc o).heap.toList = W.heap.toList ++ [o] := by
  show (W.heap.push o).toList = _
  simp

theorem Built.at_start (q : Nat → Nat) (v : Nat → Bool) (n : Nat) (w : World) : Built q v n 0 w.heap.size w (start w n) := by
  have hb : ∀ k, (start w n).heap[w.heap.size + k]? = [Obj.cells #[.pointer (some ⟨w.heap.size + 1, 0, none⟩), .pointer (some ⟨w.heap.size + 1 + 1, 0, none⟩), .pointer (some ⟨w.heap.size + 1 + 1 + 1, 0, none⟩), .pointer (some ⟨w.heap.size + 1 + 1 + 1 + 1, 0, none⟩)] 25,
      .cells #[.int .i64 0] 27, .cells #[.int .i64 0] 27, .cells #[.int .i64 0] 27, .cells #[.int .i64 0] 27, .cells #[.int .i64 0, .int .i64 0, .int .i64 0, .int .i64 0] 28, .cells #[.int .i32 0, .int .u32 0, .map (some (w.heap.size + 7))] 39, .map #[] 0,
      .cells (madeCells #[.pointer none] n) 41, .cells (madeCells #[.bool false] n) 4][k]? := by
    intro k
    have hh : (Go.Proofs.Ybulkeijk.start w n).heap.toList = w.heap.toList ++ [Obj.cells #[.pointer (some ⟨w.heap.size + 1, 0, none⟩), .pointer (some ⟨w.heap.size + 1 + 1, 0, none⟩), .pointer (some ⟨w.heap.size + 1 + 1 + 1, 0, none⟩), .pointer (some ⟨w.heap.size + 1 + 1 + 1 + 1, 0, none⟩)] 25,
      .cells #[.int .i64 0] 27, .cells #[.int .i64 0] 27, .cells #[.int .i64 0] 27, .cells #[.int .i64 0] 27, .cells #[.int .i64 0, .int .i64 0, .int .i64 0, .int .i64 0] 28, .cells #[.int .i32 0, .int .u32 0, .map (some (w.heap.size + 7))] 39, .map #[] 0,
      .cells (madeCells #[.pointer none] n) 41, .cells (madeCells #[.bool false] n) 4] := by
      simp only [Go.Proofs.Ybulkeijk.start, start0, toList_alloc, List.append_assoc, List.cons_append, List.nil_append]
    rw [← Array.getElem?_toList, hh, List.getElem?_append_right (by simp)]
    simp
  have h0 := hb 0; have h1 := hb 1; have h2 := hb 2; have h3 := hb 3; have h4 := hb 4; have h5 := hb 5; have h6 := hb 6; have h7 := hb 7; have h8 := hb 8; have h9 := hb 9
  simp only [List.getElem?_cons_zero, List.getElem?_cons_succ, Nat.add_zero] at h0 h1 h2 h3 h4 h5 h6 h7 h8 h9
  have hsz : (Go.Proofs.Ybulkeijk.start w n).heap.size = w.heap.size + 10 := by simp [Go.Proofs.Ybulkeijk.start, start0]
  refine ⟨?_, by rw [hsz], ?_, ?_, ?_, ?_, ?_, ?_, ?_, ?_, ?_, ?_⟩
  · unfold Go.Proofs.Ybulkeijk.start start0
    refine ((((((((((Below.refl _ w).alloc ?_ _).alloc ?_ _).alloc ?_ _).alloc ?_ _).alloc ?_ _).alloc ?_ _).alloc ?_ _).alloc ?_ _).alloc ?_ _).alloc ?_ _ <;> simp <;> omega
  · intro j hj
    have : j = 0 ∨ j = 1 ∨ j = 2 ∨ j = 3 := by omega
    rcases this with rfl | rfl | rfl | rfl <;> simp [World.cell?, h0, Nat.add_assoc]
  · intro j hj
    have : j = 0 ∨ j = 1 ∨ j = 2 ∨ j = 3 := by omega
    rcases this with rfl | rfl | rfl | rfl <;> simp [World.cell?, h1, h2, h3, h4, Nat.add_assoc]
  · intro j hj
    have : j = 0 ∨ j = 1 ∨ j = 2 ∨ j = 3 := by omega
    rcases this with rfl | rfl | rfl | rfl <;> simp [World.cell?, h5, cntTo]
  · simp [World.cell?, h6]
  · simp [World.cell?, h6]
  · simp [h7, ents]
  · intro j hj
    simp only [World.cell?, h8]
    simpa using made_at (.pointer none) n j hj
  · intro j hj
    simp only [World.cell?, h9]
    simpa using made_at (.bool false) n j hj
  · intro j hj; omega
  · intro k o hk
    have : k = 0 ∨ k = 1 ∨ k = 2 ∨ k = 3 ∨ k = 4 ∨ k = 5 ∨ k = 6 ∨ k = 7 ∨ k = 8 ∨ k = 9 := by omega
    rcases this with rfl | rfl | rfl | rfl | rfl | rfl | rfl | rfl | rfl | rfl <;> simp [World.frozen?, h0, h1, h2, h3, h4, h5, h6, h7, h8, h9]

/-! ### what 'closeAll' asks -/
theorem Built.held (h : Built q v n n B w wr) (hq : ∀ j, j < n → q j < 4) (hn : n ≤ 65536) :
    Held wr B (B + 6) (B + 7) (fun s => B + 1 ≤ s ∧ s < B + 5) (fun e => B + 1 + q e.born) (ents B v n) n := by
  refine ⟨by have := h.size; omega, by omega, h.map, ?_, ents_nodup _ _ _, by rw [ents_size]; exact hn, ?_, ?_, h.lock, h.opn, h.frz 6 0 (by omega)⟩
  · intro x hx
    obtain ⟨j, hj, rfl⟩ := mem_ents hx
    exact hj
  · intro e he
    obtain ⟨j, hj, rfl⟩ := mem_ents he
    refine ⟨B + 10 + j, rfl, ?_, ?_, by omega, by omega⟩
    · simp [World.cell?, h.conn j hj, connObj, ent]
    · have := hq j hj
      simp only [ent]
      omega
  · intro s hs
    obtain ⟨k, rfl⟩ : ∃ k, s = B + 1 + k := ⟨s - (B + 1), by omega⟩
    refine ⟨h.st k (by omega), ?_, by omega, by omega, by omega⟩
    have := h.frz (1 + k) 0 (by omega)
    rwa [← Nat.add_assoc] at this

/-! ### behind it -/
structure Closed (q : Nat → Nat) (v : Nat → Bool) (n B : Nat) (w wr : World) : Prop where
  below : Below B w wr
  arr : ∀ j, j < 4 → wr.cell? ⟨B, j, none⟩ = some (.pointer (some ⟨B + 1 + j, 0, none⟩))
  st : ∀ j, j < 4 → wr.cell? ⟨B + 1 + j, 0, none⟩ = some (.int .i64 (cntTo q n j))
  want : ∀ j, j < 4 → wr.cell? ⟨B + 5, j, none⟩ = some (.int .i64 (cntTo q n j))
  lock : wr.cell? ⟨B + 6, 0, none⟩ = some (.int .i32 0)
  opn : wr.cell? ⟨B + 6, 2, none⟩ = some (.map (some (B + 7)))
  map : wr.heap[B + 7]? = some (.map (ents B v n) n)
  conns : ∀ j, j < n → wr.cell? ⟨B + 8, j, none⟩ = some (.pointer (some ⟨B + 10 + j, 0, none⟩))
  vals : ∀ j, j < n → wr.cell? ⟨B + 9, j, none⟩ = some (.bool (v j))
  conn : ∀ j, j < n → wr.heap[B + 10 + j]? = some (connObj B (q j))
  frz : wr.frozen? ⟨B + 6, 0, none⟩ = false

theorem Built.closed (h : Built q v n n B w wr) {w1 w' : World} {seen : Array Nat}
    (m : Mid wr B (B + 6) (B + 7) (fun s => B + 1 ≤ s ∧ s < B + 5) (fun e => B + 1 + q e.born) (ents B v n) n seen w1) (hl : (leftOf (ents B v n) seen).size = 0) (hw' : w' = w1.setCell ⟨B + 6, 0, none⟩ (.int .i32 0)) :
    Closed q v n B w w' := by
  have hsz := h.size
  have hb : ∀ k, k < B + 10 + n → ¬ (B + 1 ≤ k ∧ k < B + 5) → k ≠ B + 6 → w'.heap[k]? = wr.heap[k]? := fun k h1 h2 h3 => by
    rw [hw', blk_setCell_other _ _ _ k h3]
    exact m.kept k (by omega) h2 h3
  have l6 : ∀ o, w1.cell? ⟨B + 6, o, none⟩ = (wr.setCell ⟨B + 6, 0, none⟩ (.int .i32 1)).cell? ⟨B + 6, o, none⟩ := m.lock
  refine ⟨?_, ?_, ?_, ?_, ?_, ?_, ?_, ?_, ?_, ?_, ?_⟩
  · rw [hw']
    exact (h.below.trans m.below).setCell (by simp) _
  · intro j hj
    rw [cell_of_block (hb B (by omega) (by omega) (by omega))]; exact h.arr j hj
  · intro j hj
    rw [hw', cell_of_block (blk_setCell_other _ _ _ (B + 1 + j) (by simp; omega))]
    obtain ⟨c, hc, hsum⟩ := m.cnt (B + 1 + j) ⟨by omega, by omega⟩
    rw [toCome_none _ hl, ents_count] at hsum
    rw [hc, ← hsum]
    simp
  · intro j hj
    rw [cell_of_block (hb (B + 5) (by omega) (by omega) (by omega))]; exact h.want j hj
  · rw [hw']
    exact World.cell?_setCell_same _ _ _ ((l6 0).trans (World.cell?_setCell_same _ _ _ h.lock))
  · rw [hw', World.cell?_setCell_other _ _ _ _ (by simp), l6 2, World.cell?_setCell_other _ _ _ _ (by simp)]
    exact h.opn
  · rw [hb (B + 7) (by omega) (by omega) (by omega)]; exact h.map
  · intro j hj
    rw [cell_of_block (hb (B + 8) (by omega) (by omega) (by omega)), h.conns j hj]; simp [hj]
  · intro j hj
    rw [cell_of_block (hb (B + 9) (by omega) (by omega) (by omega)), h.vals j hj]; simp [hj]
  · intro j hj
    rw [hb (B + 10 + j) (by omega) (by omega) (by omega)]; exact h.conn j hj
  · rw [hw', World.frozen?_setCell, m.frz _ (by simp; omega)]
    exact h.frz 6 0 (by omega)

/-- TryLock, Unlock: the state word to 1 and back. -/
theorem Closed.locked (h : Closed q v n B w wr) (x : Int) : Closed q v n B w ((wr.setCell ⟨B + 6, 0, none⟩ (.int .i32 x)).setCell ⟨B + 6, 0, none⟩ (.int .i32 0)) := by
  have hb : ∀ k, k ≠ B + 6 → ((wr.setCell ⟨B + 6, 0, none⟩ (.int .i32 x)).setCell ⟨B + 6, 0, none⟩ (.int .i32 0)).heap[k]? = wr.heap[k]? := fun k hk => by
    rw [blk_setCell_other _ _ _ k hk, blk_setCell_other _ _ _ k hk]
  refine ⟨(h.below.setCell (by simp) _).setCell (by simp) _, ?_, ?_, ?_, ?_, ?_, ?_, ?_, ?_, ?_, ?_⟩
  · intro j hj; rw [cell_of_block (hb B (by omega))]; exact h.arr j hj
  · intro j hj; rw [cell_of_block (hb (B + 1 + j) (by omega))]; exact h.st j hj
  · intro j hj; rw [cell_of_block (hb (B + 5) (by omega))]; exact h.want j hj
  · exact World.cell?_setCell_same _ _ _ (World.cell?_setCell_same _ _ _ h.lock)
  · rw [World.cell?_setCell_other _ _ _ _ (by simp), World.cell?_setCell_other _ _ _ _ (by simp)]; exact h.opn
  · rw [hb (B + 7) (by omega)]; exact h.map
  · intro j hj; rw [cell_of_block (hb (B + 8) (by omega))]; exact h.conns j hj
  · intro j hj; rw [cell_of_block (hb (B + 9) (by omega))]; exact h.vals j hj
  · intro j hj; rw [hb (B + 10 + j) (by omega)]; exact h.conn j hj
  · simp [h.frz]

theorem inf53 : (Yba.prog.info? 53).map (fun i => decide (i.size = 0)) = some false := by kernel_rfl

/-- Two connections' pointers. -/
theorem eq_conn {W : World} {a b : Nat} {oa ob : Nat} (hne : a ≠ b) (ha : W.heap[a]? = some (connObj B oa)) (hb : W.heap[b]? = some (connObj B ob)) :
    (Op.equal 41 (.pointer (some ⟨a, 0, none⟩)) (.pointer (some ⟨b, 0, none⟩))).run Yba.prog W = .ok false W := by
  obtain ⟨i, hi, hh⟩ := Option.map_eq_some_iff.1 inf53
  exact eq_ptr_other W Yba.underlying41 hi (by simpa using hh) (by simp [hne]) ha hb

theorem eq_conn_same (W : World) (a : Nat) : (Op.equal 41 (.pointer (some ⟨a, 0, none⟩)) (.pointer (some ⟨a, 0, none⟩))).run Yba.prog W = .ok true W := by
  obtain ⟨i, hi, hh⟩ := Option.map_eq_some_iff.1 inf53
  exact eq_ptr_same W Yba.underlying41 hi _


/-! ### in the round -/
theorem Built.mapNow (h : Built q v n i B w wr) (O : Obj) (x y : Value) : (((wr.alloc O).setCell ⟨B + 8, i, none⟩ x).setCell ⟨B + 9, i, none⟩ y).heap[B + 7]? = some (.map (ents B v i) i) := by
  rw [blk_setCell_other _ _ _ _ (by simp), blk_setCell_other _ _ _ _ (by simp), blk_alloc_lt _ _ _ (by rw [h.size]; omega), h.map]

theorem Built.newKey (h : Built q v n i B w wr) (x y : Value) : ∀ e ∈ (ents B v i).toList, (Op.equal 41 (.pointer (some ⟨B + 10 + i, 0, none⟩)) e.key).run Yba.prog (((wr.alloc (connObj B (q i))).setCell ⟨B + 8, i, none⟩ x).setCell ⟨B + 9, i, none⟩ y) = .ok false (((wr.alloc (connObj B (q i))).setCell ⟨B + 8, i, none⟩ x).setCell ⟨B + 9, i, none⟩ y) := by
  intro e he
  obtain ⟨j, hj, rfl⟩ := mem_ents he
  refine eq_conn (B := B) (oa := q i) (ob := q j) (by omega) ?_ ?_
  · rw [blk_setCell_other _ _ _ _ (by simp; omega), blk_setCell_other _ _ _ _ (by simp; omega), ← h.size]
    exact blk_alloc_new _ _
  · rw [blk_setCell_other _ _ _ _ (by simp; omega), blk_setCell_other _ _ _ _ (by simp; omega), blk_alloc_lt _ _ _ (by rw [h.size]; omega)]
    exact h.conn j hj

/-- Behind the store into the map: the counter's cell. -/
theorem Built.wantNow (h : Built q v n i B w wr) {O : Obj} {x y : Value} {w4 : World} {o : Obj} (hw4 : w4 = setBlock (((wr.alloc O).setCell ⟨B + 8, i, none⟩ x).setCell ⟨B + 9, i, none⟩ y) (B + 7) o) {j : Nat} (hj : j < 4) :
    w4.cell? ⟨B + 5, j, none⟩ = some (.int .i64 (cntTo q i j)) ∧ w4.frozen? ⟨B + 5, j, none⟩ = false := by
  have hb : w4.heap[B + 5]? = wr.heap[B + 5]? := by
    rw [hw4, setBlock_other _ _ _ (by omega), blk_setCell_other _ _ _ _ (by simp), blk_setCell_other _ _ _ _ (by simp), blk_alloc_lt _ _ _ (by rw [h.size]; omega)]
  exact ⟨by rw [cell_of_block hb]; exact h.want j hj, by rw [frozen_of_block hb]; exact h.frz 5 j (by omega)⟩

theorem Built.allocd (h : Built q v n i B w wr) (O : Obj) {k : Nat} (hk : k < B + 10 + i) (o : Nat) : (wr.alloc O).cell? ⟨k, o, none⟩ = wr.cell? ⟨k, o, none⟩ ∧ (wr.alloc O).frozen? ⟨k, o, none⟩ = wr.frozen? ⟨k, o, none⟩ := by
  have hb : (wr.alloc O).heap[k]? = wr.heap[k]? := blk_alloc_lt _ _ _ (by rw [h.size]; omega)
  exact ⟨cell_of_block hb o, frozen_of_block hb o⟩


theorem Closed.drewN (h : Closed q v n B w wr) (k : Nat) : Closed q v n B w (wr.drewN k) :=
  ⟨⟨h.below.os, h.below.tape, h.below.output, h.below.size, h.below.block⟩, h.arr, h.st, h.want, h.lock, h.opn, h.map, h.conns, h.vals, h.conn, h.frz⟩

/-- 'len' of a map whose block is written out. -/
theorem len_raw {P : Program} {W : World} {t kt el : TypeId} (ht : P.underlying t = some (.map kt el)) {bm : Nat} {es : Array MapEntry} {clock : Nat} (hb : W.heap[bm]? = some (.map es clock)) (ty : TypeId) :
    (Builtin.len_ #[t] ty #[.map (some bm)]).run P W = .ok (.int .i64 es.size) W := by
  simp [Builtin.len_, run_underlying ht, MapKept.run_getObj_map hb, goInt]

/-- The look-up at connection j's pointer. -/
theorem Closed.before (h : Closed q v n B w wr) {j : Nat} (hj : j < n) : ∀ l e, l < j → (ents B v n).toList[l]? = some e → (Op.equal 41 (.pointer (some ⟨B + 10 + j, 0, none⟩)) e.key).run Yba.prog wr = .ok false wr := by
  intro l e hl he
  rw [ents_at (by omega)] at he
  cases he
  exact eq_conn (B := B) (oa := q j) (ob := q l) (by omega) (h.conn j hj) (h.conn l (by omega))

end Go.Proofs.Ybulkeijk

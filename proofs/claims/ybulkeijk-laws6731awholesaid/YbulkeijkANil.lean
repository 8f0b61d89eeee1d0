/-
  The law's walk: too many ids; no id and no map. And all three together.
-/
import Derived.Test.YbulkeijkALaw
namespace Go.Proofs.Ybulkeijk
open Go.RowKit Go.MuLone Go.Maps Go.Deep
open Go.ChangeMaps (setBlock)

set_option maxRecDepth 100000 in
set_option maxHeartbeats 3200000 in
theorem law_long (a0 a1 : Option Addr) (n c0 fn c1 : Nat) (nm : Bool) (w : World) (hn : 65536 < n) :
    Calls Yba.prog 3 #[.slice a0 n c0, .slice a1 fn c1, .bool nm] w fun e w' => e = .returned (.bool true) ∧ Below w.heap.size w w' := by
  have hgt : (65536 : Int) < n := by omega
  go_enter Yba.func3, Yba.ntmps3
  go_wp2
  go_ret
  exact ⟨rfl, Below.refl _ _⟩

/-- No id, no map: what stands ahead of 'closeAll' and behind it. -/
structure NilSt (B : Nat) (w wr : World) : Prop where
  below : Below B w wr
  lt : B + 6 < wr.heap.size
  arr : ∀ j, j < 4 → wr.cell? ⟨B, j, none⟩ = some (.pointer (some ⟨B + 1 + j, 0, none⟩))
  st : ∀ j, j < 4 → wr.cell? ⟨B + 1 + j, 0, none⟩ = some (.int .i64 0)
  want : ∀ j, j < 4 → wr.cell? ⟨B + 5, j, none⟩ = some (.int .i64 0)
  lock : wr.cell? ⟨B + 6, 0, none⟩ = some (.int .i32 0)
  opn : wr.cell? ⟨B + 6, 2, none⟩ = some (.map none)
  frz : wr.frozen? ⟨B + 6, 0, none⟩ = false

theorem NilSt.drewN {B : Nat} {w wr : World} (h : NilSt B w wr) (k : Nat) : NilSt B w (wr.drewN k) :=
  ⟨⟨h.below.os, h.below.tape, h.below.output, h.below.size, h.below.block⟩, h.lt, h.arr, h.st, h.want, h.lock, h.opn, h.frz⟩

theorem NilSt.alloc {B : Nat} {w wr : World} (h : NilSt B w wr) (o : Obj) : NilSt B w (wr.alloc o) := by
  have hlt := h.lt
  have hb : ∀ k, k < B + 7 → (wr.alloc o).heap[k]? = wr.heap[k]? := fun k hk => blk_alloc_lt _ _ k (by omega)
  refine ⟨h.below.alloc (by omega) _, by rw [nblk_alloc]; omega, ?_, ?_, ?_, ?_, ?_, ?_⟩
  · intro j hj; rw [cell_of_block (hb B (by omega))]; exact h.arr j hj
  · intro j hj; rw [cell_of_block (hb (B + 1 + j) (by omega))]; exact h.st j hj
  · intro j hj; rw [cell_of_block (hb (B + 5) (by omega))]; exact h.want j hj
  · rw [cell_of_block (hb (B + 6) (by omega))]; exact h.lock
  · rw [cell_of_block (hb (B + 6) (by omega))]; exact h.opn
  · rw [frozen_of_block (hb (B + 6) (by omega))]; exact h.frz

/-- The state word written and written back, a block laid between. -/
theorem NilSt.locked {B : Nat} {w wr : World} (h : NilSt B w wr) {w1 : World} (h1 : ∀ k, k ≤ B + 6 → w1.heap[k]? = (wr.setCell ⟨B + 6, 0, none⟩ (.int .i32 1)).heap[k]?) (h2 : Below B wr w1) :
    NilSt B w (w1.setCell ⟨B + 6, 0, none⟩ (.int .i32 0)) := by
  have hlt := h.lt
  have hb : ∀ k, k < B + 6 → (w1.setCell ⟨B + 6, 0, none⟩ (.int .i32 0)).heap[k]? = wr.heap[k]? := fun k hk => by
    rw [blk_setCell_other _ _ _ k (by simp; omega), h1 k (by omega), blk_setCell_other _ _ _ k (by simp; omega)]
  refine ⟨(h.below.trans h2).setCell (by simp) _, by rw [nblk_setCell]; exact Nat.lt_of_lt_of_le hlt h2.size, ?_, ?_, ?_, ?_, ?_, ?_⟩
  · intro j hj; rw [cell_of_block (hb B (by omega))]; exact h.arr j hj
  · intro j hj; rw [cell_of_block (hb (B + 1 + j) (by omega))]; exact h.st j hj
  · intro j hj; rw [cell_of_block (hb (B + 5) (by omega))]; exact h.want j hj
  · exact World.cell?_setCell_same _ _ _ ((cell_of_block (h1 (B + 6) (Nat.le_refl _)) 0).trans (World.cell?_setCell_same _ _ _ h.lock))
  · rw [World.cell?_setCell_other _ _ _ _ (by simp), cell_of_block (h1 (B + 6) (Nat.le_refl _)), World.cell?_setCell_other _ _ _ _ (by simp)]; exact h.opn
  · rw [World.frozen?_setCell, frozen_of_block (h1 (B + 6) (Nat.le_refl _)), World.frozen?_setCell]; exact h.frz

theorem NilSt.at_start (w : World) : NilSt w.heap.size w ((start0 w).alloc (.cells #[.int .i32 0, .int .u32 0, .map none] 39)) := by
  have hb : ∀ k, ((start0 w).alloc (.cells #[.int .i32 0, .int .u32 0, .map none] 39)).heap[w.heap.size + k]? = [Obj.cells #[.pointer (some ⟨w.heap.size + 1, 0, none⟩), .pointer (some ⟨w.heap.size + 1 + 1, 0, none⟩), .pointer (some ⟨w.heap.size + 1 + 1 + 1, 0, none⟩), .pointer (some ⟨w.heap.size + 1 + 1 + 1 + 1, 0, none⟩)] 25,
      .cells #[.int .i64 0] 27, .cells #[.int .i64 0] 27, .cells #[.int .i64 0] 27, .cells #[.int .i64 0] 27, .cells #[.int .i64 0, .int .i64 0, .int .i64 0, .int .i64 0] 28, .cells #[.int .i32 0, .int .u32 0, .map none] 39][k]? := by
    intro k
    have hh : ((start0 w).alloc (.cells #[.int .i32 0, .int .u32 0, .map none] 39)).heap.toList = w.heap.toList ++ [Obj.cells #[.pointer (some ⟨w.heap.size + 1, 0, none⟩), .pointer (some ⟨w.heap.size + 1 + 1, 0, none⟩), .pointer (some ⟨w.heap.size + 1 + 1 + 1, 0, none⟩), .pointer (some ⟨w.heap.size + 1 + 1 + 1 + 1, 0, none⟩)] 25,
      .cells #[.int .i64 0] 27, .cells #[.int .i64 0] 27, .cells #[.int .i64 0] 27, .cells #[.int .i64 0] 27, .cells #[.int .i64 0, .int .i64 0, .int .i64 0, .int .i64 0] 28, .cells #[.int .i32 0, .int .u32 0, .map none] 39] := by
      simp only [start0, toList_alloc, List.append_assoc, List.cons_append, List.nil_append]
    rw [← Array.getElem?_toList, hh, List.getElem?_append_right (by simp)]
    simp
  have h0 := hb 0; have h1 := hb 1; have h2 := hb 2; have h3 := hb 3; have h4 := hb 4; have h5 := hb 5; have h6 := hb 6
  simp only [List.getElem?_cons_zero, List.getElem?_cons_succ, Nat.add_zero] at h0 h1 h2 h3 h4 h5 h6
  refine ⟨?_, by simp [start0], ?_, ?_, ?_, ?_, ?_, ?_⟩
  · unfold start0
    refine (((((((Below.refl _ w).alloc ?_ _).alloc ?_ _).alloc ?_ _).alloc ?_ _).alloc ?_ _).alloc ?_ _).alloc ?_ _ <;> simp <;> omega
  · intro j hj
    have : j = 0 ∨ j = 1 ∨ j = 2 ∨ j = 3 := by omega
    rcases this with rfl | rfl | rfl | rfl <;> simp [World.cell?, h0, Nat.add_assoc]
  · intro j hj
    have : j = 0 ∨ j = 1 ∨ j = 2 ∨ j = 3 := by omega
    rcases this with rfl | rfl | rfl | rfl <;> simp [World.cell?, h1, h2, h3, h4, Nat.add_assoc]
  · intro j hj
    have : j = 0 ∨ j = 1 ∨ j = 2 ∨ j = 3 := by omega
    rcases this with rfl | rfl | rfl | rfl <;> simp [World.cell?, h5]
  · simp [World.cell?, h6]
  · simp [World.cell?, h6]
  · simp [World.frozen?, h6]

set_option maxRecDepth 100000 in
set_option maxHeartbeats 3200000 in
theorem law_nil (a0 a1 : Option Addr) (c0 fn c1 : Nat) (w : World) :
    Calls Yba.prog 3 #[.slice a0 0 c0, .slice a1 fn c1, .bool true] w fun e w' => e = .returned (.bool true) ∧ Below w.heap.size w w' := by
  have hmc : ∀ W : World, (Instr.makeSlice 40 (.int .i64 0) (.int .i64 0)).run Yba.prog W = .ok (.slice (some ⟨W.heap.size, 0, none⟩) 0 0) (W.alloc (.cells (madeCells #[.pointer none] (0 * 1)) 41)) := fun W => by simpa using mkConns 0 (by omega) W
  have hmv : ∀ W : World, (Instr.makeSlice 23 (.int .i64 0) (.int .i64 0)).run Yba.prog W = .ok (.slice (some ⟨W.heap.size, 0, none⟩) 0 0) (W.alloc (.cells (madeCells #[.bool false] (0 * 1)) 4)) := fun W => by simpa using mkVals 0 (by omega) W
  have q37 : ∀ (w : World) (r : Option Nat), (binOp .eql 37 (.map r) (.map none)).run Yba.prog w = .ok (.bool r.isNone) w := fun w r => run_eql_map_nil w _ _ _ r Yba.underlying37
  go_enter Yba.func3, Yba.ntmps3
  go_wp2_with fail
  refine wp_loop_rounds 5 ?_
  rw [rounds_succ]
  go_wp2_with fail
  rw [rounds_succ]
  go_wp2_with fail
  rw [rounds_succ]
  go_wp2_with fail
  rw [rounds_succ]
  go_wp2_with fail
  rw [rounds_succ]
  go_wp2_with fail
  simp only [Nat.add_assoc, Nat.reduceAdd]
  go_loopw [57] (fun s wr => s = .int .i64 0 ∧ NilSt w.heap.size w wr) (fun _ _ => 0)
  case atStart => exact ⟨rfl, ((NilSt.at_start w).alloc _).alloc _⟩
  case round =>
    obtain ⟨rfl, hB⟩ := hrel
    have HB : Hid (NilSt w.heap.size w wr) := hB
    clear hB hmc hmv
    go_wp2_with fail
    refine (closeAll_nil HB.out.lock HB.out.opn HB.out.frz).mono ?_
    rintro e w2 ⟨rfl, hw2⟩
    have HC : Hid (NilSt w.heap.size w w2) := by
      rw [hw2]
      have hsz : (wr.setCell ⟨w.heap.size + 6, 0, none⟩ (.int .i32 1)).heap.size = wr.heap.size := nblk_setCell _ _ _
      have hlt := HB.out.lt
      exact HB.out.locked (fun k hk => blk_alloc_lt _ _ k (by rw [hsz]; omega)) (((Below.refl _ _).setCell (by simp) _).alloc (by rw [hsz]; omega) _)
    clear hw2 HB wr
    have hl0 := HC.out.lock
    have hz0 := HC.out.frz
    go_wp2_with fail
    refine (try_free _ _ hl0 hz0).mono ?_
    rintro e w3 ⟨rfl, rfl⟩
    go_wp2_with fail
    refine (unlock_held Yba.muLib _ _ (World.cell?_setCell_same _ _ _ hl0) (by simp [hz0])).mono ?_
    rintro e w3 ⟨rfl, hw3⟩
    have HD : Hid (NilSt w.heap.size w w3) := by rw [hw3]; exact HC.out.locked (fun k _ => rfl) ((Below.refl _ _).setCell (by simp) _)
    clear hw3 HC hl0 hz0 w2
    go_wp2_with fail
    go_loopw [19] (fun s wr => ∃ j : Nat, j ≤ 4 ∧ s = .int .i64 j ∧ NilSt w.heap.size w wr) (fun s _ => 4 - (intOf s).toNat)
    case atStart => exact ⟨0, by omega, rfl, HD.out⟩
    case round =>
      obtain ⟨j, hj, rfl, hC⟩ := hrel
      have HE : Hid (NilSt w.heap.size w wr) := hC
      clear hC HD
      by_cases hj4 : j < 4
      · have i1 : (0 : Int) ≤ (j : Int) := by omega
        have i2 : (j : Int) < 4 := by omega
        have h1 := HE.out.arr j hj4
        have h2 := HE.out.st j hj4
        have h3 := HE.out.want j hj4
        go_wp2_with fail
        go_quiet (fail)
        go_wp2_with fail
        go_roundw
        case rel => exact ⟨j + 1, by omega, by simp, HE.out.drewN _⟩
        case measure => simp [intOf]; omega
      · have hj5 : ¬ ((j : Int) < 4) := by omega
        have h6 := HE.out.opn
        go_wp2_with fail
        go_ret
        exact ⟨rfl, HE.out.below⟩

theorem law_any (a0 a1 : Option Addr) (n c0 fn c1 : Nat) (nm : Bool) (d : Nat → Nat) (f : Nat → Bool) (w : World) (hI : Ids a0 n d w) (hF : Flags a1 fn f w) :
    Calls Yba.prog 3 #[.slice a0 n c0, .slice a1 fn c1, .bool nm] w fun e w' => e = .returned (.bool true) ∧ Below w.heap.size w w' := by
  by_cases hn : 65536 < n
  · exact law_long a0 a1 n c0 fn c1 nm w hn
  · by_cases h0 : nm = true ∧ n = 0
    · obtain ⟨rfl, rfl⟩ := h0
      exact law_nil a0 a1 c0 fn c1 w
    · exact law_built a0 a1 n c0 fn c1 nm d f w (by omega) h0 hI hF
end Go.Proofs.Ybulkeijk

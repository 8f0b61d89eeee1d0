/-
  The cache's state; '(*cache.Cache).Get' by its contract.
-/
import Derived.Test.YbulkeilaCMap
import Derived.Test.YbulkeilaCRow
import Derived.RegionTactic
import Derived.BigRegion
import Derived.BigQuiet
import Derived.Deep.QuietTactic
import Derived.ChangeAlike
namespace Go.Proofs.Ybulkeila
open Go Go.Deep Go.RowKit

def keyCells (p0 p1 : Nat) (e : E) : List Value := [.pointer (some ⟨pk p0 p1 e.k, 0, none⟩), .int .i64 ((e.k % 4 : Nat) : Int)]
/-- The bytes kept. -/
def total (L : List E) : Nat := (L.map (·.len)).sum

structure Cache (bud : Int) (cb bm p0 p1 : Nat) (L : List E) (ob : Option Nat) (w : World) : Prop where
  c0 : w.cell? ⟨cb, 0, none⟩ = some (.int .i64 bud)
  c1 : w.cell? ⟨cb, 1, none⟩ = some (.int .i64 (total L))
  c2 : w.cell? ⟨cb, 2, none⟩ = some (.map (some bm))
  c3 : ∃ a cap, w.cell? ⟨cb, 3, none⟩ = some (.slice a L.length cap) ∧ Row 2 ob a L.length cap (L.flatMap (keyCells p0 p1)) w
  map : ∃ es clock, w.heap[bm]? = some (.map es clock) ∧ MapIs p0 p1 es L
  keys : KeysOk L
  packs : Packs p0 p1 w
  frz : ∀ o, w.frozen? ⟨cb, o, none⟩ = false

def objV (L : List E) (k : Nat) : Value := match L.find? (·.k == k) with | some e => .agg #[.int .u8 e.t, .slice e.a e.len e.cap] | none => .agg #[.int .u8 0, .slice none 0 0]

theorem lookV_eq (L : List E) (k : Nat) : ∃ (t : Int) (a : Option Addr) (l c : Nat), lookV L k = .agg #[.int .u8 t, .slice a l c, .int .i64 l] ∧ objV L k = .agg #[.int .u8 t, .slice a l c] := by
  unfold lookV objV
  cases L.find? (·.k == k) with
  | none => exact ⟨0, none, 0, 0, rfl, rfl⟩
  | some e => exact ⟨e.t, e.a, e.len, e.cap, rfl, rfl⟩

set_option maxRecDepth 100000 in
set_option maxHeartbeats 3200000 in
theorem get_any {bud : Int} {cb bm p0 p1 : Nat} {L : List E} {ob : Option Nat} {w : World} (h : Cache bud cb bm p0 p1 L ob w) {k : Nat} (hk : k < 8) :
    Calls Yba.prog 8 #[.pointer (some ⟨cb, 0, none⟩), keyV p0 p1 k] w fun e w' => e = .returned (.tuple #[objV L k, .bool (hasK L k)]) ∧ Below w.heap.size w w' := by
  obtain ⟨es, clock, hb, hM⟩ := h.map
  obtain ⟨t, a, l, c, hv, ho⟩ := lookV_eq L k
  have hlt : cb < w.heap.size := cell_lt h.c2
  have hblt : bm < w.heap.size := (Array.getElem?_eq_some_iff.1 hb).1
  have hlook : ∀ W : World, (∀ i, i < w.heap.size → W.heap[i]? = w.heap[i]?) → (Instr.lookup 81 (.map (some bm)) (keyV p0 p1 k) true).run Yba.prog W = .ok (.tuple #[.agg #[.int .u8 t, .slice a l c, .int .i64 l], .bool (hasK L k)]) W := fun W hW => by
    rw [← hv]
    obtain ⟨hne, ⟨x0, h0⟩, x1, h1⟩ := h.packs
    exact look_ok ((hW bm hblt).trans hb) ⟨hne, ⟨x0, (hW p0 (Array.getElem?_eq_some_iff.1 h0).1).trans h0⟩, x1, (hW p1 (Array.getElem?_eq_some_iff.1 h1).1).trans h1⟩ hM h.keys hk
  rw [ho]
  have c2 := h.c2
  have HL : Hid (∀ W : World, (∀ i, i < w.heap.size → W.heap[i]? = w.heap[i]?) → (Instr.lookup 81 (.map (some bm)) (keyV p0 p1 k) true).run Yba.prog W = .ok (.tuple #[.agg #[.int .u8 t, .slice a l c, .int .i64 l], .bool (hasK L k)]) W) := hlook
  clear hlook hv ho hM hb h es clock
  unfold keyV at HL ⊢
  generalize ((k % 4 : Nat) : Int) = o at HL ⊢
  generalize pk p0 p1 k = pp at HL ⊢
  generalize hasK L k = hk at HL ⊢
  go_enter Yba.func8, Yba.ntmps8
  go_wp2_with fail
  have hB : Below w.heap.size w ((w.alloc (.cells #[.pointer (some ⟨pp, 0, none⟩), .int .i64 o] 73)).alloc (.cells #[.int .u8 0, .slice none 0 0] 59)) := ((Below.refl _ _).alloc (Nat.le_refl _) _).alloc (by simp) _
  have g0 : ((w.alloc (.cells #[.pointer (some ⟨pp, 0, none⟩), .int .i64 o] 73)).alloc (.cells #[.int .u8 0, .slice none 0 0] 59)).cell? ⟨cb, 2, none⟩ = some (.map (some bm)) := by rw [cell_of_block (hB.block cb hlt)]; exact c2
  have g1 : ((w.alloc (.cells #[.pointer (some ⟨pp, 0, none⟩), .int .i64 o] 73)).alloc (.cells #[.int .u8 0, .slice none 0 0] 59)).cell? ⟨w.heap.size, 0, none⟩ = some (.pointer (some ⟨pp, 0, none⟩)) := by simp
  have g2 : ((w.alloc (.cells #[.pointer (some ⟨pp, 0, none⟩), .int .i64 o] 73)).alloc (.cells #[.int .u8 0, .slice none 0 0] 59)).cell? ⟨w.heap.size, 1, none⟩ = some (.int .i64 o) := by simp
  have g3 : ((w.alloc (.cells #[.pointer (some ⟨pp, 0, none⟩), .int .i64 o] 73)).alloc (.cells #[.int .u8 0, .slice none 0 0] 59)).cell? ⟨w.heap.size + 1, 0, none⟩ = some (.int .u8 0) := by simp
  have g4 : ((w.alloc (.cells #[.pointer (some ⟨pp, 0, none⟩), .int .i64 o] 73)).alloc (.cells #[.int .u8 0, .slice none 0 0] 59)).cell? ⟨w.heap.size + 1, 1, none⟩ = some (.slice none 0 0) := by simp
  have gs : ((w.alloc (.cells #[.pointer (some ⟨pp, 0, none⟩), .int .i64 o] 73)).alloc (.cells #[.int .u8 0, .slice none 0 0] 59)).heap.size = w.heap.size + 2 := by simp
  have gz : ∀ y, ((w.alloc (.cells #[.pointer (some ⟨pp, 0, none⟩), .int .i64 o] 73)).alloc (.cells #[.int .u8 0, .slice none 0 0] 59)).frozen? ⟨w.heap.size + 1, y, none⟩ = false := fun y => by simp
  generalize ((w.alloc (.cells #[.pointer (some ⟨pp, 0, none⟩), .int .i64 o] 73)).alloc (.cells #[.int .u8 0, .slice none 0 0] 59)) = w1 at hB g0 g1 g2 g3 g4 gs gz ⊢
  have HB : Hid (Below w.heap.size w w1) := hB
  have l1 := HL.out w1 hB.block
  have l2 := HL.out w1.drew hB.block
  have hbA : ∀ O, ∀ i, i < w.heap.size → (w1.alloc O).heap[i]? = w.heap[i]? := fun O i hi => (blk_alloc_lt _ _ i (by omega)).trans (hB.block i hi)
  have l3 := fun O => HL.out (w1.alloc O) (hbA O)
  have l4 := fun O => HL.out (w1.alloc O).drew (hbA O)
  have gA : ∀ O x y, x < w.heap.size + 2 → (w1.alloc O).cell? ⟨x, y, none⟩ = w1.cell? ⟨x, y, none⟩ := fun O x y hx => cell_of_block (blk_alloc_lt _ _ x (by omega)) y
  have a0 : ∀ O, (w1.alloc O).cell? ⟨cb, 2, none⟩ = some (.map (some bm)) := fun O => (gA O cb 2 (by omega)).trans g0
  have a1 : ∀ O, (w1.alloc O).cell? ⟨w.heap.size, 0, none⟩ = some (.pointer (some ⟨pp, 0, none⟩)) := fun O => (gA O _ 0 (by omega)).trans g1
  have a2 : ∀ O, (w1.alloc O).cell? ⟨w.heap.size, 1, none⟩ = some (.int .i64 o) := fun O => (gA O _ 1 (by omega)).trans g2
  have a3 : ∀ O, (w1.alloc O).cell? ⟨w.heap.size + 1, 0, none⟩ = some (.int .u8 0) := fun O => (gA O _ 0 (by omega)).trans g3
  have a4 : ∀ O, (w1.alloc O).cell? ⟨w.heap.size + 1, 1, none⟩ = some (.slice none 0 0) := fun O => (gA O _ 1 (by omega)).trans g4
  have z3 : ∀ O y, (w1.alloc O).frozen? ⟨w.heap.size + 1, y, none⟩ = false := fun O y => (frozen_of_block (blk_alloc_lt _ _ _ (by omega)) y).trans (gz y)
  have b0 : ∀ (x y z : Value) (t : TypeId), (w1.alloc (.cells #[x, y, z] t)).cell? ⟨w.heap.size + 2, 0, none⟩ = some x := fun x y z t => by rw [← gs]; simp
  have b1 : ∀ (x y z : Value) (t : TypeId), (w1.alloc (.cells #[x, y, z] t)).cell? ⟨w.heap.size + 2, 1, none⟩ = some y := fun x y z t => by rw [← gs]; simp
  have HB2 : ∀ O, Below w.heap.size w (w1.alloc O).drew := fun O => (hB.alloc (by omega) O).drew
  clear gA hbA hB c2 hblt hlt gz
  go_region
  have HB3 := HB2 (.cells #[.int .u8 t, .slice a l c, .int .i64 l] 79)
  have d0 : (w1.alloc (.cells #[.int .u8 t, .slice a l c, .int .i64 l] 79)).drew.cell? ⟨w.heap.size + 2, 0, none⟩ = some (.int .u8 t) := b0 _ _ _ _
  have d1 : (w1.alloc (.cells #[.int .u8 t, .slice a l c, .int .i64 l] 79)).drew.cell? ⟨w.heap.size + 2, 1, none⟩ = some (.slice a l c) := b1 _ _ _ _
  have d2 : (w1.alloc (.cells #[.int .u8 t, .slice a l c, .int .i64 l] 79)).drew.cell? ⟨w.heap.size + 1, 0, none⟩ = some (.int .u8 0) := a3 _
  have d3 : (w1.alloc (.cells #[.int .u8 t, .slice a l c, .int .i64 l] 79)).drew.cell? ⟨w.heap.size + 1, 1, none⟩ = some (.slice none 0 0) := a4 _
  have d4 : ∀ y, (w1.alloc (.cells #[.int .u8 t, .slice a l c, .int .i64 l] 79)).drew.frozen? ⟨w.heap.size + 1, y, none⟩ = false := z3 _
  generalize (w1.alloc (.cells #[.int .u8 t, .slice a l c, .int .i64 l] 79)).drew = w2 at HB3 d0 d1 d2 d3 d4 ⊢
  clear HB2 a0 a1 a2 a3 a4 z3 b0 b1 l1 l2 l3 l4 HL g0 g1 g2 g3 g4 gs HB
  have HB4 : Hid (Below w.heap.size w w2) := HB3
  clear HB3
  go_wp2_with fail
  refine bodyPost_ret (v := .tuple #[.agg #[.int .u8 t, .slice a l c], .bool hk]) (by simp [results, Yba.results8, go_sem, d2, d3]) rfl ⟨rfl, (HB4.out.setCell (by simp) _).setCell (by simp) _⟩
end Go.Proofs.Ybulkeila

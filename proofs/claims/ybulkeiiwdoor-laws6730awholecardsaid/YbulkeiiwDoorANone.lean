import Derived.Test.YbulkeiiwDoorABuilt
namespace Go.Proofs.YbulkeiiwDoor
open Go.RowKit

set_option maxRecDepth 100000 in
set_option maxHeartbeats 1000000 in
theorem law_none (a : Option Addr) (cap : Nat) (w : World) :
    Calls Ybad.prog 3 #[.slice a 0 cap] w fun e w' => e = .returned (.bool true) ∧ Below w.heap.size w w' := by
  have hmk : ∀ W : World, (Instr.makeSlice 27 (.int .i64 0) (.int .i64 0)).run Ybad.prog W = .ok (.slice (some ⟨W.heap.size, 0, none⟩) 0 0) (W.alloc (.cells (madeCells #[.int .u32 0, .int .u32 0, .slice none 0 0] (0 * 3)) 36)) := mkBuilt 0 (by omega)
  have hq := eqPtr
  go_enter Ybad.func3, Ybad.ntmps3
  go_wp2
  refine wp_loop_rounds 1 ?_
  rw [rounds_succ]
  go_wp2
  refine wp_loop_rounds 1 ?_
  rw [rounds_succ]
  go_wp2_with (first | (go_at_call 5; refine (pairsMin_none _ _ _).mono ?_; rintro e w3 ⟨rfl, hb3⟩; (have hP3 := kc hb3 (a := ⟨w.heap.size + 1, 0, none⟩) (v := .slice (some ⟨w.heap.size, 0, none⟩) 0 0) (by simp [go_sem])); (have hP4 : ∀ o1 o2 o3 o4, ((((w3.alloc o1).alloc o2).alloc o3).alloc o4).cell? ⟨w.heap.size + 1, 0, none⟩ = some (.slice (some ⟨w.heap.size, 0, none⟩) 0 0) := fun o1 o2 o3 o4 => kc (al4 _ _ _ _ _) hP3)))
  refine wp_loop_rounds 1 ?_
  rw [rounds_succ]
  go_wp2
  go_ret
  refine ⟨rfl, ?_⟩
  exact ((al2 _ _ _).trans (hb3.mono (by simp; omega))).trans ((al4 _ _ _ _ _).mono (by have := hb3.size; simp at this; omega))
end Go.Proofs.YbulkeiiwDoor

/-
  The law's check of the window sums.
-/
import Derived.Test.YbulkeinsCWin
namespace Go.Proofs.Ybulkeins
open Go Go.RowKit Go.Deep

set_option maxRecDepth 100000 in
set_option maxHeartbeats 3200000 in
theorem ws_any (s e : Int) (k : Nat) (p : Option Addr) (hk : k < 256) (hs : -2147483648 ≤ s ∧ s ≤ 2147483647) (he : -2147483648 ≤ e ∧ e ≤ 2147483647) (w : World) (h : WsAt s e k p w) :
    Calls Yba.prog 7 #[.pointer p, .int .u8 (k : Int), .int .i64 s, .int .i64 e] w fun x w' => x = .returned (.bool true) ∧ Below w.heap.size w w' := by
  rcases h with ⟨h0, rfl⟩ | ⟨h0, V, m, rfl, hV, hm⟩
  · have hz : winL k = 0 := by unfold winL; simp [h0]
    go_enter Yba.func7, Yba.ntmps7
    go_wp2_with fail
    refine (len_any k hk _).mono ?_
    rintro x w' ⟨rfl, rfl⟩
    rw [hz]
    go_wp2_with fail
    go_ret
    exact ⟨rfl, Below.refl _ _⟩
  · have hp := winL_pos h0
    have hne : ¬ (winL k = 0) := by omega
    have x0 : w.cell? ⟨V, 0, none⟩ = some (.int .i64 (s + -62135596800)) := by simp only [World.cell?, hV]; rfl
    have x1 : w.cell? ⟨V, 1, none⟩ = some (.int .i64 (winL k)) := by simp only [World.cell?, hV]; rfl
    have x2 : w.cell? ⟨V, 2, none⟩ = some (.int .i64 ((e - s).tdiv (winL k))) := by simp only [World.cell?, hV]; rfl
    have x3 : w.cell? ⟨V, 3, none⟩ = some (.map (some m)) := by simp only [World.cell?, hV]; rfl
    have x4 : w.cell? ⟨V, 4, none⟩ = some (.int .i64 (-1)) := by simp only [World.cell?, hV]; rfl
    have x5 : w.cell? ⟨V, 5, none⟩ = some (.int .i64 0) := by simp only [World.cell?, hV]; rfl
    have x6 : w.cell? ⟨V, 6, none⟩ = some (.pointer none) := by simp only [World.cell?, hV]; rfl
    have x7 : w.cell? ⟨V, 7, none⟩ = some (.int .i64 0) := by simp only [World.cell?, hV]; rfl
    have x8 : w.cell? ⟨V, 8, none⟩ = some (.int .i64 0) := by simp only [World.cell?, hV]; rfl
    have x9 : w.cell? ⟨V, 9, none⟩ = some (.int .i64 0) := by simp only [World.cell?, hV]; rfl
    have hw1 : wrap64 (-62135596800 + s) = s + -62135596800 := by unfold wrap64; omega
    have hw2 : wrap64 (e - s) = e - s := by unfold wrap64; omega
    have hd := tdiv_le (a := e - s) (b := winL k) (by omega)
    have hw3 : wrap64 ((e - s).tdiv (winL k)) = (e - s).tdiv (winL k) := by unfold wrap64; omega
    have hlen : ∀ a, (Builtin.len_ #[66] 3 #[.map (some m)]).run Yba.prog (w.drewN a) = .ok (.int .i64 0) (w.drewN a) := fun a => by
      have hm' : (w.drewN a).heap[m]? = some (.map #[] 0) := by rw [World.heap_drewN]; exact hm
      simp [Builtin.len_, run_underlying Yba.underlying66, MapKept.run_getObj_map hm', goInt]
    have q66 : ∀ (w : World) (r : Option Nat), (binOp .neq 66 (.map r) (.map none)).run Yba.prog w = .ok (.bool r.isSome) w := fun w r => by cases r <;> kernel_rfl
    have q35 : ∀ (w : World), (Op.equalIn 9999 35 (.pointer none) (.pointer none)).run Yba.prog w = .ok true w := fun w => by kernel_rfl
    have z1 : (winL k == 0) = false := by simpa using hne
    clear hp hd
    go_enter Yba.func7, Yba.ntmps7
    go_wp2_with fail
    refine (len_any k hk _).mono ?_
    rintro x w' ⟨rfl, rfl⟩
    go_wp2_with fail
    simp only [List.cons_append, List.nil_append, List.append_eq]
    have hw4 : IntKind.i64.wrap (e - s) = e - s := by rw [IntKind.wrap_i64]; unfold wrap64 at hw2; exact hw2
    have hw5 : IntKind.i64.wrap ((e - s).tdiv (winL k)) = (e - s).tdiv (winL k) := by rw [IntKind.wrap_i64]; unfold wrap64 at hw3; exact hw3
    have he1 : (s + -62135596800 == -62135596800 + s) = true := by simp; omega
    go_quiet (fail)
    go_wp2_with fail
    go_ret
    exact ⟨rfl, ⟨rfl, rfl, rfl, Nat.le_refl _, fun _ _ => rfl⟩⟩
end Go.Proofs.Ybulkeins

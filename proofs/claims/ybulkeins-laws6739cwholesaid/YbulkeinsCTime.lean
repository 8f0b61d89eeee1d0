/-
  package time's few functions, at a Time whose first word is nought.
-/
import Derived.Test.YbulkeinsRows
import Derived.WalkKit
import Derived.Below
import Derived.IntWalk
import Derived.Deep.Heap
import Derived.KernelRfl
namespace Go.Proofs.Ybulkeins
open Go Go.RowKit Go.Deep

set_option maxHeartbeats 1600000 in
theorem nsec_zero (a : Addr) (w : World) (h : w.cell? a = some (.int .u64 0)) : Calls Yba.prog 9 #[.pointer (some a)] w fun x w' => x = .returned (.int .i32 0) ∧ w' = w := by
  go_enter Yba.func9, Yba.ntmps9
  go_wp2
  go_ret
  exact ⟨by rw [show bits BinOp.and IntKind.u64 0 1073741823 = 0 from by rfl, show wrap32 0 = 0 from by unfold wrap32; omega]; rfl, rfl⟩

set_option maxHeartbeats 1600000 in
theorem addSec_zero (b o : Nat) (s : Int) (w : World) (h0 : w.cell? ⟨b, o, none⟩ = some (.int .u64 0)) (h1 : w.cell? ⟨b, o + 1, none⟩ = some (.int .i64 0)) (hf : w.frozen? ⟨b, o + 1, none⟩ = false) (hs : -2147483648 ≤ s ∧ s ≤ 2147483647) :
    Calls Yba.prog 10 #[.pointer (some ⟨b, o, none⟩), .int .i64 s] w fun x w' => x = .returned (.tuple #[]) ∧ w' = w.setCell ⟨b, o + 1, none⟩ (.int .i64 s) := by
  go_enter Yba.func10, Yba.ntmps10
  go_wp2
  go_end0
  exact ⟨rfl, rfl⟩

set_option maxHeartbeats 1600000 in
theorem sec_zero (b o : Nat) (s : Int) (w : World) (h0 : w.cell? ⟨b, o, none⟩ = some (.int .u64 0)) (h1 : w.cell? ⟨b, o + 1, none⟩ = some (.int .i64 s)) : Calls Yba.prog 14 #[.pointer (some ⟨b, o, none⟩)] w fun x w' => x = .returned (.int .i64 s) ∧ w' = w := by
  go_enter Yba.func14, Yba.ntmps14
  go_wp2
  go_ret
  exact ⟨rfl, rfl⟩

set_option maxHeartbeats 1600000 in
theorem unixSec_zero (b o : Nat) (s : Int) (w : World) (h0 : w.cell? ⟨b, o, none⟩ = some (.int .u64 0)) (h1 : w.cell? ⟨b, o + 1, none⟩ = some (.int .i64 s)) (hs : -2147483648 ≤ s ∧ s ≤ 2147483647) : Calls Yba.prog 18 #[.pointer (some ⟨b, o, none⟩)] w fun x w' => x = .returned (.int .i64 (s + -62135596800)) ∧ w' = w := by
  have hw : wrap64 (s + -62135596800) = s + -62135596800 := by unfold wrap64; omega
  go_enter Yba.func18, Yba.ntmps18
  go_wp2_with fail
  refine (sec_zero b o s w h0 h1).mono ?_
  rintro x w' ⟨rfl, rfl⟩
  go_wp2
  go_ret
  exact ⟨rfl, rfl⟩

set_option maxHeartbeats 1600000 in
/-- '(time.Time).Unix'. -/
theorem unix_zero (s : Int) (v : Value) (w : World) (hs : -2147483648 ≤ s ∧ s ≤ 2147483647) : Calls Yba.prog 17 #[.agg #[.int .u64 0, .int .i64 s, v]] w fun x w' => x = .returned (.int .i64 (s + -62135596800)) ∧ Below w.heap.size w w' := by
  go_enter Yba.func17, Yba.ntmps17
  go_wp2_with fail
  refine (unixSec_zero w.heap.size 0 s _ (by simp) (by simp) hs).mono ?_
  rintro x w' ⟨rfl, rfl⟩
  go_wp2
  go_ret
  exact ⟨rfl, (Below.refl _ _).alloc (Nat.le_refl _) _⟩

set_option maxRecDepth 100000 in
set_option maxHeartbeats 1600000 in
/-- '(time.Time).Add', whole seconds upon the zero Time. -/
theorem add_zero (s : Int) (w : World) (hs : -2147483648 ≤ s ∧ s ≤ 2147483647) : Calls Yba.prog 4 #[.agg #[.int .u64 0, .int .i64 0, .pointer none], .int .i64 (s * 1000000000)] w fun x w' => x = .returned (.agg #[.int .u64 0, .int .i64 s, .pointer none]) ∧ Below w.heap.size w w' := by
  have q1 : (s * 1000000000).tdiv 1000000000 = s := Int.mul_tdiv_cancel s (by omega)
  have q2 : (s * 1000000000).tmod 1000000000 = 0 := Int.mul_tmod_left s _
  go_enter Yba.func4, Yba.ntmps4
  go_wp2_with fail
  refine (nsec_zero _ _ (by simp)).mono ?_
  rintro x w' ⟨rfl, rfl⟩
  have hb0 : bits BinOp.andNot IntKind.u64 0 1073741823 = 0 := by rfl
  have hb1 : bits BinOp.or IntKind.u64 0 0 = 0 := by rfl
  have hb2 : bits BinOp.and IntKind.u64 0 9223372036854775808 = 0 := by rfl
  go_wp2_with fail
  refine (addSec_zero w.heap.size 0 s _ (by simp) (by simp) (by simp) hs).mono ?_
  rintro x w' ⟨rfl, rfl⟩
  go_wp2_with fail
  refine bodyPost_ret (v := .agg #[.int .u64 0, .int .i64 s, .pointer none]) (by simp [results, Yba.results4, go_sem]) rfl ⟨rfl, ((Below.refl _ _).alloc (Nat.le_refl _) _).alloc (by simp) _⟩
end Go.Proofs.Ybulkeins

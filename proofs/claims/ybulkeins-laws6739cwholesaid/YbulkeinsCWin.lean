/-
  Windows: the selector's window, its length; newWindowSums; the law's check of them.
-/
import Derived.Test.YbulkeinsCTime
import Derived.BigQuiet
import Derived.Deep.QuietTactic
import Derived.RegionTactic
import Derived.BigRegion
import Derived.StillTailTactics
import Derived.WalkSpells
namespace Go.Proofs.Ybulkeins
open Go Go.RowKit Go.Deep

/-- The window by the selector. -/
def winS (k : Nat) : ByteArray := if k % 4 = 1 then ⟨#[109, 105, 110, 117, 116, 101]⟩ else if k % 4 = 2 then ⟨#[104, 111, 117, 114]⟩ else if k % 4 = 3 then ⟨#[100, 97, 121]⟩ else ⟨#[]⟩
/-- Its length in seconds. -/
def winL (k : Nat) : Int := if k % 4 = 1 then 60 else if k % 4 = 2 then 3600 else if k % 4 = 3 then 86400 else 0

theorem window_any (k : Nat) (hk : k < 256) (w : World) : Calls Yba.prog 5 #[.int .u8 (k : Int)] w fun x w' => x = .returned (.string (winS k)) ∧ w' = w := by
  have hc : k % 4 = 0 ∨ k % 4 = 1 ∨ k % 4 = 2 ∨ k % 4 = 3 := by omega
  unfold winS
  rcases hc with h | h | h | h <;> (
    have h' : (k : Int) % 4 = ((k % 4 : Nat) : Int) := by omega
    rw [h] at h'
    have ht : (k : Int).tmod 4 = (k : Int) % 4 := Int.tmod_eq_emod_of_nonneg (by omega)
    simp only [h]
    go_enter Yba.func5, Yba.ntmps5
    go_wp2
    go_ret
    exact ⟨rfl, rfl⟩)

theorem len_any (k : Nat) (hk : k < 256) (w : World) : Calls Yba.prog 13 #[.int .u8 (k : Int)] w fun x w' => x = .returned (.int .i64 (winL k)) ∧ w' = w := by
  have hc : k % 4 = 0 ∨ k % 4 = 1 ∨ k % 4 = 2 ∨ k % 4 = 3 := by omega
  unfold winL
  rcases hc with h | h | h | h <;> (
    have h' : (k : Int) % 4 = ((k % 4 : Nat) : Int) := by omega
    rw [h] at h'
    have ht : (k : Int).tmod 4 = (k : Int) % 4 := Int.tmod_eq_emod_of_nonneg (by omega)
    simp only [h]
    go_enter Yba.func13, Yba.ntmps13
    go_wp2
    go_ret
    exact ⟨rfl, rfl⟩)

theorem duration_any (k : Nat) (hk : k % 4 ≠ 0) (w : World) : Calls Yba.prog 16 #[.string (winS k)] w fun x w' => x = .returned (.int .i64 (winL k * 1000000000)) ∧ w' = w := by
  have hc : k % 4 = 1 ∨ k % 4 = 2 ∨ k % 4 = 3 := by omega
  unfold winS winL
  rcases hc with h | h | h <;> (
    simp only [h]
    go_enter Yba.func16, Yba.ntmps16
    go_wp2
    go_ret
    exact ⟨rfl, rfl⟩)

theorem new_map (W : World) : (Instr.makeMap 66 none).run Yba.prog W = .ok (.map (some W.heap.size)) (W.alloc (.map #[] 0)) := by kernel_rfl

/-- The window sums' cells. -/
def wsCells (s e : Int) (k m : Nat) : Array Value := #[.int .i64 (s + -62135596800), .int .i64 (winL k), .int .i64 ((e - s).tdiv (winL k)), .map (some m), .int .i64 (-1), .int .i64 0, .pointer none, .int .i64 0, .int .i64 0, .int .i64 0]

/-- Fresh window sums behind p, or none. -/
def WsAt (s e : Int) (k : Nat) (p : Option Addr) (w : World) : Prop := (k % 4 = 0 ∧ p = none) ∨ (k % 4 ≠ 0 ∧ ∃ V m, p = some ⟨V, 0, none⟩ ∧ w.heap[V]? = some (.cells (wsCells s e k m) 68) ∧ w.heap[m]? = some (.map #[] 0))

/-- The same, all of it new since block N. -/
def WsNew (N : Nat) (s e : Int) (k : Nat) (p : Option Addr) (w : World) : Prop := (k % 4 = 0 ∧ p = none) ∨ (k % 4 ≠ 0 ∧ ∃ V m, p = some ⟨V, 0, none⟩ ∧ N ≤ V ∧ N ≤ m ∧ w.heap[V]? = some (.cells (wsCells s e k m) 68) ∧ w.heap[m]? = some (.map #[] 0))

theorem winL_pos {k : Nat} (h : k % 4 ≠ 0) : winL k = 60 ∨ winL k = 3600 ∨ winL k = 86400 := by
  unfold winL
  have : k % 4 = 1 ∨ k % 4 = 2 ∨ k % 4 = 3 := by omega
  rcases this with h | h | h <;> simp [h]

theorem cell_of_block {w w' : World} {k : Nat} (h : w'.heap[k]? = w.heap[k]?) (o : Nat) : w'.cell? ⟨k, o, none⟩ = w.cell? ⟨k, o, none⟩ := by
  simp only [World.cell?, h]
theorem frozen_of_block {w w' : World} {k : Nat} (h : w'.heap[k]? = w.heap[k]?) (o : Nat) : w'.frozen? ⟨k, o, none⟩ = w.frozen? ⟨k, o, none⟩ := by
  simp only [World.frozen?, h]
theorem cell_lt {w : World} {a : Addr} {v : Value} (h : w.cell? a = some v) : a.block < w.heap.size := World.block_lt_of_cell? _ _ h

theorem tdiv_le {a b : Int} (ha : -4294967296 ≤ a ∧ a ≤ 4294967296) : -4294967296 ≤ a.tdiv b ∧ a.tdiv b ≤ 4294967296 := by
  have h := Int.natAbs_tdiv_le_natAbs a b
  omega

set_option maxRecDepth 100000 in
set_option maxHeartbeats 3200000 in
theorem newWs_any (s e : Int) (k : Nat) (hk : k % 4 ≠ 0) (hs : -2147483648 ≤ s ∧ s ≤ 2147483647) (he : -2147483648 ≤ e ∧ e ≤ 2147483647) (w : World) :
    Calls Yba.prog 15 #[.agg #[.int .u64 0, .int .i64 s, .pointer none, .int .u64 0, .int .i64 e, .pointer none], .string (winS k)] w fun x w' => ∃ V m, x = .returned (.pointer (some ⟨V, 0, none⟩)) ∧ Below w.heap.size w w' ∧ w.heap.size ≤ V ∧ w.heap.size ≤ m ∧ w'.heap[V]? = some (.cells (wsCells s e k m) 68) ∧ w'.heap[m]? = some (.map #[] 0) := by
  have hmm := new_map
  have hp := winL_pos hk
  have hq : (winL k * 1000000000).tdiv 1000000000 = winL k := Int.mul_tdiv_cancel _ (by omega)
  have hw1 : wrap64 (winL k) = winL k := by unfold wrap64; omega
  have hd := tdiv_le (a := e - s) (b := winL k) (by omega)
  have hw2 : wrap64 ((e - s).tdiv (winL k)) = (e - s).tdiv (winL k) := by unfold wrap64; omega
  have hne : ¬ (winL k = 0) := by omega
  have HD : Hid ((winL k = 60 ∨ winL k = 3600 ∨ winL k = 86400)) := hp
  clear hp hd
  go_enter Yba.func15, Yba.ntmps15
  go_wp2_with fail
  refine (duration_any k hk _).mono ?_
  rintro x w' ⟨rfl, rfl⟩
  go_wp2_with fail
  refine (unix_zero s _ _ hs).mono ?_
  rintro x w1 ⟨rfl, hb1⟩
  have hB : Below (w.heap.size + 1) (w.alloc (.cells #[.int .u64 0, .int .i64 s, .pointer none, .int .u64 0, .int .i64 e, .pointer none] 30)) w1 := by
    have h := hb1
    rw [nblk_alloc] at h
    exact h
  have hblk := hB.block w.heap.size (by omega)
  have c3 : w1.cell? ⟨w.heap.size, 3, none⟩ = some (.int .u64 0) := by rw [cell_of_block hblk]; simp
  have c4 : w1.cell? ⟨w.heap.size, 4, none⟩ = some (.int .i64 e) := by rw [cell_of_block hblk]; simp
  have c5 : w1.cell? ⟨w.heap.size, 5, none⟩ = some (.pointer none) := by rw [cell_of_block hblk]; simp
  have HB1 : Hid (Below w.heap.size w w1) := ((Below.refl _ _).alloc (Nat.le_refl _) _).trans (hB.mono (by omega))
  clear hb1 hB hblk
  go_wp2_with fail
  refine (unix_zero e _ _ he).mono ?_
  rintro x w2 ⟨rfl, hb2⟩
  have HB2 : Hid (Below w.heap.size w w2) := HB1.out.trans (hb2.mono HB1.out.size)
  have hsub : e + -62135596800 - (s + -62135596800) = e - s := by omega
  have hw3 : wrap64 (e - s) = e - s := by unfold wrap64; omega
  clear hb2 HB1 c3 c4 c5
  go_wp2_with fail
  go_ret
  refine ⟨w2.heap.size + 1, w2.heap.size, rfl, (HB2.out.alloc HB2.out.size _).alloc (by rw [nblk_alloc]; have := HB2.out.size; omega) _, by have := HB2.out.size; omega, HB2.out.size, ?_, ?_⟩
  · have := blk_alloc_new (w2.alloc (.map #[] 0)) (.cells (wsCells s e k w2.heap.size) 68)
    rw [nblk_alloc] at this
    exact this
  · exact (blk_alloc_lt _ _ _ (by rw [nblk_alloc]; omega)).trans (blk_alloc_new _ _)

end Go.Proofs.Ybulkeins

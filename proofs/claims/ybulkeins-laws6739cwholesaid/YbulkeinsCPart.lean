/-
  newPart.
-/
import Derived.Test.YbulkeinsCWin
import Derived.Deep.RegionWith
import Derived.Deep.RegionHeld3
namespace Go.Proofs.Ybulkeins
open Go Go.RowKit Go.Deep

/-- A part's cells. -/
def partCells (bk cm q : Option Addr) : Array Value := #[.pointer bk, .int .i64 0, .pointer none, .int .i64 0, .pointer cm, .int .i64 0, .pointer none, .int .i64 0, .pointer q]

/-- The commitment behind cm has the selector's window. -/
def CmAt (k : Nat) (cm : Option Addr) (w : World) : Prop := (k % 4 = 0 ∧ cm = none) ∨ ∃ B o, cm = some ⟨B, o, none⟩ ∧ w.cell? ⟨B, o + 9, none⟩ = some (.string (winS k))

theorem mixed : Yba.prog.follows .mixedOrders = true := by kernel_rfl

theorem winS_ne {k : Nat} (h : k % 4 ≠ 0) : (winS k == ⟨#[]⟩) = false := by
  unfold winS
  have : k % 4 = 1 ∨ k % 4 = 2 ∨ k % 4 = 3 := by omega
  rcases this with h | h | h <;> simp [h] <;> decide +kernel

theorem below3 (w : World) (o1 o2 o3 : Obj) : Below w.heap.size w (((w.alloc o1).alloc o2).alloc o3) := by
  have h1 : Below w.heap.size w (w.alloc o1) := (Below.refl _ _).alloc (Nat.le_refl _) _
  have h2 := h1.alloc h1.size o2
  exact h2.alloc h2.size o3
theorem blk3 (w : World) (o1 o2 o3 : Obj) : (((w.alloc o1).alloc o2).alloc o3).heap[w.heap.size + 1 + 1]? = some o3 := by
  have h := blk_alloc_new ((w.alloc o1).alloc o2) o3
  rw [nblk_alloc, nblk_alloc] at h
  exact h

theorem blk1 (w : World) (o1 o2 o3 : Obj) : (((w.alloc o1).alloc o2).alloc o3).heap[w.heap.size]? = some o1 := by
  have h := blk_alloc_new w o1
  rw [blk_alloc_lt _ _ _ (by rw [nblk_alloc, nblk_alloc]; omega), blk_alloc_lt _ _ _ (by rw [nblk_alloc]; omega)]
  exact h
theorem winS_ne2 {k : Nat} (h : k % 4 ≠ 0) : (winS k).toList.isEmpty = false := by
  unfold winS
  have : k % 4 = 1 ∨ k % 4 = 2 ∨ k % 4 = 3 := by omega
  rcases this with h | h | h <;> simp [h] <;> decide +kernel

theorem blk_set {w : World} {b : Nat} {xs : Array Value} {t : TypeId} (h : w.heap[b]? = some (.cells xs t)) (o : Nat) (v : Value) : (w.setCell ⟨b, o, none⟩ v).heap[b]? = some (.cells (xs.setIfInBounds o v) t) := by
  have hb : b < w.heap.size := by
    rcases Nat.lt_or_ge b w.heap.size with h' | h'
    · exact h'
    · rw [Array.getElem?_eq_none h'] at h; cases h
  rw [Array.getElem?_eq_getElem hb] at h
  have h1 := Option.some.inj h
  show (w.heap.modify b _)[b]? = _
  rw [Array.getElem?_eq_getElem (by simpa using hb), Array.getElem_modify_self, h1]
  rfl
theorem ne_of_cells {w : World} {a b : Nat} {xs ys : Array Value} {t u : TypeId} (ha : w.heap[a]? = some (.cells xs t)) (hb : w.heap[b]? = some (.cells ys u)) (h : t ≠ u) : a ≠ b := by
  intro e
  subst e
  rw [ha] at hb
  cases hb
  exact h rfl
theorem ne_of_map {w : World} {a b : Nat} {xs : Array Value} {t : TypeId} (ha : w.heap[a]? = some (.map #[] 0)) (hb : w.heap[b]? = some (.cells xs t)) : a ≠ b := by
  intro e
  subst e
  rw [ha] at hb
  cases hb

theorem afterCall {w w3 : World} {B o P : Nat} (hbl : Below w.heap.size w w3) (hb3 : w3.heap[P]? = some (.cells (partCells none (some ⟨B, o, none⟩) none) 59)) (w4 : World) (h : Below w3.drew.heap.size w3.drew w4) :
    w4.cell? ⟨P, 8, none⟩ = some (.pointer none) ∧ w4.frozen? ⟨P, 8, none⟩ = false ∧ Below w.heap.size w w4 ∧ w4.heap[P]? = some (.cells (partCells none (some ⟨B, o, none⟩) none) 59) := by
  have h' : Below w3.heap.size w3 w4 := ⟨h.os, h.tape, h.output, h.size, h.block⟩
  have hlt : P < w3.heap.size := by
    rcases Nat.lt_or_ge P w3.heap.size with h | h
    · exact h
    · rw [Array.getElem?_eq_none h] at hb3; cases hb3
  have h4 := (h'.block P hlt).trans hb3
  exact ⟨by simp only [World.cell?, h4]; rfl, by simp only [World.frozen?, h4]; rfl, hbl.trans (h'.mono hbl.size), h4⟩

set_option maxRecDepth 100000 in
set_option maxHeartbeats 3200000 in
theorem newPart_any (s e : Int) (k : Nat) (cm : Option Addr) (hs : -2147483648 ≤ s ∧ s ≤ 2147483647) (he : -2147483648 ≤ e ∧ e ≤ 2147483647) (w : World) (hc : CmAt k cm w) :
    Calls Yba.prog 12 #[.agg #[.int .u64 0, .int .i64 s, .pointer none, .int .u64 0, .int .i64 e, .pointer none], .agg #[.int .i64 0, .pointer none, .int .i64 0], .pointer cm] w
      fun x w' => ∃ P q, x = .returned (.pointer (some ⟨P, 0, none⟩)) ∧ Below w.heap.size w w' ∧ w.heap.size ≤ P ∧ w'.heap[P]? = some (.cells (partCells none cm q) 59) ∧ WsNew w.heap.size s e k q w' := by
  rcases hc with ⟨h0, rfl⟩ | ⟨B, o, rfl, hB⟩
  · go_enter Yba.func12, Yba.ntmps12
    go_wp2_with fail
    go_ret
    exact ⟨w.heap.size + 1 + 1, none, rfl, below3 w _ _ _, by omega, blk3 w _ _ _, .inl ⟨h0, rfl⟩⟩
  · have hBlt : B < w.heap.size := cell_lt hB
    have hB3 : ∀ o1 o2 o3, (((w.alloc o1).alloc o2).alloc o3).cell? ⟨B, o + 9, none⟩ = w.cell? ⟨B, o + 9, none⟩ := fun o1 o2 o3 => cell_of_block ((below3 w o1 o2 o3).block B hBlt) _
    by_cases h0 : k % 4 = 0
    · have hz : winS k = ⟨#[]⟩ := by unfold winS; simp [h0]
      rw [hz] at hB
      go_enter Yba.func12, Yba.ntmps12
      go_wp2_with fail
      go_ret
      exact ⟨w.heap.size + 1 + 1, none, rfl, below3 w _ _ _, by omega, blk3 w _ _ _, .inl ⟨h0, rfl⟩⟩
    · have hne := winS_ne h0
      have hne2 : (winS k).toList.isEmpty = false := winS_ne2 h0
      go_enter Yba.func12, Yba.ntmps12
      go_wp2_with fail
      have hbl := below3 w (Obj.cells #[.int .u64 0, .int .i64 s, .pointer none, .int .u64 0, .int .i64 e, .pointer none] 30) (Obj.cells #[.int .i64 0, .pointer none, .int .i64 0] 37) (Obj.cells #[.pointer none, .int .i64 0, .pointer none, .int .i64 0, .pointer (some ⟨B, o, none⟩), .int .i64 0, .pointer none, .int .i64 0, .pointer none] 59)
      have hb3 := blk3 w (Obj.cells #[.int .u64 0, .int .i64 s, .pointer none, .int .u64 0, .int .i64 e, .pointer none] 30) (Obj.cells #[.int .i64 0, .pointer none, .int .i64 0] 37) (Obj.cells #[.pointer none, .int .i64 0, .pointer none, .int .i64 0, .pointer (some ⟨B, o, none⟩), .int .i64 0, .pointer none, .int .i64 0, .pointer none] 59)
      have hb1 := blk1 w (Obj.cells #[.int .u64 0, .int .i64 s, .pointer none, .int .u64 0, .int .i64 e, .pointer none] 30) (Obj.cells #[.int .i64 0, .pointer none, .int .i64 0] 37) (Obj.cells #[.pointer none, .int .i64 0, .pointer none, .int .i64 0, .pointer (some ⟨B, o, none⟩), .int .i64 0, .pointer none, .int .i64 0, .pointer none] 59)
      have y9 := (hB3 (Obj.cells #[.int .u64 0, .int .i64 s, .pointer none, .int .u64 0, .int .i64 e, .pointer none] 30) (Obj.cells #[.int .i64 0, .pointer none, .int .i64 0] 37) (Obj.cells #[.pointer none, .int .i64 0, .pointer none, .int .i64 0, .pointer (some ⟨B, o, none⟩), .int .i64 0, .pointer none, .int .i64 0, .pointer none] 59)).trans hB
      have hsz : w.heap.size ≤ w.heap.size + 1 + 1 := by omega
      generalize (((w.alloc (Obj.cells #[.int .u64 0, .int .i64 s, .pointer none, .int .u64 0, .int .i64 e, .pointer none] 30)).alloc (Obj.cells #[.int .i64 0, .pointer none, .int .i64 0] 37)).alloc (Obj.cells #[.pointer none, .int .i64 0, .pointer none, .int .i64 0, .pointer (some ⟨B, o, none⟩), .int .i64 0, .pointer none, .int .i64 0, .pointer none] 59)) = w3 at hbl hb3 hb1 y9 ⊢
      generalize w.heap.size + 1 + 1 = P at hb3 hsz ⊢
      have HS : Hid (w.heap.size ≤ P) := hsz
      have HBL : Hid (Below w.heap.size w w3) := hbl
      have HB3 : Hid (w3.heap[P]? = some (.cells (partCells none (some ⟨B, o, none⟩) none) 59)) := hb3
      have y0 : w3.cell? ⟨w.heap.size, 0, none⟩ = some (.int .u64 0) := by simp only [World.cell?, hb1]; rfl
      have y1 : w3.cell? ⟨w.heap.size, 1, none⟩ = some (.int .i64 s) := by simp only [World.cell?, hb1]; rfl
      have y2 : w3.cell? ⟨w.heap.size, 2, none⟩ = some (.pointer none) := by simp only [World.cell?, hb1]; rfl
      have y3 : w3.cell? ⟨w.heap.size, 3, none⟩ = some (.int .u64 0) := by simp only [World.cell?, hb1]; rfl
      have y4 : w3.cell? ⟨w.heap.size, 4, none⟩ = some (.int .i64 e) := by simp only [World.cell?, hb1]; rfl
      have y5 : w3.cell? ⟨w.heap.size, 5, none⟩ = some (.pointer none) := by simp only [World.cell?, hb1]; rfl
      have HZ : Hid (∀ w4 : World, Below w3.drew.heap.size w3.drew w4 → w4.cell? ⟨P, 8, none⟩ = some (.pointer none) ∧ w4.frozen? ⟨P, 8, none⟩ = false ∧ Below w.heap.size w w4 ∧ w4.heap[P]? = some (.cells (partCells none (some ⟨B, o, none⟩) none) 59)) := afterCall hbl hb3
      have HC : Hid (∀ w, Calls Yba.prog 15 #[.agg #[.int .u64 0, .int .i64 s, .pointer none, .int .u64 0, .int .i64 e, .pointer none], .string (winS k)] w fun x w' => ∃ V m, x = .returned (.pointer (some ⟨V, 0, none⟩)) ∧ Below w.heap.size w w' ∧ w.heap.size ≤ V ∧ w.heap.size ≤ m ∧ w'.heap[V]? = some (.cells (wsCells s e k m) 68) ∧ w'.heap[m]? = some (.map #[] 0)) := newWs_any s e k h0 hs he
      have H0 : Hid (¬ k % 4 = 0) := h0
      clear hb3 hbl hb1 hsz hs he hB hBlt hB3 hne hne2 h0
      go_region_with (go_at_call 15; refine (HC.out w3.drew).mono ?_; rintro x w4 ⟨V, m, rfl, hb4, hV, hM, hV4, hm4⟩; obtain ⟨z8, zf, hB4, hP4⟩ := HZ.out w4 hb4; clear hb4 HZ HC)
      all_goals (
        go_wp2_with fail
        go_ret
        exact ⟨P, some ⟨V, 0, none⟩, rfl, hB4.setCell HS.out _, HS.out, (blk_set hP4 8 _).trans (by rfl), .inr ⟨H0.out, V, m, rfl, Nat.le_trans HBL.out.size hV, Nat.le_trans HBL.out.size hM, (blk_setCell_other _ _ _ _ (ne_of_cells hV4 hP4 (by decide))).trans hV4, (blk_setCell_other _ _ _ _ (ne_of_map hm4 hP4)).trans hm4⟩⟩)
end Go.Proofs.Ybulkeins

/-
  What the made parts are, and what keeps them.
-/
import Derived.Test.YbulkeinsCPart
import Derived.Test.YbulkeinsCRow
namespace Go.Proofs.Ybulkeins
open Go Go.RowKit Go.Deep

theorem blk_lt {w : World} {b : Nat} {o : Obj} (h : w.heap[b]? = some o) : b < w.heap.size := by
  rcases Nat.lt_or_ge b w.heap.size with h' | h'
  · exact h'
  · rw [Array.getElem?_eq_none h'] at h; cases h

/-- A part at block P that does not lie in block ob, nor do its window sums. -/
def PartOff (ob : Option Nat) (s e : Int) (k : Nat) (bk cm : Option Addr) (P : Nat) (w : World) : Prop :=
  ∃ q, w.heap[P]? = some (.cells (partCells bk cm q) 59) ∧ ob ≠ some P ∧ ((k % 4 = 0 ∧ q = none) ∨ (k % 4 ≠ 0 ∧ ∃ V m, q = some ⟨V, 0, none⟩ ∧ w.heap[V]? = some (.cells (wsCells s e k m) 68) ∧ ob ≠ some V ∧ w.heap[m]? = some (.map #[] 0) ∧ ob ≠ some m))

theorem PartOff.kept {ob ob' : Option Nat} {s e : Int} {k : Nat} {bk cm : Option Addr} {P : Nat} {w w' : World} (h : PartOff ob s e k bk cm P w) (hb : ∀ b, b < w.heap.size → ob ≠ some b → w'.heap[b]? = w.heap[b]?) (ho : ∀ b, b < w.heap.size → ob ≠ some b → ob' ≠ some b) : PartOff ob' s e k bk cm P w' := by
  obtain ⟨q, h1, h2, h3⟩ := h
  refine ⟨q, (hb _ (blk_lt h1) h2).trans h1, ho _ (blk_lt h1) h2, ?_⟩
  rcases h3 with h3 | ⟨h4, V, m, h5, h6, h7, h8, h9⟩
  · exact .inl h3
  · exact .inr ⟨h4, V, m, h5, (hb _ (blk_lt h6) h7).trans h6, ho _ (blk_lt h6) h7, (hb _ (blk_lt h8) h9).trans h8, ho _ (blk_lt h8) h9⟩

theorem PartOff.below {ob : Option Nat} {s e : Int} {k : Nat} {bk cm : Option Addr} {P : Nat} {w w' : World} (h : PartOff ob s e k bk cm P w) (hb : Below w.heap.size w w') : PartOff ob s e k bk cm P w' :=
  h.kept (fun b hlt _ => hb.block b hlt) (fun _ _ h => h)

theorem PartOff.set {ob : Option Nat} {s e : Int} {k : Nat} {bk cm : Option Addr} {P : Nat} {w : World} (h : PartOff ob s e k bk cm P w) {C : Nat} {xs : Array Value} (hC : w.heap[C]? = some (.cells xs 54)) (o : Nat) (v : Value) : PartOff ob s e k bk cm P (w.setCell ⟨C, o, none⟩ v) := by
  obtain ⟨q, h1, h2, h3⟩ := h
  refine ⟨q, (blk_setCell_other _ _ _ _ (ne_of_cells h1 hC (by decide))).trans h1, h2, ?_⟩
  rcases h3 with h3 | ⟨h4, V, m, h5, h6, h7, h8, h9⟩
  · exact .inl h3
  · exact .inr ⟨h4, V, m, h5, (blk_setCell_other _ _ _ _ (ne_of_cells h6 hC (by decide))).trans h6, h7, (blk_setCell_other _ _ _ _ (ne_of_map h8 hC)).trans h8, h9⟩

theorem PartOff.ws {ob : Option Nat} {s e : Int} {k : Nat} {bk cm : Option Addr} {P : Nat} {w : World} (h : PartOff ob s e k bk cm P w) : ∃ q, w.heap[P]? = some (.cells (partCells bk cm q) 59) ∧ WsAt s e k q w := by
  obtain ⟨q, h1, _, h3⟩ := h
  refine ⟨q, h1, ?_⟩
  rcases h3 with h3 | ⟨h4, V, m, h5, h6, _, h8, _⟩
  · exact .inl h3
  · exact .inr ⟨h4, V, m, h5, h6, h8⟩

theorem PartOff.ofNew {ob : Option Nat} {s e : Int} {k : Nat} {bk cm : Option Addr} {P : Nat} {q : Option Addr} {w : World} {N : Nat} (hob : ∀ b, ob = some b → b < N) (hP : N ≤ P) (h1 : w.heap[P]? = some (.cells (partCells bk cm q) 59)) (h2 : WsNew N s e k q w) : PartOff ob s e k bk cm P w := by
  have hf : ∀ b, N ≤ b → ob ≠ some b := fun b hb h => by have := hob _ h; omega
  refine ⟨q, h1, hf _ hP, ?_⟩
  rcases h2 with h2 | ⟨h4, V, m, h5, hV, hm, h6, h8⟩
  · exact .inl h2
  · exact .inr ⟨h4, V, m, h5, h6, hf _ hV, h8, hf _ hm⟩

theorem WsNew.set {N : Nat} {s e : Int} {k : Nat} {q : Option Addr} {w : World} (h : WsNew N s e k q w) {P : Nat} {xs : Array Value} (hP : w.heap[P]? = some (.cells xs 59)) (o : Nat) (v : Value) : WsNew N s e k q (w.setCell ⟨P, o, none⟩ v) := by
  rcases h with h2 | ⟨h4, V, m, h5, hV, hm, h6, h8⟩
  · exact .inl h2
  · exact .inr ⟨h4, V, m, h5, hV, hm, (blk_setCell_other _ _ _ _ (ne_of_cells h6 hP (by decide))).trans h6, (blk_setCell_other _ _ _ _ (ne_of_map h8 hP)).trans h8⟩
end Go.Proofs.Ybulkeins

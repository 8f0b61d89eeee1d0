/-
  newChargeParts: what holds after i rounds.
-/
import Derived.Test.YbulkeinsCParts
import Derived.Test.YbulkeinsCHead
import Derived.OwnWalk
namespace Go.Proofs.Ybulkeins
open Go Go.RowKit Go.Deep

/-- The charge's cells. -/
def chCells (id col : ByteArray) (cm : Option Addr) (ba : Option Addr) (n : Nat) : Array Value := #[.string id, .string col, .int .i64 0, .pointer none, .int .i64 0, .pointer cm, .slice ba n n]
/-- The charge parts' cells. -/
def cpCells (id col : ByteArray) (cm : Option Addr) (ba : Option Addr) (n O : Nat) (A : Option Addr) (i cap : Nat) : Array Value := #[.string id, .string col, .int .i64 0, .pointer none, .int .i64 0, .pointer cm, .slice ba n n, .pointer (some ⟨O, 0, none⟩), .slice A i cap]

/-- The buckets in block D: no price, the selector's window. -/
def BkAt (D n : Nat) (K : Nat → Nat) (w : World) : Prop := ∀ j, j < n → w.cell? ⟨D, j * 15 + 2, none⟩ = some (.int .i64 0) ∧ w.cell? ⟨D, j * 15 + 3, none⟩ = some (.pointer none) ∧ w.cell? ⟨D, j * 15 + 4, none⟩ = some (.int .i64 0) ∧ w.cell? ⟨D, j * 15 + 14, none⟩ = some (.string (winS (K j)))

theorem BkAt.below {D n : Nat} {K : Nat → Nat} {w w' : World} (h : BkAt D n K w) (hb : Below w.heap.size w w') : BkAt D n K w' := fun j hj => by
  have h1 := h j hj
  have e := hb.block D (cell_lt h1.1)
  simp only [cell_of_block e]
  exact h1

def ptrs (P : Nat → Nat) (i : Nat) : List Value := (List.range i).map fun j => .pointer (some ⟨P j, 0, none⟩)

/-- After i rounds. -/
structure Lp (s e : Int) (id col : ByteArray) (cm : Option Addr) (k : Nat) (D n : Nat) (K : Nat → Nat) (C O : Nat) (w0 : World) (i : Nat) (P : Nat → Nat) (ob : Option Nat) (A : Option Addr) (cap : Nat) (wr : World) : Prop where
  below : Below w0.heap.size w0 wr
  leC : w0.heap.size ≤ C
  atC : wr.heap[C]? = some (.cells (cpCells id col cm (if n = 0 then none else some ⟨D, 0, none⟩) n O A i cap) 54)
  obB : ∀ b, ob = some b → w0.heap.size ≤ b ∧ b ≠ C
  own : PartOff ob s e k none cm O wr
  row : Row 1 ob A i cap (ptrs P i) wr
  parts : ∀ j, j < i → PartOff ob s e (K j) (some ⟨D, j * 15, none⟩) (some ⟨D, j * 15 + 5, none⟩) (P j) wr
  nil : i = 0 → A = none

theorem Lp.start {s e : Int} {id col : ByteArray} {cm : Option Addr} {k D n : Nat} {K : Nat → Nat} {w1 w4 : World} {O : Nat} {q : Option Addr} (hb : Below w1.heap.size w1 w4) (hO : w4.heap[O]? = some (.cells (partCells none cm q) 59)) (hq : WsNew w1.heap.size s e k q w4) :
    Lp s e id col cm k D n K w4.heap.size O w1 0 (fun _ => 0) none none 0 (w4.alloc (.cells (cpCells id col cm (if n = 0 then none else some ⟨D, 0, none⟩) n O none 0 0) 54)) where
  below := hb.alloc hb.size _
  leC := hb.size
  atC := blk_alloc_new _ _
  obB := fun b h => by cases h
  own := by
    have h0 : PartOff none s e k none cm O w4 := PartOff.ofNew (N := 0) (fun b h => by cases h) (Nat.zero_le _) hO (by
      rcases hq with h | ⟨h4, V, m, h5, hV, hm, h6, h8⟩
      · exact .inl h
      · exact .inr ⟨h4, V, m, h5, Nat.zero_le _, Nat.zero_le _, h6, h8⟩)
    exact h0.kept (fun b hb _ => blk_alloc_lt _ _ _ hb) (fun _ _ h => h)
  row := Row.nil _ _
  parts := fun j hj => by omega
  nil := fun _ => rfl

/-- What is left of the boxes behind a call. -/
def Boxes (s e : Int) (id col : ByteArray) (cm ba : Option Addr) (n Bp Bc : Nat) (w : World) : Prop :=
  (w.cell? ⟨Bp, 0, none⟩ = some (.int .u64 0) ∧ w.cell? ⟨Bp, 1, none⟩ = some (.int .i64 s) ∧ w.cell? ⟨Bp, 2, none⟩ = some (.pointer none) ∧ w.cell? ⟨Bp, 3, none⟩ = some (.int .u64 0) ∧ w.cell? ⟨Bp, 4, none⟩ = some (.int .i64 e) ∧ w.cell? ⟨Bp, 5, none⟩ = some (.pointer none)) ∧
  (w.cell? ⟨Bc, 0, none⟩ = some (.string id) ∧ w.cell? ⟨Bc, 1, none⟩ = some (.string col) ∧ w.cell? ⟨Bc, 2, none⟩ = some (.int .i64 0) ∧ w.cell? ⟨Bc, 3, none⟩ = some (.pointer none) ∧ w.cell? ⟨Bc, 4, none⟩ = some (.int .i64 0) ∧ w.cell? ⟨Bc, 5, none⟩ = some (.pointer cm) ∧ w.cell? ⟨Bc, 6, none⟩ = some (.slice ba n n))

theorem Boxes.kept {s e : Int} {id col : ByteArray} {cm ba : Option Addr} {n Bp Bc : Nat} {w w' : World} (h : Boxes s e id col cm ba n Bp Bc w) (hb : Below w.heap.size w w') : Boxes s e id col cm ba n Bp Bc w' := by
  have e1 := hb.block Bp (cell_lt h.1.1)
  have e2 := hb.block Bc (cell_lt h.2.1)
  unfold Boxes
  simp only [cell_of_block e1, cell_of_block e2]
  exact h

theorem blk2a (w : World) (o1 o2 : Obj) : ((w.alloc o1).alloc o2).heap[w.heap.size]? = some o1 := by
  rw [blk_alloc_lt _ _ _ (by rw [nblk_alloc]; omega)]
  exact blk_alloc_new _ _
theorem blk2b (w : World) (o1 o2 : Obj) : ((w.alloc o1).alloc o2).heap[w.heap.size + 1]? = some o2 := by
  have h := blk_alloc_new (w.alloc o1) o2
  rw [nblk_alloc] at h
  exact h
theorem below2 (w : World) (o1 o2 : Obj) : Below w.heap.size w ((w.alloc o1).alloc o2) := by
  have h1 : Below w.heap.size w (w.alloc o1) := (Below.refl _ _).alloc (Nat.le_refl _) _
  exact h1.alloc h1.size o2
theorem Boxes.new (s e : Int) (id col : ByteArray) (cm ba : Option Addr) (n : Nat) (w : World) : Boxes s e id col cm ba n w.heap.size (w.heap.size + 1) ((w.alloc (.cells #[.int .u64 0, .int .i64 s, .pointer none, .int .u64 0, .int .i64 e, .pointer none] 30)).alloc (.cells #[.string id, .string col, .int .i64 0, .pointer none, .int .i64 0, .pointer cm, .slice ba n n] 48)) := by
  have h1 := blk2a w (.cells #[.int .u64 0, .int .i64 s, .pointer none, .int .u64 0, .int .i64 e, .pointer none] 30) (.cells #[.string id, .string col, .int .i64 0, .pointer none, .int .i64 0, .pointer cm, .slice ba n n] 48)
  have h2 := blk2b w (.cells #[.int .u64 0, .int .i64 s, .pointer none, .int .u64 0, .int .i64 e, .pointer none] 30) (.cells #[.string id, .string col, .int .i64 0, .pointer none, .int .i64 0, .pointer cm, .slice ba n n] 48)
  refine ⟨⟨?_, ?_, ?_, ?_, ?_, ?_⟩, ?_, ?_, ?_, ?_, ?_, ?_, ?_⟩ <;> first | (simp only [World.cell?, h1]; rfl) | (simp only [World.cell?, h2]; rfl)

theorem CmAt.below {k : Nat} {cm : Option Addr} {w w' : World} (h : CmAt k cm w) (hb : Below w.heap.size w w') : CmAt k cm w' := by
  rcases h with h | ⟨B, o, h1, h2⟩
  · exact .inl h
  · exact .inr ⟨B, o, h1, (cell_of_block (hb.block B (cell_lt h2)) _).trans h2⟩

theorem built54 (id col : ByteArray) (cm ba : Option Addr) (n O : Nat) : Program.built Yba.prog 54 [(0, .agg #[.string id, .string col, .int .i64 0, .pointer none, .int .i64 0, .pointer cm, .slice ba n n]), (1, .pointer (some ⟨O, 0, none⟩))] = some #[.string id, .string col, .int .i64 0, .pointer none, .int .i64 0, .pointer cm, .slice ba n n, .pointer (some ⟨O, 0, none⟩), .slice none 0 0] := by kernel_rfl
theorem exec_build {P : Program} {a : Operand → Value} {o : Oper} {t : TypeId} {parts : Array (Nat × Operand)} {l : List (Nat × Value)} {cells : Array Value} (ho : o.op = .build t parts) (hp : (parts.map fun (i, x) => (i, a x)).toList = l) (hc : P.built t l = some cells) (w : World) :
    (execOp a o).run P w = .ok (.value (.agg cells)) w := by
  unfold execOp
  subst hp
  simp only [ho, Sem.run_bind, run_build w t _ cells hc, Result.andThen_ok]
  rfl

/-- newPart's answer. -/
def PartPost (s e : Int) (k : Nat) (cm : Option Addr) (w : World) (x : Ending) (w' : World) : Prop := ∃ P q, x = .returned (.pointer (some ⟨P, 0, none⟩)) ∧ Below w.heap.size w w' ∧ w.heap.size ≤ P ∧ w'.heap[P]? = some (.cells (partCells none cm q) 59) ∧ WsNew w.heap.size s e k q w'

theorem inf51 : (Yba.prog.info? 51).map (fun i => (i.zero, i.size, i.bytes)) = some (some (.pointer none), 1, 8) := by kernel_rfl

/-- 'append(cp.buckets, p)'. -/
theorem append_ptr {ob : Option Nat} {a : Option Addr} {n cap : Nat} {xs : List Value} {w : World} (h : Row 1 ob a n cap xs w) (hn : n ≤ 100000) {N : Nat} {u : Value} (h0 : w.cell? ⟨N, 0, none⟩ = some u) (hu : u.oneCell' = true) (c : Nat) (ty : TypeId) :
    ∃ a' cap' ob' w', (Builtin.append_ #[52, 52] ty #[.slice a n cap, .slice (some ⟨N, 0, none⟩) 1 c]).run Yba.prog w = .ok (.slice a' (n + 1) cap') w' ∧ Row 1 ob' a' (n + 1) cap' (xs ++ [u]) w' ∧ w.grownBy w' ob ∧ (∀ k, ob' = some k → ob = some k ∨ w.heap.size ≤ k) := by
  obtain ⟨i, hi, hh⟩ := Option.map_eq_some_iff.1 inf51
  simp only [Prod.mk.injEq] at hh
  obtain ⟨z1, z2, z3⟩ := hh
  refine h.append Yba.underlying52 hi z1 z2 rfl (by rw [z3]; omega) (by omega) (by omega) (news := [u]) rfl ?_ ?_
  · intro j y hy
    match j with
    | 0 => simp at hy; subst hy; simpa [Addr.add] using h0
    | j + 1 => simp at hy
  · intro y hy
    simp at hy
    subst hy
    exact hu

theorem ptrs_step (P : Nat → Nat) (i Q : Nat) : ptrs P i ++ [.pointer (some ⟨Q, 0, none⟩)] = ptrs (fun j => if j = i then Q else P j) (i + 1) := by
  unfold ptrs
  rw [List.range_succ, List.map_append]
  simp only [List.map_cons, List.map_nil, if_true]
  congr 1
  refine List.map_congr_left fun j hj => ?_
  have : j < i := by simpa using hj
  rw [if_neg (by omega)]

/-- An append whose run is known, in a region that does not draw. -/
theorem wpList_append_run {P : Program} (w : World) {ops : Array Oper} {rest : List Oper} {o : Oper} {a : Act} {Q : Exit → Act → World → Prop} (hg : o.guard = none) (s x : Operand) (t : TypeId)
    (hop : o.op = Op.call { callee := Callee.builtin Builtin.append, args := #[s, x], argTypes := #[t, t] }) {vs vx v' : Value} {w' : World} (hs : a.eval s = vs) (hx : a.eval x = vx)
    (hrun : (Builtin.append_ #[t, t] o.type #[vs, vx]).run P w = .ok v' w') (hK : wpList P ops Q rest (a.put o.dst v') w') : wpList P ops Q (o :: rest) a w := by
  refine wpList_plain hg fun K' hK' => ?_
  unfold Oper.wp
  simp [execOp, hop, resolve, invoke, builtin, hs, hx, hrun, Result.andThen]
  exact hK' _ _ hK

/-- One round. -/
theorem Lp.step {s e : Int} {id col : ByteArray} {cm : Option Addr} {k D n : Nat} {K : Nat → Nat} {C O : Nat} {w0 : World} {i : Nat} {P : Nat → Nat} {ob : Option Nat} {A : Option Addr} {cap : Nat} {wr : World}
    (h : Lp s e id col cm k D n K C O w0 i P ob A cap wr) (hn : n ≤ 65536) (hi : i < n) {w2 : World} {Q : Nat} {q : Option Addr} (hb : Below wr.heap.size wr w2) (hQ : wr.heap.size ≤ Q)
    (hQ2 : w2.heap[Q]? = some (.cells (partCells none (some ⟨D, i * 15 + 5, none⟩) q) 59)) (hq : WsNew wr.heap.size s e (K i) q w2) :
    (w2.setCell ⟨Q, 0, none⟩ (.pointer (some ⟨D, i * 15, none⟩))).cell? ⟨C, 8, none⟩ = some (.slice A i cap) ∧
    ∃ a' cap' ob' w', (Builtin.append_ #[52, 52] 52 #[.slice A i cap, .slice (some ⟨w2.heap.size, 0, none⟩) 1 1]).run Yba.prog ((w2.setCell ⟨Q, 0, none⟩ (.pointer (some ⟨D, i * 15, none⟩))).alloc (.cells #[.pointer (some ⟨Q, 0, none⟩)] 51)) = .ok (.slice a' (i + 1) cap') w' ∧
      w'.cell? ⟨C, 8, none⟩ = some (.slice A i cap) ∧ w'.frozen? ⟨C, 8, none⟩ = false ∧ Lp s e id col cm k D n K C O w0 (i + 1) (fun j => if j = i then Q else P j) ob' a' cap' (w'.setCell ⟨C, 8, none⟩ (.slice a' (i + 1) cap')) := by
  have hC := blk_lt h.atC
  have hCQ : C ≠ Q := by omega
  have hQlt := blk_lt hQ2
  have hs2 := hb.size
  have hob : ∀ b, ob = some b → b < wr.heap.size := h.row.lt (by omega)
  have e3 : ∀ b, b < wr.heap.size → (w2.setCell ⟨Q, 0, none⟩ (.pointer (some ⟨D, i * 15, none⟩))).heap[b]? = wr.heap[b]? := fun b hlt => (blk_setCell_other _ _ _ _ (by show b ≠ Q; omega)).trans (hb.block b hlt)
  have hQ3 : (w2.setCell ⟨Q, 0, none⟩ (.pointer (some ⟨D, i * 15, none⟩))).heap[Q]? = some (.cells (partCells (some ⟨D, i * 15, none⟩) (some ⟨D, i * 15 + 5, none⟩) q) 59) := blk_set hQ2 0 _
  have hq3 := hq.set hQ2 0 (.pointer (some ⟨D, i * 15, none⟩))
  have hs3 : (w2.setCell ⟨Q, 0, none⟩ (.pointer (some ⟨D, i * 15, none⟩))).heap.size = w2.heap.size := by simp [World.setCell]
  have hB3 : Below w0.heap.size w0 (w2.setCell ⟨Q, 0, none⟩ (.pointer (some ⟨D, i * 15, none⟩))) := (h.below.trans (hb.mono h.below.size)).setCell (by show w0.heap.size ≤ Q; have := h.below.size; omega) _
  generalize (w2.setCell ⟨Q, 0, none⟩ (.pointer (some ⟨D, i * 15, none⟩))) = w3 at e3 hQ3 hq3 hs3 hB3 ⊢
  have hC3 := (e3 C hC).trans h.atC
  have e4 : ∀ b, b < w3.heap.size → (w3.alloc (.cells #[.pointer (some ⟨Q, 0, none⟩)] 51)).heap[b]? = w3.heap[b]? := fun b hlt => blk_alloc_lt _ _ _ hlt
  have hN : (w3.alloc (.cells #[.pointer (some ⟨Q, 0, none⟩)] 51)).cell? ⟨w2.heap.size, 0, none⟩ = some (.pointer (some ⟨Q, 0, none⟩)) := by
    have := blk_alloc_new w3 (.cells #[.pointer (some ⟨Q, 0, none⟩)] 51)
    rw [hs3] at this
    simp only [World.cell?, this]
    rfl
  have hs4 : (w3.alloc (.cells #[.pointer (some ⟨Q, 0, none⟩)] 51)).heap.size = w2.heap.size + 1 := by rw [nblk_alloc, hs3]
  have hB4 : Below w0.heap.size w0 (w3.alloc (.cells #[.pointer (some ⟨Q, 0, none⟩)] 51)) := hB3.alloc hB3.size _
  have hR4 : Row 1 ob A i cap (ptrs P i) (w3.alloc (.cells #[.pointer (some ⟨Q, 0, none⟩)] 51)) := h.row.kept fun b hb' => (e4 b (by have := hob b hb'; omega)).trans (e3 b (hob b hb'))
  refine ⟨by simp only [World.cell?, hC3]; rfl, ?_⟩
  generalize (w3.alloc (.cells #[.pointer (some ⟨Q, 0, none⟩)] 51)) = w4 at e4 hN hs4 hB4 hR4 ⊢
  obtain ⟨a', cap', ob', w', hrun, hrow, hg, hfr⟩ := append_ptr hR4 (by omega) hN rfl 1 52
  have e5 : ∀ b, b < w3.heap.size → ob ≠ some b → w'.heap[b]? = w3.heap[b]? := fun b hlt hne => (hg.block b (by omega) (fun e => hne e.symm)).trans (e4 b hlt)
  have hobC : ob ≠ some C := fun e => (h.obB C e).2 rfl
  have hC5 := (e5 C (by omega) hobC).trans hC3
  have hob' : ∀ b, b < w3.heap.size → ob ≠ some b → ob' ≠ some b := fun b hlt hne e => by
    rcases hfr b e with h1 | h1
    · exact hne h1
    · omega
  have hsg := hg.size
  refine ⟨a', cap', ob', w', hrun, by simp only [World.cell?, hC5]; rfl, by simp only [World.frozen?, hC5]; rfl, ?_⟩
  have hB5 : Below w0.heap.size w0 w' := hB4.grown hg hB4.size fun b e => (h.obB b e).1
  have kp : ∀ {k' : Nat} {bk' cm' : Option Addr} {P' : Nat}, PartOff ob s e k' bk' cm' P' wr → PartOff ob' s e k' bk' cm' P' (w'.setCell ⟨C, 8, none⟩ (.slice a' (i + 1) cap')) := fun hp =>
    (hp.kept (w' := w') (ob' := ob') (fun b hlt hne => (e5 b (by omega) hne).trans (e3 b hlt)) (fun b hlt hne => hob' b (by omega) hne)).set hC5 _ _
  have hnew : PartOff ob' s e (K i) (some ⟨D, i * 15, none⟩) (some ⟨D, i * 15 + 5, none⟩) Q (w'.setCell ⟨C, 8, none⟩ (.slice a' (i + 1) cap')) :=
    ((PartOff.ofNew hob hQ hQ3 hq3).kept (w' := w') (ob' := ob') e5 hob').set hC5 _ _
  exact {
    below := hB5.setCell h.leC _
    leC := h.leC
    atC := (blk_set hC5 8 _).trans (by rfl)
    obB := fun b e => by
      rcases hfr b e with h1 | h1
      · exact h.obB b h1
      · have := h.below.size
        exact ⟨by omega, by omega⟩
    own := kp h.own
    row := by
      rw [← ptrs_step]
      exact hrow.kept fun b e => blk_setCell_other _ _ _ _ (fun e2 => by
        have e3 : b = C := e2
        subst e3
        exact hob' b (by omega) hobC e)
    parts := fun j hj => by
      by_cases hji : j = i
      · subst hji
        simp only [if_true]
        exact hnew
      · simp only [if_neg hji]
        exact kp (h.parts j (by omega))
    nil := fun e => by omega }

/-- newChargeParts' answer. -/
def NewPost (s e : Int) (id col : ByteArray) (cm : Option Addr) (k D n : Nat) (K : Nat → Nat) (w : World) (x : Ending) (w' : World) : Prop :=
  ∃ w0 C O P ob A cap, x = .returned (.pointer (some ⟨C, 0, none⟩)) ∧ Below w.heap.size w w' ∧ Lp s e id col cm k D n K C O w0 n P ob A cap w' ∧ w.heap.size ≤ w0.heap.size
end Go.Proofs.Ybulkeins

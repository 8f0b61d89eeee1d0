/-
  What the law lays before it calls newChargeParts.
-/
import Derived.Test.YbulkeinsCLp
import Derived.Laws.MakeOwn
import Derived.Deep.MidRow
namespace Go.Proofs.Ybulkeins
open Go Go.RowKit Go.Deep

/-- The selectors that came in. -/
def RowIn (A : Option Addr) (n : Nat) (K : Nat → Nat) (w : World) : Prop := ∀ i, i < n → K i < 256 ∧ ∃ x, A = some x ∧ w.cell? (x.add i) = some (.int .u8 (K i : Int))

theorem RowIn.below {A : Option Addr} {n : Nat} {K : Nat → Nat} {w w' : World} (h : RowIn A n K w) (hb : Below w.heap.size w w') : RowIn A n K w' := fun i hi => by
  obtain ⟨h1, x, hx, hc⟩ := h i hi
  exact ⟨h1, x, hx, (hb.cell (World.block_lt_of_cell? _ _ hc)).trans hc⟩

/-- The period's cells. -/
def perCells (s e : Int) : Array Value := #[.int .u64 0, .int .i64 s, .pointer none, .int .u64 0, .int .i64 e, .pointer none]

def PerPost (s e : Int) (w1 : World) (s18 : Value) (wx : World) : Prop := ∃ V, s18 = .pointer (some ⟨V, 0, none⟩) ∧ Below w1.heap.size w1 wx ∧ w1.heap.size ≤ V ∧ wx.heap[V]? = some (.cells (perCells s e) 30)

theorem set6 {w : World} {V : Nat} {x0 x1 x2 x3 x4 x5 y0 y1 y2 y3 y4 y5 : Value} {t : TypeId} (h : w.heap[V]? = some (.cells #[x0, x1, x2, x3, x4, x5] t)) :
    ((((((w.setCell ⟨V, 0, none⟩ y0).setCell ⟨V, 1, none⟩ y1).setCell ⟨V, 2, none⟩ y2).setCell ⟨V, 3, none⟩ y3).setCell ⟨V, 4, none⟩ y4).setCell ⟨V, 5, none⟩ y5).heap[V]? = some (.cells #[y0, y1, y2, y3, y4, y5] t) :=
  blk_set (blk_set (blk_set (blk_set (blk_set (blk_set h 0 y0) 1 y1) 2 y2) 3 y3) 4 y4) 5 y5

theorem below6 {B : Nat} {w0 w : World} (h : Below B w0 w) {V : Nat} (hV : B ≤ V) (y0 y1 y2 y3 y4 y5 : Value) :
    Below B w0 ((((((w.setCell ⟨V, 0, none⟩ y0).setCell ⟨V, 1, none⟩ y1).setCell ⟨V, 2, none⟩ y2).setCell ⟨V, 3, none⟩ y3).setCell ⟨V, 4, none⟩ y4).setCell ⟨V, 5, none⟩ y5) :=
  (((((h.setCell hV _).setCell hV _).setCell hV _).setCell hV _).setCell hV _).setCell hV _

theorem cells6 {w : World} {V : Nat} {x0 x1 x2 x3 x4 x5 : Value} (h : w.heap[V]? = some (.cells #[x0, x1, x2, x3, x4, x5] 30)) :
    w.cell? ⟨V, 0, none⟩ = some x0 ∧ w.cell? ⟨V, 1, none⟩ = some x1 ∧ w.cell? ⟨V, 2, none⟩ = some x2 ∧ w.cell? ⟨V, 3, none⟩ = some x3 ∧ w.cell? ⟨V, 4, none⟩ = some x4 ∧ w.cell? ⟨V, 5, none⟩ = some x5 ∧ ∀ o, w.frozen? ⟨V, o, none⟩ = false := by
  simp only [World.cell?, World.frozen?, h]
  exact ⟨rfl, rfl, rfl, rfl, rfl, rfl, fun o => by simp⟩

theorem built30 (s e : Int) : Program.built Yba.prog 30 [(0, .agg #[.int .u64 0, .int .i64 s, .pointer none]), (1, .agg #[.int .u64 0, .int .i64 e, .pointer none])] = some (perCells s e) := by kernel_rfl

/-- The commitment's cells. -/
def cmCells (ty : ByteArray) (tu : Bool) (k : Nat) : Array Value := #[.string ty, .int .i64 0, .pointer none, .int .i64 0, .int .i64 0, .pointer none, .int .i64 0, .pointer none, .bool tu, .string (winS k)]

theorem build40 (ty win : ByteArray) (tu : Bool) (w : World) : (Instr.build 40 #[(0, .string ty), (4, .bool tu), (5, .string win)]).run Yba.prog w = .ok (.agg #[.string ty, .int .i64 0, .pointer none, .int .i64 0, .int .i64 0, .pointer none, .int .i64 0, .pointer none, .bool tu, .string win]) w := run_build w 40 _ _ (by kernel_rfl)

theorem build48 (id col : ByteArray) (cm ba : Option Addr) (n : Nat) (w : World) : (Instr.build 48 #[(0, .string id), (1, .string col), (3, .pointer cm), (4, .slice ba n n)]).run Yba.prog w = .ok (.agg #[.string id, .string col, .int .i64 0, .pointer none, .int .i64 0, .pointer cm, .slice ba n n]) w := run_build w 48 _ _ (by kernel_rfl)

/-- The own commitment. -/
def CmFull (sel : Nat) (col : ByteArray) (tu : Bool) (cm : Option Addr) (k : Nat) (w : World) : Prop :=
  (sel % 5 = 0 ∧ cm = none ∧ k = 0) ∨ (sel % 5 ≠ 0 ∧ k + 1 = sel % 5 ∧ ∃ B, cm = some ⟨B, 0, none⟩ ∧ w.heap[B]? = some (.cells (cmCells col tu k) 40))

theorem CmFull.below {sel : Nat} {col : ByteArray} {tu : Bool} {cm : Option Addr} {k : Nat} {w w' : World} (h : CmFull sel col tu cm k w) (hb : Below w.heap.size w w') : CmFull sel col tu cm k w' := by
  rcases h with h | ⟨h1, h2, B, h3, h4⟩
  · exact .inl h
  · exact .inr ⟨h1, h2, B, h3, (hb.block B (blk_lt h4)).trans h4⟩

theorem CmFull.at {sel : Nat} {col : ByteArray} {tu : Bool} {cm : Option Addr} {k : Nat} {w : World} (h : CmFull sel col tu cm k w) : CmAt k cm w := by
  rcases h with ⟨_, h1, h2⟩ | ⟨h1, h2, B, h3, h4⟩
  · subst h2; exact .inl ⟨rfl, h1⟩
  · exact .inr ⟨B, 0, h3, by simp only [World.cell?, h4]; rfl⟩

def CmPost (sel : Nat) (col : ByteArray) (tu : Bool) (w1 : World) (s19 s20 s21 : Value) (wx : World) : Prop := ∃ cm k, ∃ q : Int, s19 = .pointer cm ∧ s20 = .int .u8 q ∧ s21 = .int .u8 ((k : Nat) : Int) ∧ Below w1.heap.size w1 wx ∧ CmFull sel col tu cm k wx ∧ q = (sel : Int) % 5

/-- The first i buckets are laid. -/
structure BsAt (tu : Bool) (D n : Nat) (K : Nat → Nat) (i : Nat) (w : World) : Prop where
  there : ∀ o, o < 15 * n → (w.cell? ⟨D, o, none⟩).isSome = true ∧ w.frozen? ⟨D, o, none⟩ = false
  price : ∀ j, j < n → w.cell? ⟨D, j * 15 + 2, none⟩ = some (.int .i64 0) ∧ w.cell? ⟨D, j * 15 + 3, none⟩ = some (.pointer none) ∧ w.cell? ⟨D, j * 15 + 4, none⟩ = some (.int .i64 0)
  laid : ∀ j, j < i → w.cell? ⟨D, j * 15 + 13, none⟩ = some (.bool (!tu)) ∧ w.cell? ⟨D, j * 15 + 14, none⟩ = some (.string (winS (K j)))

theorem BsAt.bk {tu : Bool} {D n : Nat} {K : Nat → Nat} {w : World} (h : BsAt tu D n K n w) : BkAt D n K w := fun j hj => by
  obtain ⟨a, b, c⟩ := h.price j hj
  exact ⟨a, b, c, (h.laid j hj).2⟩

theorem BsAt.kept {tu : Bool} {D n : Nat} {K : Nat → Nat} {i : Nat} {w w' : World} (h : BsAt tu D n K i w) (e : w'.heap[D]? = w.heap[D]?) : BsAt tu D n K i w' := by
  refine ⟨fun o ho => ?_, fun j hj => ?_, fun j hj => ?_⟩
  · rw [cell_of_block e, frozen_of_block e]; exact h.there o ho
  · simp only [cell_of_block e]; exact h.price j hj
  · simp only [cell_of_block e]; exact h.laid j hj

theorem BsAt.lt {tu : Bool} {D n : Nat} {K : Nat → Nat} {i : Nat} {w : World} (h : BsAt tu D n K i w) (hn : 0 < n) : D < w.heap.size := by
  obtain ⟨v, hv⟩ := Option.isSome_iff_exists.1 (h.there 0 (by omega)).1
  exact cell_lt hv

/-- The bucket's commitment. -/
def cmList (ty : ByteArray) (tu : Bool) (k : Nat) : List Value := [.string ty, .int .i64 0, .pointer none, .int .i64 0, .int .i64 0, .pointer none, .int .i64 0, .pointer none, .bool tu, .string (winS k)]

theorem BsAt.step {tu : Bool} {D n : Nat} {K : Nat → Nat} {i : Nat} {w : World} (h : BsAt tu D n K i w) (hi : i < n) (ty : ByteArray) : BsAt tu D n K (i + 1) (w.setCells D (i * 15 + 5) (cmList ty (!tu) (K i))) := by
  have hl : (cmList ty (!tu) (K i)).length = 10 := rfl
  have hs : ∀ j, j < (cmList ty (!tu) (K i)).length → (w.cell? ⟨D, i * 15 + 5 + j, none⟩).isSome = true := fun j hj => (h.there _ (by omega)).1
  have hin := World.cell?_setCells_in D (cmList ty (!tu) (K i)) (i * 15 + 5) w hs
  have hout : ∀ o, (o < i * 15 + 5 ∨ i * 15 + 15 ≤ o) → (w.setCells D (i * 15 + 5) (cmList ty (!tu) (K i))).cell? ⟨D, o, none⟩ = w.cell? ⟨D, o, none⟩ := fun o ho =>
    World.cell?_setCells_out D (cmList ty (!tu) (K i)) (i * 15 + 5) w ⟨D, o, none⟩ (fun _ _ => by rw [hl]; show o < i * 15 + 5 ∨ i * 15 + 5 + 10 ≤ o; omega)
  refine ⟨fun o ho => ⟨?_, ?_⟩, fun j hj => ?_, fun j hj => ?_⟩
  · by_cases hc : o < i * 15 + 5 ∨ i * 15 + 15 ≤ o
    · rw [hout o hc]; exact (h.there o ho).1
    · have := hin (o - (i * 15 + 5)) (by omega)
      rw [show i * 15 + 5 + (o - (i * 15 + 5)) = o by omega] at this
      rw [this]; rfl
  · rw [World.frozen?_setCells]; exact (h.there o ho).2
  · rw [hout _ (by omega), hout _ (by omega), hout _ (by omega)]
    exact h.price j hj
  · by_cases hji : j = i
    · subst hji
      have h8 := hin 8 (by omega)
      have h9 := hin 9 (by omega)
      rw [show j * 15 + 5 + 8 = j * 15 + 13 by omega] at h8
      rw [show j * 15 + 5 + 9 = j * 15 + 14 by omega] at h9
      exact ⟨h8, h9⟩
    · rw [hout _ (by omega), hout _ (by omega)]
      exact h.laid j (by omega)

theorem below_setCells {B : Nat} {w0 w : World} (h : Below B w0 w) {D : Nat} (hD : B ≤ D) : ∀ (vs : List Value) (o : Nat), Below B w0 (w.setCells D o vs) := by
  intro vs
  induction vs generalizing w with
  | nil => intro o; exact h
  | cons v vs ih => intro o; exact ih (h.setCell hD v) (o + 1)

theorem siz40 : (Yba.prog.info? 40).map (·.size) = some 10 := by kernel_rfl

def BsPost (tu : Bool) (n : Nat) (K : Nat → Nat) (w1 : World) (s23 : Value) (wx : World) : Prop := ∃ D, s23 = .slice (if n = 0 then none else some ⟨D, 0, none⟩) n n ∧ Below w1.heap.size w1 wx ∧ (0 < n → BsAt tu D n K n wx)

theorem made15 {zs : Array Value} {n j c : Nat} (hz : zs.size = 15) (hj : j < n) (hc : c < 15) : (madeCells zs (15 * n))[j * 15 + c]? = zs[c]? := by
  unfold madeCells
  have h1 : j * 15 + c < 15 * n := by omega
  have h2 : (j * 15 + c) % 15 = c := by omega
  simp [h1, hz, h2, hc]

theorem BsAt.start (tu : Bool) (n : Nat) (K : Nat → Nat) (D : Nat) (w : World) (hD : w.heap[D]? = some (.cells (madeCells #[.int .i64 0, .int .i64 0, .int .i64 0, .pointer none, .int .i64 0, .string ⟨#[]⟩, .int .i64 0, .pointer none, .int .i64 0, .int .i64 0, .pointer none, .int .i64 0, .pointer none, .bool false, .string ⟨#[]⟩] (15 * n)) 46)) : BsAt tu D n K 0 w where
  there := fun o ho => by
    simp only [World.cell?, World.frozen?, hD]
    exact ⟨by simp [madeCells, ho], by simp⟩
  price := fun j hj => by
    simp only [World.cell?, hD]
    exact ⟨(made15 rfl hj (by omega)).trans rfl, (made15 rfl hj (by omega)).trans rfl, (made15 rfl hj (by omega)).trans rfl⟩
  laid := fun j hj => by omega

theorem inf46 : (Yba.prog.info? 46).map (fun i => (i.zero, i.size)) = some (some (.agg #[.int .i64 0, .int .i64 0, .int .i64 0, .pointer none, .int .i64 0, .string ⟨#[]⟩, .int .i64 0, .pointer none, .int .i64 0, .int .i64 0, .pointer none, .int .i64 0, .pointer none, .bool false, .string ⟨#[]⟩]), 15) := by kernel_rfl
theorem byt46 : ((Yba.prog.info? 46).map fun i => decide (i.bytes ≤ 1000)) = some true := by kernel_rfl

theorem mkBs (n : Nat) (h : n ≤ 65536) (W : World) : (Instr.makeSlice 41 (.int .i64 (n : Int)) (.int .i64 (n : Int))).run Yba.prog W =
    .ok (.slice (some ⟨W.heap.size, 0, none⟩) n n) (W.alloc (.cells (madeCells #[.int .i64 0, .int .i64 0, .int .i64 0, .pointer none, .int .i64 0, .string ⟨#[]⟩, .int .i64 0, .pointer none, .int .i64 0, .int .i64 0, .pointer none, .int .i64 0, .pointer none, .bool false, .string ⟨#[]⟩] (15 * n)) 46)) := by
  obtain ⟨i, hi, hh⟩ := Option.map_eq_some_iff.1 inf46
  obtain ⟨i', hi', hb⟩ := Option.map_eq_some_iff.1 byt46
  rw [hi] at hi'
  cases hi'
  simp only [Prod.mk.injEq] at hh
  obtain ⟨h1, h2⟩ := hh
  have hb := of_decide_eq_true hb
  have hmul : i.bytes * n ≤ 1000 * 65536 := Nat.mul_le_mul hb h
  have hmul' : (i.bytes : Int) * (n : Int) ≤ 281474976710656 := by
    rw [← Int.natCast_mul]
    omega
  have := run_make (P := Yba.prog) W 41 46 i _ Yba.underlying41 hi h1 .i64 .i64 n n (by omega) (by omega) hmul' (by omega)
  rw [this, h2, Nat.mul_comm]; rfl
end Go.Proofs.Ybulkeins

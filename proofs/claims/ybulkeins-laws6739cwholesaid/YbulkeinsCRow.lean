/-
  A slice that the call itself appends to.
  No project text.
-/
import Derived.Deep.AppendSrc
import Derived.Deep.MidRow
import Derived.Deep.Upon
import Derived.Deep.Heap
import Derived.Below
import Derived.Test.YbulkeinsCWin
namespace Go.Proofs.Ybulkeins
open Go Go.Deep


/-- The slice (a, n, cap) holds the n elements whose cells are xs ('size' cells each), in block ob; the whole of its capacity is there to be written. -/
structure Row (size : Nat) (ob : Option Nat) (a : Option Addr) (n cap : Nat) (xs : List Value) (w : World) : Prop where
  le : n ≤ cap
  len : xs.length = n * size
  at_ : (cap = 0 ∧ ob = none) ∨ (0 < cap ∧ ∃ b off, a = some ⟨b, off, none⟩ ∧ ob = some b ∧ (∀ j, j < xs.length → w.cell? ⟨b, off + j, none⟩ = xs[j]?) ∧ ∀ j, j < cap * size → (w.cell? ⟨b, off + j, none⟩).isSome = true ∧ w.frozen? ⟨b, off + j, none⟩ = false)

variable {size n cap : Nat} {ob : Option Nat} {a : Option Addr} {xs : List Value} {w w' : World}

theorem Row.nil (size : Nat) (w : World) : Row size none none 0 0 [] w := ⟨Nat.le_refl _, by simp, .inl ⟨rfl, rfl⟩⟩

theorem Row.kept (h : Row size ob a n cap xs w) (hb : ∀ k, ob = some k → w'.heap[k]? = w.heap[k]?) : Row size ob a n cap xs w' := by
  refine ⟨h.le, h.len, ?_⟩
  rcases h.at_ with h0 | ⟨hc, b, off, h1, h2, h3, h4⟩
  · exact .inl h0
  · have e := hb b h2
    exact .inr ⟨hc, b, off, h1, h2, fun j hj => by rw [cell_of_block e]; exact h3 j hj, fun j hj => by rw [cell_of_block e, frozen_of_block e]; exact h4 j hj⟩

theorem Row.lt (h : Row size ob a n cap xs w) (hs : 0 < size) : ∀ k, ob = some k → k < w.heap.size := by
  intro k hk
  rcases h.at_ with ⟨_, h0⟩ | ⟨hc, b, off, _, h2, _, h4⟩
  · rw [h0] at hk; cases hk
  · rw [h2] at hk
    cases hk
    have := (h4 0 (Nat.mul_pos hc hs)).1
    obtain ⟨v, hv⟩ := Option.isSome_iff_exists.1 this
    exact cell_lt hv

/-- The first element's cells. -/
theorem Row.addr (h : Row size ob a n cap xs w) (hn : 0 < n) : ∃ b off, a = some ⟨b, off, none⟩ ∧ ob = some b ∧ ∀ j, j < n * size → w.cell? ⟨b, off + j, none⟩ = xs[j]? := by
  rcases h.at_ with ⟨h0, _⟩ | ⟨_, b, off, h1, h2, h3, _⟩
  · have := h.le; omega
  · exact ⟨b, off, h1, h2, fun j hj => h3 j (by rw [h.len]; exact hj)⟩

/-- 'xs[1:]'. -/
theorem Row.tail (h : Row size ob a (n + 1) cap xs w) :
    ∃ ob', Row size ob' (if cap = 1 then a else a.map (·.add size)) n (cap - 1) (xs.drop size) w ∧ (ob' = ob ∨ ob' = none) := by
  have hle := h.le
  have hl : (xs.drop size).length = n * size := by rw [List.length_drop, h.len, Nat.add_mul]; omega
  rcases h.at_ with ⟨h0, _⟩ | ⟨hc, b, off, h1, h2, h3, h4⟩
  · omega
  · by_cases h1c : cap = 1
    · exact ⟨none, ⟨by omega, hl, .inl ⟨by omega, rfl⟩⟩, .inr rfl⟩
    · refine ⟨ob, ⟨by omega, hl, .inr ⟨by omega, b, off + size, ?_, h2, ?_, ?_⟩⟩, .inl rfl⟩
      · rw [if_neg h1c, h1]
        simp only [Option.map_some, Option.some.injEq, Addr.add]
        by_cases hz : size = 0 <;> simp [hz]
      · intro j hj
        have hj' : size + j < xs.length := by
          rw [List.length_drop] at hj; omega
        rw [show off + size + j = off + (size + j) by omega, h3 _ hj', List.getElem?_drop]
      · intro j hj
        have hj' : size + j < cap * size := by
          have : (cap - 1) * size + size = cap * size := by
            rw [← Nat.succ_mul]; congr 1; omega
          omega
        rw [show off + size + j = off + (size + j) by omega]
        exact h4 _ hj'

theorem tape_setCells (b : Nat) : ∀ (vs : List Value) (o : Nat) (w : World), (w.setCells b o vs).tape = w.tape
  | [], _, _ => rfl
  | v :: vs, o, w => by
    simp only [World.setCells]
    rw [tape_setCells b vs]
    rfl
theorem size_setCells (b : Nat) : ∀ (vs : List Value) (o : Nat) (w : World), (w.setCells b o vs).heap.size = w.heap.size
  | [], _, _ => rfl
  | v :: vs, o, w => by
    simp only [World.setCells]
    rw [size_setCells b vs]
    exact nblk_setCell _ _ _

/-- 'append(xs, x)'. -/
theorem Row.append {P : Program} {t ty e : TypeId} {i : TypeInfo} {z : Value} (ht : P.underlying t = some (.slice e)) (hi : P.info? e = some i) (hz : i.zero = some z) (hsize : i.size = size) (hzs : z.cells.size = size) (hby : i.bytes ≤ 64) (hpos : 0 < size)
    (h : Row size ob a n cap xs w) (hn : n ≤ 100000) {src : Addr} {c : Nat} {news : List Value} (hl : news.length = size) (hnews : ∀ j u, news[j]? = some u → w.cell? (src.add j) = some u) (h1 : ∀ u ∈ news, u.oneCell' = true) :
    ∃ a' cap' ob' w', (Builtin.append_ #[t, t] ty #[.slice a n cap, .slice (some src) 1 c]).run P w = .ok (.slice a' (n + 1) cap') w' ∧ Row size ob' a' (n + 1) cap' (xs ++ news) w' ∧ w.grownBy w' ob ∧ (∀ k, ob' = some k → ob = some k ∨ w.heap.size ≤ k) := by
  subst hsize
  have hS : Src P i.size t (.slice (some src) 1 c) 1 news w := Src.ofSlice w ht src 1 c news (by simpa using hl) hnews h1
  have hlen : (xs ++ news).length = (n + 1) * i.size := by rw [List.length_append, h.len, hl, Nat.add_mul]; omega
  by_cases hroom : n + 1 ≤ cap
  · rcases h.at_ with ⟨h0, _⟩ | ⟨hc, b, off, ha, hob, h3, h4⟩
    · omega
    · subst ha
      have hcap : n * i.size + i.size ≤ cap * i.size := by
        have : (n + 1) * i.size ≤ cap * i.size := Nat.mul_le_mul_right _ hroom
        rw [Nat.add_mul] at this; omega
      have hsome : ∀ j, j < news.length → (w.cell? ⟨b, off + n * i.size + j, none⟩).isSome = true := fun j hj => by
        rw [show off + n * i.size + j = off + (n * i.size + j) by omega]
        exact (h4 _ (by omega)).1
      have hr := run_append_room_src (P := P) w t t ty e i ht hi b off n cap (.slice (some src) 1 c) 1 news hS hroom hsome (fun j hj => by
        rw [show off + n * i.size + j = off + (n * i.size + j) by omega]
        exact (h4 _ (by omega)).2)
      have hblt : b < w.heap.size := by
        obtain ⟨v, hv⟩ := Option.isSome_iff_exists.1 (h4 0 (Nat.mul_pos hc hpos)).1
        exact cell_lt hv
      refine ⟨_, _, ob, _, hr, ⟨hroom, hlen, .inr ⟨hc, b, off, rfl, hob, ?_, ?_⟩⟩, ?_, fun k hk => .inl hk⟩
      · intro j hj
        by_cases hjx : j < xs.length
        · rw [World.cell?_setCells_out b news _ w _ (fun _ _ => .inl (by have := h.len; simp; omega)), h3 j hjx, List.getElem?_append_left hjx]
        · have hjn : j - xs.length < news.length := by rw [List.length_append] at hj; omega
          have e1 : off + j = off + n * i.size + (j - xs.length) := by have := h.len; omega
          rw [e1, World.cell?_setCells_in b news _ w hsome _ hjn, List.getElem?_append_right (by omega), List.getElem?_eq_getElem hjn]
      · intro j hj
        exact ⟨World.isSome_setCells b news _ w _ (h4 j hj).1, by rw [World.frozen?_setCells]; exact (h4 j hj).2⟩
      · exact ⟨World.os_setCells _ _ _ _, tape_setCells _ _ _ _, World.output_setCells _ _ _ _, Nat.le_of_eq (size_setCells _ _ _ _).symm, fun k hk hne => World.heap_setCells_other w b _ news hk (fun e => hne (by rw [e, hob]))⟩
  · have hcn : cap = n := by have := h.le; omega
    subst hcn
    have hold : (Builtin.firstCells i.size cap (.slice a cap cap)).run P w.drew = .ok xs.toArray w.drew := by
      rcases h.at_ with ⟨h0, _⟩ | ⟨hc, b, off, ha, hob, h3, h4⟩
      · subst h0
        have hx : xs = [] := List.eq_nil_of_length_eq_zero (by simpa using h.len)
        subst hx
        cases a with
        | none => exact run_firstCells_none _ _ _ _ _
        | some a => exact run_firstCells_some _ _ _ _ _ _ _ (by simp) (fun j v hv => by simp at hv)
      · subst ha
        refine run_firstCells_some _ _ _ _ _ _ _ h.len (fun j v hv => ?_)
        have hj : j < xs.length := by
          rcases Nat.lt_or_ge j xs.length with h | h
          · exact h
          · rw [List.getElem?_eq_none h] at hv; cases hv
        have := h3 j hj
        rw [hv] at this
        simp only [Addr.add]
        by_cases h0 : j = 0
        · subst h0; simpa using this
        · simpa [h0] using this
    have hr := run_append_grow_src (P := P) w t t ty e i z ht hi hz a cap cap xs hold (.slice (some src) 1 c) 1 news hS (by omega) (by omega) (growslice_fits (by omega) (by
      have : (cap + 1) * i.bytes ≤ 100001 * 64 := Nat.mul_le_mul (by omega) hby
      omega))
    have hge := grownCap_ge w (cap + 1) cap e
    refine ⟨_, _, some w.heap.size, _, hr, ⟨hge, hlen, .inr ⟨by omega, w.heap.size, 0, rfl, rfl, ?_, ?_⟩⟩, ⟨rfl, rfl, rfl, by simp, fun k hk _ => blk_alloc_lt w.drew _ k hk⟩, fun k hk => .inr (by cases hk; exact Nat.le_refl _)⟩
    · intro j hj
      rw [show (⟨w.heap.size, 0 + j, none⟩ : Addr) = ⟨w.drew.heap.size, j, none⟩ by simp]
      rw [World.cell?_alloc_new]
      rw [Array.getElem?_append_left (by simpa using hj)]
      simp
    · intro j hj
      have hsz : ((xs ++ news).toArray ++ Builtin.zeroCells z.cells (grownCap w (cap + 1) cap e - (cap + 1))).size = grownCap w (cap + 1) cap e * i.size := by
        rw [Array.size_append, size_zeroCells, hzs, List.size_toArray, hlen, ← Nat.add_mul]
        congr 1; omega
      constructor
      · rw [show (⟨w.heap.size, 0 + j, none⟩ : Addr) = ⟨w.drew.heap.size, j, none⟩ by simp, World.cell?_alloc_new, Array.getElem?_eq_getElem (by rw [hsz]; exact hj)]
        rfl
      · have : (w.drew.alloc (.cells ((xs ++ news).toArray ++ Builtin.zeroCells z.cells (grownCap w (cap + 1) cap e - (cap + 1))) e)).heap[w.heap.size]? = some (.cells ((xs ++ news).toArray ++ Builtin.zeroCells z.cells (grownCap w (cap + 1) cap e - (cap + 1))) e) := blk_alloc_new w.drew _
        simp only [World.frozen?, Nat.zero_add, this]
        simp

end Go.Proofs.Ybulkeins

import Derived.Test.YbulkeiiwDoorAMin2
import Derived.LaidEql
namespace Go.Proofs.YbulkeiiwDoor
open Go.RowKit

/-- Cell x of block b. -/
theorem cell_set_same {w : World} {a : Addr} {v : Value} (h : ∃ u, w.cell? a = some u) : (w.setCell a v).cell? a = some v := by
  obtain ⟨u, hu⟩ := h; exact World.cell?_setCell_same w a v hu
theorem cell_set_ne {w : World} {b o b' o' : Nat} {v : Value} (h : b ≠ b' ∨ o ≠ o') : (w.setCell ⟨b, o, none⟩ v).cell? ⟨b', o', none⟩ = w.cell? ⟨b', o', none⟩ :=
  World.cell?_setCell_other (w := w) (v := v) (a := ⟨b, o, none⟩) (b := ⟨b', o', none⟩) (h := fun e => by injection e with e1 e2 _; exact h.elim (fun x => x e1) (fun x => x e2))
theorem cell_set_some {w : World} {b o b' o' : Nat} {v : Value} (h : ∃ u, w.cell? ⟨b', o', none⟩ = some u) : ∃ u, (w.setCell ⟨b, o, none⟩ v).cell? ⟨b', o', none⟩ = some u := by
  by_cases e : b = b' ∧ o = o'
  · obtain ⟨rfl, rfl⟩ := e; exact ⟨v, cell_set_same h⟩
  · rw [cell_set_ne (by by_cases e1 : b = b'; · exact Or.inr fun e2 => e ⟨e1, e2⟩
                        · exact Or.inl e1)]; exact h

/-- A copy of one row's ranges: block g holds the first m of them. -/
structure Part (f l : Nat → Int) (g m n : Nat) (w : World) : Prop where
  lt : g < w.heap.size
  all : ∀ x, x < n * 2 → ∃ v, w.cell? ⟨g, x, none⟩ = some v
  fz : ∀ x, w.frozen? ⟨g, x, none⟩ = false
  first : ∀ j, j < m → w.cell? ⟨g, j * 2, none⟩ = some (.int .u32 (f j))
  last : ∀ j, j < m → w.cell? ⟨g, j * 2 + 1, none⟩ = some (.int .u32 (l j))

theorem Part.step {f l : Nat → Int} {g m n : Nat} {w : World} (h : Part f l g m n w) (hm : m < n) :
    Part f l g (m + 1) n ((w.setCell ⟨g, m * 2, none⟩ (.int .u32 (f m))).setCell ⟨g, m * 2 + 1, none⟩ (.int .u32 (l m))) := by
  refine ⟨by simpa using h.lt, fun x hx => cell_set_some (cell_set_some (h.all x hx)), fun x => by simpa using h.fz x, fun j hj => ?_, fun j hj => ?_⟩
  · rw [cell_set_ne (Or.inr (by omega))]
    by_cases e : j = m
    · subst e; exact cell_set_same (h.all _ (by omega))
    · rw [cell_set_ne (Or.inr (by omega))]; exact h.first j (by omega)
  · by_cases e : j = m
    · subst e; exact cell_set_same (cell_set_some (h.all _ (by omega)))
    · rw [cell_set_ne (Or.inr (by omega)), cell_set_ne (Or.inr (by omega))]; exact h.last j (by omega)

theorem Part.setCell {f l : Nat → Int} {g m n : Nat} {w : World} (h : Part f l g m n w) {b o : Nat} (hb : b ≠ g) (v : Value) : Part f l g m n (w.setCell ⟨b, o, none⟩ v) :=
  ⟨by simpa using h.lt, fun x hx => cell_set_some (h.all x hx), fun x => by simpa using h.fz x, fun j hj => by rw [cell_set_ne (Or.inl hb)]; exact h.first j hj, fun j hj => by rw [cell_set_ne (Or.inl hb)]; exact h.last j hj⟩

theorem Part.drew {f l : Nat → Int} {g m n : Nat} {w : World} (h : Part f l g m n w) : Part f l g m n w.drew := ⟨h.lt, h.all, h.fz, h.first, h.last⟩

theorem Part.below {f l : Nat → Int} {g m n B : Nat} {w w' : World} (h : Part f l g m n w) (hb : Below B w w') (hg : g < B) : Part f l g m n w' :=
  ⟨Nat.lt_of_lt_of_le h.lt hb.size, fun x hx => by rw [hb.cell (p := ⟨g, x, none⟩) hg]; exact h.all x hx, fun x => by rw [hb.frozen (p := ⟨g, x, none⟩) hg]; exact h.fz x,
    fun j hj => by rw [hb.cell (p := ⟨g, j * 2, none⟩) hg]; exact h.first j hj, fun j hj => by rw [hb.cell (p := ⟨g, j * 2 + 1, none⟩) hg]; exact h.last j hj⟩

/-- The rows built so far: block bb holds the first k of len; each one's ranges lie in a block of its own, between bb and top. -/
structure Built (F L : Nat → Int) (n : Nat → Nat) (f l : Nat → Nat → Int) (bb k len top : Nat) (w : World) : Prop where
  lt : bb < top
  top_le : top ≤ w.heap.size
  all : ∀ x, x < len * 3 → ∃ v, w.cell? ⟨bb, x, none⟩ = some v
  fz : ∀ x, w.frozen? ⟨bb, x, none⟩ = false
  first : ∀ i, i < k → w.cell? ⟨bb, i * 3, none⟩ = some (.int .u32 (F i))
  last : ∀ i, i < k → w.cell? ⟨bb, i * 3 + 1, none⟩ = some (.int .u32 (L i))
  to : ∀ i, i < k → ∃ g, bb < g ∧ g < top ∧ w.cell? ⟨bb, i * 3 + 2, none⟩ = some (.slice (some ⟨g, 0, none⟩) (n i) (n i)) ∧ Part (f i) (l i) g (n i) (n i) w

section
variable {F L : Nat → Int} {n : Nat → Nat} {f l : Nat → Nat → Int} {bb k len top : Nat} {w w' : World}

theorem Built.below (h : Built F L n f l bb k len top w) (hb : Below top w w') : Built F L n f l bb k len top w' :=
  ⟨h.lt, Nat.le_trans h.top_le hb.size, fun x hx => by rw [hb.cell (p := ⟨bb, x, none⟩) h.lt]; exact h.all x hx, fun x => by rw [hb.frozen (p := ⟨bb, x, none⟩) h.lt]; exact h.fz x,
    fun i hi => by rw [hb.cell (p := ⟨bb, i * 3, none⟩) h.lt]; exact h.first i hi, fun i hi => by rw [hb.cell (p := ⟨bb, i * 3 + 1, none⟩) h.lt]; exact h.last i hi,
    fun i hi => by
      obtain ⟨g, h1, h2, h3, h4⟩ := h.to i hi
      exact ⟨g, h1, h2, by rw [hb.cell (p := ⟨bb, i * 3 + 2, none⟩) h.lt]; exact h3, h4.below hb h2⟩⟩

theorem Built.raise (h : Built F L n f l bb k len top w) {top' : Nat} (h1 : top ≤ top') (h2 : top' ≤ w.heap.size) : Built F L n f l bb k len top' w :=
  ⟨Nat.lt_of_lt_of_le h.lt h1, h2, h.all, h.fz, h.first, h.last, fun i hi => by obtain ⟨g, a, b, c, d⟩ := h.to i hi; exact ⟨g, a, by omega, c, d⟩⟩

theorem Built.step (h : Built F L n f l bb k len top w) (hk : k < len) {g : Nat} (hg : top ≤ g) (hp : Part (f k) (l k) g (n k) (n k) w) :
    Built F L n f l bb (k + 1) len (g + 1) (((w.setCell ⟨bb, k * 3, none⟩ (.int .u32 (F k))).setCell ⟨bb, k * 3 + 1, none⟩ (.int .u32 (L k))).setCell ⟨bb, k * 3 + 2, none⟩ (.slice (some ⟨g, 0, none⟩) (n k) (n k))) := by
  have hbg : bb ≠ g := by have := h.lt; omega
  refine ⟨by have := h.lt; omega, by have := hp.lt; simp; omega, fun x hx => cell_set_some (cell_set_some (cell_set_some (h.all x hx))), fun x => by simpa using h.fz x, fun i hi => ?_, fun i hi => ?_, fun i hi => ?_⟩
  · rw [cell_set_ne (Or.inr (by omega)), cell_set_ne (Or.inr (by omega))]
    by_cases e : i = k
    · subst e; exact cell_set_same (h.all _ (by omega))
    · rw [cell_set_ne (Or.inr (by omega))]; exact h.first i (by omega)
  · rw [cell_set_ne (Or.inr (by omega))]
    by_cases e : i = k
    · subst e; exact cell_set_same (cell_set_some (h.all _ (by omega)))
    · rw [cell_set_ne (Or.inr (by omega)), cell_set_ne (Or.inr (by omega))]; exact h.last i (by omega)
  · by_cases e : i = k
    · subst e
      exact ⟨g, by have := h.lt; omega, by omega, cell_set_same (cell_set_some (cell_set_some (h.all _ (by omega)))), ((hp.setCell hbg _).setCell hbg _).setCell hbg _⟩
    · obtain ⟨g', h1, h2, h3, h4⟩ := h.to i (by omega)
      have hbg' : bb ≠ g' := by omega
      exact ⟨g', h1, by omega, by rw [cell_set_ne (Or.inr (by omega)), cell_set_ne (Or.inr (by omega)), cell_set_ne (Or.inr (by omega))]; exact h3, ((h4.setCell hbg' _).setCell hbg' _).setCell hbg' _⟩

theorem Built.drew (h : Built F L n f l bb k len top w) : Built F L n f l bb k len top w.drew := h.below ((Below.refl _ _).drew)
end

theorem inf36 : (Ybad.prog.info? 36).map (fun i => (i.zero, i.size, i.bytes)) = some (some (.agg #[.int .u32 0, .int .u32 0, .slice none 0 0]), 3, 32) := by kernel_rfl
theorem inf32 : (Ybad.prog.info? 32).map (fun i => (i.zero, i.size, i.bytes)) = some (some (.agg #[.int .u32 0, .int .u32 0]), 2, 8) := by kernel_rfl
/-- 'make([]pairRow, len)', 'make([]Range, len)'. -/
theorem mkBuilt (len : Nat) (h : len ≤ 4398046511104) (W : World) : (Instr.makeSlice 27 (.int .i64 (len : Int)) (.int .i64 (len : Int))).run Ybad.prog W =
    .ok (.slice (some ⟨W.heap.size, 0, none⟩) len len) (W.alloc (.cells (madeCells #[.int .u32 0, .int .u32 0, .slice none 0 0] (len * 3)) 36)) := by
  obtain ⟨i, hi, hh⟩ := Option.map_eq_some_iff.1 inf36
  simp only [Prod.mk.injEq] at hh
  obtain ⟨h1, h2, h3⟩ := hh
  have := run_make (P := Ybad.prog) W 27 36 i _ Ybad.underlying27 hi h1 .i64 .i64 len len (by omega) (by omega) (by rw [h3]; omega) (by omega)
  rw [this, h2]; rfl
theorem mkRanges (len : Nat) (h : len ≤ 17592186044416) (W : World) : (Instr.makeSlice 28 (.int .i64 (len : Int)) (.int .i64 (len : Int))).run Ybad.prog W =
    .ok (.slice (some ⟨W.heap.size, 0, none⟩) len len) (W.alloc (.cells (madeCells #[.int .u32 0, .int .u32 0] (len * 2)) 32)) := by
  obtain ⟨i, hi, hh⟩ := Option.map_eq_some_iff.1 inf32
  simp only [Prod.mk.injEq] at hh
  obtain ⟨h1, h2, h3⟩ := hh
  have := run_make (P := Ybad.prog) W 28 32 i _ Ybad.underlying28 hi h1 .i64 .i64 len len (by omega) (by omega) (by rw [h3]; omega) (by omega)
  rw [this, h2]; rfl

theorem made_some (z : Array Value) (N t : Nat) (W : World) (x : Nat) (hx : x < N) : ∃ v, (W.alloc (.cells (madeCells z N) t)).cell? ⟨W.heap.size, x, none⟩ = some v := by
  rw [World.cell?_alloc_new]
  exact ⟨_, Array.getElem?_eq_getElem (by rw [size_madeCells]; exact hx)⟩

theorem Built.start {F L : Nat → Int} {n : Nat → Nat} {f l : Nat → Nat → Int} (len : Nat) (W : World) :
    Built F L n f l W.heap.size 0 len (W.heap.size + 1) (W.alloc (.cells (madeCells #[.int .u32 0, .int .u32 0, .slice none 0 0] (len * 3)) 36)) :=
  ⟨by omega, by simp, fun x hx => made_some _ _ _ _ _ hx, fun x => by simp, fun i hi => by omega, fun i hi => by omega, fun i hi => by omega⟩
theorem Part.start {f l : Nat → Int} (n : Nat) (W : World) : Part f l W.heap.size 0 n (W.alloc (.cells (madeCells #[.int .u32 0, .int .u32 0] (n * 2)) 32)) :=
  ⟨by simp, fun x hx => made_some _ _ _ _ _ hx, fun x => by simp, fun i hi => by omega, fun i hi => by omega⟩

theorem al4 (w : World) (o1 o2 o3 o4 : Obj) : Below w.heap.size w ((((w.alloc o1).alloc o2).alloc o3).alloc o4) := (al3 w o1 o2 o3).alloc (by simp; omega) _

/-- A variable of three cells. -/
structure Box3 (w : World) (b : Nat) (x y z : Value) : Prop where
  c0 : w.cell? ⟨b, 0, none⟩ = some x
  c1 : w.cell? ⟨b, 1, none⟩ = some y
  c2 : w.cell? ⟨b, 2, none⟩ = some z
  f0 : w.frozen? ⟨b, 0, none⟩ = false
  f1 : w.frozen? ⟨b, 1, none⟩ = false
  f2 : w.frozen? ⟨b, 2, none⟩ = false

section
variable {w w' : World} {b : Nat} {x y z : Value}
theorem Box3.lt (h : Box3 w b x y z) : b < w.heap.size := World.block_lt_of_cell? w ⟨b, 0, none⟩ h.c0
theorem Box3.later (h : Box3 w b x y z) (hb : Below w.heap.size w w') : Box3 w' b x y z :=
  ⟨kc hb h.c0, kc hb h.c1, kc hb h.c2, kf hb h.lt h.f0, kf hb h.lt h.f1, kf hb h.lt h.f2⟩
theorem Box3.drew (h : Box3 w b x y z) : Box3 w.drew b x y z := ⟨h.c0, h.c1, h.c2, h.f0, h.f1, h.f2⟩
theorem Box3.other (h : Box3 w b x y z) {b' : Nat} (hb : b' ≠ b) (o : Nat) (v : Value) : Box3 (w.setCell ⟨b', o, none⟩ v) b x y z :=
  ⟨by rw [cell_set_ne (Or.inl hb)]; exact h.c0, by rw [cell_set_ne (Or.inl hb)]; exact h.c1, by rw [cell_set_ne (Or.inl hb)]; exact h.c2, by simpa using h.f0, by simpa using h.f1, by simpa using h.f2⟩
theorem Box3.set (h : Box3 w b x y z) (x' y' z' : Value) : Box3 (((w.setCell ⟨b, 0, none⟩ x').setCell ⟨b, 1, none⟩ y').setCell ⟨b, 2, none⟩ z') b x' y' z' :=
  ⟨by rw [cell_set_ne (Or.inr (by omega)), cell_set_ne (Or.inr (by omega))]; exact cell_set_same ⟨_, h.c0⟩, by rw [cell_set_ne (Or.inr (by omega))]; exact cell_set_same (cell_set_some ⟨_, h.c1⟩),
    cell_set_same (cell_set_some (cell_set_some ⟨_, h.c2⟩)), by simpa using h.f0, by simpa using h.f1, by simpa using h.f2⟩
theorem Box3.made {W w1 : World} (hb : Below W.heap.size W w1) {t : TypeId} (h : W.heap[b]? = some (.cells #[x, y, z] t (0, 0))) : Box3 w1 b x y z := by
  obtain ⟨a0, a1, a2, a3, a4, a5⟩ := keep3 hb h
  exact ⟨a0, a1, a2, a3, a4, a5⟩
end

/-- What stands when the law begins to compare: the four addresses in four variables from A on, the pairs in pb, the rows built in block bb. -/
structure Tail (F L : Nat → Int) (n : Nat → Nat) (f l : Nat → Nat → Int) (w0 : World) (len top pb A : Nat) (m : Int) (z mp : Option Addr) (w : World) : Prop where
  below : Below w0.heap.size w0 w
  fr : Box3 w A (.int .u64 0) (.int .u64 (ad (F 0))) (.pointer z)
  to : Box3 w (A + 1) (.int .u64 0) (.int .u64 m) (.pointer mp)
  wf : Box3 w (A + 1 + 1) (.int .u64 0) (.int .u64 (ad (F 0))) (.pointer z)
  wt : Box3 w (A + 1 + 1 + 1) (.int .u64 0) (.int .u64 m) (.pointer mp)
  pc : w.cell? ⟨pb, 0, none⟩ = some (.slice (some ⟨w0.heap.size, 0, none⟩) len len)
  built : Built F L n f l w0.heap.size len len top w

theorem Tail.later {F L : Nat → Int} {n : Nat → Nat} {f l : Nat → Nat → Int} {w0 : World} {len top pb A : Nat} {m : Int} {z mp : Option Addr} {w w' : World}
    (h : Tail F L n f l w0 len top pb A m z mp w) (hb : Below w.heap.size w w') : Tail F L n f l w0 len top pb A m z mp w' :=
  ⟨h.below.trans (hb.mono h.below.size), h.fr.later hb, h.to.later hb, h.wf.later hb, h.wt.later hb, kc hb h.pc, h.built.below (hb.mono h.built.top_le)⟩

theorem und42 : ∃ te j, Ybad.prog.underlying 42 = some (.pointer te) ∧ Ybad.prog.info? te = some j := by
  have h : (match Ybad.prog.underlying 42 with | some (.pointer te) => (Ybad.prog.info? te).isSome | _ => false) = true := by kernel_rfl
  split at h
  · rename_i te hte
    obtain ⟨j, hj⟩ := Option.isSome_iff_exists.1 h
    exact ⟨te, j, hte, hj⟩
  · cases h

/-- A pointer equals itself. -/
theorem eqPtrD (d : Nat) (z : Option Addr) (w : World) : (Op.equalIn (d + 1) 42 (.pointer z) (.pointer z)).run Ybad.prog w = .ok true w := by
  obtain ⟨te, j, h1, h2⟩ := und42
  cases z with
  | none => simp [Op.equalIn, run_underlying h1]
  | some a =>
    simp [Op.equalIn, run_underlying h1, sizeOf, typeInfo, h2, run_sameAddr_same]
theorem eqPtr (z : Option Addr) (w : World) : (Op.equalIn 9998 42 (.pointer z) (.pointer z)).run Ybad.prog w = .ok true w := eqPtrD 9997 z w
end Go.Proofs.YbulkeiiwDoor

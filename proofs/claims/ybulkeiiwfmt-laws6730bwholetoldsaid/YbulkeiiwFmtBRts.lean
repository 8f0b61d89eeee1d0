import Derived.Test.YbulkeiiwFmtBBack
import Derived.Laws.IdiomCopy
import Derived.Deep.Slices
namespace Go.Proofs.YbulkeiiwFmt
open Go.RowKit Go.Sort

/-- The bits of a route's prefix, plus one. -/
def qq (t : Int) : Int := if t % 40 ≤ 32 then t % 40 + 1 else 0
theorem qq_bd (t : Int) : 0 ≤ qq t ∧ qq t ≤ 33 := by unfold qq; split <;> omega
theorem prefixFrom_any (A t : Int) (z : Addr) (w : World) (g : G z w) :
    Calls Ybaf.prog 4 #[adV A z, .int .i64 (t % 40)] w fun e w' => e = .returned (pfV A (qq t) z) ∧ Below w.heap.size w w' := by
  by_cases h : t % 40 ≤ 32
  · have e : qq t = t % 40 + 1 := by simp [qq, h]
    rw [e]; exact prefixFrom_in A (t % 40) z w g (by omega) h
  · have e : qq t = 0 := by simp [qq, h]
    rw [e]; exact prefixFrom_out A (t % 40) z w g (by omega) (by omega)

theorem Nine.other {w : World} {b o b' o' : Nat} {cs : Array Value} {v : Value} (h : Nine w b o cs) (hn : b' ≠ b ∨ o' < o ∨ o + 8 < o') : Nine (w.setCell ⟨b', o', none⟩ v) b o cs := by
  have hh : ∀ t, t ≤ 8 → b' ≠ b ∨ o' ≠ o + t := fun t ht => by omega
  exact ⟨by rw [cell_set_ne (by omega)]; exact h.c0, by rw [cell_set_ne (hh 1 (by omega))]; exact h.c1, by rw [cell_set_ne (hh 2 (by omega))]; exact h.c2, by rw [cell_set_ne (hh 3 (by omega))]; exact h.c3,
    by rw [cell_set_ne (hh 4 (by omega))]; exact h.c4, by rw [cell_set_ne (hh 5 (by omega))]; exact h.c5, by rw [cell_set_ne (hh 6 (by omega))]; exact h.c6, by rw [cell_set_ne (hh 7 (by omega))]; exact h.c7, by rw [cell_set_ne (hh 8 (by omega))]; exact h.c8⟩

/-- Nine stores, one behind the other. -/
def set9 (w : World) (b o : Nat) (v0 v1 v2 v3 v4 v5 v6 v7 v8 : Value) : World :=
  ((((((((w.setCell ⟨b, o, none⟩ v0).setCell ⟨b, o + 1, none⟩ v1).setCell ⟨b, o + 2, none⟩ v2).setCell ⟨b, o + 3, none⟩ v3).setCell ⟨b, o + 4, none⟩ v4).setCell ⟨b, o + 5, none⟩ v5).setCell ⟨b, o + 6, none⟩ v6).setCell ⟨b, o + 7, none⟩ v7).setCell ⟨b, o + 8, none⟩ v8
section
variable {w : World} {b o : Nat} {v0 v1 v2 v3 v4 v5 v6 v7 v8 : Value}
theorem set9_nine (h : ∀ t, t ≤ 8 → ∃ v, w.cell? ⟨b, o + t, none⟩ = some v) : Nine (set9 w b o v0 v1 v2 v3 v4 v5 v6 v7 v8) b o #[v0, v1, v2, v3, v4, v5, v6, v7, v8] := by
  have h0 := h 0 (by omega)
  have h1 := h 1 (by omega)
  have h2 := h 2 (by omega)
  have h3 := h 3 (by omega)
  have h4 := h 4 (by omega)
  have h5 := h 5 (by omega)
  have h6 := h 6 (by omega)
  have h7 := h 7 (by omega)
  have h8 := h 8 (by omega)
  unfold set9
  exact ⟨by rw [cell_set_ne (Or.inr (by omega)), cell_set_ne (Or.inr (by omega)), cell_set_ne (Or.inr (by omega)), cell_set_ne (Or.inr (by omega)), cell_set_ne (Or.inr (by omega)), cell_set_ne (Or.inr (by omega)), cell_set_ne (Or.inr (by omega)), cell_set_ne (Or.inr (by omega))]; exact cell_set_same h0,
    by rw [cell_set_ne (Or.inr (by omega)), cell_set_ne (Or.inr (by omega)), cell_set_ne (Or.inr (by omega)), cell_set_ne (Or.inr (by omega)), cell_set_ne (Or.inr (by omega)), cell_set_ne (Or.inr (by omega)), cell_set_ne (Or.inr (by omega))]; exact cell_set_same (cell_set_some h1),
    by rw [cell_set_ne (Or.inr (by omega)), cell_set_ne (Or.inr (by omega)), cell_set_ne (Or.inr (by omega)), cell_set_ne (Or.inr (by omega)), cell_set_ne (Or.inr (by omega)), cell_set_ne (Or.inr (by omega))]; exact cell_set_same (cell_set_some (cell_set_some h2)),
    by rw [cell_set_ne (Or.inr (by omega)), cell_set_ne (Or.inr (by omega)), cell_set_ne (Or.inr (by omega)), cell_set_ne (Or.inr (by omega)), cell_set_ne (Or.inr (by omega))]; exact cell_set_same (cell_set_some (cell_set_some (cell_set_some h3))),
    by rw [cell_set_ne (Or.inr (by omega)), cell_set_ne (Or.inr (by omega)), cell_set_ne (Or.inr (by omega)), cell_set_ne (Or.inr (by omega))]; exact cell_set_same (cell_set_some (cell_set_some (cell_set_some (cell_set_some h4)))),
    by rw [cell_set_ne (Or.inr (by omega)), cell_set_ne (Or.inr (by omega)), cell_set_ne (Or.inr (by omega))]; exact cell_set_same (cell_set_some (cell_set_some (cell_set_some (cell_set_some (cell_set_some h5))))),
    by rw [cell_set_ne (Or.inr (by omega)), cell_set_ne (Or.inr (by omega))]; exact cell_set_same (cell_set_some (cell_set_some (cell_set_some (cell_set_some (cell_set_some (cell_set_some h6)))))),
    by rw [cell_set_ne (Or.inr (by omega))]; exact cell_set_same (cell_set_some (cell_set_some (cell_set_some (cell_set_some (cell_set_some (cell_set_some (cell_set_some h7))))))),
    by exact cell_set_same (cell_set_some (cell_set_some (cell_set_some (cell_set_some (cell_set_some (cell_set_some (cell_set_some (cell_set_some h8))))))))⟩
theorem set9_other {b' o' : Nat} {cs : Array Value} (h : Nine w b' o' cs) (hn : b ≠ b' ∨ o + 8 < o' ∨ o' + 8 < o) : Nine (set9 w b o v0 v1 v2 v3 v4 v5 v6 v7 v8) b' o' cs := by
  unfold set9
  iterate 9 (refine Nine.other ?_ (by omega))
  exact h
theorem set9_some {b' o' : Nat} (h : ∃ v, w.cell? ⟨b', o', none⟩ = some v) : ∃ v, (set9 w b o v0 v1 v2 v3 v4 v5 v6 v7 v8).cell? ⟨b', o', none⟩ = some v := by
  unfold set9
  iterate 9 (refine cell_set_some ?_)
  exact h
theorem set9_size : (set9 w b o v0 v1 v2 v3 v4 v5 v6 v7 v8).heap.size = w.heap.size := by simp [set9]
theorem set9_frozen (a : Addr) : (set9 w b o v0 v1 v2 v3 v4 v5 v6 v7 v8).frozen? a = w.frozen? a := by simp [set9]
theorem set9_only : Only b w (set9 w b o v0 v1 v2 v3 v4 v5 v6 v7 v8) := by
  unfold set9
  iterate 9 (refine Only.setCell ?_ _ _)
  exact Only.refl _ _
end

/-- A row of n routes in block R, k of them laid. -/
structure Rts (p q : Nat → Int) (nI : Nat → ByteArray) (z : Addr) (R n k : Nat) (w : World) : Prop where
  lt : R < w.heap.size
  all : ∀ x, x < n * 9 → ∃ v, w.cell? ⟨R, x, none⟩ = some v
  fz : ∀ x, w.frozen? ⟨R, x, none⟩ = false
  at9 : ∀ i, i < k → Nine w R (i * 9) (rtC (p i) (q i) z (nI i))
section
variable {p q : Nat → Int} {nI : Nat → ByteArray} {z : Addr} {R n k : Nat} {w w' : World}
theorem Rts.below {B : Nat} (h : Rts p q nI z R n k w) (hb : Below B w w') (hB : R < B) : Rts p q nI z R n k w' :=
  ⟨Nat.lt_of_lt_of_le h.lt hb.size, fun x hx => by rw [hb.cell (p := ⟨R, x, none⟩) hB]; exact h.all x hx, fun x => by rw [hb.frozen (p := ⟨R, x, none⟩) hB]; exact h.fz x, fun i hi => (h.at9 i hi).below hb hB⟩
theorem Rts.step (h : Rts p q nI z R n k w) (hk : k < n) : Rts p q nI z R n (k + 1) (set9 w R (k * 9) (.int .u64 0) (.int .u64 (281470681743360 + p k)) (.pointer (some z)) (.int .u8 (q k)) (.string (nI k)) (.bool false) (.int .u64 0) (.int .u64 0) (.pointer none)) :=
  ⟨by rw [set9_size]; exact h.lt, fun x hx => set9_some (h.all x hx), fun x => by rw [set9_frozen]; exact h.fz x, fun i hi => by
    by_cases e : i = k
    · subst e; exact set9_nine (fun t ht => h.all _ (by omega))
    · exact set9_other (h.at9 i (by omega)) (by omega)⟩
end

theorem Rts.spots {p q : Nat → Int} {nI : Nat → ByteArray} {z : Addr} {R n k i : Nat} {w : World} (h : Rts p q nI z R n k w) (hi : i < n) :
    ∃ v0 v1 v2 v3 v4 v5 v6 v7 v8, w.cell? ⟨R, i * 9, none⟩ = some v0 ∧ w.cell? ⟨R, i * 9 + 1, none⟩ = some v1 ∧ w.cell? ⟨R, i * 9 + 2, none⟩ = some v2 ∧ w.cell? ⟨R, i * 9 + 3, none⟩ = some v3 ∧ w.cell? ⟨R, i * 9 + 4, none⟩ = some v4 ∧
      w.cell? ⟨R, i * 9 + 5, none⟩ = some v5 ∧ w.cell? ⟨R, i * 9 + 6, none⟩ = some v6 ∧ w.cell? ⟨R, i * 9 + 7, none⟩ = some v7 ∧ w.cell? ⟨R, i * 9 + 8, none⟩ = some v8 := by
  obtain ⟨v0, h0⟩ := h.all (i * 9) (by omega)
  obtain ⟨v1, h1⟩ := h.all (i * 9 + 1) (by omega)
  obtain ⟨v2, h2⟩ := h.all (i * 9 + 2) (by omega)
  obtain ⟨v3, h3⟩ := h.all (i * 9 + 3) (by omega)
  obtain ⟨v4, h4⟩ := h.all (i * 9 + 4) (by omega)
  obtain ⟨v5, h5⟩ := h.all (i * 9 + 5) (by omega)
  obtain ⟨v6, h6⟩ := h.all (i * 9 + 6) (by omega)
  obtain ⟨v7, h7⟩ := h.all (i * 9 + 7) (by omega)
  obtain ⟨v8, h8⟩ := h.all (i * 9 + 8) (by omega)
  exact ⟨v0, v1, v2, v3, v4, v5, v6, v7, v8, h0, h1, h2, h3, h4, h5, h6, h7, h8⟩

theorem inf41 : (Ybaf.prog.info? 41).map (fun i => (i.zero, i.size, i.bytes)) = some (some (.agg rt0), 9, 80) := by kernel_rfl
theorem mkRoutes (n : Nat) (h : n ≤ 1048576) (W : World) : (Instr.makeSlice 24 (.int .i64 (n : Int)) (.int .i64 (n : Int))).run Ybaf.prog W =
    .ok (.slice (some ⟨W.heap.size, 0, none⟩) n n) (W.alloc (.cells (madeCells rt0 (n * 9)) 41)) := by
  obtain ⟨i, hi, hh⟩ := Option.map_eq_some_iff.1 inf41
  simp only [Prod.mk.injEq] at hh
  obtain ⟨h1, h2, h3⟩ := hh
  have := run_make (P := Ybaf.prog) W 24 41 i _ Ybaf.underlying24 hi h1 .i64 .i64 n n (by omega) (by omega) (by rw [h3]; omega) (by omega)
  rw [this, h2]; rfl
theorem Rts.start (p q : Nat → Int) (nI : Nat → ByteArray) (z : Addr) (n : Nat) (W : World) : Rts p q nI z W.heap.size n 0 (W.alloc (.cells (madeCells rt0 (n * 9)) 41)) :=
  ⟨by simp, fun x hx => by rw [World.cell?_alloc_new]; exact ⟨_, Array.getElem?_eq_getElem (by rw [size_madeCells]; exact hx)⟩, fun x => by simp, fun i hi => by omega⟩

theorem Nine.each {w : World} {b o : Nat} {p q : Int} {z : Addr} {nI : ByteArray} (h : Nine w b o (rtC p q z nI)) (t : Nat) (ht : t < 9) : ∃ v, w.cell? ⟨b, o + t, none⟩ = some v ∧ v.oneCell' = true := by
  match t, ht with
  | 0, _ => exact ⟨_, h.c0, rfl⟩
  | 1, _ => exact ⟨_, h.c1, rfl⟩
  | 2, _ => exact ⟨_, h.c2, rfl⟩
  | 3, _ => exact ⟨_, h.c3, rfl⟩
  | 4, _ => exact ⟨_, h.c4, rfl⟩
  | 5, _ => exact ⟨_, h.c5, rfl⟩
  | 6, _ => exact ⟨_, h.c6, rfl⟩
  | 7, _ => exact ⟨_, h.c7, rfl⟩
  | 8, _ => exact ⟨_, h.c8, rfl⟩

theorem only_setCells (b : Nat) : ∀ (vs : List Value) (o : Nat) (w : World), Only b w (w.setCells b o vs)
  | [], _, _ => Only.refl _ _
  | v :: r, o, w => ((Only.refl b w).setCell o v).trans (only_setCells b r (o + 1) _)

/-- 'copy(keep, rs)'. -/
theorem copy9 {p q : Nat → Int} {nI : Nat → ByteArray} {z : Addr} {R K n : Nat} {w : World} (ty : TypeId) (hR : Rts p q nI z R n n w) (hK : Rts p q nI z K n 0 w) (_hne : K ≠ R) :
    ∃ w', (Builtin.copy_ #[24, 24] ty #[.slice (some ⟨K, 0, none⟩) n n, .slice (some ⟨R, 0, none⟩) n n]).run Ybaf.prog w = .ok (goInt n) w' ∧ Rts p q nI z K n n w' ∧ Only K w w' := by
  have hall : ∀ x, x < n * 9 → ∃ v, w.cell? ⟨R, x, none⟩ = some v ∧ v.oneCell' = true := fun x hx => by
    have := (hR.at9 (x / 9) (by omega)).each (x % 9) (by omega)
    rwa [show x / 9 * 9 + x % 9 = x by omega] at this
  obtain ⟨V, hV⟩ := Deep.choose_lt (α := Value) hall
  have hlen : ((List.range (n * 9)).map V).length = n * 9 := by simp
  have hl := run_loadCells_list (P := Ybaf.prog) (w := w) (a := ⟨R, 0, none⟩) (cs := (List.range (n * 9)).map V) (fun j v hj => by
    by_cases hjn : j < n * 9
    · rw [List.getElem?_map, List.getElem?_range hjn] at hj
      simp only [Option.map_some, Option.some.injEq] at hj
      subst hj
      have : (⟨R, 0, none⟩ : Addr).add j = ⟨R, j, none⟩ := by unfold Addr.add; split <;> simp_all
      rw [this]; exact (hV j hjn).1
    · rw [List.getElem?_eq_none (by simp; omega)] at hj; cases hj)
  rw [hlen] at hl
  have hst := run_storeCells_cells (P := Ybaf.prog) K 0 ((List.range (n * 9)).map V) 0 w (fun j hj => by obtain ⟨v, hv⟩ := hK.all j (by simpa using hj); simp [hv]) (fun j hj => by simpa using hK.fz j)
    (fun v hv => by obtain ⟨j, hj, rfl⟩ := List.mem_map.1 hv; exact (hV j (List.mem_range.1 hj)).2)
  obtain ⟨i, hi, hh⟩ := Option.map_eq_some_iff.1 inf41
  simp only [Prod.mk.injEq] at hh
  have hin := World.cell?_setCells_in K ((List.range (n * 9)).map V) 0 w (fun j hj => by obtain ⟨v, hv⟩ := hK.all j (by simpa using hj); simp [hv])
  have hcell : ∀ x, x < n * 9 → (w.setCells K 0 ((List.range (n * 9)).map V)).cell? ⟨K, x, none⟩ = w.cell? ⟨R, x, none⟩ := fun x hx => by
    have := hin x (by simpa using hx)
    rw [Nat.zero_add] at this
    rw [this, (hV x hx).1]; simp
  refine ⟨w.setCells K 0 ((List.range (n * 9)).map V), ?_, ⟨?_, fun x hx => ?_, fun x => ?_, fun i hi => ?_⟩, only_setCells _ _ _ _⟩
  · simp [Builtin.copy_, run_underlying Ybaf.underlying24, Builtin.lenOf, Builtin.firstCells, sizeOf, typeInfo, hi, hh.2.1, hl, hst]
  · exact Nat.lt_of_lt_of_le hK.lt (only_setCells K _ 0 w).size
  · rw [hcell x hx]; exact ⟨_, (hV x hx).1⟩
  · rw [World.frozen?_setCells]; exact hK.fz x
  · have h9 := hR.at9 i hi
    exact ⟨by rw [hcell _ (by omega)]; exact h9.c0, by rw [hcell _ (by omega)]; exact h9.c1, by rw [hcell _ (by omega)]; exact h9.c2, by rw [hcell _ (by omega)]; exact h9.c3, by rw [hcell _ (by omega)]; exact h9.c4,
      by rw [hcell _ (by omega)]; exact h9.c5, by rw [hcell _ (by omega)]; exact h9.c6, by rw [hcell _ (by omega)]; exact h9.c7, by rw [hcell _ (by omega)]; exact h9.c8⟩
end Go.Proofs.YbulkeiiwFmt

import Derived.Test.YbulkeiiwDoorRows
import Derived.ProofKit
import Derived.Deep.Slices
import Derived.Deep.Strs
import Derived.SizedLaws
namespace Go.Proofs.YbulkeiiwDoor
open Go.ChangeShapes Go.WideShapes Go.ChangeAt Go.RowKit Go.Deep

theorem cells22 : Ybad.prog.cellsOf 22 = 1 := by kernel_rfl
theorem cells26 : Ybad.prog.cellsOf 26 = 3 := by kernel_rfl
theorem cells23 : Ybad.prog.cellsOf 23 = 1 := by kernel_rfl
theorem cells24 : Ybad.prog.cellsOf 24 = 1 := by kernel_rfl
theorem cells30 : Ybad.prog.cellsOf 30 = 2 := by kernel_rfl
theorem bytes26 : Ybad.prog.bytesOf 26 = 32 := by kernel_rfl
theorem bytes30 : Ybad.prog.bytesOf 30 = 8 := by kernel_rfl

theorem wAll_mem {H : Type} {P : Program} {e : TypeId} {d : DataW H} {x : Nat} (hx : x ∈ d.weights P e) : ∀ (l : List (DataW H)), d ∈ l → x ∈ DataW.weightsAll P e l
  | [], h => by cases h
  | a :: r, h => by
    unfold DataW.weightsAll
    rcases List.mem_cons.1 h with h1 | h1
    · subst h1; exact List.mem_append_left _ hx
    · exact List.mem_append_right _ (wAll_mem hx r h1)

section
variable {H : Type} {enc : TypeId × Value → H} {W : World}

theorem open_u32 {fuel : Nat} {c : Value} {y : DataW H × List MemPlace} (h : DataW.trod enc Ybad.prog W 0 (fun _ => true) true fuel 23 [c] = some y) : ∃ u, c = .int .u32 u := by
  obtain ⟨u, e, _, _⟩ := DataW.trod_int Ybad.underlying23 h
  exact ⟨u, by simpa using e⟩

/-- One row's ranges. -/
theorem open_inner {fuel : Nat} {cv : Value} {y : DataW H × List MemPlace} (h : DataW.trod enc Ybad.prog W 0 (fun _ => true) true fuel 24 [cv] = some y) :
    ∃ (T : Option Addr) (n c : Nat) (f l : Nat → Int), cv = .slice T n c ∧ ((∀ x ∈ y.1.weights Ybad.prog 24, x ≤ reachBytes) → n ≤ 17592186044416) ∧
      (0 < n → ∃ tb to, T = some ⟨tb, to, none⟩ ∧ tb < W.heap.size ∧ (∀ j, j < n → W.cell? ⟨tb, to + j * 2, none⟩ = some (.int .u32 (f j))) ∧ (∀ j, j < n → W.cell? ⟨tb, to + j * 2 + 1, none⟩ = some (.int .u32 (l j)))) := by
  rcases open_slice Ybad.underlying24 h with ⟨hcs, _⟩ | ⟨a, len, cap, m, k, D, Pl, hcs, _, hl, _, hm, hy, hx⟩
  · simp only [List.cons.injEq, and_true] at hcs
    exact ⟨none, 0, 0, fun _ => 0, fun _ => 0, hcs, fun _ => by omega, fun h => by omega⟩
  · simp only [List.cons.injEq, and_true] at hcs
    simp only [if_true] at hm
    subst hm
    have one : ∀ i, i < m → ∃ p : Int × Int, W.cell? (a.add (i * 2)) = some (.int .u32 p.1) ∧ W.cell? (a.add (i * 2 + 1)) = some (.int .u32 p.2) := fun i hi => by
      obtain ⟨cs', h1, h2⟩ := hx i hi
      rw [cells30] at h1
      obtain ⟨_, hlen, hc⟩ := World.cells?_some h1
      match cs', hlen with
      | [c0, c1], _ =>
        obtain ⟨y0, y1, k', _, _, g0, g1⟩ := trod_struct2 Ybad.underlying30 h2
        simp only [cells23, List.drop_zero, List.drop_succ_cons, List.take_succ_cons, List.take_zero] at g0 g1
        obtain ⟨u, rfl⟩ := open_u32 g0
        obtain ⟨v, rfl⟩ := open_u32 g1
        have e0 := hc 0 (by omega)
        have e1 := hc 1 (by omega)
        rw [add_add] at e0 e1
        exact ⟨(u, v), by simpa using e0, by simpa using e1⟩
    obtain ⟨p, hp⟩ := choose_lt one
    refine ⟨some a, len, m, fun j => (p j).1, fun j => (p j).2, hcs, fun hw => ?_, fun h0 => ?_⟩
    · have hd : y.1 = .slice ((List.range len).map D) ((List.range (m - len)).map fun j => D (len + j)) := by rw [hy]
      rw [hd] at hw
      have := hw _ (by unfold DataW.weights; rw [Ybad.underlying24]; exact List.mem_cons_self)
      rw [bytes30] at this
      simp only [List.length_map, List.length_range, reachBytes] at this
      omega
    · obtain ⟨b, off, spot⟩ := a
      have hspot : spot = none := by have := World.cell?_spot (hp 0 (by omega)).1; simpa [Addr.add] using this
      subst hspot
      exact ⟨b, off, rfl, by have := World.block_lt_of_cell? _ _ (hp 0 (by omega)).1; simpa [Addr.add] using this, fun j hj => by have := (hp j (by omega)).1; rwa [add_plain] at this,
        fun j hj => by have := (hp j (by omega)).2; rwa [add_plain] at this⟩

/-- The rows. -/
theorem open_rows {fuel : Nat} {v : Value} {y : DataW H × List MemPlace} (h : DataW.trod enc Ybad.prog W 0 (fun _ => true) true fuel 22 [v] = some y) (hw : ∀ x ∈ y.1.weights Ybad.prog 22, x ≤ reachBytes) :
    (∃ a cap, v = .slice a 0 cap) ∨
    ∃ (B O len cap : Nat) (F L : Nat → Int) (T : Nat → Option Addr) (n c : Nat → Nat) (f l : Nat → Nat → Int), v = .slice (some ⟨B, O, none⟩) len cap ∧ 0 < len ∧ len ≤ 4398046511104 ∧ (∀ i, i < len → n i ≤ 17592186044416) ∧ B < W.heap.size ∧
      (∀ i, i < len → W.cell? ⟨B, O + i * 3, none⟩ = some (.int .u32 (F i))) ∧ (∀ i, i < len → W.cell? ⟨B, O + i * 3 + 1, none⟩ = some (.int .u32 (L i))) ∧ (∀ i, i < len → W.cell? ⟨B, O + i * 3 + 2, none⟩ = some (.slice (T i) (n i) (c i))) ∧
      (∀ i, i < len → 0 < n i → ∃ tb to, T i = some ⟨tb, to, none⟩ ∧ tb < W.heap.size ∧ (∀ j, j < n i → W.cell? ⟨tb, to + j * 2, none⟩ = some (.int .u32 (f i j))) ∧ (∀ j, j < n i → W.cell? ⟨tb, to + j * 2 + 1, none⟩ = some (.int .u32 (l i j)))) := by
  rcases open_slice Ybad.underlying22 h with ⟨hcs, _⟩ | ⟨a, len, cap, m, k, D, Pl, hcs, _, hl, _, hm, hy, hx⟩
  · simp only [List.cons.injEq, and_true] at hcs
    exact Or.inl ⟨none, 0, hcs⟩
  · simp only [List.cons.injEq, and_true] at hcs
    simp only [if_true] at hm
    subst hm
    by_cases h0 : len = 0
    · subst h0; exact Or.inl ⟨some a, m, hcs⟩
    right
    have hd : y.1 = .slice ((List.range len).map D) ((List.range (m - len)).map fun j => D (len + j)) := by rw [hy]
    rw [hd] at hw
    have hlen : len ≤ 4398046511104 := by
      have := hw _ (by unfold DataW.weights; rw [Ybad.underlying22]; exact List.mem_cons_self)
      rw [bytes26] at this
      simp only [List.length_map, List.length_range, reachBytes] at this
      omega
    have one : ∀ i, i < len → ∃ p : Int × Int × Option Addr × Nat × Nat × (Nat → Int) × (Nat → Int), W.cell? (a.add (i * 3)) = some (.int .u32 p.1) ∧ W.cell? (a.add (i * 3 + 1)) = some (.int .u32 p.2.1) ∧
        W.cell? (a.add (i * 3 + 2)) = some (.slice p.2.2.1 p.2.2.2.1 p.2.2.2.2.1) ∧ p.2.2.2.1 ≤ 17592186044416 ∧
        (0 < p.2.2.2.1 → ∃ tb to, p.2.2.1 = some ⟨tb, to, none⟩ ∧ tb < W.heap.size ∧ (∀ j, j < p.2.2.2.1 → W.cell? ⟨tb, to + j * 2, none⟩ = some (.int .u32 (p.2.2.2.2.2.1 j))) ∧ (∀ j, j < p.2.2.2.1 → W.cell? ⟨tb, to + j * 2 + 1, none⟩ = some (.int .u32 (p.2.2.2.2.2.2 j)))) := fun i hi => by
      obtain ⟨cs', h1, h2⟩ := hx i (by omega)
      rw [cells26] at h1
      obtain ⟨_, hlen', hc⟩ := World.cells?_some h1
      match cs', hlen' with
      | [c0, c1, c2], _ =>
        obtain ⟨y0, y1, y2, k', hDi, _, g0, g1, g2⟩ := trod_struct3 Ybad.underlying26 h2
        simp only [cells23, cells24, List.drop_zero, List.drop_succ_cons, List.take_succ_cons, List.take_zero] at g0 g1 g2
        obtain ⟨u, rfl⟩ := open_u32 g0
        obtain ⟨v', rfl⟩ := open_u32 g1
        obtain ⟨T, n, c, f, l, rfl, hn, hI⟩ := open_inner g2
        have e0 := hc 0 (by omega)
        have e1 := hc 1 (by omega)
        have e2 := hc 2 (by omega)
        rw [add_add] at e0 e1 e2
        refine ⟨(u, v', T, n, c, f, l), by simpa using e0, by simpa using e1, by simpa using e2, hn fun x hx' => hw x ?_, hI⟩
        have hD1 : D i = .agg [y0.1, y1.1, y2.1] := congrArg Prod.fst hDi
        unfold DataW.weights
        rw [Ybad.underlying22]
        refine List.mem_cons_of_mem _ (List.mem_append_left _ (wAll_mem (d := D i) ?_ _ (List.mem_map.2 ⟨i, List.mem_range.2 hi, rfl⟩)))
        rw [hD1]
        unfold DataW.weights
        rw [Ybad.underlying26]
        exact DataW.weights_mem_each (j := 2) (t := 24) (d := y2.1) rfl rfl x hx'
    obtain ⟨p, hp⟩ := choose_lt one
    obtain ⟨b, off, spot⟩ := a
    have hspot : spot = none := by have := World.cell?_spot (hp 0 (by omega)).1; simpa [Addr.add] using this
    subst hspot
    simp only [add_plain] at hp
    refine ⟨b, off, len, m, fun i => (p i).1, fun i => (p i).2.1, fun i => (p i).2.2.1, fun i => (p i).2.2.2.1, fun i => (p i).2.2.2.2.1, fun i => (p i).2.2.2.2.2.1, fun i => (p i).2.2.2.2.2.2, hcs, by omega, hlen, fun i hi => (hp i hi).2.2.2.1,
      World.block_lt_of_cell? _ _ (hp 0 (by omega)).1, fun i hi => (hp i hi).1, fun i hi => (hp i hi).2.1, fun i hi => (hp i hi).2.2.1, fun i hi => (hp i hi).2.2.2.2⟩
end
end Go.Proofs.YbulkeiiwDoor

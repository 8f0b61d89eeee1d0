import Derived.Test.YbulkeiiwFmtBApp
import Derived.Deep.Slices
namespace Go.Proofs.YbulkeiiwFmt
open Go.RowKit Go.Sort

theorem inf5 : (Ybaf.prog.info? 5).map (fun i => (i.zero, i.size, i.bytes)) = some (some (.int .u8 0), 1, 1) := by kernel_rfl
theorem mk15 (W : World) : (Instr.makeSlice 75 (.int .i64 0) (.int .i64 15)).run Ybaf.prog W =
    .ok (.slice (some ⟨W.heap.size, 0, none⟩) 0 15) (W.alloc (.cells (madeCells #[.int .u8 0] 15) 5)) := by
  obtain ⟨i, hi, hh⟩ := Option.map_eq_some_iff.1 inf5
  simp only [Prod.mk.injEq] at hh
  obtain ⟨h1, h2, h3⟩ := hh
  have := run_make (P := Ybaf.prog) W 75 5 i _ Ybaf.underlying75 hi h1 .i64 .i64 0 15 (by omega) (by omega) (by rw [h3]; omega) (by omega)
  rw [this, h2]; rfl
theorem Buf.start (W : World) : Buf W.heap.size 0 (W.alloc (.cells (madeCells #[.int .u8 0] 15) 5)) (W.alloc (.cells (madeCells #[.int .u8 0] 15) 5)) :=
  ⟨by simp, fun x hx => by rw [World.cell?_alloc_new]; exact ⟨_, Array.getElem?_eq_getElem (by rw [size_madeCells]; exact hx)⟩, fun x => by simp, fun x hx => by omega, Only.refl _ _⟩

theorem conv_str {g n : Nat} {w0 w : World} (h : Buf g n w0 w) : ∃ s : ByteArray, (convert 75 9 (.slice (some ⟨g, 0, none⟩) n 15)).run Ybaf.prog w = .ok (.string s) w := by
  obtain ⟨c, hc⟩ := Deep.choose_lt (α := Int) (n := n) (p := fun x v => w.cell? ⟨g, x, none⟩ = some (.int .u8 v)) (fun x hx => by obtain ⟨c, hc⟩ := h.by8 x hx; exact ⟨_, hc⟩)
  rw [run_convert_bytes_string w 75 9 5 _ _ _ Ybaf.underlying75 Ybaf.underlying5 Ybaf.underlying9]
  have hl := run_loadCells_list (P := Ybaf.prog) (w := w) (a := ⟨g, 0, none⟩) (cs := ((List.range n).map c).map (Value.int .u8)) (fun j v hj => by
    simp only [List.map_map, List.getElem?_map] at hj
    by_cases hjn : j < n
    · rw [List.getElem?_range hjn] at hj
      simp only [Option.map_some, Option.some.injEq, Function.comp] at hj
      subst hj
      have : (⟨g, 0, none⟩ : Addr).add j = ⟨g, j, none⟩ := by unfold Addr.add; split <;> simp_all
      rw [this]; exact hc j hjn
    · rw [List.getElem?_eq_none (by simp; omega)] at hj; cases hj)
  have := run_bytesToString (P := Ybaf.prog) w ⟨g, 0, none⟩ n 15 ((List.range n).map c) (by simpa using hl)
  exact ⟨_, this⟩

set_option maxHeartbeats 1000000 in
theorem string_any (A : Int) (z : Addr) (w : World) (g : G z w) :
    Calls Ybaf.prog 27 #[adV A z] w fun e w' => ∃ s : ByteArray, e = .returned (.string s) ∧ Below w.heap.size w w' := by
  have e1 := eqSelf
  have hmk := mk15
  go_enter Ybaf.func27, Ybaf.ntmps27
  go_wp2_with fail
  refine (isValidA_any A z _ (g.later (al1 _ _))).mono ?_
  rintro e w1 ⟨rfl, hb1⟩
  have g1 := (g.later (al1 _ _)).later hb1
  obtain ⟨hz, hz0⟩ := g1
  have g1 : G z w1 := ⟨hz, hz0⟩
  obtain ⟨q1, q2, q3⟩ := blk hb1 (b := w.heap.size) (cs := #[.int .u64 0, .int .u64 A, .pointer (some z)]) (t := 34) (by repeat (first | rw [hD] | (refine hN _ _ _ ?_; (repeat rw [World.size_alloc]) <;> omega) | (refine (hO _ _ _ ?_).trans ?_; · (repeat rw [World.size_alloc]) <;> omega)))
  have hB1 : Below w.heap.size w w1 := (al1 _ _).trans (hb1.mono (by simp))
  clear hb1
  go_wp2_with fail
  refine (appendTo4_any A z w1.heap.size _ _ (Buf.start w1)).mono ?_
  rintro e w2 ⟨n2, rfl, hn2, B2⟩
  obtain ⟨st, hst⟩ := conv_str B2
  have hB2 := B2.only
  clear B2 q1 q2 e1 hmk
  go_wp2
  go_ret
  exact ⟨_, rfl, hB1.trans (Below.trans ((al1 _ _).mono (by omega)) ((hB2.below (B := w1.heap.size) (Nat.le_refl _) (by simp)).mono (by omega)))⟩
end Go.Proofs.YbulkeiiwFmt

import Derived.Test.YbulkeiiwFmtBLaw
import Derived.ProofKit
import Derived.LaidMore
import Derived.Handy
import Derived.Lay
import Derived.OpenShut
import Derived.Deep.Slices
import Derived.Deep.Strs
import Derived.Laws.IdiomArrays
import Derived.SizedLaws
import Derived.ChangeSame
namespace Go.Proofs.YbulkeiiwFmt
open Go.ChangeShapes Go.WideShapes Go.ChangeAt Go.RowKit Go.Deep

theorem ownB : ownKnob Ybaf.prog.godebug = none := by kernel_rfl
theorem laidOutB' : laidOutB Ybaf.prog = true := by kernel_rfl
theorem cells22 : Ybaf.prog.cellsOf 22 = 4 := by kernel_rfl
theorem cells5 : Ybaf.prog.cellsOf 5 = 1 := by kernel_rfl
theorem cells26 : Ybaf.prog.cellsOf 26 = 6 := by kernel_rfl
theorem list4 {α : Type} (l : List α) (h : l.length = 4) : ∃ a b c d, l = [a, b, c, d] := by
  match l, h with
  | [a, b, c, d], _ => exact ⟨a, b, c, d, rfl⟩
theorem wf8 {n : Int} (h : (Lit.int .u8 n).wf = true) : 0 ≤ n ∧ n ≤ 255 := by
  simp [Lit.wf, IntKind.min, IntKind.max, IntKind.signed, IntKind.bits] at h
  omega

section
variable {H : Type} {enc : TypeId × Value → H} {W : World}
theorem open_u8 {fuel : Nat} {c : Value} {y : DataW H × List MemPlace} (h : DataW.trod enc Ybaf.prog W 0 (fun _ => true) true fuel 5 [c] = some y) : ∃ u, c = .int .u8 u ∧ 0 ≤ u ∧ u ≤ 255 := by
  obtain ⟨u, e, _, hw⟩ := DataW.trod_int Ybaf.underlying5 h
  exact ⟨u, by simpa using e, wf8 hw⟩

theorem open_addr {fuel : Nat} {c0 c1 c2 c3 : Value} {y : DataW H × List MemPlace} (h : DataW.trod enc Ybaf.prog W 0 (fun _ => true) true fuel 22 [c0, c1, c2, c3] = some y) :
    ∃ a b c d : Int, (c0 = .int .u8 a ∧ 0 ≤ a ∧ a ≤ 255) ∧ (c1 = .int .u8 b ∧ 0 ≤ b ∧ b ≤ 255) ∧ (c2 = .int .u8 c ∧ 0 ≤ c ∧ c ≤ 255) ∧ (c3 = .int .u8 d ∧ 0 ≤ d ∧ d ≤ 255) := by
  obtain ⟨y0, y1, y2, y3, m, hx, hy0, hy1, hy2, hy3⟩ := trod_array4 Ybaf.underlying22 cells5 h
  obtain ⟨a, ha⟩ := open_u8 hy0
  obtain ⟨b, hb⟩ := open_u8 hy1
  obtain ⟨c, hc⟩ := open_u8 hy2
  obtain ⟨d, hd⟩ := open_u8 hy3
  exact ⟨a, b, c, d, ha, hb, hc, hd⟩

/-- The routes that come in. -/
theorem open_routes {fuel : Nat} {a0 : Option Addr} {len0 cap0 : Nat} {y : DataW H × List MemPlace} (h : DataW.trod enc Ybaf.prog W 0 (fun _ => true) true fuel 23 [.slice a0 len0 cap0] = some y) : ∃ r : In6, Src r a0 len0 W := by
  rcases open_slice Ybaf.underlying23 h with ⟨hcs, _⟩ | ⟨a, len, cap, m, k, D, Pl, hcs, _, hl, _, hm, hy, hx⟩
  · simp only [List.cons.injEq, and_true] at hcs
    cases hcs
    exact ⟨⟨fun _ => 0, fun _ => 0, fun _ => 0, fun _ => 0, fun _ => 0, fun _ => 0⟩, ⟨fun h => by omega, fun i hi => by omega, fun i hi => by omega, fun i hi => by omega, fun i hi => by omega, fun i hi => by omega, fun i hi => by omega⟩⟩
  · simp only [List.cons.injEq, and_true] at hcs
    cases hcs
    simp only [if_true] at hm
    subst hm
    have one : ∀ i, i < len0 → ∃ p : Int × Int × Int × Int × Int × Int, (W.cell? (a.add (i * 6)) = some (.int .u8 p.1) ∧ 0 ≤ p.1 ∧ p.1 ≤ 255) ∧ (W.cell? (a.add (i * 6 + 1)) = some (.int .u8 p.2.1) ∧ 0 ≤ p.2.1 ∧ p.2.1 ≤ 255) ∧
        (W.cell? (a.add (i * 6 + 2)) = some (.int .u8 p.2.2.1) ∧ 0 ≤ p.2.2.1 ∧ p.2.2.1 ≤ 255) ∧ (W.cell? (a.add (i * 6 + 3)) = some (.int .u8 p.2.2.2.1) ∧ 0 ≤ p.2.2.2.1 ∧ p.2.2.2.1 ≤ 255) ∧
        (W.cell? (a.add (i * 6 + 4)) = some (.int .u8 p.2.2.2.2.1) ∧ 0 ≤ p.2.2.2.2.1 ∧ p.2.2.2.2.1 ≤ 255) ∧ (W.cell? (a.add (i * 6 + 5)) = some (.int .u8 p.2.2.2.2.2) ∧ 0 ≤ p.2.2.2.2.2 ∧ p.2.2.2.2.2 ≤ 255) := fun i hi => by
      obtain ⟨cs', h1, h2⟩ := hx i (by omega)
      rw [cells26] at h1
      obtain ⟨_, hlen', hc⟩ := World.cells?_some h1
      match cs', hlen' with
      | [c0, c1, c2, c3, c4, c5], _ =>
        obtain ⟨y0, y1, y2, k', hDi, _, g0, g1, g2⟩ := trod_struct3 Ybaf.underlying26 h2
        simp only [cells22, cells5, List.drop_zero, List.drop_succ_cons, List.take_succ_cons, List.take_zero] at g0 g1 g2
        obtain ⟨u0, u1, u2, u3, ⟨rfl, b0⟩, ⟨rfl, b1⟩, ⟨rfl, b2⟩, ⟨rfl, b3⟩⟩ := open_addr g0
        obtain ⟨u4, rfl, b4⟩ := open_u8 g1
        obtain ⟨u5, rfl, b5⟩ := open_u8 g2
        have e0 := hc 0 (by omega)
        have e1 := hc 1 (by omega)
        have e2 := hc 2 (by omega)
        have e3 := hc 3 (by omega)
        have e4 := hc 4 (by omega)
        have e5 := hc 5 (by omega)
        rw [add_add] at e0 e1 e2 e3 e4 e5
        exact ⟨(u0, u1, u2, u3, u4, u5), ⟨by simpa using e0, b0⟩, ⟨by simpa using e1, b1⟩, ⟨by simpa using e2, b2⟩, ⟨by simpa using e3, b3⟩, ⟨by simpa using e4, b4⟩, ⟨by simpa using e5, b5⟩⟩
    obtain ⟨p, hp⟩ := choose_lt one
    refine ⟨⟨fun i => (p i).1, fun i => (p i).2.1, fun i => (p i).2.2.1, fun i => (p i).2.2.2.1, fun i => (p i).2.2.2.2.1, fun i => (p i).2.2.2.2.2⟩, ⟨fun h0 => ?_, fun i hi => (hp i hi).1.2, fun i hi => (hp i hi).2.1.2, fun i hi => (hp i hi).2.2.1.2, fun i hi => (hp i hi).2.2.2.1.2, fun i hi => (hp i hi).2.2.2.2.1.2, fun i hi => (hp i hi).2.2.2.2.2.2⟩⟩
    obtain ⟨b, off, spot⟩ := a
    have hspot : spot = none := by have := World.cell?_spot (hp 0 (by omega)).1.1; simpa [Addr.add] using this
    subst hspot
    simp only [add_plain] at hp
    exact ⟨b, off, rfl, World.block_lt_of_cell? _ _ (hp 0 (by omega)).1.1, fun i hi => ⟨(hp i hi).1.1, (hp i hi).2.1.1, (hp i hi).2.2.1.1, (hp i hi).2.2.2.1.1, (hp i hi).2.2.2.2.1.1, (hp i hi).2.2.2.2.2.1⟩⟩
end
end Go.Proofs.YbulkeiiwFmt

import Derived.Test.YbulkeiiwFmtRows
import Derived.WalkKit
import Derived.WalkSpells
import Derived.WalkLawsBesides
import Derived.Deep.RegionWith
import Derived.Deep.RegionHeld3
import Derived.BigQuiet
import Derived.Deep.QuietTactic
import Derived.Deep.DrawnRows
import Derived.BigRegion
import Derived.LaidEql
namespace Go.Proofs.YbulkeiiwFmt
open Go.RowKit

/-- What lies in W lies in every later world. -/
theorem kc {W w1 : World} (hb : Below W.heap.size W w1) {a : Addr} {v : Value} (h : W.cell? a = some v) : w1.cell? a = some v := by
  rw [hb.cell (World.block_lt_of_cell? W a h)]; exact h
theorem kf {W w1 : World} (hb : Below W.heap.size W w1) {a : Addr} (h : a.block < W.heap.size) (f : W.frozen? a = false) : w1.frozen? a = false := by
  rw [hb.frozen h]; exact f

theorem hN (w : World) (o : Obj) (k : Nat) (h : k = w.heap.size) : (w.alloc o).heap[k]? = some o := by
  subst h
  show (w.heap.push o)[w.heap.size]? = _
  rw [Array.getElem?_push, if_pos rfl]
theorem hO (w : World) (o : Obj) (k : Nat) (h : k < w.heap.size) : (w.alloc o).heap[k]? = w.heap[k]? := Below.heap_alloc w o k h
theorem hD (w : World) : w.drew.heap = w.heap := rfl

theorem al1 (w : World) (o1 : Obj) : Below w.heap.size w (w.alloc o1) := (Below.refl _ _).alloc (Nat.le_refl _) _
theorem al2 (w : World) (o1 o2 : Obj) : Below w.heap.size w ((w.alloc o1).alloc o2) := (al1 w o1).alloc (by simp) _
theorem al3 (w : World) (o1 o2 o3 : Obj) : Below w.heap.size w (((w.alloc o1).alloc o2).alloc o3) := (al2 w o1 o2).alloc (by simp; omega) _

theorem al4 (w : World) (o1 o2 o3 o4 : Obj) : Below w.heap.size w ((((w.alloc o1).alloc o2).alloc o3).alloc o4) := (al3 w o1 o2 o3).alloc (by simp; omega) _

/-- Cell x of block b. -/
theorem cell_set_same {w : World} {a : Addr} {v : Value} (h : ∃ u, w.cell? a = some u) : (w.setCell a v).cell? a = some v := by
  obtain ⟨u, hu⟩ := h; exact World.cell?_setCell_same w a v hu
theorem cell_set_ne {w : World} {b o b' o' : Nat} {v : Value} (h : b ≠ b' ∨ o ≠ o') : (w.setCell ⟨b, o, none⟩ v).cell? ⟨b', o', none⟩ = w.cell? ⟨b', o', none⟩ :=
  World.cell?_setCell_other (w := w) (v := v) (a := ⟨b, o, none⟩) (b := ⟨b', o', none⟩) (h := fun e => by injection e with e1 e2 _; exact h.elim (fun x => x e1) (fun x => x e2))
theorem cell_set_some {w : World} {b o b' o' : Nat} {v : Value} (h : ∃ u, w.cell? ⟨b', o', none⟩ = some u) : ∃ u, (w.setCell ⟨b, o, none⟩ v).cell? ⟨b', o', none⟩ = some u := by
  by_cases e : b = b' ∧ o = o'
  · obtain ⟨rfl, rfl⟩ := e; exact ⟨v, cell_set_same h⟩
  · rw [cell_set_ne (by by_cases e1 : b = b'; · exact Or.inr fun e2 => e ⟨e1, e2⟩
                        · exact Or.inl e1)]; exact h


/-- A block that lies in W, read in a later world. -/
theorem blk {W w1 : World} (hb : Below W.heap.size W w1) {b : Nat} {cs : Array Value} {t : TypeId} (h : W.heap[b]? = some (.cells cs t (0, 0))) :
    (∀ o, w1.cell? ⟨b, o, none⟩ = cs[o]?) ∧ (∀ o, w1.frozen? ⟨b, o, none⟩ = false) ∧ b < w1.heap.size := by
  have hB : b < W.heap.size := by
    rcases Nat.lt_or_ge b W.heap.size with h' | h'
    · exact h'
    · rw [Array.getElem?_eq_none h'] at h; cases h
  have h1 : w1.heap[b]? = some (.cells cs t (0, 0)) := by rw [hb.block b hB]; exact h
  exact ⟨fun o => by simp [World.cell?, h1], fun o => by simp [World.frozen?, h1], Nat.lt_of_lt_of_le hB hb.size⟩
/-- The same block in a world later still. -/
theorem blkL {W w1 : World} (hb : Below W.heap.size W w1) {b : Nat} {cs : Array Value} (h : (∀ o, W.cell? ⟨b, o, none⟩ = cs[o]?) ∧ (∀ o, W.frozen? ⟨b, o, none⟩ = false) ∧ b < W.heap.size) :
    (∀ o, w1.cell? ⟨b, o, none⟩ = cs[o]?) ∧ (∀ o, w1.frozen? ⟨b, o, none⟩ = false) ∧ b < w1.heap.size :=
  ⟨fun o => by rw [hb.cell (p := ⟨b, o, none⟩) h.2.2]; exact h.1 o, fun o => by rw [hb.frozen (p := ⟨b, o, none⟩) h.2.2]; exact h.2.1 o, Nat.lt_of_lt_of_le h.2.2 hb.size⟩

/-- The library's two variables: z4 points at z, z0 is nil. -/
structure G (z : Addr) (w : World) : Prop where
  c0 : w.cell? ⟨0, 0, none⟩ = some (.pointer (some z))
  c1 : w.cell? ⟨1, 0, none⟩ = some (.pointer none)
theorem G.sz {z : Addr} {w : World} (g : G z w) : 1 < w.heap.size := World.block_lt_of_cell? w ⟨1, 0, none⟩ g.c1
theorem G.later {z : Addr} {w w' : World} (g : G z w) (hb : Below w.heap.size w w') : G z w' := ⟨kc hb g.c0, kc hb g.c1⟩
theorem G.drew {z : Addr} {w : World} (g : G z w) : G z w.drew := ⟨g.c0, g.c1⟩

theorem und30 : ∃ te j, Ybaf.prog.underlying 30 = some (.pointer te) ∧ Ybaf.prog.info? te = some j := by
  have h : (match Ybaf.prog.underlying 30 with | some (.pointer te) => (Ybaf.prog.info? te).isSome | _ => false) = true := by kernel_rfl
  split at h
  · rename_i te hte
    obtain ⟨j, hj⟩ := Option.isSome_iff_exists.1 h
    exact ⟨te, j, hte, hj⟩
  · cases h
theorem eqSelfD (d : Nat) (z : Option Addr) (w : World) : (Op.equalIn (d + 1) 30 (.pointer z) (.pointer z)).run Ybaf.prog w = .ok true w := by
  obtain ⟨te, j, h1, h2⟩ := und30
  cases z with
  | none => simp [Op.equalIn, run_underlying h1]
  | some a => simp [Op.equalIn, run_underlying h1, sizeOf, typeInfo, h2, run_sameAddr_same]
theorem eqNilD (d : Nat) (z : Addr) (w : World) : (Op.equalIn (d + 1) 30 (.pointer (some z)) (.pointer none)).run Ybaf.prog w = .ok false w := by
  obtain ⟨te, j, h1, h2⟩ := und30
  simp [Op.equalIn, run_underlying h1]
theorem eqSelf (z : Addr) (w : World) : (Op.equalIn 9999 30 (.pointer (some z)) (.pointer (some z))).run Ybaf.prog w = .ok true w := eqSelfD 9998 (some z) w
theorem eqNil (z : Addr) (w : World) : (Op.equalIn 9999 30 (.pointer (some z)) (.pointer none)).run Ybaf.prog w = .ok false w := eqNilD 9998 z w

/-- The address value. -/
abbrev adV (A : Int) (z : Addr) : Value := .agg #[.int .u64 0, .int .u64 A, .pointer (some z)]

set_option maxHeartbeats 400000 in
theorem isZero_any (A : Int) (z : Addr) (w : World) (g : G z w) :
    Calls Ybaf.prog 10 #[adV A z] w fun e w' => e = .returned (.bool false) ∧ Below w.heap.size w w' := by
  obtain ⟨hz, hz0⟩ := g
  have h1 : 1 < w.heap.size := World.block_lt_of_cell? w ⟨1, 0, none⟩ hz0
  have h0 : 0 < w.heap.size := by omega
  have e1 := eqSelf
  have e2 := eqNil
  go_enter Ybaf.func10, Ybaf.ntmps10
  go_wp2
  go_ret
  exact ⟨rfl, al1 _ _⟩

set_option maxHeartbeats 400000 in
theorem is4_any (A : Int) (z : Addr) (w : World) (g : G z w) :
    Calls Ybaf.prog 20 #[adV A z] w fun e w' => e = .returned (.bool true) ∧ Below w.heap.size w w' := by
  obtain ⟨hz, hz0⟩ := g
  have h1 : 1 < w.heap.size := World.block_lt_of_cell? w ⟨1, 0, none⟩ hz0
  have h0 : 0 < w.heap.size := by omega
  have e1 := eqSelf
  have e2 := eqNil
  go_enter Ybaf.func20, Ybaf.ntmps20
  go_wp2
  go_ret
  exact ⟨rfl, al1 _ _⟩

set_option maxHeartbeats 400000 in
theorem is6_any (A : Int) (z : Addr) (w : World) (g : G z w) :
    Calls Ybaf.prog 14 #[adV A z] w fun e w' => e = .returned (.bool false) ∧ Below w.heap.size w w' := by
  obtain ⟨hz, hz0⟩ := g
  have h1 : 1 < w.heap.size := World.block_lt_of_cell? w ⟨1, 0, none⟩ hz0
  have h0 : 0 < w.heap.size := by omega
  have e1 := eqSelf
  have e2 := eqNil
  go_enter Ybaf.func14, Ybaf.ntmps14
  go_wp2
  go_ret
  exact ⟨rfl, al1 _ _⟩

set_option maxHeartbeats 400000 in
theorem hasZone_any (A : Int) (z : Addr) (w : World) (g : G z w) :
    Calls Ybaf.prog 19 #[adV A z] w fun e w' => e = .returned (.bool false) ∧ Below w.heap.size w w' := by
  obtain ⟨hz, hz0⟩ := g
  have h1 : 1 < w.heap.size := World.block_lt_of_cell? w ⟨1, 0, none⟩ hz0
  have h0 : 0 < w.heap.size := by omega
  have e1 := eqSelf
  have e2 := eqNil
  go_enter Ybaf.func19, Ybaf.ntmps19
  go_wp2
  go_ret
  exact ⟨rfl, al1 _ _⟩

set_option maxHeartbeats 400000 in
theorem bitLen_any (A : Int) (z : Addr) (w : World) (g : G z w) :
    Calls Ybaf.prog 11 #[adV A z] w fun e w' => e = .returned (.int .i64 32) ∧ Below w.heap.size w w' := by
  obtain ⟨hz, hz0⟩ := g
  have h1 : 1 < w.heap.size := World.block_lt_of_cell? w ⟨1, 0, none⟩ hz0
  have h0 : 0 < w.heap.size := by omega
  have e1 := eqSelf
  have e2 := eqNil
  go_enter Ybaf.func11, Ybaf.ntmps11
  go_wp2
  go_ret
  exact ⟨rfl, al1 _ _⟩

set_option maxHeartbeats 400000 in
theorem isValidA_any (A : Int) (z : Addr) (w : World) (g : G z w) :
    Calls Ybaf.prog 28 #[adV A z] w fun e w' => e = .returned (.bool true) ∧ Below w.heap.size w w' := by
  obtain ⟨hz, hz0⟩ := g
  have h1 : 1 < w.heap.size := World.block_lt_of_cell? w ⟨1, 0, none⟩ hz0
  have h0 : 0 < w.heap.size := by omega
  have e1 := eqSelf
  have e2 := eqNil
  go_enter Ybaf.func28, Ybaf.ntmps28
  go_wp2
  go_ret
  exact ⟨rfl, al1 _ _⟩

set_option maxHeartbeats 400000 in
theorem withoutZone_any (A : Int) (z : Addr) (w : World) (g : G z w) :
    Calls Ybaf.prog 12 #[adV A z] w fun e w' => e = .returned (adV A z) ∧ Below w.heap.size w w' := by
  go_enter Ybaf.func12, Ybaf.ntmps12
  go_wp2_with (go_at_call 14; refine (is6_any A z _ (g.later (al2 _ _ _))).mono ?_; rintro e w1 ⟨rfl, hb⟩; obtain ⟨q1, q2, q3⟩ := blk hb (b := w.heap.size) (cs := #[.int .u64 0, .int .u64 A, .pointer (some z)]) (t := 34) (by repeat (first | rw [hD] | (refine hN _ _ _ ?_; (repeat rw [World.size_alloc]) <;> omega) | (refine (hO _ _ _ ?_).trans ?_; · (repeat rw [World.size_alloc]) <;> omega))); obtain ⟨r1, r2, r3⟩ := blk hb (b := w.heap.size + 1) (cs := #[.int .u64 0, .int .u64 0, .pointer none]) (t := 34) (by repeat (first | rw [hD] | (refine hN _ _ _ ?_; (repeat rw [World.size_alloc]) <;> omega) | (refine (hO _ _ _ ?_).trans ?_; · (repeat rw [World.size_alloc]) <;> omega))))
  refine bodyPost_ret (v := adV A z) (by simp [results, Ybaf.results12, go_sem, r1]) rfl ⟨rfl, ?_⟩
  exact ((((al2 _ _ _).trans (hb.mono (by simp; omega))).setCell (by simp) _).setCell (by simp) _).setCell (by simp) _

/-- The number that an address of four bytes holds. -/
def a4 (a b c d : Int) : Int :=
  bits BinOp.or IntKind.u64 (bits BinOp.or IntKind.u64 (bits BinOp.or IntKind.u64 (bits BinOp.or IntKind.u64 281470681743360 (IntKind.u64.wrap (IntKind.u64.wrap a * 16777216))) (IntKind.u64.wrap (IntKind.u64.wrap b * 65536))) (IntKind.u64.wrap (IntKind.u64.wrap c * 256))) (IntKind.u64.wrap d)

set_option maxHeartbeats 400000 in
theorem from4_any (a b c d : Int) (z : Addr) (w : World) (g : G z w) :
    Calls Ybaf.prog 5 #[.agg #[.int .u8 a, .int .u8 b, .int .u8 c, .int .u8 d]] w fun e w' => e = .returned (adV (a4 a b c d) z) ∧ Below w.heap.size w w' := by
  obtain ⟨hz, hz0⟩ := g
  have h1 : 1 < w.heap.size := World.block_lt_of_cell? w ⟨1, 0, none⟩ hz0
  have h0 : 0 < w.heap.size := by omega
  go_enter Ybaf.func5, Ybaf.ntmps5
  go_wp2
  exact bodyPost_ret (v := adV (a4 a b c d) z) (by simp [results, Ybaf.results5, go_sem, a4]) rfl ⟨rfl, al2 _ _ _⟩
end Go.Proofs.YbulkeiiwFmt

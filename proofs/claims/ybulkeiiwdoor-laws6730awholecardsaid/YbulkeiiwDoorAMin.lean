import Derived.Test.YbulkeiiwDoorRows
import Derived.WalkKit
import Derived.WalkSpells
import Derived.WalkLawsBesides
import Derived.Deep.RegionWith
import Derived.Deep.RegionHeld3
import Derived.BigQuiet
import Derived.Deep.QuietTactic
import Derived.Deep.DrawnRows
import Derived.BigRegion
namespace Go.Proofs.YbulkeiiwDoor
open Go.RowKit

/-- The four bytes of a number, the most significant first. -/
def b0 (u : Int) : Int := u / 16777216 % 256
def b1 (u : Int) : Int := u / 65536 % 256
def b2 (u : Int) : Int := u / 256 % 256
def b3 (u : Int) : Int := u % 256
def a4 (a b c d : Int) : Int :=
  bits BinOp.or IntKind.u64 (bits BinOp.or IntKind.u64 (bits BinOp.or IntKind.u64 (bits BinOp.or IntKind.u64 281470681743360 (IntKind.u64.wrap (IntKind.u64.wrap a * 16777216))) (IntKind.u64.wrap (IntKind.u64.wrap b * 65536))) (IntKind.u64.wrap (IntKind.u64.wrap c * 256))) (IntKind.u64.wrap d)

set_option maxHeartbeats 400000 in
theorem quad_any (u : Int) (w : World) :
    Calls Ybad.prog 7 #[.int .u32 u] w fun e w' => e = .returned (.agg #[.int .u8 (b0 u), .int .u8 (b1 u), .int .u8 (b2 u), .int .u8 (b3 u)]) ∧ Below w.heap.size w w' := by
  go_enter Ybad.func7, Ybad.ntmps7
  go_wp2
  exact bodyPost_ret (v := .agg #[.int .u8 (b0 u), .int .u8 (b1 u), .int .u8 (b2 u), .int .u8 (b3 u)]) (by simp [results, Ybad.results7, go_sem, b0, b1, b2, b3]) rfl ⟨rfl, (Below.refl _ _).alloc (Nat.le_refl _) _⟩
set_option maxHeartbeats 400000 in
theorem from4_any (a b c d : Int) (z : Option Addr) (w : World) (hz : w.cell? ⟨0, 0, none⟩ = some (.pointer z)) (h0 : 0 < w.heap.size) :
    Calls Ybad.prog 6 #[.agg #[.int .u8 a, .int .u8 b, .int .u8 c, .int .u8 d]] w fun e w' => e = .returned (.agg #[.int .u64 0, .int .u64 (a4 a b c d), .pointer z]) ∧ Below w.heap.size w w' := by
  go_enter Ybad.func6, Ybad.ntmps6
  go_wp2
  exact bodyPost_ret (v := .agg #[.int .u64 0, .int .u64 (a4 a b c d), .pointer z]) (by simp [results, Ybad.results6, go_sem, a4]) rfl ⟨rfl, ((Below.refl _ _).alloc (Nat.le_refl _) _).alloc (by simp) _⟩
set_option maxHeartbeats 400000 in
theorem isEmptyP_any (a : Option Addr) (len cap : Nat) (w : World) :
    Calls Ybad.prog 13 #[.agg #[.slice a len cap]] w fun e w' => e = .returned (.bool ((len : Int) == 0)) ∧ Below w.heap.size w w' := by
  go_enter Ybad.func13, Ybad.ntmps13
  go_wp2
  go_ret
  exact ⟨rfl, (Below.refl _ _).alloc (Nat.le_refl _) _⟩
set_option maxHeartbeats 400000 in
theorem isEmptyS_any (a : Option Addr) (len cap : Nat) (w : World) :
    Calls Ybad.prog 24 #[.agg #[.slice a len cap]] w fun e w' => e = .returned (.bool ((len : Int) == 0)) ∧ Below w.heap.size w w' := by
  go_enter Ybad.func24, Ybad.ntmps24
  go_wp2
  go_ret
  exact ⟨rfl, (Below.refl _ _).alloc (Nat.le_refl _) _⟩
set_option maxHeartbeats 400000 in
theorem put_any (u : Int) (b : Nat) (p0 p1 p2 p3 : Value) (w : World) (hb : b < w.heap.size)
    (c0 : w.cell? ⟨b, 0, none⟩ = some p0) (c1 : w.cell? ⟨b, 1, none⟩ = some p1) (c2 : w.cell? ⟨b, 2, none⟩ = some p2) (c3 : w.cell? ⟨b, 3, none⟩ = some p3)
    (f0 : w.frozen? ⟨b, 0, none⟩ = false) (f1 : w.frozen? ⟨b, 1, none⟩ = false) (f2 : w.frozen? ⟨b, 2, none⟩ = false) (f3 : w.frozen? ⟨b, 3, none⟩ = false) :
    Calls Ybad.prog 31 #[.agg #[], .slice (some ⟨b, 0, none⟩) 4 4, .int .u32 u] w fun e w' => e = .returned (.tuple #[]) ∧
      w' = ((((w.setCell ⟨b, 0, none⟩ (.int .u8 (b0 u))).setCell ⟨b, 1, none⟩ (.int .u8 (b1 u))).setCell ⟨b, 2, none⟩ (.int .u8 (b2 u))).setCell ⟨b, 3, none⟩ (.int .u8 (b3 u))).alloc (.cells #[] 87) := by
  go_enter Ybad.func31, Ybad.ntmps31
  go_wp2
  go_end0
  exact ⟨rfl, rfl⟩
/-- What lies in W lies in every later world. -/
theorem kc {W w1 : World} (hb : Below W.heap.size W w1) {a : Addr} {v : Value} (h : W.cell? a = some v) : w1.cell? a = some v := by
  rw [hb.cell (World.block_lt_of_cell? W a h)]; exact h
theorem kf {W w1 : World} (hb : Below W.heap.size W w1) {a : Addr} (h : a.block < W.heap.size) (f : W.frozen? a = false) : w1.frozen? a = false := by
  rw [hb.frozen h]; exact f

theorem hN (w : World) (o : Obj) (k : Nat) (h : k = w.heap.size) : (w.alloc o).heap[k]? = some o := by
  subst h
  show (w.heap.push o)[w.heap.size]? = _
  rw [Array.getElem?_push, if_pos rfl]
theorem hO (w : World) (o : Obj) (k : Nat) (h : k < w.heap.size) : (w.alloc o).heap[k]? = w.heap[k]? := Below.heap_alloc w o k h
theorem hD (w : World) : w.drew.heap = w.heap := rfl

theorem al1 (w : World) (o1 : Obj) : Below w.heap.size w (w.alloc o1) := (Below.refl _ _).alloc (Nat.le_refl _) _
theorem al2 (w : World) (o1 o2 : Obj) : Below w.heap.size w ((w.alloc o1).alloc o2) := (al1 w o1).alloc (by simp) _
theorem al3 (w : World) (o1 o2 o3 : Obj) : Below w.heap.size w (((w.alloc o1).alloc o2).alloc o3) := (al2 w o1 o2).alloc (by simp; omega) _

theorem keep3 {W w1 : World} (hb : Below W.heap.size W w1) {b : Nat} {x y z : Value} {t : TypeId} (h : W.heap[b]? = some (.cells #[x, y, z] t (0, 0))) :
    w1.cell? ⟨b, 0, none⟩ = some x ∧ w1.cell? ⟨b, 1, none⟩ = some y ∧ w1.cell? ⟨b, 2, none⟩ = some z ∧ w1.frozen? ⟨b, 0, none⟩ = false ∧ w1.frozen? ⟨b, 1, none⟩ = false ∧ w1.frozen? ⟨b, 2, none⟩ = false := by
  have hB : b < W.heap.size := by
    rcases Nat.lt_or_ge b W.heap.size with h' | h'
    · exact h'
    · rw [Array.getElem?_eq_none h'] at h; cases h
  have h1 : w1.heap[b]? = some (.cells #[x, y, z] t (0, 0)) := by rw [hb.block b hB]; exact h
  simp [World.cell?, World.frozen?, h1]

/-- The number that an address made of u holds. -/
def ad (u : Int) : Int := a4 (b0 u) (b1 u) (b2 u) (b3 u)

set_option maxHeartbeats 400000 in
theorem from_any (u : Int) (z : Option Addr) (w : World) (hz : w.cell? ⟨0, 0, none⟩ = some (.pointer z)) (h0 : 0 < w.heap.size) :
    Calls Ybad.prog 23 #[.int .u32 u] w fun e w' => e = .returned (.agg #[.int .u64 0, .int .u64 (ad u), .pointer z]) ∧ Below w.heap.size w w' := by
  go_enter Ybad.func23, Ybad.ntmps23
  go_wp2
  go_region_with (go_at_call 31; refine (put_any u (w.heap.size + 1) (.int .u8 0) (.int .u8 0) (.int .u8 0) (.int .u8 0) _ (by simp) (by simp [go_sem]) (by simp [go_sem]) (by simp [go_sem]) (by simp [go_sem]) (by simp [go_sem]) (by simp [go_sem]) (by simp [go_sem]) (by simp [go_sem])).mono ?_; rintro e w' ⟨rfl, rfl⟩)
  all_goals (go_wp2_with (go_at_call 6; refine (from4_any (b0 u) (b1 u) (b2 u) (b3 u) z _ (by simp [go_sem, hz, h0]) (by simp)).mono ?_; rintro e w1 ⟨rfl, hb⟩; obtain ⟨q0, q1, q2, f0, f1, f2⟩ := keep3 hb (b := w.heap.size) (x := .int .u64 0) (y := .int .u64 0) (z := .pointer none) (t := 46) (by repeat (first | rw [hD] | (refine hN _ _ _ ?_; (repeat rw [World.size_alloc]) <;> omega) | (refine (hO _ _ _ ?_).trans ?_; · (repeat rw [World.size_alloc]) <;> omega)))))
  all_goals
    refine bodyPost_ret (v := .agg #[.int .u64 0, .int .u64 (ad u), .pointer z]) (by simp [results, Ybad.results23, go_sem, ad, q0, q1, q2]) rfl ⟨rfl, ?_⟩
    refine Below.setCell (Below.setCell (Below.setCell (Below.trans ?_ (hb.mono (by simp; omega))) (by simp) _) (by simp) _) (by simp) _
    exact ((((Below.refl _ _).alloc (Nat.le_refl _) _).alloc (by simp) _).alloc (by simp; omega) _).drew

set_option maxHeartbeats 400000 in
theorem first_any (u l : Int) (z : Option Addr) (w : World) (hz : w.cell? ⟨0, 0, none⟩ = some (.pointer z)) (h0 : 0 < w.heap.size) :
    Calls Ybad.prog 14 #[.agg #[.int .u32 u, .int .u32 l]] w fun e w' => e = .returned (.agg #[.int .u64 0, .int .u64 (ad u), .pointer z]) ∧ Below w.heap.size w w' := by
  go_enter Ybad.func14, Ybad.ntmps14
  go_wp2_with (go_at_call 23; refine (from_any u z _ (by simp [go_sem, hz, h0]) (by simp)).mono ?_; rintro e w1 ⟨rfl, hb⟩; obtain ⟨q0, q1, q2, f0, f1, f2⟩ := keep3 hb (b := w.heap.size + 1) (x := .int .u64 0) (y := .int .u64 0) (z := .pointer none) (t := 46) (by repeat (first | rw [hD] | (refine hN _ _ _ ?_; (repeat rw [World.size_alloc]) <;> omega) | (refine (hO _ _ _ ?_).trans ?_; · (repeat rw [World.size_alloc]) <;> omega))))
  refine bodyPost_ret (v := .agg #[.int .u64 0, .int .u64 (ad u), .pointer z]) (by simp [results, Ybad.results14, go_sem, q0, q1, q2]) rfl ⟨rfl, ?_⟩
  refine Below.setCell (Below.setCell (Below.setCell (Below.trans ?_ (hb.mono (by simp; omega))) (by simp) _) (by simp) _) (by simp) _
  exact ((Below.refl _ _).alloc (Nat.le_refl _) _).alloc (by simp) _

set_option maxHeartbeats 400000 in
theorem setMin_some (b o : Nat) (len cap : Nat) (u l : Int) (z : Option Addr) (w : World) (hz : w.cell? ⟨0, 0, none⟩ = some (.pointer z)) (h0 : 0 < w.heap.size) (hl : ((len : Int) == 0) = false)
    (ha : b < w.heap.size) (c0 : w.cell? ⟨b, o, none⟩ = some (.int .u32 u)) (c1 : w.cell? ⟨b, o + 1, none⟩ = some (.int .u32 l)) :
    Calls Ybad.prog 15 #[.agg #[.slice (some ⟨b, o, none⟩) len cap]] w fun e w' => e = .returned (.agg #[.int .u64 0, .int .u64 (ad u), .pointer z]) ∧ Below w.heap.size w w' := by
  have hl' : (0 : Int) < (len : Int) := by simp at hl; omega
  go_enter Ybad.func15, Ybad.ntmps15
  go_wp2_with (first | (go_at_call 24; refine (isEmptyS_any _ _ _ _).mono ?_; rintro e w1 ⟨rfl, hb⟩; (have g0 := kc hb (a := ⟨b, o, none⟩) (v := .int .u32 u) (by simp [go_sem, c0, ha])); (have g1 := kc hb (a := ⟨b, o + 1, none⟩) (v := .int .u32 l) (by simp [go_sem, c1, ha])); (have gs := kc hb (a := ⟨w.heap.size, 0, none⟩) (v := .slice (some ⟨b, o, none⟩) len cap) (by simp [go_sem]))))
  have gz := kc hb (a := ⟨0, 0, none⟩) (v := .pointer z) (by simp [go_sem, hz, h0])
  obtain ⟨q0, q1, q2, f0, f1, f2⟩ := keep3 hb (b := w.heap.size + 1) (x := .int .u64 0) (y := .int .u64 0) (z := .pointer none) (t := 46) (by repeat (first | rw [hD] | (refine hN _ _ _ ?_; (repeat rw [World.size_alloc]) <;> omega) | (refine (hO _ _ _ ?_).trans ?_; · (repeat rw [World.size_alloc]) <;> omega)))
  have hs := hb.size
  simp only [World.size_alloc] at hs
  refine (first_any u l z _ gz (by omega)).mono ?_
  rintro e w2 ⟨rfl, hb2⟩
  have r0 := kc hb2 q0
  have r1 := kc hb2 q1
  have r2 := kc hb2 q2
  have s0 := kf hb2 (a := ⟨w.heap.size + 1, 0, none⟩) (by simp; omega) f0
  have s1 := kf hb2 (a := ⟨w.heap.size + 1, 1, none⟩) (by simp; omega) f1
  have s2 := kf hb2 (a := ⟨w.heap.size + 1, 2, none⟩) (by simp; omega) f2
  go_wp2
  refine bodyPost_ret (v := .agg #[.int .u64 0, .int .u64 (ad u), .pointer z]) (by simp [results, Ybad.results15, go_sem, r0, r1, r2]) rfl ⟨rfl, ?_⟩
  refine Below.setCell (Below.setCell (Below.setCell (Below.trans (Below.trans ?_ (hb.mono (by simp; omega))) (hb2.mono (by omega))) (by simp) _) (by simp) _) (by simp) _
  exact ((Below.refl _ _).alloc (Nat.le_refl _) _).alloc (by simp) _

set_option maxHeartbeats 400000 in
theorem setMin_none (a : Option Addr) (cap : Nat) (w : World) :
    Calls Ybad.prog 15 #[.agg #[.slice a 0 cap]] w fun e w' => e = .returned (.agg #[.int .u64 0, .int .u64 0, .pointer none]) ∧ Below w.heap.size w w' := by
  go_enter Ybad.func15, Ybad.ntmps15
  go_wp2_with (first | (go_at_call 24; refine (isEmptyS_any _ _ _ _).mono ?_; rintro e w1 ⟨rfl, hb⟩; obtain ⟨q0, q1, q2, f0, f1, f2⟩ := keep3 hb (b := w.heap.size + 1) (x := .int .u64 0) (y := .int .u64 0) (z := .pointer none) (t := 46) (by repeat (first | rw [hD] | (refine hN _ _ _ ?_; (repeat rw [World.size_alloc]) <;> omega) | (refine (hO _ _ _ ?_).trans ?_; · (repeat rw [World.size_alloc]) <;> omega)))))
  refine bodyPost_ret (v := .agg #[.int .u64 0, .int .u64 0, .pointer none]) (by simp [results, Ybad.results15, go_sem, q0, q1, q2]) rfl ⟨rfl, ?_⟩
  refine Below.setCell (Below.setCell (Below.setCell (Below.trans ?_ (hb.mono (by simp; omega))) (by simp) _) (by simp) _) (by simp) _
  exact ((Below.refl _ _).alloc (Nat.le_refl _) _).alloc (by simp) _

set_option maxHeartbeats 400000 in
theorem pairsMin_none (a : Option Addr) (cap : Nat) (w : World) :
    Calls Ybad.prog 5 #[.agg #[.slice a 0 cap]] w fun e w' => e = .returned (.tuple #[.agg #[.int .u64 0, .int .u64 0, .pointer none], .agg #[.int .u64 0, .int .u64 0, .pointer none]]) ∧ Below w.heap.size w w' := by
  go_enter Ybad.func5, Ybad.ntmps5
  go_wp2_with (first | (go_at_call 13; refine (isEmptyP_any _ _ _ _).mono ?_; rintro e w1 ⟨rfl, hb⟩; obtain ⟨q0, q1, q2, f0, f1, f2⟩ := keep3 hb (b := w.heap.size + 1) (x := .int .u64 0) (y := .int .u64 0) (z := .pointer none) (t := 46) (by repeat (first | rw [hD] | (refine hN _ _ _ ?_; (repeat rw [World.size_alloc]) <;> omega) | (refine (hO _ _ _ ?_).trans ?_; · (repeat rw [World.size_alloc]) <;> omega))); obtain ⟨r0, r1, r2, s0, s1, s2⟩ := keep3 hb (b := w.heap.size + 2) (x := .int .u64 0) (y := .int .u64 0) (z := .pointer none) (t := 46) (by repeat (first | rw [hD] | (refine hN _ _ _ ?_; (repeat rw [World.size_alloc]) <;> omega) | (refine (hO _ _ _ ?_).trans ?_; · (repeat rw [World.size_alloc]) <;> omega)))))
  refine bodyPost_ret (v := .tuple #[.agg #[.int .u64 0, .int .u64 0, .pointer none], .agg #[.int .u64 0, .int .u64 0, .pointer none]]) (by simp [results, Ybad.results5, go_sem, q0, q1, q2, r0, r1, r2]) rfl ⟨rfl, ?_⟩
  refine Below.setCell (Below.setCell (Below.setCell (Below.setCell (Below.setCell (Below.setCell (Below.trans ?_ (hb.mono (by simp; omega))) (by simp) _) (by simp) _) (by simp) _) (by simp; omega) _) (by simp; omega) _) (by simp; omega) _
  exact (((Below.refl _ _).alloc (Nat.le_refl _) _).alloc (by simp) _).alloc (by simp; omega) _

end Go.Proofs.YbulkeiiwDoor

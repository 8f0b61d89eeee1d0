import Derived.Test.YbulkeiiwFmtBCont
import Derived.Test.YbulkeiiwFmtBFmt
import Derived.Lib.QuietBelow
import Derived.OwnWalk
namespace Go.Proofs.YbulkeiiwFmt
open Go.RowKit Go.Sort

/-- Of what was there, block g alone may have turned. -/
structure Only (g : Nat) (w w' : World) : Prop where
  os : w'.os = w.os
  tape : w'.tape = w.tape
  output : w'.output = w.output
  size : w.heap.size ≤ w'.heap.size
  block : ∀ k, k < w.heap.size → k ≠ g → w'.heap[k]? = w.heap[k]?
theorem Only.refl (g : Nat) (w : World) : Only g w w := ⟨rfl, rfl, rfl, Nat.le_refl _, fun _ _ _ => rfl⟩
theorem Only.trans {g : Nat} {a b c : World} (h : Only g a b) (k : Only g b c) : Only g a c :=
  ⟨k.os.trans h.os, k.tape.trans h.tape, k.output.trans h.output, Nat.le_trans h.size k.size, fun i hi hn => (k.block i (Nat.lt_of_lt_of_le hi h.size) hn).trans (h.block i hi hn)⟩
theorem Only.of_below {g : Nat} {w w' : World} (h : Below w.heap.size w w') : Only g w w' := ⟨h.os, h.tape, h.output, h.size, fun k hk _ => h.block k hk⟩
theorem Only.setCell {g : Nat} {w w' : World} (h : Only g w w') (o : Nat) (v : Value) : Only g w (w'.setCell ⟨g, o, none⟩ v) :=
  h.trans ⟨rfl, rfl, rfl, by simp, fun k _ hn => Below.heap_setCell _ _ _ _ hn⟩
theorem Only.below {g B : Nat} {w w' : World} (h : Only g w w') (hB : B ≤ g) (hB' : B ≤ w.heap.size) : Below B w w' := ⟨h.os, h.tape, h.output, h.size, fun k hk => h.block k (by omega) (by omega)⟩
theorem Only.blkL {g b : Nat} {w w' : World} {cs : Array Value} (h : Only g w w') (hn : b ≠ g) (hb : (∀ o, w.cell? ⟨b, o, none⟩ = cs[o]?) ∧ (∀ o, w.frozen? ⟨b, o, none⟩ = false) ∧ b < w.heap.size) :
    (∀ o, w'.cell? ⟨b, o, none⟩ = cs[o]?) ∧ (∀ o, w'.frozen? ⟨b, o, none⟩ = false) ∧ b < w'.heap.size := by
  have e := h.block b hb.2.2 hn
  exact ⟨fun o => by rw [← hb.1 o]; simp [World.cell?, e], fun o => by rw [← hb.2.1 o]; simp [World.frozen?, e], Nat.lt_of_lt_of_le hb.2.2 h.size⟩

/-- A buffer of fifteen bytes, n of them written. -/
structure Buf (g n : Nat) (w0 w : World) : Prop where
  lt : g < w.heap.size
  all : ∀ x, x < 15 → ∃ v, w.cell? ⟨g, x, none⟩ = some v
  fz : ∀ x, w.frozen? ⟨g, x, none⟩ = false
  by8 : ∀ x, x < n → ∃ c : UInt8, w.cell? ⟨g, x, none⟩ = some (.int .u8 (c.toNat : Int))
  only : Only g w0 w
theorem Buf.step {g n : Nat} {w0 w : World} (h : Buf g n w0 w) (hn : n < 15) (c : UInt8) : Buf g (n + 1) w0 (w.setCell ⟨g, n, none⟩ (.int .u8 (c.toNat : Int))) :=
  ⟨by simpa using h.lt, fun x hx => cell_set_some (h.all x hx), fun x => by simpa using h.fz x, fun x hx => by
    by_cases e : x = n
    · subst e; exact ⟨c, cell_set_same (h.all _ hn)⟩
    · rw [cell_set_ne (Or.inr (by omega))]; exact h.by8 x (by omega), h.only.setCell _ _⟩
theorem Buf.later {g n : Nat} {w0 w w' : World} (h : Buf g n w0 w) (hb : Below w.heap.size w w') : Buf g n w0 w' :=
  ⟨Nat.lt_of_lt_of_le h.lt hb.size, fun x hx => by rw [hb.cell (p := ⟨g, x, none⟩) h.lt]; exact h.all x hx, fun x => by rw [hb.frozen (p := ⟨g, x, none⟩) h.lt]; exact h.fz x,
    fun x hx => by rw [hb.cell (p := ⟨g, x, none⟩) h.lt]; exact h.by8 x hx, h.only.trans (Only.of_below hb)⟩
theorem Buf.from {g n : Nat} {w0 w : World} (h : Buf g n w0 w) : Buf g n w w := ⟨h.lt, h.all, h.fz, h.by8, Only.refl _ _⟩

set_option maxHeartbeats 1000000 in
theorem dec_any (g n : Nat) (w0 w : World) (h : Buf g n w0 w) (hn : n + 3 ≤ 15) (x : Int) (h0 : 0 ≤ x) (h1 : x ≤ 255) :
    Calls Ybaf.prog 33 #[.slice (some ⟨g, 0, none⟩) n 15, .int .u8 x] w fun e w' => ∃ n', e = .returned (.slice (some ⟨g, 0, none⟩) n' 15) ∧ n' ≤ n + 3 ∧ Buf g n' w0 w' := by
  obtain ⟨v0, hv0⟩ := h.all n (by omega)
  obtain ⟨v1, hv1⟩ := h.all (n + 1) (by omega)
  obtain ⟨v2, hv2⟩ := h.all (n + 1 + 1) (by omega)
  have hz0 := h.fz n
  have hz1 := h.fz (n + 1)
  have hz2 := h.fz (n + 1 + 1)
  have hlt := h.lt
  have hlt1 : g < w.heap.size + 1 := by omega
  have hlt2 : g < w.heap.size + 1 + 1 := by omega
  have q1 : x / 100 < 16 := by omega
  have q2 : x / 10 % 10 < 16 := by omega
  have q3 : x % 10 < 16 := by omega
  have r1 : n < 15 := by omega
  have r2 : n + 1 < 15 := by omega
  have r3 : n + 1 + 1 < 15 := by omega
  have hH : Hid _ := h
  clear h
  by_cases hx : 100 ≤ x
  · have hx' : 10 ≤ x := by omega
    go_enter Ybaf.func33, Ybaf.ntmps33
    go_wp2
    go_ret
    exact ⟨_, rfl, by omega, (((hH.out.step r1 _).step r2 _).step r3 _).later (al3 _ _ _ _)⟩
  · by_cases hx' : 10 ≤ x
    · go_enter Ybaf.func33, Ybaf.ntmps33
      go_wp2
      go_ret
      exact ⟨_, rfl, by omega, ((hH.out.step r1 _).step r2 _).later (al2 _ _ _)⟩
    · go_enter Ybaf.func33, Ybaf.ntmps33
      go_wp2
      go_ret
      exact ⟨_, rfl, by omega, (hH.out.step r1 _).later (al1 _ _)⟩

set_option maxHeartbeats 400000 in
theorem v4_any (A : Int) (z : Addr) (i : Int) (w : World) (hi : i = 0 ∨ i = 1 ∨ i = 2 ∨ i = 3) :
    Calls Ybaf.prog 34 #[adV A z, .int .u8 i] w fun e w' => ∃ x : Int, e = .returned (.int .u8 x) ∧ 0 ≤ x ∧ x ≤ 255 ∧ Below w.heap.size w w' := by
  rcases hi with rfl | rfl | rfl | rfl
  all_goals
    go_enter Ybaf.func34, Ybaf.ntmps34
    go_wp2
    go_ret
    exact ⟨_, rfl, by omega, by omega, al1 _ _⟩

end Go.Proofs.YbulkeiiwFmt

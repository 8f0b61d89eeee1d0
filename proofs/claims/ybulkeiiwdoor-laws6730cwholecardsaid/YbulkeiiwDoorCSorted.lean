import Derived.Test.YbulkeiiwDoorCSearch
import Derived.Ground.NamesProg
import Derived.Ground.Names2Prog
import Derived.Shelf.Lay
import Derived.Shelf.Slices.Clone
import Derived.Shelf.Slices.Equal
import Derived.Shelf.Slices.In.SortNone
import Derived.Sort.OwnSorted
import Derived.Sort.Grow
import Derived.Sort.EveryDepth
import Derived.Lib.OwnBridge
import Derived.WalkSmall
namespace Go.Proofs
open Go.Shelf
shelf_lay Lays2.n16 Nm2 16 at Ybad as Ybad.laysClone
shelf_lay Lays.n190 Nm 190 at Ybad as Ybad.laysSort
shelf_lay Lays.n193 Nm 193 at Ybad as Ybad.laysEqual
end Go.Proofs
namespace Go.Proofs.YbulkeiiwDoor
open Go.RowKit Go.Shelf Go.Sort

theorem getD_range (S : Nat → ByteArray) (n j : Nat) (hj : j < n) : ((List.range n).map S).getD j ByteArray.empty = S j := by
  simp [List.getD, List.getElem?_map, List.getElem?_range hj]

/-- slices.Clone. -/
theorem clone_any (S : Nat → ByteArray) (n c : Nat) (ro : Option Addr) (w : World) (hn : n ≤ 65536) (hS : Strs S n ro w) :
    Calls Ybad.prog 9 #[.slice ro n c] w fun e w' => ∃ r' c', e = .returned (.slice r' n c') ∧ n ≤ c' ∧ Strs S n r' w' ∧ Below w.heap.size w w' := by
  by_cases h0 : n = 0
  · subst h0
    cases ro with
    | none =>
      refine (show Calls Ybad.prog 9 #[.slice none 0 c] w fun e w' => e = .returned (.slice none 0 0) ∧ w' = w from Any.slices_Clone_string_nil Ybad.laysClone 0 c w).mono ?_
      rintro e w' ⟨rfl, rfl⟩
      exact ⟨none, 0, rfl, Nat.le_refl _, fun h => by omega, Below.refl _ _⟩
    | some a =>
      refine (show Calls Ybad.prog 9 #[.slice (some a) 0 c] w _ from Any.slices_Clone_string_zero Ybad.laysClone a c w).mono ?_
      rintro e w' ⟨v', rfl, hown, _, hb⟩
      rcases hown.2 with ⟨rfl, _⟩ | ⟨g, cap, cur, rfl, _⟩
      · exact ⟨none, 0, rfl, Nat.le_refl _, fun h => by omega, hb⟩
      · exact ⟨_, cap, rfl, Nat.zero_le _, fun h => by omega, hb⟩
  · obtain ⟨b, o, rfl, hb, hc⟩ := hS (by omega)
    refine (show Calls Ybad.prog 9 #[.slice (some ⟨b, o, none⟩) n c] w _ from Any.slices_Clone_string Ybad.laysClone b o n c ((List.range n).map S) w (by simp) (by omega) (fun j hj => by
      rw [getD_range S n j (by simpa using hj)]; exact hc j (by simpa using hj))).mono ?_
    rintro e w' ⟨v', rfl, hown, _, hbw⟩
    rcases hown.2 with ⟨_, h⟩ | ⟨g, cap, cur, rfl, hg, hh, hcap, _, _, htk⟩
    · omega
    · refine ⟨_, cap, rfl, hcap, fun _ => ⟨g, 0, rfl, ?_, fun i hi => ?_⟩, hbw⟩
      · rcases Nat.lt_or_ge g w'.heap.size with h | h
        · exact h
        · rw [Array.getElem?_eq_none h] at hh; cases hh
      · have e1 : cur[i]? = some (Value.string (S i)) := by
          have := congrArg (·[i]?) htk
          simp only [List.getElem?_take, Nat.mul_one, hi, if_true, Array.getElem?_toList] at this
          rw [this]
          simp [hi]
        simp [World.cell?, hh, e1]

/-- slices.Equal of a row and its like. -/
theorem equal_any (S : Nat → ByteArray) (n c c' : Nat) (r1 r2 : Option Addr) (w : World) (hn : n ≤ 65536) (h1 : Strs S n r1 w) (h2 : Strs S n r2 w) :
    Calls Ybad.prog 12 #[.slice r1 n c, .slice r2 n c'] w fun e w' => e = .returned (.bool true) ∧ ∃ q, w' = w.drewN q := by
  by_cases h0 : n = 0
  · subst h0
    refine (show Calls Ybad.prog 12 #[.slice r1 0 c, .slice r2 0 c'] w _ from Any.slices_Equal_string_empty Ybad.laysEqual r1 r2 c 0 c' w (by omega)).mono ?_
    rintro e w' ⟨rfl, rfl⟩
    exact ⟨by simp, 0, rfl⟩
  · obtain ⟨b, o, rfl, hb, hc⟩ := h1 (by omega)
    obtain ⟨b', o', rfl, hb', hc'⟩ := h2 (by omega)
    refine (show Calls Ybad.prog 12 #[.slice (some ⟨b, o, none⟩) n c, .slice (some ⟨b', o', none⟩) n c'] w _ from Any.slices_Equal_string Ybad.laysEqual b o n c b' o' n c' ((List.range n).map S) ((List.range n).map S) w (by simp) (by simp) (by omega) (by omega)
      (fun j hj => by rw [getD_range S n j (by simpa using hj)]; exact hc j (by simpa using hj)) (fun j hj => by rw [getD_range S n j (by simpa using hj)]; exact hc' j (by simpa using hj))).mono ?_
    rintro e w' ⟨rfl, q, rfl⟩
    exact ⟨by simp, q, rfl⟩

theorem sort_any (blk cap : Nat) (zs : List (List UInt8)) (w : World) (hH : Holds encStr w blk 0 zs.toArray) (hblk : blk < w.heap.size) (hsz : zs.length < 4611686018427387904) :
    Calls Ybad.prog 16 #[.slice (some ⟨blk, 0, none⟩) zs.length cap] w fun e w' => e = .returned (.tuple #[]) ∧ ∃ n os, w' = grow (putRow encStr (Sort.ahead w n) blk 0 (zs.mergeSort fun x y => decide (x ≤ y)).toArray) os :=
  calls_of_every_depth fun D => AnyS.slices_Sort_string_alone Ybad.laysSort D blk 0 cap zs w hH hblk hsz
theorem sort_none (p : Option Addr) (cap : Nat) (w : World) : Calls Ybad.prog 16 #[.slice p 0 cap] w fun e w' => e = .returned (.tuple #[]) ∧ w' = w :=
  calls_of_every_depth fun D => AnyS.slices_Sort_string_none_alone Ybad.laysSort D p cap w

theorem clone_own (S : Nat → ByteArray) (n c b o : Nat) (w : World) (hn : n ≤ 65536) (hc : ∀ i, i < n → w.cell? ⟨b, o + i, none⟩ = some (.string (S i))) :
    Calls Ybad.prog 9 #[.slice (some ⟨b, o, none⟩) n c] w fun e w' => ∃ g cap, e = .returned (.slice (some ⟨g, 0, none⟩) n cap) ∧ w.heap.size ≤ g ∧ g < w'.heap.size ∧ n ≤ cap ∧ Holds encStr w' g 0 ((List.range n).map fun i => (S i).data.toList).toArray ∧ Below w.heap.size w w' := by
  refine (show Calls Ybad.prog 9 #[.slice (some ⟨b, o, none⟩) n c] w _ from Any.slices_Clone_string Ybad.laysClone b o n c ((List.range n).map S) w (by simp) (by omega) (fun j hj => by
    rw [getD_range S n j (by simpa using hj)]; exact hc j (by simpa using hj))).mono ?_
  rintro e w' ⟨v', rfl, hown, hnn, hbw⟩
  have e1 : ((((List.range n).map S).take n).map Value.string) = ((List.range n).map fun i => (S i).data.toList).map encStr := by
    rw [List.take_of_length_le (by simp)]
    simp [Function.comp_def]
  rw [e1] at hown
  obtain ⟨g, cap, rfl, hbg, hgl, hncap, hcm, hlen, hH⟩ := Lib.holds_of_ownsRow hown hnn
  exact ⟨g, cap, rfl, hbg, hgl, hncap, hH, hbw⟩

def T (S : Nat → ByteArray) (n : Nat) : List (List UInt8) := ((List.range n).map fun i => (S i).data.toList).mergeSort fun x y => decide (x ≤ y)
theorem T_len (S : Nat → ByteArray) (n : Nat) : (T S n).length = n := by unfold T; simp [List.length_mergeSort]
theorem T_asc (S : Nat → ByteArray) (n i j : Nat) (hij : i ≤ j) (hj : j < n) : (T S n)[i]! ≤ (T S n)[j]! := by
  have hp : (T S n).Pairwise fun x y => decide (x ≤ y) = true := List.pairwise_mergeSort (fun a b c h1 h2 => by simp only [decide_eq_true_eq] at *; exact List.le_trans h1 h2)
    (fun a b => by simpa using List.le_total a b) _
  have hl := T_len S n
  by_cases e : i = j
  · subst e; exact List.le_refl _
  · have := List.pairwise_iff_getElem.1 hp i j (by omega) (by omega) (by omega)
    rw [getElem!_pos _ i (by omega), getElem!_pos _ j (by omega)]
    simpa using this
/-- The sorted strings. -/
def srt (S : Nat → ByteArray) (n : Nat) (i : Nat) : ByteArray := ⟨((T S n)[i]!).toArray⟩
theorem srt_asc (S : Nat → ByteArray) (n : Nat) : Asc (srt S n) n := fun i j hij hj => by
  show ((T S n)[i]!).toArray.toList ≤ ((T S n)[j]!).toArray.toList
  simpa using T_asc S n i j hij hj

set_option maxHeartbeats 1000000 in
set_option maxRecDepth 100000 in
/-- The sorted copy. -/
theorem sorted_any (S : Nat → ByteArray) (n c : Nat) (ro : Option Addr) (w : World) (hn : n ≤ 65536) (hS : Strs S n ro w) :
    Calls Ybad.prog 8 #[.slice ro n c] w fun e w' => ∃ r' c', e = .returned (.slice r' n c') ∧ n ≤ c' ∧ Strs (srt S n) n r' w' ∧ Below w.heap.size w w' := by
  have hS' : Hid _ := hS
  clear hS
  by_cases h0 : n = 0
  · subst h0
    go_enter Ybad.func8, Ybad.ntmps8
    go_wp2_with fail
    refine (clone_any S 0 c ro w (by omega) (fun h => by omega)).mono ?_
    rintro e w1 ⟨r', c', rfl, hc', _, hb⟩
    go_wp2_with fail
    refine (sort_none r' c' w1).mono ?_
    rintro e w2 ⟨rfl, rfl⟩
    go_wp2
    go_ret
    exact ⟨r', c', rfl, hc', fun h => by omega, hb⟩
  · obtain ⟨b, o, rfl, hbl, hc⟩ := hS'.out (by omega)
    have hc' : Hid _ := hc
    clear hc
    go_enter Ybad.func8, Ybad.ntmps8
    go_wp2_with fail
    refine (clone_own S n c b o w hn hc'.out).mono ?_
    rintro e w1 ⟨g, cap, rfl, hg, hg2, hcap, hH, hb⟩
    have X : Hid (Holds encStr w1 g 0 ((List.range n).map fun i => (S i).data.toList).toArray ∧ Below w.heap.size w w1) := ⟨hH, hb⟩
    clear hH hb hc'
    go_wp2_with fail
    have hso := sort_any g cap ((List.range n).map fun i => (S i).data.toList) w1 X.out.1 hg2 (by simp; omega)
    rw [show ((List.range n).map fun i => (S i).data.toList).length = n by simp] at hso
    refine hso.mono ?_
    clear hso
    rintro e w2 ⟨rfl, q, os, rfl⟩
    have hH2 : Holds encStr (grow (putRow encStr (Sort.ahead w1 q) g 0 (T S n).toArray) os) g 0 (T S n).toArray :=
      holds_grow encStr _ os g 0 _ (by simpa [putRow, mapBlock, Sort.ahead] using hg2) (holds_putRow encStr _ g 0 _ _ (holds_ahead encStr w1 q g 0 _ X.out.1) (by simp [T_len]))
    have hB2 : Below w.heap.size w (grow (putRow encStr (Sort.ahead w1 q) g 0 (T S n).toArray) os) := X.out.2.grown (grownBy_sorted _) X.out.2.size (fun j hj => by cases hj; exact hg)
    have Y : Hid (Holds encStr (grow (putRow encStr (Sort.ahead w1 q) g 0 (T S n).toArray) os) g 0 (T S n).toArray ∧ Below w.heap.size w (grow (putRow encStr (Sort.ahead w1 q) g 0 (T S n).toArray) os)) := ⟨hH2, hB2⟩
    have hsz : g < (grow (putRow encStr (Sort.ahead w1 q) g 0 (T S n).toArray) os).heap.size := World.block_lt_of_cell? _ _ (hH2 0 (by simp [T_len]; omega)).1
    clear hH2 hB2 X
    rw [show ((List.range n).map fun i => (S i).data.toList).mergeSort (fun x y => decide (x ≤ y)) = T S n from rfl]
    generalize grow (putRow encStr (Sort.ahead w1 q) g 0 (T S n).toArray) os = w3 at Y hsz ⊢
    go_wp2
    go_ret
    refine ⟨_, cap, rfl, hcap, fun _ => ⟨g, 0, rfl, hsz, fun i hi => ?_⟩, Y.out.2⟩
    have := (Y.out.1 i (by simp [T_len]; exact hi)).1
    simpa [srt] using this
end Go.Proofs.YbulkeiiwDoor

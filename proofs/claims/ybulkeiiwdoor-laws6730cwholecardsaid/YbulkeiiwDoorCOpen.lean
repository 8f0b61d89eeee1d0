import Derived.Test.YbulkeiiwDoorCSorted
import Derived.ProofKit
import Derived.Deep.Slices
import Derived.Deep.Strs
import Derived.SizedLaws
namespace Go.Proofs.YbulkeiiwDoor
open Go.ChangeShapes Go.WideShapes Go.ChangeAt Go.RowKit Go.Deep

theorem cellsC9 : Ybad.prog.cellsOf 9 = 1 := by kernel_rfl

theorem wAll_memC {H : Type} {P : Program} {e : TypeId} {d : DataW H} {x : Nat} (hx : x ∈ d.weights P e) : ∀ (l : List (DataW H)), d ∈ l → x ∈ DataW.weightsAll P e l
  | [], h => by cases h
  | a :: r, h => by
    unfold DataW.weightsAll
    rcases List.mem_cons.1 h with h1 | h1
    · subst h1; exact List.mem_append_left _ hx
    · exact List.mem_append_right _ (wAll_memC hx r h1)

/-- Every sorted string is one of the strings. -/
theorem srt_size (S : Nat → ByteArray) (n B : Nat) (h : ∀ i, i < n → (S i).size ≤ B) (i : Nat) (hi : i < n) : (srt S n i).size ≤ B := by
  have hl := T_len S n
  have hm : (T S n)[i]! ∈ T S n := by rw [getElem!_pos _ i (by omega)]; exact List.getElem_mem _
  have hm2 : (T S n)[i]! ∈ (List.range n).map fun i => (S i).data.toList := (List.mergeSort_perm _ _).mem_iff.1 hm
  obtain ⟨k, hk, e⟩ := List.mem_map.1 hm2
  have e2 : (srt S n i).size = (S k).size := by
    show ((T S n)[i]!).toArray.size = _
    rw [← e]; simp
  rw [e2]; exact h k (List.mem_range.1 hk)

section
variable {H : Type} {enc : TypeId × Value → H} {W : World}
theorem open_strs {fuel : Nat} {a0 : Option Addr} {len0 cap0 : Nat} {y : DataW H × List MemPlace} (h : DataW.trod enc Ybad.prog W 0 (fun _ => true) true fuel 53 [.slice a0 len0 cap0] = some y) (hw : ∀ x ∈ y.1.weights Ybad.prog 53, x ≤ reachBytes) :
    ∃ S : Nat → ByteArray, Strs S len0 a0 W ∧ ∀ i, i < len0 → (S i).size ≤ 140737488355328 := by
  rcases open_slice Ybad.underlying53 h with ⟨hcs, _⟩ | ⟨a, len, cap, m, k, D, Pl, hcs, _, hl, _, hm, hy, hx⟩
  · simp only [List.cons.injEq, and_true] at hcs
    cases hcs
    exact ⟨fun _ => ⟨#[]⟩, fun h => by omega, fun i hi => by omega⟩
  · simp only [List.cons.injEq, and_true] at hcs
    cases hcs
    simp only [if_true] at hm
    subst hm
    have hd : y.1 = .slice ((List.range len0).map D) ((List.range (m - len0)).map fun j => D (len0 + j)) := by rw [hy]
    rw [hd] at hw
    have one : ∀ i, i < len0 → ∃ s : ByteArray, W.cell? (a.add i) = some (.string s) ∧ s.size ≤ 140737488355328 := fun i hi => by
      obtain ⟨cs', h1, h2⟩ := hx i (by omega)
      rw [cellsC9] at h1
      obtain ⟨_, hlen', hc⟩ := World.cells?_some h1
      match cs', hlen' with
      | [c0], _ =>
        obtain ⟨s, e, hD, _⟩ := DataW.trod_string Ybad.underlying9 h2
        have e0 := hc 0 (by omega)
        rw [add_add] at e0
        simp only [List.cons.injEq, and_true] at e
        subst e
        refine ⟨s, by simpa using e0, ?_⟩
        have hDi : D i = .lit (.string s.data.toList) := congrArg Prod.fst hD
        have := hw s.data.toList.length (by
          unfold DataW.weights
          rw [Ybad.underlying53]
          refine List.mem_cons_of_mem _ (List.mem_append_left _ (wAll_memC (d := D i) ?_ _ (List.mem_map.2 ⟨i, List.mem_range.2 hi, rfl⟩)))
          rw [hDi]
          unfold DataW.weights
          simp)
        simp [reachBytes] at this
        omega
    obtain ⟨p, hp⟩ := choose_lt one
    refine ⟨p, fun h0 => ?_, fun i hi => (hp i hi).2⟩
    obtain ⟨b, off, spot⟩ := a
    have hspot : spot = none := by have := World.cell?_spot (hp 0 (by omega)).1; simpa [Addr.add] using this
    subst hspot
    simp only [add_plain] at hp
    exact ⟨b, off, rfl, World.block_lt_of_cell? _ _ (hp 0 (by omega)).1, fun i hi => (hp i hi).1⟩
end
end Go.Proofs.YbulkeiiwDoor

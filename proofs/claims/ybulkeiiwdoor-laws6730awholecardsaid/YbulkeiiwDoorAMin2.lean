import Derived.Test.YbulkeiiwDoorAMin
namespace Go.Proofs.YbulkeiiwDoor
open Go.RowKit

set_option maxHeartbeats 400000 in
theorem pairsMin_some (b o : Nat) (len cap : Nat) (u l : Int) (sv : Value) (m : Int) (mp : Option Addr) (z : Option Addr) (w : World) (hz : w.cell? ⟨0, 0, none⟩ = some (.pointer z)) (hl : ((len : Int) == 0) = false)
    (ha : b < w.heap.size) (c0 : w.cell? ⟨b, o, none⟩ = some (.int .u32 u)) (c1 : w.cell? ⟨b, o + 1, none⟩ = some (.int .u32 l)) (c2 : w.cell? ⟨b, o + 2, none⟩ = some sv)
    (hm : ∀ W, Below w.heap.size w W → Calls Ybad.prog 15 #[.agg #[sv]] W fun e w' => e = .returned (.agg #[.int .u64 0, .int .u64 m, .pointer mp]) ∧ Below W.heap.size W w') :
    Calls Ybad.prog 5 #[.agg #[.slice (some ⟨b, o, none⟩) len cap]] w fun e w' => e = .returned (.tuple #[.agg #[.int .u64 0, .int .u64 (ad u), .pointer z], .agg #[.int .u64 0, .int .u64 m, .pointer mp]]) ∧ Below w.heap.size w w' := by
  have hl' : (0 : Int) < (len : Int) := by simp at hl; omega
  have hl'' : 0 < len := by omega
  have hM : Hid _ := hm
  clear hm
  go_enter Ybad.func5, Ybad.ntmps5
  go_wp2_with (first | (go_at_call 13; refine (isEmptyP_any _ _ _ _).mono ?_; rintro e w1 ⟨rfl, hb⟩; go_must (have hB : Below w.heap.size w w1 := (al3 _ _ _ _).trans (hb.mono (by simp; omega))); (have g0 := kc hB c0); (have g1 := kc hB c1); (have g2 := kc hB c2); (have gz := kc hB hz); (have gs := kc hb (a := ⟨w.heap.size, 0, none⟩) (v := .slice (some ⟨b, o, none⟩) len cap) (by simp [go_sem]));  obtain ⟨q0, q1, q2, f0, f1, f2⟩ := keep3 hb (b := w.heap.size + 1) (x := .int .u64 0) (y := .int .u64 0) (z := .pointer none) (t := 46) (by repeat (first | rw [hD] | (refine hN _ _ _ ?_; (repeat rw [World.size_alloc]) <;> omega) | (refine (hO _ _ _ ?_).trans ?_; · (repeat rw [World.size_alloc]) <;> omega))); obtain ⟨r0, r1, r2, s0, s1, s2⟩ := keep3 hb (b := w.heap.size + 2) (x := .int .u64 0) (y := .int .u64 0) (z := .pointer none) (t := 46) (by repeat (first | rw [hD] | (refine hN _ _ _ ?_; (repeat rw [World.size_alloc]) <;> omega) | (refine (hO _ _ _ ?_).trans ?_; · (repeat rw [World.size_alloc]) <;> omega)))))
  have hs := hb.size
  simp only [World.size_alloc] at hs
  have hM1 : Hid (∀ W, Below w1.heap.size w1 W → Calls Ybad.prog 15 #[.agg #[sv]] W fun e w' => e = .returned (.agg #[.int .u64 0, .int .u64 m, .pointer mp]) ∧ Below W.heap.size W w') :=
    fun W hW => hM.out W (Below.trans hB (hW.mono (by omega)))
  clear hM c0 c1 c2 hz
  have n1 : ¬ w.heap.size + 1 = b := by omega
  have n3 : ¬ w.heap.size + 1 + 1 = w.heap.size := by omega
  have n2 : ¬ w.heap.size + 1 + 1 = b := by omega
  go_region_held3 (fun w' => w'.cell? ⟨w.heap.size, 0, none⟩ = some (.slice (some ⟨b, o, none⟩) len cap) ∧ w'.cell? ⟨b, o, none⟩ = some (.int .u32 u) ∧ w'.cell? ⟨b, o + 1, none⟩ = some (.int .u32 l) ∧ w'.cell? ⟨b, o + 2, none⟩ = some sv)
    (((try dsimp only); (repeat' apply And.intro) <;> (go_keep; done)))
    (first | (go_at_call 14; refine (first_any u l z _ (by simp [go_sem, gz]) (by simp; omega)).mono ?_; rintro e w2 ⟨rfl, hb2⟩; (have gs2 := kc hb2 gs); (have g02 := kc hb2 g0); (have g12 := kc hb2 g1); (have g22 := kc hb2 g2); (have hb2' : Below w1.heap.size w1 w2 := (Below.drew (Below.refl _ _)).trans hb2)) | (go_at_call 15; go_loud (refine (hM1.out _ hb2').mono ?_); rintro e w3 ⟨rfl, hb3⟩; (have gs3 := kc hb3 gs2); (have g03 := kc hb3 g02); (have g13 := kc hb3 g12); (have g23 := kc hb3 g22); (have hb3' : Below w1.heap.size w1 w3 := hb2'.trans (hb3.mono hb2'.size)); (have q0' := kc hb3' q0); (have q1' := kc hb3' q1); (have q2' := kc hb3' q2); (have r0' := kc hb3' r0); (have r1' := kc hb3' r1); (have r2' := kc hb3' r2); (have f0' := kf hb3' (a := ⟨w.heap.size + 1, 0, none⟩) (by simp; omega) f0); (have f1' := kf hb3' (a := ⟨w.heap.size + 1, 1, none⟩) (by simp; omega) f1); (have f2' := kf hb3' (a := ⟨w.heap.size + 1, 2, none⟩) (by simp; omega) f2); (have s0' := kf hb3' (a := ⟨w.heap.size + 2, 0, none⟩) (by simp; omega) s0); (have s1' := kf hb3' (a := ⟨w.heap.size + 2, 1, none⟩) (by simp; omega) s1); (have s2' := kf hb3' (a := ⟨w.heap.size + 2, 2, none⟩) (by simp; omega) s2)))
  go_wp2
  refine bodyPost_ret (v := .tuple #[.agg #[.int .u64 0, .int .u64 (ad u), .pointer z], .agg #[.int .u64 0, .int .u64 m, .pointer mp]]) (by simp [results, Ybad.results5, go_sem, q0', q1', q2', r0', r1', r2']) rfl ⟨rfl, ?_⟩
  exact (((((((hB.trans (hb3'.mono (by omega))).setCell (by simp) _).setCell (by simp) _).setCell (by simp) _).setCell (by simp; omega) _).setCell (by simp; omega) _).setCell (by simp; omega) _)
end Go.Proofs.YbulkeiiwDoor

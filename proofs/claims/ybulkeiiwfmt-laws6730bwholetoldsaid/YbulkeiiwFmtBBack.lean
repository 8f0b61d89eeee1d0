import Derived.Test.YbulkeiiwFmtBRoute
namespace Go.Proofs.YbulkeiiwFmt
open Go.RowKit Go.Sort

/-- What 'routeBackTo' answers. -/
def back (p q : Nat → Int) (nI : Nat → ByteArray) (s : Int) (inN : ByteArray) (n : Nat) : Int :=
  if best p q s n < 0 then 0 else if ((nI (best p q s n).toNat).toList == inN.toList) = true then 1 else 2

set_option maxRecDepth 100000 in
set_option maxHeartbeats 1000000 in
theorem back_any (R n : Nat) (p q : Nat → Int) (nI : Nat → ByteArray) (s : Int) (inN : ByteArray) (z : Addr) (w : World) (g : G z w) (hn : n ≤ 1048576) (hR : R < w.heap.size)
    (hr : ∀ i, i < n → Nine w R (i * 9) (rtC (p i) (q i) z (nI i))) (hp : ∀ i, i < n → 0 ≤ p i ∧ p i < 4294967296) (hq : ∀ i, i < n → 0 ≤ q i ∧ q i ≤ 33) (s0 : 0 ≤ s) (s1 : s < 4294967296) :
    Calls Ybaf.prog 7 #[hsV R n, adV (281470681743360 + s) z, .string inN] w fun e w' => e = .returned (.int .i8 (back p q nI s inN n)) ∧ Below w.heap.size w w' := by
  have hC := fun W (hW : Below w.heap.size w W) => route_some R n p q nI s z W (g.later hW) hn (Nat.lt_of_lt_of_le hR hW.size) (fun i hi => (hr i hi).below hW hR) hp hq s0 s1
  have hCC : Hid _ := hC
  clear hC hr hp hq
  by_cases hneg : best p q s n < 0
  · have hbk : back p q nI s inN n = 0 := by simp [back, hneg]
    rw [hbk]
    go_enter Ybaf.func7, Ybaf.ntmps7
    go_wp2_with fail
    refine (hCC.out _ (al2 _ _ _)).mono ?_
    rintro e w1 ⟨h1, _, hb1⟩
    obtain ⟨v, rfl⟩ := h1 hneg
    have hB : Hid (Below w.heap.size w w1) := (al2 _ _ _).trans (hb1.mono (by simp; omega))
    clear h1 hb1
    go_wp2
    go_ret
    exact ⟨rfl, hB.out.alloc hB.out.size _⟩
  · obtain ⟨j, hj⟩ : ∃ j : Nat, best p q s n = (j : Int) := ⟨(best p q s n).toNat, by omega⟩
    cases hnm : ((nI j).toList == inN.toList)
    rotate_left
    · have hbk : back p q nI s inN n = 1 := by simp only [back, hj, Int.toNat_natCast, hnm]; simp
      rw [hbk]
      go_enter Ybaf.func7, Ybaf.ntmps7
      go_wp2_with fail
      refine (hCC.out _ (al2 _ _ _)).mono ?_
      rintro e w1 ⟨_, h1, hb1⟩
      obtain rfl := h1 (by omega)
      have hB : Hid (Below w.heap.size w w1) := (al2 _ _ _).trans (hb1.mono (by simp; omega))
      rw [hj, Int.toNat_natCast]
      clear h1 hb1 hbk hj hneg
      go_wp2
      go_ret
      exact ⟨rfl, hB.out.alloc hB.out.size _⟩
    · have hbk : back p q nI s inN n = 2 := by simp only [back, hj, Int.toNat_natCast, hnm]; simp
      rw [hbk]
      go_enter Ybaf.func7, Ybaf.ntmps7
      go_wp2_with fail
      refine (hCC.out _ (al2 _ _ _)).mono ?_
      rintro e w1 ⟨_, h1, hb1⟩
      obtain rfl := h1 (by omega)
      have hB : Hid (Below w.heap.size w w1) := (al2 _ _ _).trans (hb1.mono (by simp; omega))
      rw [hj, Int.toNat_natCast]
      clear h1 hb1 hbk hj hneg
      go_wp2
      go_ret
      exact ⟨rfl, hB.out.alloc hB.out.size _⟩
end Go.Proofs.YbulkeiiwFmt

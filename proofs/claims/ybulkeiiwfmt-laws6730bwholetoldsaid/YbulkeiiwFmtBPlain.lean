import Derived.Test.YbulkeiiwFmtBRts
namespace Go.Proofs.YbulkeiiwFmt
open Go.RowKit

/-- The routes of the law: four bytes, the bits, the name's number. -/
structure In6 where
  a : Nat → Int
  b : Nat → Int
  c : Nat → Int
  d : Nat → Int
  t : Nat → Int
  f : Nat → Int
def In6.p (r : In6) (i : Nat) : Int := num (r.a i) (r.b i) (r.c i) (r.d i)
def In6.q (r : In6) (i : Nat) : Int := qq (r.t i)
def In6.nI (r : In6) (i : Nat) : ByteArray := nm (r.f i)
def In6.ok (r : In6) (s : Int) (i : Nat) : Bool := okR (r.a i) (r.b i) (r.c i) (r.d i) (r.t i) s
def In6.tb (r : In6) (i : Nat) : Int := r.t i % 40

theorem cont_ok (r : In6) (s : Int) (i : Nat) : cont (r.p i) (r.q i) s = r.ok s i := by
  unfold cont In6.p In6.q In6.ok okR qq
  by_cases h : r.t i % 40 ≤ 32
  · have h' : 0 < r.t i % 40 + 1 := by omega
    simp only [h, if_true, h', decide_true, Bool.true_and]
    rw [show r.t i % 40 + 1 - 1 = r.t i % 40 by omega]
  · simp [h]
theorem q_ok (r : In6) (s : Int) (i : Nat) (h : r.ok s i = true) : r.q i = r.tb i + 1 := by
  unfold In6.ok okR at h
  simp only [Bool.and_eq_true, decide_eq_true_eq] at h
  simp [In6.q, qq, In6.tb, h.1]

/-- The greatest bits among the first k that hold s. -/
def mx (r : In6) (s : Int) : Nat → Int
  | 0 => -1
  | k + 1 => if r.ok s k = true ∧ mx r s k < r.tb k then r.tb k else mx r s k

theorem best_succ (p q : Nat → Int) (s : Int) (k : Nat) : best p q s (k + 1) = if cont (p k) (q k) s = true ∧ (best p q s k < 0 ∨ q (best p q s k).toNat < q k) then (k : Int) else best p q s k := rfl
theorem mx_succ (r : In6) (s : Int) (k : Nat) : mx r s (k + 1) = if r.ok s k = true ∧ mx r s k < r.tb k then r.tb k else mx r s k := rfl

theorem best_mx (r : In6) (s : Int) : ∀ k : Nat, (best r.p r.q s k = -1 ∧ mx r s k = -1 ∧ ∀ i, i < k → r.ok s i = false) ∨
    ∃ j : Nat, j < k ∧ best r.p r.q s k = (j : Int) ∧ r.ok s j = true ∧ mx r s k = r.tb j ∧ (∀ i, i < k → r.ok s i = true → r.tb i ≤ r.tb j) ∧ ∀ i, i < j → r.ok s i = true → r.tb i < r.tb j
  | 0 => Or.inl ⟨rfl, rfl, fun i hi => by omega⟩
  | k + 1 => by
    have htb : ∀ i, 0 ≤ r.tb i := fun i => by unfold In6.tb; omega
    have ih := best_mx r s k
    rw [best_succ, mx_succ, cont_ok]
    cases hk : r.ok s k with
    | false =>
      rw [if_neg (by simp), if_neg (by simp)]
      rcases ih with ⟨h1, h2, h3⟩ | ⟨j, h0, h1, h2, h3, h4, h5⟩
      · refine Or.inl ⟨h1, h2, fun i hi => ?_⟩
        by_cases e : i = k
        · subst e; exact hk
        · exact h3 i (by omega)
      · refine Or.inr ⟨j, by omega, h1, h2, h3, fun i hi ho => ?_, h5⟩
        by_cases e : i = k
        · subst e; rw [hk] at ho; cases ho
        · exact h4 i (by omega) ho
    | true =>
      rcases ih with ⟨h1, h2, h3⟩ | ⟨j, h0, h1, h2, h3, h4, h5⟩
      · rw [h1, h2, if_pos ⟨rfl, Or.inl (by omega)⟩, if_pos ⟨rfl, by have := htb k; omega⟩]
        refine Or.inr ⟨k, by omega, rfl, hk, rfl, fun i hi ho => ?_, fun i hi ho => ?_⟩
        · by_cases e : i = k
          · subst e; exact Int.le_refl _
          · rw [h3 i (by omega)] at ho; cases ho
        · rw [h3 i hi] at ho; cases ho
      · rw [h1, h3, Int.toNat_natCast, q_ok r s j h2, q_ok r s k hk]
        by_cases hlt : r.tb j < r.tb k
        · rw [if_pos ⟨rfl, Or.inr (by omega)⟩, if_pos ⟨rfl, hlt⟩]
          refine Or.inr ⟨k, by omega, rfl, hk, rfl, fun i hi ho => ?_, fun i hi ho => ?_⟩
          · by_cases e : i = k
            · subst e; exact Int.le_refl _
            · have := h4 i (by omega) ho; omega
          · have := h4 i hi ho; omega
        · rw [if_neg (by omega), if_neg (by omega)]
          refine Or.inr ⟨j, by omega, rfl, h2, rfl, fun i hi ho => ?_, h5⟩
          by_cases e : i = k
          · subst e; omega
          · exact h4 i (by omega) ho
theorem mx_bd (r : In6) (s : Int) (k : Nat) : -1 ≤ mx r s k ∧ mx r s k ≤ 39 := by
  rcases best_mx r s k with ⟨_, h, _⟩ | ⟨j, _, _, _, h, _⟩
  · omega
  · rw [h]; unfold In6.tb; omega

/-- No route among the first k is the one that is sought. -/
def Miss (r : In6) (s : Int) (n k : Nat) : Prop := ∀ i, i < k → ¬ (r.ok s i = true ∧ r.tb i = mx r s n)
theorem back_hit (r : In6) (s : Int) (inN : ByteArray) (n k : Nat) (hk : k < n) (hm : Miss r s n k) (h1 : r.ok s k = true) (h2 : r.tb k = mx r s n) :
    back r.p r.q r.nI s inN n = if ((r.nI k).toList == inN.toList) = true then 1 else 2 := by
  rcases best_mx r s n with ⟨_, _, h⟩ | ⟨j, h0, hb, ho, hx, h4, h5⟩
  · rw [h k hk] at h1; cases h1
  · have : j = k := by
      rcases Nat.lt_trichotomy j k with hlt | heq | hgt
      · exact absurd ⟨ho, hx.symm⟩ (hm j hlt)
      · exact heq
      · have := h5 k hgt h1; omega
    subst this
    unfold back
    rw [hb, if_neg (by omega), Int.toNat_natCast]
theorem back_none (r : In6) (s : Int) (inN : ByteArray) (n : Nat) (h : mx r s n < 0) : back r.p r.q r.nI s inN n = 0 := by
  rcases best_mx r s n with ⟨hb, _, _⟩ | ⟨j, _, _, _, hx, _⟩
  · unfold back; rw [hb]; rfl
  · rw [hx] at h; unfold In6.tb at h; omega
theorem not_miss (r : In6) (s : Int) (n : Nat) (h : 0 ≤ mx r s n) (hm : Miss r s n n) : False := by
  rcases best_mx r s n with ⟨_, hx, _⟩ | ⟨j, h0, _, ho, hx, _⟩
  · omega
  · exact hm j h0 ⟨ho, hx.symm⟩
end Go.Proofs.YbulkeiiwFmt

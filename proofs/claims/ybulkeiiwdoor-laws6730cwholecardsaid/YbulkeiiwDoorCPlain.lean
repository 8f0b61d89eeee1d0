import Derived.Test.YbulkeiiwDoorRows
import Derived.WalkKit
import Derived.Sort.Walk0
import Derived.Lib.Walk
namespace Go.Proofs.YbulkeiiwDoor
open Go.RowKit

/-- How many of the first k places satisfy f. -/
def cnt (f : Nat → Bool) : Nat → Nat
  | 0 => 0
  | k + 1 => if f k = true then cnt f k + 1 else cnt f k
theorem cnt_succ (f : Nat → Bool) (k : Nat) : cnt f (k + 1) = if f k = true then cnt f k + 1 else cnt f k := rfl
theorem cnt_le (f : Nat → Bool) : ∀ k, cnt f k ≤ k
  | 0 => Nat.le_refl _
  | k + 1 => by have := cnt_le f k; rw [cnt_succ]; split <;> omega
theorem cnt_all (f : Nat → Bool) : ∀ k, (∀ t, t < k → f t = true) → cnt f k = k
  | 0, _ => rfl
  | k + 1, h => by rw [cnt_succ, cnt_all f k (fun t ht => h t (by omega)), if_pos (h k (by omega))]
/-- f holds of the places from a to b and of no other below n. -/
theorem cnt_run (f : Nat → Bool) (a b : Nat) (hab : a ≤ b) : ∀ n, b ≤ n → (∀ t, t < a → f t = false) → (∀ t, a ≤ t → t < b → f t = true) → (∀ t, b ≤ t → t < n → f t = false) → cnt f n = b - a
  | 0, h, _, _, _ => by simp [cnt]; omega
  | n + 1, h, h0, h1, h2 => by
    rw [cnt_succ]
    by_cases e : b = n + 1
    · by_cases e2 : a ≤ n
      · rw [if_pos (h1 n e2 (by omega))]
        have := cnt_run f a n e2 n (Nat.le_refl _) h0 (fun t h3 h4 => h1 t h3 (by omega)) (fun t h3 h4 => by omega)
        omega
      · have ea : a = n + 1 := by omega
        subst ea
        rw [h0 n (by omega)]
        have := cnt_run f n n (Nat.le_refl _) n (Nat.le_refl _) (fun t ht => h0 t (by omega)) (fun t h3 h4 => by omega) (fun t h3 h4 => by omega)
        simp; omega
    · rw [h2 n (by omega) (by omega)]
      have := cnt_run f a b hab n (by omega) h0 h1 (fun t h3 h4 => h2 t h3 (by omega))
      simp; omega

/-- The order of the strings, and 'begins with'. -/
def ltB (x y : ByteArray) : Bool := Op.bytesLess x.toList y.toList
def hpB (p x : ByteArray) : Bool := p.data.toList.isPrefixOf x.data.toList
theorem ltB_eq (x y : ByteArray) : ltB x y = decide (x.data.toList < y.data.toList) := by unfold ltB; rw [bytesLess_eq, Lib.toList_data, Lib.toList_data]
/-- n strings in ascending order. -/
def Asc (S : Nat → ByteArray) (n : Nat) : Prop := ∀ i j, i ≤ j → j < n → (S i).data.toList ≤ (S j).data.toList
def lo (S : Nat → ByteArray) (p : ByteArray) (n : Nat) : Nat := cnt (fun i => ltB (S i) p) n
def pre (S : Nat → ByteArray) (p : ByteArray) (n : Nat) : Nat := cnt (fun i => hpB p (S i)) n

theorem lt_mono {S : Nat → ByteArray} {n : Nat} (h : Asc S n) (p : ByteArray) {i j : Nat} (hij : i ≤ j) (hj : j < n) (hl : ltB (S j) p = true) : ltB (S i) p = true := by
  rw [ltB_eq, decide_eq_true_eq] at hl ⊢
  exact List.lt_of_le_of_lt (h i j hij hj) hl

/-- A string that begins with p is not less than p. -/
theorem pre_not_lt : ∀ (p x : List UInt8), p.isPrefixOf x = true → ¬ x < p
  | [], x, _ => by simp
  | a :: p, [], h => by simp at h
  | a :: p, b :: x, h => by
    simp only [List.isPrefixOf, Bool.and_eq_true, beq_iff_eq] at h
    rw [h.1, List.cons_lt_cons_iff]
    rintro (h1 | ⟨_, h1⟩)
    · exact absurd h1 (by simp)
    · exact pre_not_lt p x h.2 h1
/-- Between p and a string that begins with p all strings begin with p. -/
theorem pre_between : ∀ (p x y : List UInt8), p ≤ x → x ≤ y → p.isPrefixOf y = true → p.isPrefixOf x = true
  | [], _, _, _, _, _ => by simp
  | a :: p, x, [], _, _, h => by simp at h
  | a :: p, [], y, h, _, _ => by simp at h
  | a :: p, b :: x, c :: y, h1, h2, h => by
    simp only [List.isPrefixOf, Bool.and_eq_true, beq_iff_eq] at h ⊢
    obtain ⟨rfl, h⟩ := h
    rw [List.cons_le_cons_iff] at h1 h2
    have hab : a = b := by
      rcases h1 with h1 | h1
      · rcases h2 with h2 | h2
        · exact absurd (UInt8.lt_trans h1 h2) (by simp)
        · exact absurd h1 (by rw [h2.1]; simp)
      · exact h1.1
    subst hab
    refine ⟨rfl, pre_between p x y ?_ ?_ h⟩
    · rcases h1 with h1 | h1
      · exact absurd h1 (by simp)
      · exact h1.2
    · rcases h2 with h2 | h2
      · exact absurd h2 (by simp)
      · exact h2.2
end Go.Proofs.YbulkeiiwDoor

import Derived.Test.YbulkeiiwDoorCPlain
import Derived.WalkSpells
import Derived.WalkLawsBesides
import Derived.BigQuiet
import Derived.Deep.LoopGhost
namespace Go.Proofs.YbulkeiiwDoor
open Go.RowKit

/-- n strings lie behind a slice's address. -/
def Strs (S : Nat → ByteArray) (n : Nat) (ro : Option Addr) (w : World) : Prop := 0 < n → ∃ b o, ro = some ⟨b, o, none⟩ ∧ b < w.heap.size ∧ ∀ i, i < n → w.cell? ⟨b, o + i, none⟩ = some (.string (S i))
theorem Strs.later {S : Nat → ByteArray} {n : Nat} {ro : Option Addr} {w w' : World} (h : Strs S n ro w) (hb : Below w.heap.size w w') : Strs S n ro w' := fun h0 => by
  obtain ⟨b, o, h1, h2, h3⟩ := h h0
  exact ⟨b, o, h1, Nat.lt_of_lt_of_le h2 hb.size, fun i hi => by rw [hb.cell (p := ⟨b, o + i, none⟩) h2]; exact h3 i hi⟩

theorem less_any (x y : ByteArray) (w : World) : Calls Ybad.prog 28 #[.string x, .string y] w fun e w' => e = .returned (.bool (ltB x y)) ∧ w' = w := by
  go_enter Ybad.func28, Ybad.ntmps28
  go_wp2
  go_ret
  exact ⟨rfl, rfl⟩
theorem nan_any (x : ByteArray) (w : World) : Calls Ybad.prog 29 #[.string x] w fun e w' => e = .returned (.bool false) ∧ w' = w := by
  go_enter Ybad.func29, Ybad.ntmps29
  go_wp2
  go_ret
  exact ⟨by simp, rfl⟩

def fnd (S : Nat → ByteArray) (p : ByteArray) (n : Nat) : Bool := decide (lo S p n < n) && ((S (lo S p n)).toList == p.toList)

set_option maxHeartbeats 1000000 in
set_option maxRecDepth 100000 in
theorem search_any (S : Nat → ByteArray) (n c : Nat) (ro : Option Addr) (p : ByteArray) (w : World) (hn : n ≤ 65536) (hS : Strs S n ro w) (hA : Asc S n) :
    Calls Ybad.prog 18 #[.slice ro n c, .string p] w fun e w' => e = .returned (.tuple #[.int .i64 (lo S p n), .bool (fnd S p n)]) ∧ w' = w := by
  have hS' : Hid _ := hS
  have hA' : Hid _ := hA
  clear hS hA
  go_enter Ybad.func18, Ybad.ntmps18
  go_wp2
  go_loopg [7, 8] n (fun g s7 s8 wr => ∃ l h : Nat, s7 = .int .i64 l ∧ s8 = .int .i64 h ∧ l ≤ h ∧ h ≤ n ∧ h - l ≤ g ∧ wr = w ∧ (∀ t, t < l → ltB (S t) p = true) ∧ (∀ t, h ≤ t → t < n → ltB (S t) p = false))
  case atStart => exact ⟨0, n, rfl, rfl, Nat.zero_le _, Nat.le_refl _, by omega, rfl, fun t ht => by omega, fun t h1 h2 => by omega⟩
  case round =>
    obtain ⟨l, h, rfl, rfl, hlh, hin, hg, rfl, h1, h2⟩ := hrel
    have I : Hid ((∀ t, t < l → ltB (S t) p = true) ∧ (∀ t, h ≤ t → t < n → ltB (S t) p = false)) := ⟨h1, h2⟩
    clear h1 h2
    by_cases hlt : l < h
    · obtain ⟨b, o, rfl, hb, hc⟩ := hS'.out (by omega)
      have cm := hc ((l + h) / 2) (by omega)
      clear hc
      cases hyx : ltB (S ((l + h) / 2)) p with
      | true =>
        have Y : Hid _ := hyx
        clear hyx
        generalize hym : S ((l + h) / 2) = y at cm Y
        have Ym : Hid _ := hym
        clear hym
        go_wp2_with (first | (go_at_call 28; refine (less_any _ _ _).mono ?_; rintro e w' ⟨rfl, rfl⟩; rw [Y.out]) | (go_at_call 29; refine (nan_any _ _).mono ?_; rintro e w' ⟨rfl, rfl⟩))
        go_roundg (h - ((l + h) / 2 + 1))
        case measure => omega
        case rel =>
          refine ⟨(l + h) / 2 + 1, h, by rw [show ((l : Int) + (h : Int)) / 2 + 1 = (((l + h) / 2 + 1 : Nat) : Int) by omega], rfl, by omega, hin, Nat.le_refl _, rfl, fun t ht => ?_, I.out.2⟩
          exact lt_mono hA'.out p (show t ≤ (l + h) / 2 by omega) (by omega) (by rw [Ym.out]; exact Y.out)
      | false =>
        have Y : Hid _ := hyx
        clear hyx
        generalize hym : S ((l + h) / 2) = y at cm Y
        have Ym : Hid _ := hym
        clear hym
        go_wp2_with (first | (go_at_call 28; refine (less_any _ _ _).mono ?_; rintro e w' ⟨rfl, rfl⟩; rw [Y.out]) | (go_at_call 29; refine (nan_any _ _).mono ?_; rintro e w' ⟨rfl, rfl⟩))
        go_roundg ((l + h) / 2 - l)
        case measure => omega
        case rel =>
          refine ⟨l, (l + h) / 2, rfl, by rw [show ((l : Int) + (h : Int)) / 2 = (((l + h) / 2 : Nat) : Int) by omega], by omega, by omega, Nat.le_refl _, rfl, I.out.1, fun t ht htn => ?_⟩
          cases hq : ltB (S t) p with
          | false => rfl
          | true => have := lt_mono hA'.out p ht htn hq; rw [Ym.out, Y.out] at this; cases this
    · obtain rfl : h = l := by omega
      have E : Hid (lo S p n = h) := cnt_run _ 0 h (Nat.zero_le _) n hin (fun t ht => by omega) (fun t _ ht => I.out.1 t ht) (fun t h3 h4 => I.out.2 t h3 h4)
      by_cases hhn : h < n
      · obtain ⟨b, o, rfl, hb, hc⟩ := hS'.out (by omega)
        have cl := hc h hhn
        clear hc
        cases hyx : ((S h).toList == p.toList) with
        | true =>
          have F : Hid (fnd S p n = true) := by show _ = _; unfold fnd; rw [E.out, hyx]; simp [hhn]
          generalize S h = y at cl hyx
          go_wp2_with (first | (go_at_call 28; refine (less_any _ _ _).mono ?_; rintro e w' ⟨rfl, rfl⟩) | (go_at_call 29; refine (nan_any _ _).mono ?_; rintro e w' ⟨rfl, rfl⟩))
          go_ret2
          rw [E.out, F.out]
          exact ⟨rfl, rfl⟩
        | false =>
          have F : Hid (fnd S p n = false) := by show _ = _; unfold fnd; rw [E.out, hyx]; simp
          generalize S h = y at cl hyx
          go_wp2_with (first | (go_at_call 28; refine (less_any _ _ _).mono ?_; rintro e w' ⟨rfl, rfl⟩) | (go_at_call 29; refine (nan_any _ _).mono ?_; rintro e w' ⟨rfl, rfl⟩))
          go_ret2
          rw [E.out, F.out]
          exact ⟨rfl, rfl⟩
      · have F : Hid (fnd S p n = false) := by show _ = _; unfold fnd; rw [E.out]; simp [hhn]
        go_wp2_with (first | (go_at_call 28; refine (less_any _ _ _).mono ?_; rintro e w' ⟨rfl, rfl⟩) | (go_at_call 29; refine (nan_any _ _).mono ?_; rintro e w' ⟨rfl, rfl⟩))
        go_ret2
        rw [E.out, F.out]
        exact ⟨rfl, rfl⟩
end Go.Proofs.YbulkeiiwDoor

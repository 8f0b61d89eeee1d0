import Derived.Test.YbulkeiiwDoorCSearch
import Derived.Ground.NamesProg
import Derived.Ground.Names2Prog
import Derived.Shelf.Lay
import Derived.Shelf.Strings.Prefix
namespace Go.Proofs
open Go.Shelf
shelf_lay Lays.n99 Nm 99 at Ybad as Ybad.laysHas
end Go.Proofs
namespace Go.Proofs.YbulkeiiwDoor
open Go.RowKit Go.Shelf

theorem has_any (s p : ByteArray) (w : World) : Calls Ybad.prog 21 #[.string s, .string p] w fun e w' => e = .returned (.bool (hpB p s)) ∧ w' = w := Any.strings_HasPrefix Ybad.laysHas s p w

/-- The span's own comparison. -/
theorem cmp_any (s p : ByteArray) (w : World) : Calls Ybad.prog 20 #[.string s, .string p] w fun e w' => e = .returned (.int .i64 (if hpB p s = true then -1 else 1)) ∧ w' = w := by
  cases hh : hpB p s with
  | true =>
    go_enter Ybad.func20, Ybad.ntmps20
    go_wp2_with (go_at_call 21; refine (has_any _ _ _).mono ?_; rintro e w' ⟨rfl, rfl⟩; rw [hh])
    go_ret
    exact ⟨by simp, rfl⟩
  | false =>
    go_enter Ybad.func20, Ybad.ntmps20
    go_wp2_with (go_at_call 21; refine (has_any _ _ _).mono ?_; rintro e w' ⟨rfl, rfl⟩; rw [hh])
    go_ret
    exact ⟨by simp, rfl⟩

set_option maxHeartbeats 1000000 in
set_option maxRecDepth 100000 in
theorem searchFunc_any (S : Nat → ByteArray) (n c : Nat) (ro : Option Addr) (p : ByteArray) (w : World) (hn : n ≤ 65536) (hS : Strs S n ro w) (hA : ∀ i j, i ≤ j → j < n → hpB p (S j) = true → hpB p (S i) = true) :
    Calls Ybad.prog 19 #[.slice ro n c, .string p, .func (.func 20) #[] #[]] w fun e w' => e = .returned (.tuple #[.int .i64 (pre S p n), .bool false]) ∧ w' = w := by
  have hS' : Hid _ := hS
  have hA' : Hid _ := hA
  clear hS hA
  go_enter Ybad.func19, Ybad.ntmps19
  go_wp2
  go_loopg [9, 10] n (fun g s7 s8 wr => ∃ l h : Nat, s7 = .int .i64 l ∧ s8 = .int .i64 h ∧ l ≤ h ∧ h ≤ n ∧ h - l ≤ g ∧ wr = w ∧ (∀ t, t < l → hpB p (S t) = true) ∧ (∀ t, h ≤ t → t < n → hpB p (S t) = false))
  case atStart => exact ⟨0, n, rfl, rfl, Nat.zero_le _, Nat.le_refl _, by omega, rfl, fun t ht => by omega, fun t h1 h2 => by omega⟩
  case round =>
    obtain ⟨l, h, rfl, rfl, hlh, hin, hg, rfl, h1, h2⟩ := hrel
    have I : Hid ((∀ t, t < l → hpB p (S t) = true) ∧ (∀ t, h ≤ t → t < n → hpB p (S t) = false)) := ⟨h1, h2⟩
    clear h1 h2
    by_cases hlt : l < h
    · obtain ⟨b, o, rfl, hb, hc⟩ := hS'.out (by omega)
      have cm := hc ((l + h) / 2) (by omega)
      clear hc
      cases hyx : hpB p (S ((l + h) / 2)) with
      | true =>
        generalize hym : S ((l + h) / 2) = y at cm hyx
        have Ym : Hid _ := hym
        have Yp : Hid _ := hyx
        have Y : Hid ((if hpB p y = true then (-1 : Int) else 1) = -1) := by show _ = _; rw [hyx]; rfl
        clear hym hyx
        go_wp2_with (go_at_call 20; refine (cmp_any _ _ _).mono ?_; rintro e w' ⟨rfl, rfl⟩; rw [Y.out])
        go_roundg (h - ((l + h) / 2 + 1))
        case measure => omega
        case rel =>
          refine ⟨(l + h) / 2 + 1, h, by rw [show ((l : Int) + (h : Int)) / 2 + 1 = (((l + h) / 2 + 1 : Nat) : Int) by omega], rfl, by omega, hin, Nat.le_refl _, rfl, fun t ht => ?_, I.out.2⟩
          exact hA'.out t ((l + h) / 2) (by omega) (by omega) (by rw [Ym.out]; exact Yp.out)
      | false =>
        generalize hym : S ((l + h) / 2) = y at cm hyx
        have Ym : Hid _ := hym
        have Yp : Hid _ := hyx
        have Y : Hid ((if hpB p y = true then (-1 : Int) else 1) = 1) := by show _ = _; rw [hyx]; rfl
        clear hym hyx
        go_wp2_with (go_at_call 20; refine (cmp_any _ _ _).mono ?_; rintro e w' ⟨rfl, rfl⟩; rw [Y.out])
        go_roundg ((l + h) / 2 - l)
        case measure => omega
        case rel =>
          refine ⟨l, (l + h) / 2, rfl, by rw [show ((l : Int) + (h : Int)) / 2 = (((l + h) / 2 : Nat) : Int) by omega], by omega, by omega, Nat.le_refl _, rfl, I.out.1, fun t ht htn => ?_⟩
          cases hq : hpB p (S t) with
          | false => rfl
          | true => have := hA'.out _ t ht htn hq; rw [Ym.out, Yp.out] at this; cases this
    · obtain rfl : h = l := by omega
      have E : Hid (pre S p n = h) := cnt_run _ 0 h (Nat.zero_le _) n hin (fun t ht => by omega) (fun t _ ht => I.out.1 t ht) (fun t h3 h4 => I.out.2 t h3 h4)
      by_cases hhn : h < n
      · obtain ⟨b, o, rfl, hb, hc⟩ := hS'.out (by omega)
        have cl := hc h hhn
        clear hc
        have Y : Hid ((if hpB p (S h) = true then (-1 : Int) else 1) = 1) := by show _ = _; rw [I.out.2 h (Nat.le_refl _) hhn]; rfl
        generalize S h = y at cl Y
        go_wp2_with (go_at_call 20; refine (cmp_any _ _ _).mono ?_; rintro e w' ⟨rfl, rfl⟩; rw [Y.out])
        go_ret2
        rw [E.out]
        exact ⟨rfl, rfl⟩
      · go_wp2
        go_ret2
        rw [E.out]
        exact ⟨rfl, rfl⟩
end Go.Proofs.YbulkeiiwDoor

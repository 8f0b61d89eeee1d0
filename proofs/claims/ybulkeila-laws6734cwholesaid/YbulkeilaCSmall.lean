/-
  The small ones: a nil cache; NewCache; slices.Equal at two slices that read alike.
-/
import Derived.Test.YbulkeilaCGet
import Derived.Test.YbulkeilaCPut
namespace Go.Proofs.Ybulkeila
open Go Go.Deep Go.RowKit

theorem keep_nil (p o t d : Value) (w : World) : Calls Yba.prog 4 #[.pointer none, p, o, t, d] w fun x w' => x = .returned (.bool false) ∧ w' = w := by
  go_enter_defers Yba.func4, Yba.ntmps4
  go_wp2_with fail
  exact ⟨_, results_tmp rfl _ _ _, rfl, rfl⟩

theorem new_map (W : World) : (Instr.makeMap 81 none).run Yba.prog W = .ok (.map (some W.heap.size)) (W.alloc (.map #[] 0)) := by kernel_rfl

set_option maxRecDepth 100000 in
set_option maxHeartbeats 3200000 in
theorem new_inner (bud : Int) (w : World) : Calls Yba.prog 12 #[.int .i64 bud] w fun x w' => x = .returned (.pointer (some ⟨w.heap.size + 1, 0, none⟩)) ∧ w' = (w.alloc (.map #[] 0)).alloc (.cells #[.int .i64 bud, .int .i64 0, .map (some w.heap.size), .slice none 0 0] 84) := by
  have hmm := new_map
  go_enter Yba.func12, Yba.ntmps12
  go_wp2_with fail
  go_ret
  exact ⟨rfl, rfl⟩

theorem inf70 : ((Yba.prog.info? 70).bind (fun i => i.zero)).map (fun v => match v with | .agg cs => (cs.size, cs[0]?) | _ => (0, none)) = some (198, some (.int .i32 0)) := by kernel_rfl

theorem zero70 : ∃ cs : Array Value, cs.size = 198 ∧ cs[0]? = some (.int .i32 0) ∧ ∀ w : World, (zeroValue 70).run Yba.prog w = .ok (.agg cs) w := by
  obtain ⟨v, hv, hh⟩ := Option.map_eq_some_iff.1 inf70
  obtain ⟨i, hi, hz⟩ := Option.bind_eq_some_iff.1 hv
  cases v with
  | agg cs =>
    simp only [Prod.mk.injEq] at hh
    exact ⟨cs, hh.1, hh.2, fun w => by simp [zeroValue, typeInfo, hi, hz]⟩
  | _ => simp at hh

set_option maxRecDepth 100000 in
set_option maxHeartbeats 3200000 in
theorem new_cache (bud : Int) (w : World) : Calls Yba.prog 6 #[.int .i64 bud] w fun x w' => x = .returned (.pointer (some ⟨w.heap.size + 2, 0, none⟩)) ∧ ∃ cs : Array Value, cs[0]? = some (.int .i32 0) ∧ cs[2]? = some (.pointer (some ⟨w.heap.size + 1, 0, none⟩)) ∧
    w' = ((w.alloc (.map #[] 0)).alloc (.cells #[.int .i64 bud, .int .i64 0, .map (some w.heap.size), .slice none 0 0] 84)).alloc (.cells cs 70) := by
  obtain ⟨cs, hs, h0, hz⟩ := zero70
  have h3 : ¬ (cs.size < 3) := by omega
  go_enter Yba.func6, Yba.ntmps6
  go_wp2_with fail
  refine (new_inner bud _).mono ?_
  rintro x w' ⟨rfl, rfl⟩
  go_wp2_with fail
  go_ret
  exact ⟨rfl, cs.setIfInBounds 2 (.pointer (some ⟨w.heap.size + 1, 0, none⟩)), by rw [Array.getElem?_setIfInBounds_ne (by omega)]; exact h0, by rw [Array.getElem?_setIfInBounds_self_of_lt (by omega)], rfl⟩

/-- A slice of bytes, readable. -/
def Bytes (a : Option Addr) (n : Nat) (f : Nat → Int) (w : World) : Prop := 0 < n → ∃ b o, a = some ⟨b, o, none⟩ ∧ ∀ i, i < n → w.cell? ⟨b, o + i, none⟩ = some (.int .u8 (f i))

set_option maxRecDepth 100000 in
set_option maxHeartbeats 3200000 in
theorem equal_any (a1 a2 : Option Addr) (n c1 c2 : Nat) (f : Nat → Int) (w : World) (h1 : Bytes a1 n f w) (h2 : Bytes a2 n f w) (hn : n ≤ 1073741824) :
    Calls Yba.prog 5 #[.slice a1 n c1, .slice a2 n c2] w fun x w' => x = .returned (.bool true) ∧ Below w.heap.size w w' := by
  have H1 : Hid (Bytes a1 n f w) := h1
  have H2 : Hid (Bytes a2 n f w) := h2
  have hn1 : (n : Int) ≤ 1073741824 := by omega
  clear h1 h2
  go_enter Yba.func5, Yba.ntmps5
  go_wp2_with fail
  go_loopw [13] (fun s wr => ∃ i m : Nat, i ≤ n ∧ s = .int .i64 i ∧ wr = w.drewN m) (fun s _ => n - (intOf s).toNat)
  case atStart => exact ⟨0, 0, by omega, rfl, rfl⟩
  case round =>
    obtain ⟨i, m, hi, rfl, rfl⟩ := hrel
    by_cases hin : i < n
    · obtain ⟨b, o, rfl, hb⟩ := H1.out (by omega)
      obtain ⟨b', o', rfl, hb'⟩ := H2.out (by omega)
      have x1 : (w.drewN m).cell? ⟨b, o + i, none⟩ = some (.int .u8 (f i)) := hb i hin
      have x2 : (w.drewN m).cell? ⟨b', o' + i, none⟩ = some (.int .u8 (f i)) := hb' i hin
      have i0 : (0 : Int) ≤ (i : Int) := by omega
      have i1 : (i : Int) < (n : Int) := by omega
      clear hb hb'
      obtain ⟨w2, hw2⟩ : ∃ w2, w.drewN m = w2 := ⟨_, rfl⟩
      have HW2 : Hid (w.drewN m = w2) := hw2
      rw [hw2] at x1 x2 ⊢
      clear hw2
      go_wp2_with fail
      go_quiet (fail)
      go_wp2_with fail
      go_roundw
      case rel => exact ⟨i + 1, m + nq, by omega, by simp, by rw [← HW2.out]; simp⟩
      case measure => simp [intOf]; omega
    · have hin' : ¬ ((i : Int) < (n : Int)) := by omega
      go_wp2_with fail
      go_ret
      exact ⟨rfl, ⟨rfl, rfl, rfl, Nat.le_refl _, fun _ _ => rfl⟩⟩
end Go.Proofs.Ybulkeila

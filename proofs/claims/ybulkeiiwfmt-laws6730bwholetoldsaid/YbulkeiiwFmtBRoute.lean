import Derived.Test.YbulkeiiwFmtBErr
import Derived.Lib.QuietBelow
namespace Go.Proofs.YbulkeiiwFmt
open Go.RowKit Go.Sort

/-- The host, as a value. -/
abbrev hsV (R n : Nat) : Value := .agg #[.slice none 0 0, .map none, .slice (some ⟨R, 0, none⟩) n n, .slice none 0 0, .slice none 0 0, .map none]
abbrev hsC (R n : Nat) : Array Value := #[.slice none 0 0, .map none, .slice (some ⟨R, 0, none⟩) n n, .slice none 0 0, .slice none 0 0, .map none]
/-- A route's nine cells. -/
abbrev rtC (p q : Int) (z : Addr) (nI : ByteArray) : Array Value := #[.int .u64 0, .int .u64 (281470681743360 + p), .pointer (some z), .int .u8 q, .string nI, .bool false, .int .u64 0, .int .u64 0, .pointer none]
abbrev rt0 : Array Value := #[.int .u64 0, .int .u64 0, .pointer none, .int .u8 0, .string ⟨#[]⟩, .bool false, .int .u64 0, .int .u64 0, .pointer none]

/-- Nine cells at a place. -/
structure Nine (w : World) (b o : Nat) (cs : Array Value) : Prop where
  c0 : w.cell? ⟨b, o, none⟩ = cs[0]?
  c1 : w.cell? ⟨b, o + 1, none⟩ = cs[1]?
  c2 : w.cell? ⟨b, o + 2, none⟩ = cs[2]?
  c3 : w.cell? ⟨b, o + 3, none⟩ = cs[3]?
  c4 : w.cell? ⟨b, o + 4, none⟩ = cs[4]?
  c5 : w.cell? ⟨b, o + 5, none⟩ = cs[5]?
  c6 : w.cell? ⟨b, o + 6, none⟩ = cs[6]?
  c7 : w.cell? ⟨b, o + 7, none⟩ = cs[7]?
  c8 : w.cell? ⟨b, o + 8, none⟩ = cs[8]?
theorem Nine.below {w w' : World} {b o B : Nat} {cs : Array Value} (h : Nine w b o cs) (hb : Below B w w') (hB : b < B) : Nine w' b o cs :=
  ⟨by rw [hb.cell (p := ⟨b, o, none⟩) hB]; exact h.c0, by rw [hb.cell (p := ⟨b, o + 1, none⟩) hB]; exact h.c1, by rw [hb.cell (p := ⟨b, o + 2, none⟩) hB]; exact h.c2, by rw [hb.cell (p := ⟨b, o + 3, none⟩) hB]; exact h.c3,
    by rw [hb.cell (p := ⟨b, o + 4, none⟩) hB]; exact h.c4, by rw [hb.cell (p := ⟨b, o + 5, none⟩) hB]; exact h.c5, by rw [hb.cell (p := ⟨b, o + 6, none⟩) hB]; exact h.c6, by rw [hb.cell (p := ⟨b, o + 7, none⟩) hB]; exact h.c7,
    by rw [hb.cell (p := ⟨b, o + 8, none⟩) hB]; exact h.c8⟩

/-- The best route among the first k: -1 where none holds s. -/
def best (p q : Nat → Int) (s : Int) : Nat → Int
  | 0 => -1
  | k + 1 => if cont (p k) (q k) s = true ∧ (best p q s k < 0 ∨ q (best p q s k).toNat < q k) then (k : Int) else best p q s k
theorem best_bd (p q : Nat → Int) (s : Int) : ∀ k, -1 ≤ best p q s k ∧ best p q s k < (k : Int)
  | 0 => by simp [best]
  | k + 1 => by
    have := best_bd p q s k
    unfold best
    split <;> omega

/-- What stands in every round of 'route'. -/
structure RtI (w : World) (R n : Nat) (s : Int) (z : Addr) (w' : World) : Prop where
  below : Below w.heap.size w w'
  host : (∀ o, w'.cell? ⟨w.heap.size, o, none⟩ = (hsC R n)[o]?) ∧ (∀ o, w'.frozen? ⟨w.heap.size, o, none⟩ = false) ∧ w.heap.size < w'.heap.size
  dst : (∀ o, w'.cell? ⟨w.heap.size + 1, o, none⟩ = #[Value.int .u64 0, .int .u64 (281470681743360 + s), .pointer (some z)][o]?) ∧ (∀ o, w'.frozen? ⟨w.heap.size + 1, o, none⟩ = false) ∧ w.heap.size + 1 < w'.heap.size
  res : (∀ o, w'.cell? ⟨w.heap.size + 2, o, none⟩ = rt0[o]?) ∧ (∀ o, w'.frozen? ⟨w.heap.size + 2, o, none⟩ = false) ∧ w.heap.size + 2 < w'.heap.size
theorem RtI.later {w w' w2 : World} {R n : Nat} {s : Int} {z : Addr} (h : RtI w R n s z w') (hb : Below w'.heap.size w' w2) : RtI w R n s z w2 :=
  ⟨h.below.trans (hb.mono h.below.size), blkL hb h.host, blkL hb h.dst, blkL hb h.res⟩

theorem mixed : Ybaf.prog.follows .mixedOrders = true := by kernel_rfl
/-- A block, in every world that has grown out of W. -/
theorem regB {W : World} {b : Nat} {cs : Array Value} (h : (∀ o, W.cell? ⟨b, o, none⟩ = cs[o]?) ∧ (∀ o, W.frozen? ⟨b, o, none⟩ = false) ∧ b < W.heap.size) (d : Nat) (os : Array Obj) :
    ∀ o, (grow (redrawn W d) os).cell? ⟨b, o, none⟩ = cs[o]? := fun o => by rw [(below_regrown W d os).cell (p := ⟨b, o, none⟩) h.2.2]; exact h.1 o

set_option maxRecDepth 100000 in
set_option maxHeartbeats 1000000 in
theorem route_some (R n : Nat) (p q : Nat → Int) (nI : Nat → ByteArray) (s : Int) (z : Addr) (w : World) (g : G z w) (hn : n ≤ 1048576) (hR : R < w.heap.size)
    (hr : ∀ i, i < n → Nine w R (i * 9) (rtC (p i) (q i) z (nI i))) (hp : ∀ i, i < n → 0 ≤ p i ∧ p i < 4294967296) (hq : ∀ i, i < n → 0 ≤ q i ∧ q i ≤ 33) (s0 : 0 ≤ s) (s1 : s < 4294967296) :
    Calls Ybaf.prog 13 #[hsV R n, adV (281470681743360 + s) z] w fun e w' => (best p q s n < 0 → ∃ v, e = .returned (.tuple #[.agg rt0, .iface 72 v])) ∧ (0 ≤ best p q s n → e = .returned (.tuple #[.agg (rtC (p (best p q s n).toNat) (q (best p q s n).toNat) z (nI (best p q s n).toNat)), .nilIface])) ∧ Below w.heap.size w w' := by
  have hr' : Hid _ := hr
  have hp' : Hid _ := hp
  have hq' : Hid _ := hq
  clear hr hp hq
  go_enter Ybaf.func13, Ybaf.ntmps13
  go_wp2
  go_loopw [6, 12] (fun bst i w' => RtI w R n s z w' ∧ ∃ k : Nat, k ≤ n ∧ i = .int .i64 k ∧ bst = .int .i64 (best p q s k)) (fun _ i _ => n - (intOf i).toNat)
  case atStart => exact ⟨⟨al3 _ _ _ _, blk (Below.refl _ _) (by repeat (first | rw [hD] | (refine hN _ _ _ ?_; (repeat rw [World.size_alloc]) <;> omega) | (refine (hO _ _ _ ?_).trans ?_; · (repeat rw [World.size_alloc]) <;> omega))), blk (Below.refl _ _) (by repeat (first | rw [hD] | (refine hN _ _ _ ?_; (repeat rw [World.size_alloc]) <;> omega) | (refine (hO _ _ _ ?_).trans ?_; · (repeat rw [World.size_alloc]) <;> omega))), blk (Below.refl _ _) (by repeat (first | rw [hD] | (refine hN _ _ _ ?_; (repeat rw [World.size_alloc]) <;> omega) | (refine (hO _ _ _ ?_).trans ?_; · (repeat rw [World.size_alloc]) <;> omega)))⟩, 0, Nat.zero_le _, rfl, rfl⟩
  case round =>
    obtain ⟨hI, k, hk, rfl, rfl⟩ := hrel
    obtain ⟨ha, ha2, ha3⟩ := hI.host
    obtain ⟨hd, hd2, hd3⟩ := hI.dst
    have hbb := best_bd p q s k
    have hsz := hI.below.size
    by_cases hlt : k < n
    · obtain ⟨c0, c1, c2, c3, c4, c5, c6, c7, c8⟩ := (hr'.out k hlt).below hI.below hR
      simp only [List.getElem?_toArray, List.getElem?_cons_zero, List.getElem?_cons_succ] at c0 c1 c2 c3 c4 c5 c6 c7 c8
      have hR' : R < wr.heap.size := by omega
      have hII : Hid _ := hI
      clear hI
      go_wp2
      have hpk := hp'.out k hlt
      have hqk := hq'.out k hlt
      have hI1 : Hid _ := hII.out.later (al1 _ (.cells (rtC (p k) (q k) z (nI k)) 41))
      have hb9 : Hid _ := blk (Below.refl _ (wr.alloc (.cells (rtC (p k) (q k) z (nI k)) 41))) (b := wr.heap.size) (cs := rtC (p k) (q k) z (nI k)) (t := 41) (by repeat (first | rw [hD] | (refine hN _ _ _ ?_; (repeat rw [World.size_alloc]) <;> omega) | (refine (hO _ _ _ ?_).trans ?_; · (repeat rw [World.size_alloc]) <;> omega)))
      generalize wr.alloc (.cells (rtC (p k) (q k) z (nI k)) 41) = w1 at hI1 hb9 ⊢
      have gk := g.later hI1.out.below
      have k1 := regB hI1.out.host
      have k2 := regB hI1.out.dst
      have k3 := regB hb9.out
      clear c0 c1 c2 c3 c4 c5 c6 c7 c8 ha ha2 hd hd2
      cases hct : cont (p k) (q k) s with
      | false =>
        have hfin : Hid (best p q s (k + 1) = best p q s k) := by show best p q s (k + 1) = _; simp [best, hct]
        have hC : Hid (∀ d os, Calls Ybaf.prog 15 #[.agg #[.int .u64 0, .int .u64 (281470681743360 + p k), .pointer (some z), .int .u8 (q k)], .agg #[.int .u64 0, .int .u64 (281470681743360 + s), .pointer (some z)]] (grow (redrawn w1 d) os) fun e w' => e = .returned (.bool false) ∧ ∃ p : Regrown, w' = grow (redrawn w1 p.d) p.os) :=
          fun d os => Calls.regrown_of (by have := contains_any (p k) s (q k) z _ (gk.later (below_regrown w1 d os)) hqk.1 hqk.2 hpk.1 hpk.2 s0 s1; rw [hct] at this; exact this)
        clear hct
        refine wp_region_quiet_below mixed (by kernel_rfl) ?_
        repeat (go_big_quiet_step (first | exact hC.out _ _))
        refine wpQuiet_nil ?_
        intro _ hw'
        obtain ⟨⟨dq, osq⟩, hw''⟩ := hw'
        subst hw''
        have hbq := below_regrown w1 dq osq
        generalize grow (redrawn w1 dq) osq = w2 at hbq ⊢
        have hI2 : Hid _ := hI1.out.later hbq
        clear k1 k2 k3 hC
        go_wp2
        go_roundw
        case rel => exact ⟨hI2.out, k + 1, by omega, by go_num, by rw [hfin.out]⟩
        case measure => simp [intOf]; omega
      | true =>
        have hC : Hid (∀ d os, Calls Ybaf.prog 15 #[.agg #[.int .u64 0, .int .u64 (281470681743360 + p k), .pointer (some z), .int .u8 (q k)], .agg #[.int .u64 0, .int .u64 (281470681743360 + s), .pointer (some z)]] (grow (redrawn w1 d) os) fun e w' => e = .returned (.bool true) ∧ ∃ p : Regrown, w' = grow (redrawn w1 p.d) p.os) :=
          fun d os => Calls.regrown_of (by have := contains_any (p k) s (q k) z _ (gk.later (below_regrown w1 d os)) hqk.1 hqk.2 hpk.1 hpk.2 s0 s1; rw [hct] at this; exact this)
        by_cases hneg : best p q s k < 0
        · have hfin : Hid (best p q s (k + 1) = k) := by show best p q s (k + 1) = _; simp [best, hct, hneg]
          clear hct
          have hdn : decide (best p q s k < 0) = true := by simp [hneg]
          refine wp_region_quiet_below mixed (by kernel_rfl) ?_
          repeat (go_big_quiet_step (first | exact hC.out _ _))
          refine wpQuiet_nil ?_
          intro _ hw'
          obtain ⟨⟨dq, osq⟩, hw''⟩ := hw'
          subst hw''
          have hbq := below_regrown w1 dq osq
          generalize grow (redrawn w1 dq) osq = w2 at hbq ⊢
          have hI2 : Hid _ := hI1.out.later hbq
          clear k1 k2 k3 hC
          go_wp2
          go_roundw
          case rel => exact ⟨hI2.out, k + 1, by omega, by go_num, by rw [hfin.out]⟩
          case measure => simp [intOf]; omega
        · obtain ⟨j, hj⟩ : ∃ j : Nat, best p q s k = (j : Int) := ⟨(best p q s k).toNat, by omega⟩
          have hjk : j < k := by omega
          have hqj := hq'.out j (by omega)
          obtain ⟨c0, c1, c2, c3, _, _, _, _, _⟩ := (hr'.out j (by omega)).below hI1.out.below hR
          simp only [List.getElem?_toArray, List.getElem?_cons_zero, List.getElem?_cons_succ] at c0 c1 c2 c3
          have d0 := cell_regrown c0
          have d1 := cell_regrown c1
          have d2 := cell_regrown c2
          have d3 := cell_regrown c3
          clear c0 c1 c2 c3
          have hC1 : Hid (∀ d os, Calls Ybaf.prog 16 #[.agg #[.int .u64 0, .int .u64 (281470681743360 + p k), .pointer (some z), .int .u8 (q k)]] (grow (redrawn w1 d) os) fun e w' => e = .returned (.int .i64 (q k - 1)) ∧ ∃ p : Regrown, w' = grow (redrawn w1 p.d) p.os) :=
            fun d os => Calls.regrown_of (bits_any _ (q k) z _ hqk.1 (by omega))
          have hC2 : Hid (∀ d os, Calls Ybaf.prog 16 #[.agg #[.int .u64 0, .int .u64 (281470681743360 + p j), .pointer (some z), .int .u8 (q j)]] (grow (redrawn w1 d) os) fun e w' => e = .returned (.int .i64 (q j - 1)) ∧ ∃ p : Regrown, w' = grow (redrawn w1 p.d) p.os) :=
            fun d os => Calls.regrown_of (bits_any _ (q j) z _ hqj.1 (by omega))
          have hfin : Hid (best p q s (k + 1) = if q j < q k then (k : Int) else j) := by
            show best p q s (k + 1) = _
            unfold best
            have hnn : ¬ ((j : Int) < 0) := by omega
            rw [hj, hct]
            simp [hnn]
          rw [hj]
          have hdn : decide ((j : Int) < 0) = false := by simp
          have i1 : (0 : Int) ≤ (j : Int) := by omega
          have i2 : (j : Int) < (n : Int) := by omega
          clear hct hneg hbb hj
          refine wp_region_quiet_below mixed (by kernel_rfl) ?_
          repeat (go_big_quiet_step (first | exact hC.out _ _ | exact hC1.out _ _ | exact hC2.out _ _))
          refine wpQuiet_nil ?_
          intro _ hw'
          obtain ⟨⟨dq, osq⟩, hw''⟩ := hw'
          subst hw''
          have hbq := below_regrown w1 dq osq
          generalize grow (redrawn w1 dq) osq = w2 at hbq ⊢
          have hI2 : Hid _ := hI1.out.later hbq
          clear k1 k2 k3 hC hC1 hC2 d0 d1 d2 d3
          by_cases hjq : q j < q k
          · have hd2 : decide (q j - 1 < q k - 1) = true := by simp; omega
            go_wp2
            go_roundw
            case rel => exact ⟨hI2.out, k + 1, by omega, by go_num, by rw [hfin.out, if_pos hjq]⟩
            case measure => simp [intOf]; omega
          · have hd2 : decide (q j - 1 < q k - 1) = false := by simp; omega
            go_wp2
            go_roundw
            case rel => exact ⟨hI2.out, k + 1, by omega, by go_num, by rw [hfin.out, if_neg hjq]⟩
            case measure => simp [intOf]; omega
    · have hke : k = n := by omega
      subst hke
      clear hlt
      by_cases hneg : best p q s k < 0
      · obtain ⟨hx, hx2, hx3⟩ := hI.res
        have hII : Hid _ := hI
        have gk := g.later hI.below
        have hnn : best p q s k < 0 := hneg
        clear hI ha ha2 hd2
        go_wp2_with (go_at_call 17; refine (errorf_any (281470681743360 + s) z wr.heap.size _ (gk.later (al1 _ _)) (by simp)).mono ?_; rintro e w1 ⟨ea, rfl, hb1⟩; (obtain ⟨r1, r2, r3⟩ := blkL hb1 (b := w.heap.size + 2) (cs := rt0) (blkL (al1 _ _) ⟨hx, hx2, hx3⟩)))
        refine bodyPost_ret (v := .tuple #[.agg rt0, .iface 72 (.pointer (some ea))]) (by simp [results, Ybaf.results13, go_sem, r1]) rfl ⟨fun _ => ⟨_, rfl⟩, fun h => by omega, ?_⟩
        have hB : Below w.heap.size w w1 := (hII.out.below.trans ((al1 _ _).mono hII.out.below.size)).trans (hb1.mono (by have := hII.out.below.size; simp; omega))
        repeat (refine Below.setCell ?_ (by simp; omega) _)
        exact hB
      · obtain ⟨j, hj⟩ : ∃ j : Nat, best p q s k = (j : Int) := ⟨(best p q s k).toNat, by omega⟩
        have hjk : j < k := by omega
        have hN : Hid _ := (hr'.out j hjk).below hI.below hR
        obtain ⟨c0, c1, c2, c3, c4, c5, c6, c7, c8⟩ := hN.out
        simp only [List.getElem?_toArray, List.getElem?_cons_zero, List.getElem?_cons_succ] at c0 c1 c2 c3 c4 c5 c6 c7 c8
        obtain ⟨hx, hx2, hx3⟩ := hI.res
        have hII : Hid _ := hI
        have hJ : Hid _ := hj
        rw [hj]
        have i1 : (0 : Int) ≤ (j : Int) := by omega
        have i2 : (j : Int) < (k : Int) := by omega
        have hnn : ¬ ((j : Int) < 0) := by omega
        clear hj hneg hbb hI
        go_wp2
        refine bodyPost_ret (v := .tuple #[.agg (rtC (p j) (q j) z (nI j)), .nilIface]) (by simp [results, Ybaf.results13, go_sem, hx]) rfl ⟨fun h => by rw [hJ.out] at h; omega, fun _ => by rw [hJ.out]; rfl, ?_⟩
        repeat (refine Below.setCell ?_ (by simp; omega) _)
        exact hII.out.below
end Go.Proofs.YbulkeiiwFmt

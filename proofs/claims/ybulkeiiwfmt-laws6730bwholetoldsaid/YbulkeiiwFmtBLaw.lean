import Derived.Test.YbulkeiiwFmtBPlain
import Derived.Test.YbulkeiiwFmtQTail
namespace Go.Proofs.YbulkeiiwFmt
open Go.RowKit Go.Sort

/-- Where the routes that came in lie, and that each is a byte. -/
structure Src (r : In6) (ro : Option Addr) (n : Nat) (w : World) : Prop where
  addr : 0 < n → ∃ B O, ro = some ⟨B, O, none⟩ ∧ B < w.heap.size ∧ ∀ i, i < n → w.cell? ⟨B, O + i * 6, none⟩ = some (.int .u8 (r.a i)) ∧ w.cell? ⟨B, O + i * 6 + 1, none⟩ = some (.int .u8 (r.b i)) ∧ w.cell? ⟨B, O + i * 6 + 2, none⟩ = some (.int .u8 (r.c i)) ∧
    w.cell? ⟨B, O + i * 6 + 3, none⟩ = some (.int .u8 (r.d i)) ∧ w.cell? ⟨B, O + i * 6 + 4, none⟩ = some (.int .u8 (r.t i)) ∧ w.cell? ⟨B, O + i * 6 + 5, none⟩ = some (.int .u8 (r.f i))
  ba : ∀ i, i < n → 0 ≤ r.a i ∧ r.a i ≤ 255
  bb : ∀ i, i < n → 0 ≤ r.b i ∧ r.b i ≤ 255
  bc : ∀ i, i < n → 0 ≤ r.c i ∧ r.c i ≤ 255
  bd : ∀ i, i < n → 0 ≤ r.d i ∧ r.d i ≤ 255
  bt : ∀ i, i < n → 0 ≤ r.t i ∧ r.t i ≤ 255
  bf : ∀ i, i < n → 0 ≤ r.f i ∧ r.f i ≤ 255

/-- What stands while the routes are built. -/
structure L1 (r : In6) (z : Addr) (w : World) (s0 s1 s2 s3 : Int) (n k : Nat) (w' : World) : Prop where
  below : Below w.heap.size w w'
  src : (∀ o, w'.cell? ⟨w.heap.size, o, none⟩ = #[Value.int .u8 s0, .int .u8 s1, .int .u8 s2, .int .u8 s3][o]?) ∧ (∀ o, w'.frozen? ⟨w.heap.size, o, none⟩ = false) ∧ w.heap.size < w'.heap.size
  rts : Rts r.p r.q r.nI z (w.heap.size + 1) n k w'
theorem L1.later {r : In6} {z : Addr} {w w' w2 : World} {s0 s1 s2 s3 : Int} {n k : Nat} (h : L1 r z w s0 s1 s2 s3 n k w') (hb : Below w'.heap.size w' w2) : L1 r z w s0 s1 s2 s3 n k w2 :=
  ⟨h.below.trans (hb.mono h.below.size), blkL hb h.src, h.rts.below hb h.rts.lt⟩

theorem L1.step {r : In6} {z : Addr} {w w2 : World} {s0 s1 s2 s3 : Int} {n k : Nat} (h : L1 r z w s0 s1 s2 s3 n k w2) (hk : k < n) :
    L1 r z w s0 s1 s2 s3 n (k + 1) (set9 w2 (w.heap.size + 1) (k * 9) (.int .u64 0) (.int .u64 (281470681743360 + r.p k)) (.pointer (some z)) (.int .u8 (r.q k)) (.string (r.nI k)) (.bool false) (.int .u64 0) (.int .u64 0) (.pointer none)) :=
  ⟨h.below.trans (set9_only.below (by omega) h.below.size), set9_only.blkL (by omega) h.src, h.rts.step hk⟩

/-- What stands when the routes, their copy and the host lie. -/
structure L2 (r : In6) (z : Addr) (w : World) (s0 s1 s2 s3 : Int) (n K H : Nat) (w' : World) : Prop where
  below : Below w.heap.size w w'
  src : (∀ o, w'.cell? ⟨w.heap.size, o, none⟩ = #[Value.int .u8 s0, .int .u8 s1, .int .u8 s2, .int .u8 s3][o]?) ∧ (∀ o, w'.frozen? ⟨w.heap.size, o, none⟩ = false) ∧ w.heap.size < w'.heap.size
  rts : Rts r.p r.q r.nI z (w.heap.size + 1) n n w'
  keep : Rts r.p r.q r.nI z K n n w'
  box : (∀ o, w'.cell? ⟨H, o, none⟩ = (hsC (w.heap.size + 1) n)[o]?) ∧ (∀ o, w'.frozen? ⟨H, o, none⟩ = false) ∧ H < w'.heap.size
theorem L2.later {r : In6} {z : Addr} {w w' w2 : World} {s0 s1 s2 s3 : Int} {n K H : Nat} (h : L2 r z w s0 s1 s2 s3 n K H w') (hb : Below w'.heap.size w' w2) : L2 r z w s0 s1 s2 s3 n K H w2 :=
  ⟨h.below.trans (hb.mono h.below.size), blkL hb h.src, h.rts.below hb h.rts.lt, h.keep.below hb h.keep.lt, blkL hb h.box⟩

set_option maxRecDepth 100000 in
set_option maxHeartbeats 1000000 in
theorem law_any (r : In6) (s0 s1 s2 s3 ni : Int) (ro : Option Addr) (n cap : Nat) (z : Addr) (w : World) (g : G z w) (hs : Src r ro n w)
    (hs0 : 0 ≤ s0 ∧ s0 ≤ 255) (hs1 : 0 ≤ s1 ∧ s1 ≤ 255) (hs2 : 0 ≤ s2 ∧ s2 ≤ 255) (hs3 : 0 ≤ s3 ∧ s3 ≤ 255) (hni : 0 ≤ ni ∧ ni ≤ 255) :
    Calls Ybaf.prog 3 #[.agg #[.int .u8 s0, .int .u8 s1, .int .u8 s2, .int .u8 s3], .int .u8 ni, .slice ro n cap] w fun e w' => e = .returned (.bool true) ∧ Below w.heap.size w w' := by
  have hS : Hid _ := hs
  clear hs
  by_cases hbig : 1048576 < n
  · go_enter Ybaf.func3, Ybaf.ntmps3
    go_wp2
    go_ret
    exact ⟨rfl, al1 _ _⟩
  · have hn : n ≤ 1048576 := by omega
    clear hbig
    have hmk := mkRoutes n hn
    go_enter Ybaf.func3, Ybaf.ntmps3
    go_wp2
    go_loopw [34] (fun i w' => ∃ k : Nat, k ≤ n ∧ i = .int .i64 k ∧ L1 r z w s0 s1 s2 s3 n k w') (fun i _ => n - (intOf i).toNat)
    case atStart =>
      refine ⟨0, Nat.zero_le _, rfl, al2 _ _ _, blk (Below.refl _ _) (by repeat (first | rw [hD] | (refine hN _ _ _ ?_; (repeat rw [World.size_alloc]) <;> omega) | (refine (hO _ _ _ ?_).trans ?_; · (repeat rw [World.size_alloc]) <;> omega))), ?_⟩
      have := Rts.start r.p r.q r.nI z n (w.alloc (.cells #[.int .u8 s0, .int .u8 s1, .int .u8 s2, .int .u8 s3] 22))
      simpa using this
    case round =>
      obtain ⟨k, hk, rfl, hL⟩ := hrel
      have hsz := hL.below.size
      by_cases hlt : k < n
      · obtain ⟨B, O, rfl, hB, hcell⟩ := hS.out.addr (by omega)
        obtain ⟨c0, c1, c2, c3, c4, c5⟩ := hcell k hlt
        replace c0 := kc hL.below c0
        replace c1 := kc hL.below c1
        replace c2 := kc hL.below c2
        replace c3 := kc hL.below c3
        replace c4 := kc hL.below c4
        replace c5 := kc hL.below c5
        have hB' : B < wr.heap.size := by omega
        have ba := hS.out.ba k hlt
        have bb := hS.out.bb k hlt
        have bc := hS.out.bc k hlt
        have bd := hS.out.bd k hlt
        have bt := hS.out.bt k hlt
        have bf := hS.out.bf k hlt
        have hLL : Hid _ := hL
        have gk := g.later hL.below
        clear hL hcell hmk
        have i1 : (0 : Int) ≤ (k : Int) := by omega
        have i2 : (k : Int) < (n : Int) := by omega
        go_wp2
        clear c0 c1 c2 c3 c4 c5
        have hb6 : Hid _ := blk (Below.refl _ (wr.alloc (.cells #[.int .u8 (r.a k), .int .u8 (r.b k), .int .u8 (r.c k), .int .u8 (r.d k), .int .u8 (r.t k), .int .u8 (r.f k)] 26))) (b := wr.heap.size) (cs := #[.int .u8 (r.a k), .int .u8 (r.b k), .int .u8 (r.c k), .int .u8 (r.d k), .int .u8 (r.t k), .int .u8 (r.f k)]) (t := 26) (by repeat (first | rw [hD] | (refine hN _ _ _ ?_; (repeat rw [World.size_alloc]) <;> omega) | (refine (hO _ _ _ ?_).trans ?_; · (repeat rw [World.size_alloc]) <;> omega)))
        have hL1 : Hid _ := hLL.out.later (al1 _ (.cells #[.int .u8 (r.a k), .int .u8 (r.b k), .int .u8 (r.c k), .int .u8 (r.d k), .int .u8 (r.t k), .int .u8 (r.f k)] 26))
        generalize wr.alloc (.cells #[.int .u8 (r.a k), .int .u8 (r.b k), .int .u8 (r.c k), .int .u8 (r.d k), .int .u8 (r.t k), .int .u8 (r.f k)] 26) = w1 at hb6 hL1 ⊢
        obtain ⟨q1, q2, q3⟩ := hb6.out
        have g1 := g.later hL1.out.below
        have hRlt := hLL.out.rts.lt
        have nR : ¬ w.heap.size + 1 = wr.heap.size := by omega
        clear hb6
        have hC5 : Hid (∀ d os, Calls Ybaf.prog 5 #[.agg #[.int .u8 (r.a k), .int .u8 (r.b k), .int .u8 (r.c k), .int .u8 (r.d k)]] (grow (redrawn w1 d) os) fun e w' => e = .returned (adV (281470681743360 + r.p k) z) ∧ ∃ p : Regrown, w' = grow (redrawn w1 p.d) p.os) :=
          fun d os => Calls.regrown_of (from4_num (r.a k) (r.b k) (r.c k) (r.d k) z _ (g1.later (below_regrown w1 d os)) ba bb bc bd)
        have hC4 : Hid (∀ d os, Calls Ybaf.prog 4 #[adV (281470681743360 + r.p k) z, .int .i64 (r.t k % 40)] (grow (redrawn w1 d) os) fun e w' => e = .returned (.agg #[.int .u64 0, .int .u64 (281470681743360 + r.p k), .pointer (some z), .int .u8 (r.q k)]) ∧ ∃ p : Regrown, w' = grow (redrawn w1 p.d) p.os) :=
          fun d os => Calls.regrown_of (prefixFrom_any (281470681743360 + r.p k) (r.t k) z _ (g1.later (below_regrown w1 d os)))
        have hC6 : Hid (∀ d os, Calls Ybaf.prog 6 #[.int .u8 (r.f k)] (grow (redrawn w1 d) os) fun e w' => e = .returned (.string (r.nI k)) ∧ ∃ p : Regrown, w' = grow (redrawn w1 p.d) p.os) :=
          fun d os => (name_any (r.f k) _ bf.1 bf.2).mono (by rintro e w2 ⟨rfl, rfl⟩; exact ⟨rfl, ⟨d, os⟩, rfl⟩)
        have k3 := regB (⟨q1, q2, q3⟩ : (∀ o, w1.cell? ⟨wr.heap.size, o, none⟩ = _) ∧ (∀ o, w1.frozen? ⟨wr.heap.size, o, none⟩ = false) ∧ wr.heap.size < w1.heap.size)
        refine wp_region_tail_below 15 mixed rfl rfl rfl rfl (by kernel_rfl) (by kernel_rfl) (by kernel_rfl) ?_
        simp only [List.take_succ_cons, List.take_zero]
        repeat (go_big_quiet_step (first | exact hC5.out _ _ | exact hC4.out _ _ | exact hC6.out _ _))
        refine wpQuiet_nil ?_
        intro w' hw'
        obtain ⟨⟨dq, osq⟩, rfl⟩ := hw'
        have hbq := below_regrown w1 dq osq
        generalize grow (redrawn w1 dq) osq = w2 at hbq ⊢
        have hL2 : Hid _ := hL1.out.later hbq
        obtain ⟨v0, v1, v2, v3, v4, v5, v6, v7, v8, e0, e1, e2, e3, e4, e5, e6, e7, e8⟩ := hL2.out.rts.spots hlt
        have hfz := hL2.out.rts.fz
        go_wp2
        exact ⟨⟨k + 1, by omega, by simp, hL2.out.step hlt⟩, by simp [intOf]; omega⟩
      · obtain rfl : k = n := by omega
        have gk := g.later hL.below
        have hK0 := Rts.start r.p r.q r.nI z k wr
        have hR2 := hL.rts.below (al1 wr (.cells (madeCells rt0 (k * 9)) 41)) hL.rts.lt
        obtain ⟨wc, hcp, hKn, hOnly⟩ := copy9 3 hR2 hK0 (by have := hL.rts.lt; omega)
        have hL1 : Hid _ := hL.later (al1 wr (.cells (madeCells rt0 (k * 9)) 41))
        have hKn' : Hid _ := hKn
        have hOnly' : Hid _ := hOnly
        have hRlt : w.heap.size + 1 < wr.heap.size := hL.rts.lt
        have hmk' := hmk wr
        clear hL hK0 hR2 hKn hOnly hmk
        go_wp2_with fail
        refine (name_any ni _ hni.1 hni.2).mono ?_
        rintro e w3 ⟨rfl, rfl⟩
        have h12 := hL1.out
        have hsc : w.heap.size + 1 < wc.heap.size := Nat.lt_of_lt_of_le (by simp; omega) hOnly'.out.size
        have hL2c : (∀ o, wc.cell? ⟨w.heap.size, o, none⟩ = #[Value.int .u8 s0, .int .u8 s1, .int .u8 s2, .int .u8 s3][o]?) ∧ (∀ o, wc.frozen? ⟨w.heap.size, o, none⟩ = false) ∧ w.heap.size < wc.heap.size := hOnly'.out.blkL (by omega) h12.src
        have hRc : Rts r.p r.q r.nI z (w.heap.size + 1) k k wc := h12.rts.below (hOnly'.out.below (Nat.le_refl _) (by simp)) hRlt
        have hBc : Below w.heap.size w wc := h12.below.trans (hOnly'.out.below hsz (by simp; omega))
        have hL3 : Hid (L2 r z w s0 s1 s2 s3 k wr.heap.size wc.heap.size (wc.alloc (.cells (hsC (w.heap.size + 1) k) 48))) :=
          ⟨hBc.alloc hBc.size _, blkL (al1 _ _) hL2c, hRc.below (al1 _ _) hRc.lt, hKn'.out.below (al1 _ _) hKn'.out.lt, blk (Below.refl _ _) (hN _ _ _ rfl)⟩
        have hKH : wr.heap.size < wc.heap.size := hKn'.out.lt
        have n1 : ¬ w.heap.size = wc.heap.size := by omega
        clear h12 hL2c hRc hBc hL1 hKn' hOnly' hcp hmk' gk
        generalize wc.alloc (.cells (hsC (w.heap.size + 1) k) 48) = w3 at hL3 ⊢
        generalize hHw : wc.heap.size = H at hL3 hKH hsc n1 ⊢
        generalize hKw : wr.heap.size = K at hL3 hKH hRlt hsz ⊢
        generalize hIn : nm ni = inN
        have hp' : Hid (∀ i, i < k → 0 ≤ r.p i ∧ r.p i < 4294967296) := fun i hi => by
          have ba := hS.out.ba i hi
          have bb := hS.out.bb i hi
          have bc := hS.out.bc i hi
          have bd := hS.out.bd i hi
          unfold In6.p num; omega
        have hs' : Hid (0 ≤ num s0 s1 s2 s3 ∧ num s0 s1 s2 s3 < 4294967296) := by show _ ∧ _; unfold num; omega
        have g3 := g.later hL3.out.below
        have hC5 : Hid (∀ d os, Calls Ybaf.prog 5 #[.agg #[.int .u8 s0, .int .u8 s1, .int .u8 s2, .int .u8 s3]] (grow (redrawn w3 d) os) fun e w' => e = .returned (adV (281470681743360 + num s0 s1 s2 s3) z) ∧ ∃ p : Regrown, w' = grow (redrawn w3 p.d) p.os) :=
          fun d os => Calls.regrown_of (from4_num s0 s1 s2 s3 z _ (g3.later (below_regrown w3 d os)) hs0 hs1 hs2 hs3)
        have hC7 : Hid (∀ d os, Calls Ybaf.prog 7 #[hsV (w.heap.size + 1) k, adV (281470681743360 + num s0 s1 s2 s3) z, .string inN] (grow (redrawn w3 d) os) fun e w' => e = .returned (.int .i8 (back r.p r.q r.nI (num s0 s1 s2 s3) inN k)) ∧ ∃ p : Regrown, w' = grow (redrawn w3 p.d) p.os) :=
          fun d os => Calls.regrown_of (back_any (w.heap.size + 1) k r.p r.q r.nI (num s0 s1 s2 s3) inN z _ (g3.later (below_regrown w3 d os)) hn (Nat.lt_of_lt_of_le hL3.out.rts.lt (below_regrown w3 d os).size) (fun i hi => (hL3.out.rts.at9 i hi).below (below_regrown w3 d os) hL3.out.rts.lt) hp'.out (fun i _ => qq_bd _) hs'.out.1 hs'.out.2)
        have k1 := regB hL3.out.src
        have k2 := regB hL3.out.box
        generalize hsn : num s0 s1 s2 s3 = sn at hC5 hC7 hs'
        go_wp2
        refine wp_region_quiet_below mixed (by kernel_rfl) ?_
        repeat (go_big_quiet_step (first | exact hC5.out _ _ | exact hC7.out _ _))
        refine wpQuiet_nil ?_
        intro w4 hw'
        obtain ⟨⟨dq, osq⟩, hw''⟩ := hw'
        have hbq : Below w3.heap.size w3 w4 := by rw [hw'']; exact below_regrown w3 dq osq
        have hL4 : Hid _ := hL3.out.later hbq
        obtain ⟨q1, q2, q3⟩ := hL4.out.src
        clear k1 k2 hC5 hC7 hw'' hbq hL3 g3
        go_wp2_with fail
        refine (u32_any s0 s1 s2 s3 _ hs0 hs1 hs2 hs3).mono ?_
        rintro e w5 ⟨rfl, hb5⟩
        have hL5 : Hid _ := hL4.out.later hb5
        clear hb5 hL4 q1 q2 q3
        rw [hsn]
        go_wp2
        go_loopw [15, 74] (fun m i w' => ∃ j : Nat, j ≤ k ∧ i = .int .i64 j ∧ m = .int .i64 (mx r sn j) ∧ L2 r z w s0 s1 s2 s3 k K H w') (fun _ i _ => k - (intOf i).toNat)
        case atStart => exact ⟨0, Nat.zero_le _, rfl, rfl, hL5.out⟩
        case round =>
          rename World => wr2
          obtain ⟨j, hj, rfl, rfl, hLr⟩ := hrel
          have hLr' : Hid _ := hLr
          clear hLr
          by_cases hlt : j < k
          · obtain ⟨B, O, rfl, hB, hcell⟩ := hS.out.addr (by omega)
            obtain ⟨c0, c1, c2, c3, c4, c5⟩ := hcell j hlt
            replace c0 := kc hLr'.out.below c0
            replace c1 := kc hLr'.out.below c1
            replace c2 := kc hLr'.out.below c2
            replace c3 := kc hLr'.out.below c3
            replace c4 := kc hLr'.out.below c4
            replace c5 := kc hLr'.out.below c5
            have ba := hS.out.ba j hlt
            have bb := hS.out.bb j hlt
            have bc := hS.out.bc j hlt
            have bd := hS.out.bd j hlt
            have bt := hS.out.bt j hlt
            clear hcell
            have i1 : (0 : Int) ≤ (j : Int) := by omega
            have i2 : (j : Int) < (k : Int) := by omega
            go_wp2_with fail
            refine (holds_any (r.a j) (r.b j) (r.c j) (r.d j) (r.t j) (r.f j) sn _ ba bb bc bd bt.1 bt.2).mono ?_
            rintro e w6 ⟨rfl, hb6⟩
            have hL6 : Hid _ := (hLr'.out.later (al1 _ _)).later hb6
            have hms := mx_succ r sn j
            rw [show okR (r.a j) (r.b j) (r.c j) (r.d j) (r.t j) sn = r.ok sn j from rfl, show r.t j % 40 = r.tb j from rfl]
            generalize hmj : mx r sn j = mj at hms
            generalize htj : r.tb j = tj at hms
            cases hok : r.ok sn j with
            | false =>
              rw [hok] at hms
              have hms' : Hid (mx r sn (j + 1) = mj) := by show _ = _; rw [hms]; simp
              clear hms c0 c1 c2 c3 c4 c5 hb6
              go_wp2
              exact ⟨⟨j + 1, by omega, by simp, by rw [hms'.out], hL6.out⟩, by simp [intOf]; omega⟩
            | true =>
              rw [hok] at hms
              by_cases hgt : mj < tj
              · have hms' : Hid (mx r sn (j + 1) = tj) := by show _ = _; rw [hms]; simp [hgt]
                clear hms c0 c1 c2 c3 c4 c5 hb6
                go_wp2
                exact ⟨⟨j + 1, by omega, by simp, by rw [hms'.out], hL6.out⟩, by simp [intOf]; omega⟩
              · have hms' : Hid (mx r sn (j + 1) = mj) := by show _ = _; rw [hms]; simp [hgt]
                clear hms c0 c1 c2 c3 c4 c5 hb6
                go_wp2
                exact ⟨⟨j + 1, by omega, by simp, by rw [hms'.out], hL6.out⟩, by simp [intOf]; omega⟩
          · obtain rfl : j = k := by omega
            have hmb := mx_bd r sn j
            by_cases hneg : mx r sn j < 0
            · have hbk := back_none r sn inN j hneg
              rw [hbk]
              generalize mx r sn j = mj at hmb hneg ⊢
              have hX := hLr'
              obtain ⟨x1, x2, x3⟩ := hX.out.box
              go_wp2
              go_loopw [129] (fun i w' => L2 r z w s0 s1 s2 s3 j K H w' ∧ ∃ m : Nat, m ≤ j ∧ i = .int .i64 m) (fun i _ => j - (intOf i).toNat)
              case atStart => exact ⟨hX.out, 0, Nat.zero_le _, rfl⟩
              case round =>
                rename World => wr9
                obtain ⟨hY0, m, hm, rfl⟩ := hrel
                have hY : Hid _ := hY0
                clear hY0 hX x1 x2 x3
                by_cases hlm : m < j
                · obtain ⟨x1, x2, x3⟩ := hY.out.box
                  obtain ⟨c0, c1, c2, c3, c4, c5, c6, c7, c8⟩ := hY.out.rts.at9 m hlm
                  obtain ⟨d0, d1, d2, d3, d4, d5, d6, d7, d8⟩ := hY.out.keep.at9 m hlm
                  simp only [List.getElem?_toArray, List.getElem?_cons_zero, List.getElem?_cons_succ] at c0 c1 c2 c3 c4 c5 c6 c7 c8 d0 d1 d2 d3 d4 d5 d6 d7 d8
                  have i1 : (0 : Int) ≤ (m : Int) := by omega
                  have i2 : (m : Int) < (j : Int) := by omega
                  have E1 := fun d w => eqSelfD d (some z) w
                  have E2 := fun d w => eqSelfD d none w
                  go_wp2
                  go_quiet (fail)
                  go_wp2
                  exact ⟨⟨hY.out.later (below_drewN (Below.refl _ _) nq), m + 1, by omega, by simp⟩, by simp [intOf]; omega⟩
                · obtain rfl : m = j := by omega
                  go_wp2
                  go_ret
                  exact ⟨rfl, hY.out.below⟩
            · have hneg' : 0 ≤ mx r sn j := by omega
              clear hneg
              generalize hmj : mx r sn j = mj at hmb hneg'
              clear hL5
              go_wp2
              go_loopw [20, 96] (fun v i w' => v = .int .i8 0 ∧ L2 r z w s0 s1 s2 s3 j K H w' ∧ ∃ x : Nat, x ≤ j ∧ i = .int .i64 x ∧ Miss r sn j x) (fun _ i _ => j - (intOf i).toNat)
              case atStart => exact ⟨rfl, hLr'.out, 0, Nat.zero_le _, rfl, fun i hi => by omega⟩
              case round =>
                rename World => wr3
                obtain ⟨rfl, hZ0, x, hx, rfl, hMs⟩ := hrel
                have hZ : Hid _ := hZ0
                have hMs' : Hid _ := hMs
                clear hZ0 hMs hLr'
                by_cases hlx : x < j
                · obtain ⟨B, O, rfl, hB, hcell⟩ := hS.out.addr (by omega)
                  obtain ⟨c0, c1, c2, c3, c4, c5⟩ := hcell x hlx
                  replace c0 := kc hZ.out.below c0
                  replace c1 := kc hZ.out.below c1
                  replace c2 := kc hZ.out.below c2
                  replace c3 := kc hZ.out.below c3
                  replace c4 := kc hZ.out.below c4
                  replace c5 := kc hZ.out.below c5
                  have ba := hS.out.ba x hlx
                  have bb := hS.out.bb x hlx
                  have bc := hS.out.bc x hlx
                  have bd := hS.out.bd x hlx
                  have bt := hS.out.bt x hlx
                  have bf := hS.out.bf x hlx
                  clear hcell
                  have i1 : (0 : Int) ≤ (x : Int) := by omega
                  have i2 : (x : Int) < (j : Int) := by omega
                  go_wp2_with fail
                  have hb6 : Hid _ := blk (Below.refl _ (wr3.alloc (.cells #[.int .u8 (r.a x), .int .u8 (r.b x), .int .u8 (r.c x), .int .u8 (r.d x), .int .u8 (r.t x), .int .u8 (r.f x)] 26))) (b := wr3.heap.size) (cs := #[.int .u8 (r.a x), .int .u8 (r.b x), .int .u8 (r.c x), .int .u8 (r.d x), .int .u8 (r.t x), .int .u8 (r.f x)]) (t := 26) (hN _ _ _ rfl)
                  refine (holds_any (r.a x) (r.b x) (r.c x) (r.d x) (r.t x) (r.f x) sn _ ba bb bc bd bt.1 bt.2).mono ?_
                  rintro e w6 ⟨rfl, hbx⟩
                  have hX : Hid _ := (hZ.out.later (al1 _ _)).later hbx
                  obtain ⟨q1, q2, q3⟩ := blkL hbx hb6.out
                  rw [show okR (r.a x) (r.b x) (r.c x) (r.d x) (r.t x) sn = r.ok sn x from rfl, show r.t x % 40 = r.tb x from rfl]
                  clear c0 c1 c2 c3 c4 c5 hb6 hbx
                  cases hok : r.ok sn x with
                  | false =>
                    have hMn : Hid (Miss r sn j (x + 1)) := fun i hi hc => by
                      by_cases e : i = x
                      · subst e; rw [hok] at hc; exact absurd hc.1 (by simp)
                      · exact hMs'.out i (by omega) hc
                    go_wp2
                    exact ⟨⟨rfl, hX.out, x + 1, by omega, by simp, hMn.out⟩, by simp [intOf]; omega⟩
                  | true =>
                    by_cases heq : r.tb x = mj
                    · have hbk := back_hit r sn inN j x hlx hMs'.out hok (by rw [heq, hmj])
                      rw [heq]
                      clear heq
                      have hnx : nm (r.f x) = r.nI x := rfl
                      cases hnm : ((r.nI x).toList == inN.toList) with
                      | true =>
                        rw [hnm] at hbk
                        simp only [if_true] at hbk
                        rw [hbk]
                        go_wp2_with fail
                        refine (name_any (r.f x) _ bf.1 bf.2).mono ?_
                        rintro e w7 ⟨rfl, rfl⟩
                        rw [hnx]
                        clear hbk hok hmj q1 q2 q3
                        obtain ⟨x1, x2, x3⟩ := hX.out.box
                        go_wp2
                        go_loopw [129] (fun i w' => L2 r z w s0 s1 s2 s3 j K H w' ∧ ∃ m : Nat, m ≤ j ∧ i = .int .i64 m) (fun i _ => j - (intOf i).toNat)
                        case atStart => exact ⟨hX.out, 0, Nat.zero_le _, rfl⟩
                        case round =>
                          rename World => wr9
                          obtain ⟨hY0, m, hm, rfl⟩ := hrel
                          have hY : Hid _ := hY0
                          clear hY0 hX x1 x2 x3
                          by_cases hlm : m < j
                          · obtain ⟨x1, x2, x3⟩ := hY.out.box
                            obtain ⟨c0, c1, c2, c3, c4, c5, c6, c7, c8⟩ := hY.out.rts.at9 m hlm
                            obtain ⟨d0, d1, d2, d3, d4, d5, d6, d7, d8⟩ := hY.out.keep.at9 m hlm
                            simp only [List.getElem?_toArray, List.getElem?_cons_zero, List.getElem?_cons_succ] at c0 c1 c2 c3 c4 c5 c6 c7 c8 d0 d1 d2 d3 d4 d5 d6 d7 d8
                            have i1 : (0 : Int) ≤ (m : Int) := by omega
                            have i2 : (m : Int) < (j : Int) := by omega
                            have E1 := fun d w => eqSelfD d (some z) w
                            have E2 := fun d w => eqSelfD d none w
                            go_wp2
                            go_quiet (fail)
                            go_wp2
                            exact ⟨⟨hY.out.later (below_drewN (Below.refl _ _) nq), m + 1, by omega, by simp⟩, by simp [intOf]; omega⟩
                          · obtain rfl : m = j := by omega
                            go_wp2
                            go_ret
                            exact ⟨rfl, hY.out.below⟩
                      | false =>
                        rw [hnm] at hbk
                        simp only [Bool.false_eq_true, if_false] at hbk
                        rw [hbk]
                        go_wp2_with fail
                        refine (name_any (r.f x) _ bf.1 bf.2).mono ?_
                        rintro e w7 ⟨rfl, rfl⟩
                        rw [hnx]
                        clear hbk hok hmj q1 q2 q3
                        obtain ⟨x1, x2, x3⟩ := hX.out.box
                        go_wp2
                        go_loopw [129] (fun i w' => L2 r z w s0 s1 s2 s3 j K H w' ∧ ∃ m : Nat, m ≤ j ∧ i = .int .i64 m) (fun i _ => j - (intOf i).toNat)
                        case atStart => exact ⟨hX.out, 0, Nat.zero_le _, rfl⟩
                        case round =>
                          rename World => wr9
                          obtain ⟨hY0, m, hm, rfl⟩ := hrel
                          have hY : Hid _ := hY0
                          clear hY0 hX x1 x2 x3
                          by_cases hlm : m < j
                          · obtain ⟨x1, x2, x3⟩ := hY.out.box
                            obtain ⟨c0, c1, c2, c3, c4, c5, c6, c7, c8⟩ := hY.out.rts.at9 m hlm
                            obtain ⟨d0, d1, d2, d3, d4, d5, d6, d7, d8⟩ := hY.out.keep.at9 m hlm
                            simp only [List.getElem?_toArray, List.getElem?_cons_zero, List.getElem?_cons_succ] at c0 c1 c2 c3 c4 c5 c6 c7 c8 d0 d1 d2 d3 d4 d5 d6 d7 d8
                            have i1 : (0 : Int) ≤ (m : Int) := by omega
                            have i2 : (m : Int) < (j : Int) := by omega
                            have E1 := fun d w => eqSelfD d (some z) w
                            have E2 := fun d w => eqSelfD d none w
                            go_wp2
                            go_quiet (fail)
                            go_wp2
                            exact ⟨⟨hY.out.later (below_drewN (Below.refl _ _) nq), m + 1, by omega, by simp⟩, by simp [intOf]; omega⟩
                          · obtain rfl : m = j := by omega
                            go_wp2
                            go_ret
                            exact ⟨rfl, hY.out.below⟩
                    · have hMn : Hid (Miss r sn j (x + 1)) := fun i hi hc => by
                        by_cases e : i = x
                        · subst e; rw [hmj] at hc; exact heq hc.2
                        · exact hMs'.out i (by omega) hc
                      generalize r.tb x = tx at heq ⊢
                      go_wp2
                      exact ⟨⟨rfl, hX.out, x + 1, by omega, by simp, hMn.out⟩, by simp [intOf]; omega⟩
                · obtain rfl : x = j := by omega
                  exact (not_miss r sn x (by rw [hmj]; exact hneg') hMs'.out).elim
end Go.Proofs.YbulkeiiwFmt

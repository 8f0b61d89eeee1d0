import Derived.Test.YbulkeiiwDoorABuilt
namespace Go.Proofs.YbulkeiiwDoor
open Go.RowKit

set_option maxRecDepth 100000 in
set_option maxHeartbeats 1000000 in
theorem law_some (B O len cap : Nat) (F L : Nat → Int) (T : Nat → Option Addr) (n c : Nat → Nat) (f l : Nat → Nat → Int) (z : Option Addr) (w : World)
    (hlen : 0 < len) (hmax : len ≤ 4398046511104) (hn : ∀ i, i < len → n i ≤ 17592186044416)
    (hz : w.cell? ⟨0, 0, none⟩ = some (.pointer z)) (hB : B < w.heap.size)
    (hF : ∀ i, i < len → w.cell? ⟨B, O + i * 3, none⟩ = some (.int .u32 (F i)))
    (hL : ∀ i, i < len → w.cell? ⟨B, O + i * 3 + 1, none⟩ = some (.int .u32 (L i)))
    (hT : ∀ i, i < len → w.cell? ⟨B, O + i * 3 + 2, none⟩ = some (.slice (T i) (n i) (c i)))
    (hI : ∀ i, i < len → 0 < n i → ∃ tb to, T i = some ⟨tb, to, none⟩ ∧ tb < w.heap.size ∧ (∀ j, j < n i → w.cell? ⟨tb, to + j * 2, none⟩ = some (.int .u32 (f i j))) ∧ (∀ j, j < n i → w.cell? ⟨tb, to + j * 2 + 1, none⟩ = some (.int .u32 (l i j)))) :
    Calls Ybad.prog 3 #[.slice (some ⟨B, O, none⟩) len cap] w fun e w' => e = .returned (.bool true) ∧ Below w.heap.size w w' := by
  go_enter Ybad.func3, Ybad.ntmps3
  go_wp2
  go_loopw [3, 21] (fun t i wr => w = wr ∧ ∃ k : Nat, k ≤ len ∧ i = .int .i64 k ∧ ∃ x : Int, t = .int .i64 x) (fun _ i _ => len - (intOf i).toNat)
  case atStart => exact ⟨rfl, 0, Nat.zero_le _, rfl, _, rfl⟩
  case round =>
    obtain ⟨rfl, k, hk, rfl, x, rfl⟩ := hrel
    by_cases hlt : k < len
    · have hTk := hT k hlt
      have hnk := hn k hlt
      clear hF hL hT hn
      go_wp2
      go_roundw
      case rel => exact ⟨trivial, k + 1, by omega, by go_num, _, rfl⟩
      case measure => simp [intOf]; omega
    · by_cases hx : 1048576 < x
      · clear hF hL hT hI
        go_wp2
        go_ret
        exact ⟨rfl, Below.refl _ _⟩
      · have hmk := mkBuilt len hmax
        have HF := hF
        have hF' : Hid _ := hF
        have hL' : Hid _ := hL
        have hT' : Hid _ := hT
        have hI' : Hid _ := hI
        have hn' : Hid _ := hn
        clear hF hL hT hI hn HF
        go_wp2
        go_loopw [40] (fun i w2 => Below w.heap.size w w2 ∧ ∃ k top : Nat, k ≤ len ∧ i = .int .i64 k ∧ Built F L n f l w.heap.size k len top w2) (fun i _ => len - (intOf i).toNat)
        case atStart => exact ⟨al1 _ _, 0, w.heap.size + 1, Nat.zero_le _, rfl, Built.start len w⟩
        case round =>
          clear hmk hx hlt hk
          obtain ⟨hb, k2, top, hk2, rfl, hbu⟩ := hrel
          by_cases hlt : k2 < len
          · have hTk := kc hb (hT'.out k2 hlt)
            have hnk := hn'.out k2 hlt
            have hFk := kc hb (hF'.out k2 hlt)
            have hLk := kc hb (hL'.out k2 hlt)
            have hmk := mkRanges (n k2) hnk
            have hb' := hb.size
            have hBr : B < wr.heap.size := by omega
            have hBu : Hid _ := hbu
            clear hbu
            go_wp2
            obtain ⟨g, hg⟩ : ∃ g, g = wr.heap.size := ⟨_, rfl⟩
            rw [← hg]
            have hG : Hid _ := hg
            clear hg
            rename World => w2
            go_loopw [56] (fun j w3 => Below w.heap.size w w3 ∧ Built F L n f l w.heap.size k2 len top w3 ∧ ∃ m : Nat, m ≤ n k2 ∧ j = .int .i64 m ∧ Part (f k2) (l k2) g m (n k2) w3) (fun j _ => n k2 - (intOf j).toNat)
            case atStart => exact ⟨hb.alloc hb.size _, hBu.out.below ((Below.refl _ _).alloc hBu.out.top_le _), 0, Nat.zero_le _, rfl, by rw [hG.out]; exact Part.start _ _⟩
            case round =>
              obtain ⟨hb3, hbu3, m, hm, rfl, hpart⟩ := hrel
              have htop := hBu.out.top_le
              have hG' := hG.out
              have hgw : w.heap.size ≤ g := by omega
              have hgt : top ≤ g := by omega
              clear hG' htop hFk hLk hmk hTk
              by_cases hltm : m < n k2
              · obtain ⟨tb, to, hTe, htb, hif, hil⟩ := hI'.out k2 hlt (by omega)
                have hTk := kc hb3 (hT'.out k2 hlt)
                rw [hTe] at hTk
                have hfm := kc hb3 (hif m hltm)
                have hlm := kc hb3 (hil m hltm)
                obtain ⟨v0, hv0⟩ := hpart.all (m * 2) (by omega)
                obtain ⟨v1, hv1⟩ := hpart.all (m * 2 + 1) (by omega)
                have hz0 := hpart.fz (m * 2)
                have hz1 := hpart.fz (m * 2 + 1)
                have hp' : Hid _ := hpart
                have hbu3' : Hid _ := hbu3
                clear hif hil hTe hpart hbu3
                have n1 : ¬ g = B := by omega
                have n2 : ¬ g = tb := by omega
                have i1 : (0 : Int) ≤ (k2 : Int) := by omega
                have i2 : (k2 : Int) < (len : Int) := by omega
                have i3 : (0 : Int) ≤ (m : Int) := by omega
                have i4 : (m : Int) < (n k2 : Int) := by omega
                go_wp2
                go_region_held3 (fun w' => w'.cell? ⟨B, O + k2 * 3 + 2, none⟩ = some (.slice (some ⟨tb, to, none⟩) (n k2) (c k2)) ∧ w'.cell? ⟨tb, to + m * 2, none⟩ = some (.int .u32 (f k2 m)) ∧ w'.cell? ⟨tb, to + m * 2 + 1, none⟩ = some (.int .u32 (l k2 m)))
                  (go_keep) (fail)
                go_wp2
                go_roundw
                case rel => exact ⟨((hb3.setCell hgw _).setCell hgw _).drew, hbu3'.out.below (((((Below.refl _ _)).setCell hgt _).setCell hgt _).drew), m + 1, by omega, by go_num, (hp'.out.step hltm).drew⟩
                case measure => simp [intOf]; omega
              · have hme : m = n k2 := by omega
                subst hme
                have hTk := kc hb3 (hT'.out k2 hlt)
                have hFk := kc hb3 (hF'.out k2 hlt)
                have hLk := kc hb3 (hL'.out k2 hlt)
                obtain ⟨v0, hv0⟩ := hbu3.all (k2 * 3) (by omega)
                obtain ⟨v1, hv1⟩ := hbu3.all (k2 * 3 + 1) (by omega)
                obtain ⟨v2, hv2⟩ := hbu3.all (k2 * 3 + 2) (by omega)
                have hz0 := hbu3.fz (k2 * 3)
                have hz1 := hbu3.fz (k2 * 3 + 1)
                have hz2 := hbu3.fz (k2 * 3 + 2)
                have hp' : Hid _ := hpart
                have hbu3' : Hid _ := hbu3
                clear hpart hbu3
                have n1 : ¬ w.heap.size = B := by omega
                have i1 : (0 : Int) ≤ (k2 : Int) := by omega
                have i2 : (k2 : Int) < (len : Int) := by omega
                go_wp2
                go_region_held3 (fun w' => w'.cell? ⟨B, O + k2 * 3, none⟩ = some (.int .u32 (F k2)) ∧ w'.cell? ⟨B, O + k2 * 3 + 1, none⟩ = some (.int .u32 (L k2)))
                  (go_keep) (fail)
                go_wp2
                go_roundw
                case rel => exact ⟨(((hb3.setCell (by simp) _).setCell (by simp) _).setCell (by simp) _).drew, k2 + 1, g + 1, by omega, by go_num, (hbu3'.out.step hlt hgt hp'.out).drew⟩
                case measure => simp [intOf]; omega
          · have hke : k2 = len := by omega
            subst hke
            clear hlt
            have hsz := hb.size
            have hzr := kc hb hz
            rename World => w2
            obtain ⟨g0, hg0, hg1, hto0, hpart0⟩ := hbu.to 0 hlen
            have hf0 := hbu.first 0 hlen
            have hl0 := hbu.last 0 hlen
            simp only [Nat.zero_mul, Nat.zero_add] at hf0 hl0 hto0
            have htop := hbu.top_le
            have htl := hbu.lt
            have hbu' : Hid _ := hbu
            clear hbu
            -- what Min gives of the first row's set
            obtain ⟨m, mp, hmin⟩ : ∃ m mp, Hid ((n 0 = 0 → m = 0 ∧ mp = none) ∧ (0 < n 0 → m = ad (f 0 0) ∧ mp = z) ∧ ∀ W, Below w2.heap.size w2 W → Calls Ybad.prog 15 #[.agg #[.slice (some ⟨g0, 0, none⟩) (n 0) (n 0)]] W fun e w' => e = .returned (.agg #[.int .u64 0, .int .u64 m, .pointer mp]) ∧ Below W.heap.size W w') := by
              by_cases h0 : n 0 = 0
              · refine ⟨0, none, fun _ => ⟨rfl, rfl⟩, fun h => by omega, fun W _ => ?_⟩
                rw [h0]
                exact setMin_none _ _ W
              · refine ⟨ad (f 0 0), z, fun h => by omega, fun _ => ⟨rfl, rfl⟩, fun W hW => ?_⟩
                have a0 := hpart0.first 0 (by omega)
                have a1 := hpart0.last 0 (by omega)
                simp only [Nat.zero_mul, Nat.zero_add] at a0 a1
                exact setMin_some g0 0 (n 0) (n 0) (f 0 0) (l 0 0) z W (kc hW hzr) (by have := hW.size; omega) (by simp; omega) (by have := hW.size; omega) (kc hW a0) (kc hW a1)
            clear hpart0
            have hl2 : ((k2 : Int) == 0) = false := by simp; omega
            go_wp2_with (first | (go_at_call 5; refine (pairsMin_some w.heap.size 0 k2 k2 (F 0) (L 0) (.slice (some ⟨g0, 0, none⟩) (n 0) (n 0)) m mp z _ (kc (al1 _ _) hzr) hl2 (by simp; omega) (kc (al1 _ _) hf0) (kc (al1 _ _) hl0) (kc (al1 _ _) hto0) (fun W hW => hmin.out.2.2 W ((al1 _ _).trans (hW.mono (by simp))))).mono ?_; rintro e w3 ⟨rfl, hb3⟩; (have hb3' : Below w2.heap.size w2 w3 := (al1 _ _).trans (hb3.mono (by simp))); (have hP3 := kc hb3 (a := ⟨w2.heap.size, 0, none⟩) (v := .slice (some ⟨w.heap.size, 0, none⟩) k2 k2) (by simp)); (have hs3 := hb3.size); (simp only [World.size_alloc] at hs3); (have hbw3 : Below w.heap.size w w3 := hb.trans (hb3'.mono hsz)); (have hF3 := kc hbw3 (hF'.out 0 hlen)); (simp only [Nat.zero_mul, Nat.add_zero] at hF3); (have hF4 : ∀ o1 o2 o3 o4, ((((w3.alloc o1).alloc o2).alloc o3).alloc o4).cell? ⟨B, O, none⟩ = some (.int .u32 (F 0)) := fun o1 o2 o3 o4 => kc (al4 _ _ _ _ _) hF3)))
            clear hF4 hF3 hf0 hl0 hto0
            refine (quad_any (F 0) _).mono ?_
            rintro e w4 ⟨rfl, hb4⟩
            have hb4' : Below w3.heap.size w3 w4 := (al4 _ _ _ _ _).trans (hb4.mono (by simp; omega))
            have hs4 : w3.heap.size + 4 ≤ w4.heap.size := by have := hb4.size; simp at this; omega
            have x1 : Hid (Box3 w4 w3.heap.size (.int .u64 0) (.int .u64 (ad (F 0))) (.pointer z)) := Box3.made (t := 46) hb4 (by repeat (first | rw [hD] | (refine hN _ _ _ ?_; (repeat rw [World.size_alloc]) <;> omega) | (refine (hO _ _ _ ?_).trans ?_; · (repeat rw [World.size_alloc]) <;> omega)))
            have x2 : Hid (Box3 w4 (w3.heap.size + 1) (.int .u64 0) (.int .u64 m) (.pointer mp)) := Box3.made (t := 46) hb4 (by repeat (first | rw [hD] | (refine hN _ _ _ ?_; (repeat rw [World.size_alloc]) <;> omega) | (refine (hO _ _ _ ?_).trans ?_; · (repeat rw [World.size_alloc]) <;> omega)))
            have x3 : Hid (Box3 w4 (w3.heap.size + 1 + 1) (.int .u64 0) (.int .u64 0) (.pointer none)) := Box3.made (t := 46) hb4 (by repeat (first | rw [hD] | (refine hN _ _ _ ?_; (repeat rw [World.size_alloc]) <;> omega) | (refine (hO _ _ _ ?_).trans ?_; · (repeat rw [World.size_alloc]) <;> omega)))
            have x4 : Hid (Box3 w4 (w3.heap.size + 1 + 1 + 1) (.int .u64 0) (.int .u64 0) (.pointer none)) := Box3.made (t := 46) hb4 (by repeat (first | rw [hD] | (refine hN _ _ _ ?_; (repeat rw [World.size_alloc]) <;> omega) | (refine (hO _ _ _ ?_).trans ?_; · (repeat rw [World.size_alloc]) <;> omega)))
            clear hb4
            go_wp2_with fail
            refine (from4_any (b0 (F 0)) (b1 (F 0)) (b2 (F 0)) (b3 (F 0)) z w4 (kc hb4' (kc hb3' hzr)) (by omega)).mono ?_
            rintro e w5 ⟨rfl, hb5⟩
            rw [show a4 (b0 (F 0)) (b1 (F 0)) (b2 (F 0)) (b3 (F 0)) = ad (F 0) from rfl]
            have y1 : Hid _ := x1.out.later hb5
            have y2 : Hid _ := x2.out.later hb5
            have y3 := x3.out.later hb5
            have y4 : Hid _ := x4.out.later hb5
            obtain ⟨q0, q1, q2, q3, q4, q5⟩ := y3
            have hs5 := hb5.size
            have hbw5 : Below w.heap.size w w5 := hbw3.trans ((hb4'.trans (hb5.mono (by omega))).mono (by omega))
            have hT5 := kc hbw5 (hT'.out 0 hlen)
            simp only [Nat.zero_mul, Nat.add_zero] at hT5
            have nB : ¬ w3.heap.size + 1 + 1 = B := by omega
            have nP : ¬ w3.heap.size + 1 + 1 = w2.heap.size := by omega
            have nP' : ¬ w3.heap.size + 1 + 1 + 1 = w2.heap.size := by omega
            have hP5 := kc hb5 (kc hb4' hP3)
            clear hP3 x1 x2 x3 x4
            by_cases hn0 : n 0 = 0
            · have hn0' : ((n 0 : Nat) : Int) = 0 := by omega
              rw [hn0] at hT5
              go_wp2
              go_loopw [139] (fun i w' => Tail F L n f l w k2 top w2.heap.size w3.heap.size m z mp w' ∧ ∃ k : Nat, k ≤ k2 ∧ i = .int .i64 k) (fun i _ => k2 - (intOf i).toNat)
              case atStart => exact ⟨⟨((hbw5.setCell (by simp; omega) _).setCell (by simp; omega) _).setCell (by simp; omega) _, ((y1.out.other (by omega) _ _).other (by omega) _ _).other (by omega) _ _, ((y2.out.other (by omega) _ _).other (by omega) _ _).other (by omega) _ _, Box3.set ⟨q0, q1, q2, q3, q4, q5⟩ _ _ _, by rw [(hmin.out.1 hn0).1, (hmin.out.1 hn0).2]; exact ((y4.out.other (by omega) _ _).other (by omega) _ _).other (by omega) _ _, by rw [cell_set_ne (Or.inl nP), cell_set_ne (Or.inl nP), cell_set_ne (Or.inl nP)]; exact hP5, hbu'.out.below (((((hb3'.trans (hb4'.mono hb3'.size)).trans (hb5.mono (by omega))).mono htop).setCell (by simp; omega) _).setCell (by simp; omega) _ |>.setCell (by simp; omega) _)⟩, 0, Nat.zero_le _, rfl⟩
              case round =>
                clear hT5 hP5 q0 q1 q2 q3 q4 q5 hb5 hbw5 hzr hb4' hb3' hbw3 hb3 hb hz
                obtain ⟨ht, k4, hk4, rfl⟩ := hrel
                by_cases hlt : k4 < k2
                · have e1 := ht.pc
                  have e2 := ht.built.first k4 hlt
                  have e3 := ht.built.last k4 hlt
                  obtain ⟨g, hg0, hg1, e4, hpart⟩ := ht.built.to k4 hlt
                  have e5 := kc ht.below (hF'.out k4 hlt)
                  have e6 := kc ht.below (hL'.out k4 hlt)
                  have e7 := kc ht.below (hT'.out k4 hlt)
                  have e8 := ht.below.size
                  have e9 := ht.built.top_le
                  have l1 : B < wr.heap.size := by omega
                  have l2 : w.heap.size < wr.heap.size := by omega
                  have l3 : w2.heap.size < wr.heap.size := World.block_lt_of_cell? _ _ e1
                  have hT0 : Hid _ := ht
                  have hP0 : Hid _ := hpart
                  clear ht hpart
                  have hnk := hn'.out k4 hlt
                  have i1 : (0 : Int) ≤ (k4 : Int) := by omega
                  have i2 : (k4 : Int) < (k2 : Int) := by omega
                  go_wp2
                  go_quiet (fail)
                  go_wp2
                  obtain ⟨N, hN⟩ : ∃ N, N = wr.heap.size := ⟨_, rfl⟩
                  rw [← hN]
                  have hNN : Hid _ := hN
                  clear hN
                  have hbq : Below wr.heap.size wr ((wr.alloc (.cells #[.int .u32 (F k4), .int .u32 (L k4), .slice (some ⟨g, 0, none⟩) (n k4) (n k4)] 36)).drewN nq) := below_drewN (al1 _ _) nq
                  rename World => w6
                  go_loopw [186] (fun j w' => Tail F L n f l w k2 top w2.heap.size w3.heap.size m z mp w' ∧ w'.cell? ⟨N, 2, none⟩ = some (.slice (some ⟨g, 0, none⟩) (n k4) (n k4)) ∧ Part (f k4) (l k4) g (n k4) (n k4) w' ∧ ∃ q : Nat, q ≤ n k4 ∧ j = .int .i64 q) (fun j _ => n k4 - (intOf j).toNat)
                  case atStart => exact ⟨hT0.out.later hbq, by rw [hNN.out]; simp, hP0.out.below hbq (by omega), 0, Nat.zero_le _, rfl⟩
                  case round =>
                    clear hbq e1 e2 e3 e4 e5 e6 e7 l1 l2 l3
                    obtain ⟨ht, hs2, hpart, q, hq, rfl⟩ := hrel
                    by_cases hltq : q < n k4
                    · obtain ⟨tb, to, hTe, htb, hif, hil⟩ := hI'.out k4 hlt (by omega)
                      have e7 := kc ht.below (hT'.out k4 hlt)
                      rw [hTe] at e7
                      have e1 := kc ht.below (hif q hltq)
                      have e2 := kc ht.below (hil q hltq)
                      have e3 := hpart.first q hltq
                      have e4 := hpart.last q hltq
                      have hT1 : Hid _ := ht
                      have hP1 : Hid _ := hpart
                      clear ht hpart hif hil hTe
                      have i3 : (0 : Int) ≤ (q : Int) := by omega
                      have i4 : (q : Int) < (n k4 : Int) := by omega
                      go_wp2
                      go_quiet (fail)
                      go_wp2
                      go_roundw
                      case rel => exact ⟨hT1.out.later (below_drewN (Below.refl _ _) nq), hs2, hP1.out.below (below_drewN (Below.refl _ _) nq) (hP1.out.lt), q + 1, by omega, by go_num⟩
                      case measure => simp [intOf]; omega
                    · have hT1 : Hid _ := ht
                      clear ht hpart
                      go_wp2
                      go_roundw
                      case rel => exact ⟨hT1.out, k4 + 1, by omega, by go_num⟩
                      case measure => simp [intOf]; omega
                · obtain ⟨q0, q1, q2, _, _, _⟩ := ht.fr
                  obtain ⟨r0, r1, r2, _, _, _⟩ := ht.to
                  obtain ⟨s0, s1, s2, _, _, _⟩ := ht.wf
                  obtain ⟨t0, t1, t2, _, _, _⟩ := ht.wt
                  have hT1 : Hid _ := ht
                  clear ht
                  have hq := eqPtr
                  go_wp2
                  go_ret
                  exact ⟨rfl, hT1.out.below⟩
            · have hn0p : 0 < n 0 := by omega
              have hn0i : (0 : Int) < ((n 0 : Nat) : Int) := by omega
              obtain ⟨tb, to, hTe, htb, hif, hil⟩ := hI'.out 0 hlen hn0p
              rw [hTe] at hT5
              have hi5 := kc hbw5 (hif 0 hn0p)
              simp only [Nat.zero_mul, Nat.add_zero] at hi5
              have nT : ¬ w3.heap.size + 1 + 1 = tb := by omega
              clear hif hil hTe
              go_wp2_with fail
              refine (quad_any (f 0 0) _).mono ?_
              rintro e w6 ⟨rfl, hb6⟩
              have v1 : Hid _ := (((y1.out.other (by omega) _ _).other (by omega) _ _).other (by omega) _ _).later hb6
              have v2 : Hid _ := (((y2.out.other (by omega) _ _).other (by omega) _ _).other (by omega) _ _).later hb6
              have v3 : Hid _ := (Box3.set ⟨q0, q1, q2, q3, q4, q5⟩ _ _ _).later hb6
              have v4 : Hid _ := (((y4.out.other (by omega) _ _).other (by omega) _ _).other (by omega) _ _).later hb6
              have hs6 := hb6.size
              simp only [World.size_setCell] at hs6
              have hb6' : Below w3.heap.size w3 w6 := (((((hb4'.trans (hb5.mono (by omega))).setCell (by simp; omega) _).setCell (by simp; omega) _).setCell (by simp; omega) _)).trans (hb6.mono (by simp; omega))
              have hP6 : w6.cell? ⟨w2.heap.size, 0, none⟩ = some (.slice (some ⟨w.heap.size, 0, none⟩) k2 k2) := by
                rw [hb6'.cell (p := ⟨w2.heap.size, 0, none⟩) (by simp; omega), ← hb4'.cell (p := ⟨w2.heap.size, 0, none⟩) (by simp; omega), ← hb5.cell (p := ⟨w2.heap.size, 0, none⟩) (by simp; omega)]; exact hP5
              clear q0 q1 q2 q3 q4 q5 y1 y2 y4 hP5 hT5 hi5 nB nP nT hb6
              go_wp2_with fail
              refine (from4_any (b0 (f 0 0)) (b1 (f 0 0)) (b2 (f 0 0)) (b3 (f 0 0)) z w6 (kc hb6' (kc hb3' hzr)) (by omega)).mono ?_
              rintro e w7 ⟨rfl, hb7⟩
              rw [show a4 (b0 (f 0 0)) (b1 (f 0 0)) (b2 (f 0 0)) (b3 (f 0 0)) = ad (f 0 0) from rfl]
              have y1 : Hid _ := v1.out.later hb7
              have y2 : Hid _ := v2.out.later hb7
              have y3 : Hid _ := v3.out.later hb7
              have y4 := v4.out.later hb7
              obtain ⟨q0, q1, q2, q3, q4, q5⟩ := y4
              have hs7 := hb7.size
              have hP5 := kc hb7 hP6
              have hb5 : Below w3.heap.size w3 w7 := hb6'.trans (hb7.mono (by omega))
              have hbw5 : Below w.heap.size w w7 := hbw3.trans (hb5.mono (by omega))
              have hT5 : True := trivial
              clear v1 v2 v3 v4 hP6 hb6'
              go_wp2
              go_loopw [139] (fun i w' => Tail F L n f l w k2 top w2.heap.size w3.heap.size m z mp w' ∧ ∃ k : Nat, k ≤ k2 ∧ i = .int .i64 k) (fun i _ => k2 - (intOf i).toNat)
              case atStart => exact ⟨⟨((hbw5.setCell (by simp; omega) _).setCell (by simp; omega) _).setCell (by simp; omega) _, ((y1.out.other (by omega) _ _).other (by omega) _ _).other (by omega) _ _, ((y2.out.other (by omega) _ _).other (by omega) _ _).other (by omega) _ _, ((y3.out.other (by omega) _ _).other (by omega) _ _).other (by omega) _ _, by rw [(hmin.out.2.1 hn0p).1, (hmin.out.2.1 hn0p).2]; exact Box3.set ⟨q0, q1, q2, q3, q4, q5⟩ _ _ _, by rw [cell_set_ne (Or.inl nP'), cell_set_ne (Or.inl nP'), cell_set_ne (Or.inl nP')]; exact hP5, hbu'.out.below ((((hb3'.trans (hb5.mono hb3'.size)).mono htop).setCell (by simp; omega) _).setCell (by simp; omega) _ |>.setCell (by simp; omega) _)⟩, 0, Nat.zero_le _, rfl⟩
              case round =>
                clear hT5 hP5 q0 q1 q2 q3 q4 q5 hb5 hbw5 hzr hb4' hb3' hbw3 hb3 hb hz
                obtain ⟨ht, k4, hk4, rfl⟩ := hrel
                by_cases hlt : k4 < k2
                · have e1 := ht.pc
                  have e2 := ht.built.first k4 hlt
                  have e3 := ht.built.last k4 hlt
                  obtain ⟨g, hg0, hg1, e4, hpart⟩ := ht.built.to k4 hlt
                  have e5 := kc ht.below (hF'.out k4 hlt)
                  have e6 := kc ht.below (hL'.out k4 hlt)
                  have e7 := kc ht.below (hT'.out k4 hlt)
                  have e8 := ht.below.size
                  have e9 := ht.built.top_le
                  have l1 : B < wr.heap.size := by omega
                  have l2 : w.heap.size < wr.heap.size := by omega
                  have l3 : w2.heap.size < wr.heap.size := World.block_lt_of_cell? _ _ e1
                  have hT0 : Hid _ := ht
                  have hP0 : Hid _ := hpart
                  clear ht hpart
                  have hnk := hn'.out k4 hlt
                  have i1 : (0 : Int) ≤ (k4 : Int) := by omega
                  have i2 : (k4 : Int) < (k2 : Int) := by omega
                  go_wp2
                  go_quiet (fail)
                  go_wp2
                  obtain ⟨N, hN⟩ : ∃ N, N = wr.heap.size := ⟨_, rfl⟩
                  rw [← hN]
                  have hNN : Hid _ := hN
                  clear hN
                  have hbq : Below wr.heap.size wr ((wr.alloc (.cells #[.int .u32 (F k4), .int .u32 (L k4), .slice (some ⟨g, 0, none⟩) (n k4) (n k4)] 36)).drewN nq) := below_drewN (al1 _ _) nq
                  rename World => w6
                  go_loopw [186] (fun j w' => Tail F L n f l w k2 top w2.heap.size w3.heap.size m z mp w' ∧ w'.cell? ⟨N, 2, none⟩ = some (.slice (some ⟨g, 0, none⟩) (n k4) (n k4)) ∧ Part (f k4) (l k4) g (n k4) (n k4) w' ∧ ∃ q : Nat, q ≤ n k4 ∧ j = .int .i64 q) (fun j _ => n k4 - (intOf j).toNat)
                  case atStart => exact ⟨hT0.out.later hbq, by rw [hNN.out]; simp, hP0.out.below hbq (by omega), 0, Nat.zero_le _, rfl⟩
                  case round =>
                    clear hbq e1 e2 e3 e4 e5 e6 e7 l1 l2 l3
                    obtain ⟨ht, hs2, hpart, q, hq, rfl⟩ := hrel
                    by_cases hltq : q < n k4
                    · obtain ⟨tb, to, hTe, htb, hif, hil⟩ := hI'.out k4 hlt (by omega)
                      have e7 := kc ht.below (hT'.out k4 hlt)
                      rw [hTe] at e7
                      have e1 := kc ht.below (hif q hltq)
                      have e2 := kc ht.below (hil q hltq)
                      have e3 := hpart.first q hltq
                      have e4 := hpart.last q hltq
                      have hT1 : Hid _ := ht
                      have hP1 : Hid _ := hpart
                      clear ht hpart hif hil hTe
                      have i3 : (0 : Int) ≤ (q : Int) := by omega
                      have i4 : (q : Int) < (n k4 : Int) := by omega
                      go_wp2
                      go_quiet (fail)
                      go_wp2
                      go_roundw
                      case rel => exact ⟨hT1.out.later (below_drewN (Below.refl _ _) nq), hs2, hP1.out.below (below_drewN (Below.refl _ _) nq) (hP1.out.lt), q + 1, by omega, by go_num⟩
                      case measure => simp [intOf]; omega
                    · have hT1 : Hid _ := ht
                      clear ht hpart
                      go_wp2
                      go_roundw
                      case rel => exact ⟨hT1.out, k4 + 1, by omega, by go_num⟩
                      case measure => simp [intOf]; omega
                · obtain ⟨q0, q1, q2, _, _, _⟩ := ht.fr
                  obtain ⟨r0, r1, r2, _, _, _⟩ := ht.to
                  obtain ⟨s0, s1, s2, _, _, _⟩ := ht.wf
                  obtain ⟨t0, t1, t2, _, _, _⟩ := ht.wt
                  have hT1 : Hid _ := ht
                  clear ht
                  have hq := eqPtr
                  go_wp2
                  go_ret
                  exact ⟨rfl, hT1.out.below⟩
end Go.Proofs.YbulkeiiwDoor

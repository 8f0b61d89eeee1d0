/-
  The law's walk, the map made.
-/
import Derived.Test.YbulkeijkABuilt
import Derived.Deep.Cut
import Derived.Deep.DeepCutAuto
import Derived.WalkSpells
import Derived.Deep.QuietTactic
namespace Go.Proofs.Ybulkeijk
open Go.RowKit Go.MuLone Go.Maps Go.Deep
open Go.ChangeMaps (setBlock)

/-- The ids: n numbers of one byte. -/
def Ids (a0 : Option Addr) (n : Nat) (d : Nat → Nat) (w : World) : Prop := (∀ i, i < n → d i < 256) ∧ (0 < n → ∃ b o, a0 = some ⟨b, o, none⟩ ∧ b < w.heap.size ∧ ∀ i, i < n → w.cell? ⟨b, o + i, none⟩ = some (.int .u8 (d i)))
/-- The flags. -/
def Flags (a1 : Option Addr) (n : Nat) (f : Nat → Bool) (w : World) : Prop := 0 < n → ∃ b o, a1 = some ⟨b, o, none⟩ ∧ b < w.heap.size ∧ ∀ i, i < n → w.cell? ⟨b, o + i, none⟩ = some (.bool (f i))

set_option maxRecDepth 100000 in
set_option maxHeartbeats 3200000 in
theorem law_built (a0 a1 : Option Addr) (n c0 fn c1 : Nat) (nm : Bool) (d : Nat → Nat) (f : Nat → Bool) (w : World) (hn : n ≤ 65536) (hnn : ¬ (nm = true ∧ n = 0)) (hI : Ids a0 n d w) (hF : Flags a1 fn f w) :
    Calls Yba.prog 3 #[.slice a0 n c0, .slice a1 fn c1, .bool nm] w fun e w' => e = .returned (.bool true) ∧ Below w.heap.size w w' := by
  have hgt : ¬ ((65536 : Int) < n) := by omega
  have hn0 : (0 : Int) ≤ n := by omega
  have hN : Hid (n ≤ 65536) := hn
  have hNN : Hid (¬ (nm = true ∧ n = 0)) := hnn
  have hII : Hid (Ids a0 n d w) := hI
  have hFF : Hid (Flags a1 fn f w) := hF
  clear hn hnn hI hF
  have hmm : ∀ W : World, (Instr.makeMap 37 none).run Yba.prog W = .ok (.map (some W.heap.size)) (W.alloc (.map #[] 0)) := fun W => by kernel_rfl
  have hmc := mkConns n hN
  have hmv := mkVals n hN
  go_enter Yba.func3, Yba.ntmps3
  go_wp2_with fail
  refine wp_loop_rounds 5 ?_
  rw [rounds_succ]
  go_wp2_with fail
  rw [rounds_succ]
  go_wp2_with fail
  rw [rounds_succ]
  go_wp2_with fail
  rw [rounds_succ]
  go_wp2_with fail
  rw [rounds_succ]
  go_upto_region 9 with fail
  go_cut [10] (fun s10 wx => s10 = .bool false ∧ wx = start0 w)
  case first =>
    cases nm with
    | true =>
      have h0 : ((n : Int) == 0) = false := by
        have := hNN.out
        simp at this
        simpa using this
      go_wp2_with fail
      go_meet
      exact ⟨rfl, rfl⟩
    | false =>
      go_wp2_with fail
      go_meet
      exact ⟨rfl, rfl⟩
  case rest =>
    obtain ⟨rfl, rfl⟩ := hcut
    have hs0 : (start0 w).heap.size = w.heap.size + 6 := by simp [start0]
    go_wp2_with fail
    simp only [Nat.add_assoc, Nat.reduceAdd]
    go_loopw [57] (fun s wr => ∃ i : Nat, i ≤ n ∧ s = .int .i64 i ∧ Built (fun i => d i % 4) (fun i => if i < fn then f i else false) n i w.heap.size w wr) (fun s _ => n - (intOf s).toNat)
    case atStart => exact ⟨0, by omega, rfl, Built.at_start _ _ n w⟩
    case round =>
      obtain ⟨i, hi, rfl, hB⟩ := hrel
      have HB : Hid (Built (fun i => d i % 4) (fun i => if i < fn then f i else false) n i w.heap.size w wr) := hB
      clear hB hs0
      by_cases hlt : i < n
      · have hlt' : (i : Int) < n := by omega
        obtain ⟨b, o, rfl, hbl, hc⟩ := hII.out.2 (by omega)
        have hc1 : wr.cell? ⟨b, o + i, none⟩ = some (.int .u8 (d i)) := by rw [cell_of_block (HB.out.below.block b hbl)]; exact hc i hlt
        have hd : d i < 256 := hII.out.1 i hlt
        have hq : d i % 4 < 4 := Nat.mod_lt _ (by omega)
        have harr := HB.out.arr _ hq
        have hi0 : (0 : Int) ≤ i := by omega
        clear hc
        have hsz : wr.heap.size = w.heap.size + 10 + i := HB.out.size
        have g8 : ∀ O, (wr.alloc O).cell? ⟨w.heap.size + 8, i, none⟩ = some (.pointer none) := fun O => by
          rw [(HB.out.allocd O (by omega) i).1, HB.out.conns i hlt]; simp
        have g9 : ∀ O, (wr.alloc O).cell? ⟨w.heap.size + 9, i, none⟩ = some (.bool false) := fun O => by
          rw [(HB.out.allocd O (by omega) i).1, HB.out.vals i hlt]; simp
        have g6 : ∀ O, (wr.alloc O).cell? ⟨w.heap.size + 6, 2, none⟩ = some (.map (some (w.heap.size + 7))) := fun O => by
          rw [(HB.out.allocd O (by omega) 2).1, HB.out.opn]
        have z8 : ∀ O, (wr.alloc O).frozen? ⟨w.heap.size + 8, i, none⟩ = false := fun O => by
          rw [(HB.out.allocd O (by omega) i).2]; exact HB.out.frz 8 i (by omega)
        have z9 : ∀ O, (wr.alloc O).frozen? ⟨w.heap.size + 9, i, none⟩ = false := fun O => by
          rw [(HB.out.allocd O (by omega) i).2]; exact HB.out.frz 9 i (by omega)
        have hwr : wrap64 ((cntTo (fun i => d i % 4) i (d i % 4) : Int) + 1) = (cntTo (fun i => d i % 4) i (d i % 4) : Int) + 1 := by
          have := cntTo_le (fun i => d i % 4) (d i % 4) i
          have := hN.out
          unfold wrap64; omega
        by_cases hfl : i < fn
        · have hfl' : (i : Int) < fn := by omega
          obtain ⟨b1, o1, rfl, hbl1, hc2⟩ := hFF.out (by omega)
          have g1 : ∀ O, (wr.alloc O).cell? ⟨b1, o1 + i, none⟩ = some (.bool (f i)) := fun O => by
            rw [(HB.out.allocd O (by omega) _).1, cell_of_block (HB.out.below.block b1 hbl1)]; exact hc2 i hfl
          have hne1 : ¬ (w.heap.size + 8 = b1) := by omega
          clear hc2
          go_wp2_with (first
            | (at_mapUpdate; refine wpList_store_ptr _ rfl _ _ _ 37 rfl Yba.underlying37 Yba.underlying41 (w.heap.size + 7) _ i rfl (HB.out.mapNow _ _ _) (.pointer (some ⟨w.heap.size + 10 + i, 0, none⟩)) (.bool (f i)) rfl rfl (HB.out.newKey _ _) ?_
               intro w4 hw4
               obtain ⟨hw5, zw5⟩ := HB.out.wantNow hw4 hq
               have hst : Hid (Built (fun i => d i % 4) (fun i => if i < fn then f i else false) n (i + 1) w.heap.size w (w4.setCell ⟨w.heap.size + 5, d i % 4, none⟩ (.int .i64 ((cntTo (fun i => d i % 4) i (d i % 4) : Int) + 1)))) :=
                 HB.out.step (w4 := w4) hlt hq (by rw [hw4]; simp [ent, connObj, hfl])
               clear hw4))
          go_roundw
          case rel => exact ⟨i + 1, by omega, by simp, hst.out⟩
          case measure => simp [intOf]; omega
        · have hfl' : ¬ ((i : Int) < fn) := by omega
          go_wp2_with (first
            | (at_mapUpdate; refine wpList_store_ptr _ rfl _ _ _ 37 rfl Yba.underlying37 Yba.underlying41 (w.heap.size + 7) _ i rfl (HB.out.mapNow _ _ _) (.pointer (some ⟨w.heap.size + 10 + i, 0, none⟩)) (.bool false) rfl rfl (HB.out.newKey _ _) ?_
               intro w4 hw4
               obtain ⟨hw5, zw5⟩ := HB.out.wantNow hw4 hq
               have hst : Hid (Built (fun i => d i % 4) (fun i => if i < fn then f i else false) n (i + 1) w.heap.size w (w4.setCell ⟨w.heap.size + 5, d i % 4, none⟩ (.int .i64 ((cntTo (fun i => d i % 4) i (d i % 4) : Int) + 1)))) :=
                 HB.out.step (w4 := w4) hlt hq (by rw [hw4]; simp [ent, connObj, hfl])
               clear hw4))
          go_roundw
          case rel => exact ⟨i + 1, by omega, by simp, hst.out⟩
          case measure => simp [intOf]; omega
      · have hin : i = n := by omega
        subst hin
        have HQ : ∀ j, j < i → (fun i => d i % 4) j < 4 := fun j _ => Nat.mod_lt _ (by omega)
        go_wp2_with fail
        refine (closeAll_held (HB.out.held HQ hN.out)).mono ?_
        rintro e w2 ⟨rfl, w1, seen, hm, hl, hw2⟩
        have HC : Hid (Closed (fun i => d i % 4) (fun i => if i < fn then f i else false) i w.heap.size w w2) := HB.out.closed hm hl hw2
        clear hm hl hw2 HB HQ w1 seen wr
        have hl0 := HC.out.lock
        have hz0 := HC.out.frz
        go_wp2_with fail
        refine (try_free _ _ hl0 hz0).mono ?_
        rintro e w3 ⟨rfl, rfl⟩
        go_wp2_with fail
        refine (unlock_held Yba.muLib _ _ (World.cell?_setCell_same _ _ _ hl0) (by simp [hz0])).mono ?_
        rintro e w3 ⟨rfl, hw3⟩
        have HD : Hid (Closed (fun i => d i % 4) (fun i => if i < fn then f i else false) i w.heap.size w w3) := by rw [hw3]; exact HC.out.locked 1
        clear hw3 HC hl0 hz0 w2
        go_wp2_with fail
        clear hmm hmc hmv hII hFF hNN hi hlt
        go_loopw [19] (fun s wr => ∃ j : Nat, j ≤ 4 ∧ s = .int .i64 j ∧ Closed (fun i => d i % 4) (fun i => if i < fn then f i else false) i w.heap.size w wr) (fun s _ => 4 - (intOf s).toNat)
        case atStart => exact ⟨0, by omega, rfl, HD.out⟩
        case round =>
          obtain ⟨j, hj, rfl, hC⟩ := hrel
          have HE : Hid (Closed (fun i => d i % 4) (fun i => if i < fn then f i else false) i w.heap.size w wr) := hC
          clear hC HD
          by_cases hj4 : j < 4
          · have i1 : (0 : Int) ≤ (j : Int) := by omega
            have i2 : (j : Int) < 4 := by omega
            have h1 := HE.out.arr j hj4
            have h2 := HE.out.st j hj4
            have h3 := HE.out.want j hj4
            go_wp2_with fail
            go_quiet (fail)
            go_wp2_with fail
            go_roundw
            case rel => exact ⟨j + 1, by omega, by simp, HE.out.drewN _⟩
            case measure => simp [intOf]; omega
          · have hj5 : ¬ ((j : Int) < 4) := by omega
            have h6 := HE.out.opn
            have hlen := len_raw (P := Yba.prog) Yba.underlying37 HE.out.map 3
            rw [ents_size] at hlen
            go_wp2_with fail
            clear hlen hj5 hj4 hj
            rename World => w6
            go_loopw [142] (fun s wx => ∃ k : Nat, k ≤ i ∧ s = .int .i64 k ∧ wx = w6) (fun s _ => i - (intOf s).toNat)
            case atStart => exact ⟨0, by omega, rfl, rfl⟩
            case round =>
              obtain ⟨k, hk, rfl, rfl⟩ := hrel
              by_cases hki : k < i
              · have i1 : (0 : Int) ≤ (k : Int) := by omega
                have i2 : (k : Int) < i := by omega
                have h8 := HE.out.conns k hki
                have h9 := HE.out.vals k hki
                go_wp2_with (first
                  | (at_lookup; refine wpList_look_ptr _ rfl _ _ 37 rfl Yba.underlying37 Yba.underlying41 (w.heap.size + 7) _ i rfl HE.out.map (.pointer (some ⟨w.heap.size + 10 + k, 0, none⟩)) (.bool (if k < fn then f k else false)) k k rfl (ents_at hki) (HE.out.before hki) (eq_conn_same _ _) ?_))
                go_roundw
                case rel => exact ⟨k + 1, by omega, by simp, by trivial⟩
                case measure => simp [intOf]; omega
              · have hki' : ¬ ((k : Int) < i) := by omega
                go_wp2_with fail
                go_ret
                exact ⟨rfl, HE.out.below⟩
end Go.Proofs.Ybulkeijk

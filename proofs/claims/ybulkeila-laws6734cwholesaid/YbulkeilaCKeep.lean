/-
  '(*pack.Cache).keepObject' by its contract.
-/
import Derived.Test.YbulkeilaCPut
import Derived.Test.YbulkeilaCLocks
import Derived.Deep.RegionWith
import Derived.Deep.Cut
import Derived.Deep.DeepCutAuto
namespace Go.Proofs.Ybulkeila
open Go Go.Deep Go.RowKit Go.MuLone
open Go.ChangeMaps (setBlock)

/-- The lock is free; the cache lies behind the field 'objects'. -/
structure Lk (pb cb : Nat) (w : World) : Prop where
  free : w.cell? ⟨pb, 0, none⟩ = some (.int .i32 0)
  obj : w.cell? ⟨pb, 2, none⟩ = some (.pointer (some ⟨cb, 0, none⟩))
  frz : w.frozen? ⟨pb, 0, none⟩ = false

/-- Behind Put, the lock still held. -/
def P6 (bud : Int) (pb cb bm p0 p1 : Nat) (L : List E) (ob : Option Nat) (e : E) (pp : Nat) (oo : Int) (w : World) (ob2 : Option Nat) (wx : World) : Prop :=
  Cache bud cb bm p0 p1 (putL bud e L) ob2 wx ∧ Kept (fun i => i = cb ∨ i = bm ∨ i = pb ∨ ob = some i) w wx ∧ (∀ k, ob2 = some k → ob = some k ∨ w.heap.size ≤ k) ∧ wx.cell? ⟨pb, 0, none⟩ = some (.int .i32 1) ∧ wx.cell? ⟨pb, 2, none⟩ = some (.pointer (some ⟨cb, 0, none⟩)) ∧ wx.frozen? ⟨pb, 0, none⟩ = false ∧
    wx.cell? ⟨w.heap.size, 0, none⟩ = some (.pointer (some ⟨pp, 0, none⟩)) ∧ wx.cell? ⟨w.heap.size, 1, none⟩ = some (.int .i64 oo)

/-- A road that does not panic: for a region that draws, in a function that defers. -/
def noPanic (Q : Exit → Act → World → Prop) : Exit → Act → World → Prop
  | .panic _, _, _ => False
  | e, a, w => Q e a w

theorem wp_noPanic {P : Program} {c : Code} {Q : Exit → Act → World → Prop} {a : Act} {w : World} (h : c.wp P (noPanic Q) a w) : c.wp P Q a w :=
  Code.wp_mono (fun e a w hq => by cases e <;> first | exact hq | exact hq.elim) h

set_option maxRecDepth 100000 in
set_option maxHeartbeats 3200000 in
theorem keep_any {bud : Int} {pb cb bm p0 p1 : Nat} {L : List E} {ob : Option Nat} {w : World} (h : Cache bud cb bm p0 p1 L ob w) (hL : Lk pb cb w) (e : E) (hk : e.k < 8) (hl : e.len ≤ 1073741824) (ht : total L ≤ 1073741824) (hn : L.length ≤ 10000) (hd : ∀ k, ob = some k → k ≠ cb ∧ k ≠ bm ∧ k ≠ p0 ∧ k ≠ p1 ∧ k ≠ pb)
    (hcm : cb ≠ bm) (hcp : cb ≠ p0 ∧ cb ≠ p1 ∧ bm ≠ p0 ∧ bm ≠ p1) (hpb : pb ≠ cb ∧ pb ≠ bm ∧ pb ≠ p0 ∧ pb ≠ p1) (hbud : -9223372036854775808 ≤ bud ∧ bud ≤ 9223372036854775807) :
    Calls Yba.prog 4 #[.pointer (some ⟨pb, 0, none⟩), .pointer (some ⟨pk p0 p1 e.k, 0, none⟩), .int .i64 ((e.k % 4 : Nat) : Int), .int .u8 e.t, .slice e.a e.len e.cap] w fun x w' => x = .returned (.bool (hasK (putL bud e L) e.k)) ∧
      Lk pb cb w' ∧ ∃ ob', Cache bud cb bm p0 p1 (putL bud e L) ob' w' ∧ Kept (fun i => i = cb ∨ i = bm ∨ i = pb ∨ ob = some i) w w' ∧ (∀ k, ob' = some k → ob = some k ∨ w.heap.size ≤ k) := by
  have h0 := hL.free
  have f0 := hL.frz
  generalize hoo : ((e.k % 4 : Nat) : Int) = oo
  generalize hpp : pk p0 p1 e.k = pp
  have HKV : Hid (keyV p0 p1 e.k = .agg #[.pointer (some ⟨pp, 0, none⟩), .int .i64 oo]) := by rw [← hoo, ← hpp]; rfl
  clear hoo hpp
  have hlt : pb < w.heap.size := cell_lt h0
  have hE : ∀ k, k ≠ pb → (w.setCell ⟨pb, 0, none⟩ (.int .i32 1)).heap[k]? = w.heap[k]? := fun k hk => blk_setCell_other _ _ _ k hk
  go_enter_defers Yba.func4, Yba.ntmps4
  go_wp2_with (first
    | (go_at_call 9; refine (lock_free Yba.muLib ⟨pb, 0, none⟩ _ h0 f0).mono ?_; rintro x w' ⟨rfl, rfl⟩))
  have hB : ∀ k, k < w.heap.size → k ≠ pb → ((w.setCell ⟨pb, 0, none⟩ (.int .i32 1)).alloc (.cells #[.pointer (some ⟨pp, 0, none⟩), .int .i64 oo] 73)).heap[k]? = w.heap[k]? := fun k h1 h2 => (blk_alloc_lt _ _ k (by rw [nblk_setCell]; exact h1)).trans (hE k h2)
  have hC : Cache bud cb bm p0 p1 L ob ((w.setCell ⟨pb, 0, none⟩ (.int .i32 1)).alloc (.cells #[.pointer (some ⟨pp, 0, none⟩), .int .i64 oo] 73)) := by
    obtain ⟨a, cap, h6, h7⟩ := h.c3
    obtain ⟨es, cl, h8, h9⟩ := h.map
    obtain ⟨hne, ⟨x0, hx0⟩, x1, hx1⟩ := h.packs
    exact h.kept (hB cb (cell_lt h.c0) (Ne.symm hpb.1)) (hB bm (Array.getElem?_eq_some_iff.1 h8).1 (Ne.symm hpb.2.1)) (fun k hk => hB k (h7.lt (by omega) k hk) (hd k hk).2.2.2.2) (hB p0 (Array.getElem?_eq_some_iff.1 hx0).1 (Ne.symm hpb.2.2.1)) (hB p1 (Array.getElem?_eq_some_iff.1 hx1).1 (Ne.symm hpb.2.2.2))
  have hbw : ((w.setCell ⟨pb, 0, none⟩ (.int .i32 1)).alloc (.cells #[.pointer (some ⟨pp, 0, none⟩), .int .i64 oo] 73)).heap[pb]? = (w.setCell ⟨pb, 0, none⟩ (.int .i32 1)).heap[pb]? := blk_alloc_lt _ _ pb (by rw [nblk_setCell]; exact hlt)
  have g0 : ((w.setCell ⟨pb, 0, none⟩ (.int .i32 1)).alloc (.cells #[.pointer (some ⟨pp, 0, none⟩), .int .i64 oo] 73)).cell? ⟨pb, 0, none⟩ = some (.int .i32 1) := by rw [cell_of_block hbw]; exact World.cell?_setCell_same _ _ _ h0
  have g2 : ((w.setCell ⟨pb, 0, none⟩ (.int .i32 1)).alloc (.cells #[.pointer (some ⟨pp, 0, none⟩), .int .i64 oo] 73)).cell? ⟨pb, 2, none⟩ = some (.pointer (some ⟨cb, 0, none⟩)) := by rw [cell_of_block hbw, World.cell?_setCell_other _ _ _ _ (by simp)]; exact hL.obj
  have gf : ((w.setCell ⟨pb, 0, none⟩ (.int .i32 1)).alloc (.cells #[.pointer (some ⟨pp, 0, none⟩), .int .i64 oo] 73)).frozen? ⟨pb, 0, none⟩ = false := by rw [frozen_of_block hbw, World.frozen?_setCell]; exact f0
  have gs : ((w.setCell ⟨pb, 0, none⟩ (.int .i32 1)).alloc (.cells #[.pointer (some ⟨pp, 0, none⟩), .int .i64 oo] 73)).heap.size = w.heap.size + 1 := by rw [nblk_alloc, nblk_setCell]
  have k0 : ((w.setCell ⟨pb, 0, none⟩ (.int .i32 1)).alloc (.cells #[.pointer (some ⟨pp, 0, none⟩), .int .i64 oo] 73)).cell? ⟨w.heap.size, 0, none⟩ = some (.pointer (some ⟨pp, 0, none⟩)) := by
    have := blk_alloc_new (w.setCell ⟨pb, 0, none⟩ (.int .i32 1)) (.cells #[.pointer (some ⟨pp, 0, none⟩), .int .i64 oo] 73)
    rw [nblk_setCell] at this
    simp only [World.cell?, this]
    rfl
  have k1 : ((w.setCell ⟨pb, 0, none⟩ (.int .i32 1)).alloc (.cells #[.pointer (some ⟨pp, 0, none⟩), .int .i64 oo] 73)).cell? ⟨w.heap.size, 1, none⟩ = some (.int .i64 oo) := by
    have := blk_alloc_new (w.setCell ⟨pb, 0, none⟩ (.int .i32 1)) (.cells #[.pointer (some ⟨pp, 0, none⟩), .int .i64 oo] 73)
    rw [nblk_setCell] at this
    simp only [World.cell?, this]
    rfl
  have hKp : Kept (fun i => i = cb ∨ i = bm ∨ i = pb ∨ ob = some i) w ((w.setCell ⟨pb, 0, none⟩ (.int .i32 1)).alloc (.cells #[.pointer (some ⟨pp, 0, none⟩), .int .i64 oo] 73)) := ((Kept.refl _ w).setCell (.inl (.inr (.inr (.inl rfl)))) _).alloc _
  generalize (w.setCell ⟨pb, 0, none⟩ (.int .i32 1)).alloc (.cells #[.pointer (some ⟨pp, 0, none⟩), .int .i64 oo] 73) = w1 at hC g0 g2 gf gs k0 k1 hKp ⊢
  have HC : Hid (∀ W : World, W.heap = w1.heap → Calls Yba.prog 11 #[.pointer (some ⟨cb, 0, none⟩), .agg #[.pointer (some ⟨pp, 0, none⟩), .int .i64 oo], .agg #[.int .u8 e.t, .slice e.a e.len e.cap], .int .i64 e.len] W fun x w' => x = .returned (.tuple #[]) ∧
      ∃ ob', Cache bud cb bm p0 p1 (putL bud e L) ob' w' ∧ Kept (fun i => i = cb ∨ i = bm ∨ ob = some i) W w' ∧ (∀ k, ob' = some k → ob = some k ∨ W.heap.size ≤ k)) := fun W hW => by
    rw [← HKV.out]
    exact put_any (hC.kept (by rw [hW]) (by rw [hW]) (fun _ _ => by rw [hW]) (by rw [hW]) (by rw [hW])) e hk hl ht hn (fun k hk => ⟨(hd k hk).1, (hd k hk).2.1, (hd k hk).2.2.1, (hd k hk).2.2.2.1⟩) hcm hcp hbud
  have HKp : Hid (Kept (fun i => i = cb ∨ i = bm ∨ i = pb ∨ ob = some i) w w1) := hKp
  have HQ : Hid (e.k < 8 ∧ (∀ k, ob = some k → k ≠ pb) ∧ pb ≠ cb ∧ pb ≠ bm ∧ pb < w.heap.size ∧ (∀ k, ob = some k → k < w.heap.size) ∧ cb < w.heap.size ∧ bm < w.heap.size ∧ pb ≠ p0 ∧ pb ≠ p1) := ⟨hk, fun k hk => (hd k hk).2.2.2.2, hpb.1, hpb.2.1, hlt, by obtain ⟨_, _, _, hR⟩ := h.c3; exact hR.lt (by omega), cell_lt h.c0, by obtain ⟨es0, cl0, hb0, _⟩ := h.map; exact (Array.getElem?_eq_some_iff.1 hb0).1, hpb.2.2.1, hpb.2.2.2⟩
  clear hE hB hC hbw hKp h hL hk hl ht hn hd hcm hcp hpb hbud f0 h0 hlt
  go_cut [36] from 26 to 36 (fun s36 wx => ∃ ob2, P6 bud pb cb bm p0 p1 L ob e pp oo w ob2 wx)
  case first =>
    refine wp_noPanic ?_
    go_region_with (go_at_call 11; refine (HC.out w1.drew rfl).mono ?_; rintro x w' ⟨rfl, hex⟩)
    all_goals (
      clear HC
      simp only [noPanic]
      go_wp2_with fail
      obtain ⟨ob2, hC2, hK2, ho2⟩ := hex
      have hS : ∀ i, w.heap.size ≤ i → ¬ (i = cb ∨ i = bm ∨ ob = some i) := fun i hi hs => by
        obtain ⟨_, _, _, _, _, h1, h2, h3, _⟩ := HQ.out
        rcases hs with rfl | rfl | hs
        · omega
        · omega
        · have := h1 i hs; omega
      have hP : ¬ (pb = cb ∨ pb = bm ∨ ob = some pb) := fun hs => by
        obtain ⟨_, h1, h2, h3, _⟩ := HQ.out
        rcases hs with hs | hs | hs
        · exact h2 hs
        · exact h3 hs
        · exact h1 pb hs rfl
      have hpl : pb < w1.drew.heap.size := by show pb < w1.heap.size; have := HQ.out.2.2.2.2.1; omega
      have hBl : w.heap.size < w1.drew.heap.size := by show _ < w1.heap.size; omega
      have m0 : w'.cell? ⟨pb, 0, none⟩ = some (.int .i32 1) := (hK2.cell hpl hP).trans g0
      have m2 : w'.cell? ⟨pb, 2, none⟩ = some (.pointer (some ⟨cb, 0, none⟩)) := (hK2.cell hpl hP).trans g2
      have mf : w'.frozen? ⟨pb, 0, none⟩ = false := (frozen_of_block (hK2.block pb hpl hP) 0).trans gf
      have n0 : w'.cell? ⟨w.heap.size, 0, none⟩ = some (.pointer (some ⟨pp, 0, none⟩)) := (hK2.cell hBl (hS _ (Nat.le_refl _))).trans k0
      have n1 : w'.cell? ⟨w.heap.size, 1, none⟩ = some (.int .i64 oo) := (hK2.cell hBl (hS _ (Nat.le_refl _))).trans k1
      go_meet
      have HC2 : Hid (Cache bud cb bm p0 p1 (putL bud e L) ob2 w') := hC2
      have HK2 : Hid (Kept (fun i => i = cb ∨ i = bm ∨ i = pb ∨ ob = some i) w w') := HKp.out.drew.trans (hK2.mono fun i hi => by
        rcases hi with h | h | h
        · exact .inl h
        · exact .inr (.inl h)
        · exact .inr (.inr (.inr h)))
      have HO2 : Hid (∀ k, ob2 = some k → ob = some k ∨ w.heap.size ≤ k) := fun k hk => by
        rcases ho2 k hk with h | h
        · exact .inl h
        · exact .inr (by have : w1.heap.size ≤ k := h; omega)
      exact ⟨ob2, HC2.out, HK2.out, HO2.out, m0, m2, mf, n0, n1⟩)
  case rest =>
    obtain ⟨ob2, hP6⟩ := hcut
    clear HC HKp g0 g2 gf gs k0 k1 w1
    rename World => w'
    obtain ⟨hC2, hK2, hO2, m0, m2, mf, n0, n1⟩ := hP6
    have HC2 : Hid (Cache bud cb bm p0 p1 (putL bud e L) ob2 w') := hC2
    have HK2 : Hid (Kept (fun i => i = cb ∨ i = bm ∨ i = pb ∨ ob = some i) w w') := hK2
    have HO2 : Hid (∀ k, ob2 = some k → ob = some k ∨ w.heap.size ≤ k) := hO2
    clear hC2 hK2 hO2
    go_wp2_with fail
    obtain ⟨t, a, l, c, _, hov⟩ := lookV_eq (putL bud e L) e.k
    have HG : Hid (∀ W : World, (∀ i, i < w'.heap.size → W.heap[i]? = w'.heap[i]?) → Calls Yba.prog 8 #[.pointer (some ⟨cb, 0, none⟩), .agg #[.pointer (some ⟨pp, 0, none⟩), .int .i64 oo]] W fun x w'' => x = .returned (.tuple #[.agg #[.int .u8 t, .slice a l c], .bool (hasK (putL bud e L) e.k)]) ∧ Below W.heap.size W w'') := fun W hW => by
      rw [← HKV.out, ← hov]
      exact get_any (HC2.out.below hW) HQ.out.1
    clear hov
    have hAl : ∀ O, ∀ i, i < w'.heap.size → (w'.alloc O).drew.heap[i]? = w'.heap[i]? := fun O i hi => blk_alloc_lt w' O i hi
    have HFx : Hid (∀ w'' : World, Below (w'.alloc (.cells #[.int .u8 0, .slice none 0 0] 59)).drew.heap.size (w'.alloc (.cells #[.int .u8 0, .slice none 0 0] 59)).drew w'' → w''.cell? ⟨w'.heap.size, 0, none⟩ = some (.int .u8 0) ∧ w''.cell? ⟨w'.heap.size, 1, none⟩ = some (.slice none 0 0) ∧ (∀ o, w''.frozen? ⟨w'.heap.size, o, none⟩ = false) ∧ Below w'.heap.size w' w'') := fun w'' hb => by
      have hn : w''.heap[w'.heap.size]? = some (.cells #[.int .u8 0, .slice none 0 0] 59) := (hb.block w'.heap.size (by show _ < (w'.alloc _).heap.size; rw [nblk_alloc]; omega)).trans (blk_alloc_new w' _)
      refine ⟨by simp only [World.cell?, hn]; rfl, by simp only [World.cell?, hn]; rfl, fun o => by simp only [World.frozen?, hn]; simp, ?_⟩
      exact ⟨hb.os, hb.tape, hb.output, by have := hb.size; have h2 : (w'.alloc (.cells #[.int .u8 0, .slice none 0 0] 59)).drew.heap.size = w'.heap.size + 1 := nblk_alloc w' _; omega, fun k hk => (hb.block k (by show _ < (w'.alloc _).heap.size; rw [nblk_alloc]; omega)).trans (blk_alloc_lt w' _ k hk)⟩
    have HF1 : Hid (∀ w'' : World, Below w'.drew.heap.size w'.drew w'' → Below w'.heap.size w' w'') := fun w'' hb => ⟨hb.os, hb.tape, hb.output, hb.size, hb.block⟩
    have am2 : ∀ O, (w'.alloc O).cell? ⟨pb, 2, none⟩ = some (.pointer (some ⟨cb, 0, none⟩)) := fun O => (cell_of_block (blk_alloc_lt w' O pb (cell_lt m2)) 2).trans m2
    have an0 : ∀ O, (w'.alloc O).cell? ⟨w.heap.size, 0, none⟩ = some (.pointer (some ⟨pp, 0, none⟩)) := fun O => (cell_of_block (blk_alloc_lt w' O _ (cell_lt n0)) 0).trans n0
    have an1 : ∀ O, (w'.alloc O).cell? ⟨w.heap.size, 1, none⟩ = some (.int .i64 oo) := fun O => (cell_of_block (blk_alloc_lt w' O _ (cell_lt n0)) 1).trans n1
    have HAL : Hid (∀ O, ∀ i, i < w'.heap.size → (w'.alloc O).drew.heap[i]? = w'.heap[i]?) := hAl
    clear hAl
    go_cut [13] from 12 to 45 (fun s13 wx => s13 = .bool (hasK (putL bud e L) e.k) ∧ Below w'.heap.size w' wx)
    case first =>
      refine wp_noPanic ?_
      go_region_with (first
        | (go_at_call 8; refine (HG.out w'.drew (fun _ _ => rfl)).mono ?_; rintro x w'' ⟨rfl, hb⟩; replace hb := HF1.out w'' hb)
        | (go_at_call 8; refine (HG.out (w'.alloc (.cells #[.int .u8 0, .slice none 0 0] 59)).drew (HAL.out _)).mono ?_; rintro x w'' ⟨rfl, hb⟩; obtain ⟨q0, q1, qz, hb⟩ := HFx.out w'' hb))
      all_goals (
        simp only [noPanic]
        go_wp2_with fail
        go_meet
        refine ⟨rfl, ?_⟩
        first
          | exact (hb.setCell (by simp) _).setCell (by simp) _
          | exact ((hb.setCell (by simp) _).setCell (by simp) _).drew
          | exact hb.alloc hb.size _
          | exact (hb.alloc hb.size _).drew)
    case rest =>
      obtain ⟨rfl, hb⟩ := hcut
      rename World => w7
      clear HG HFx HF1 HAL am2 an0 an1
      have HB7 : Hid (Below w'.heap.size w' w7) := hb
      clear hb
      go_wp2_with fail
      have hpl : pb < w'.heap.size := cell_lt m0
      have l0 : w7.cell? ⟨pb, 0, none⟩ = some (.int .i32 1) := (cell_of_block (HB7.out.block pb hpl) 0).trans m0
      have l2 : w7.cell? ⟨pb, 2, none⟩ = some (.pointer (some ⟨cb, 0, none⟩)) := (cell_of_block (HB7.out.block pb hpl) 2).trans m2
      have lf : w7.frozen? ⟨pb, 0, none⟩ = false := (frozen_of_block (HB7.out.block pb hpl) 0).trans mf
      refine leaves_cons (f := 10) (args := #[.pointer (some ⟨pb, 0, none⟩)]) (by simp) (by simp [go_sem]) ?_
      refine (unlock_deferred Yba.muLib ⟨pb, 0, none⟩ .returning _ l0 lf).mono ?_
      rintro x u' w'' ⟨rfl, rfl, rfl⟩
      have hC7 := HC2.out.below HB7.out.block
      refine ⟨_, results_tmp rfl _ _ _, rfl, ⟨World.cell?_setCell_same _ _ _ l0, (World.cell?_setCell_other _ _ _ _ (by simp)).trans l2, by rw [World.frozen?_setCell]; exact lf⟩, ob2, ?_, ?_, HO2.out⟩
      · have hq := HQ.out
        have hoth : ∀ k, k ≠ pb → (w7.setCell ⟨pb, 0, none⟩ (.int .i32 0)).heap[k]? = w7.heap[k]? := fun k hk => blk_setCell_other _ _ _ k hk
        refine hC7.kept (hoth cb (Ne.symm hq.2.2.1)) (hoth bm (Ne.symm hq.2.2.2.1)) (fun k hk => hoth k ?_) (hoth p0 (Ne.symm hq.2.2.2.2.2.2.2.2.1)) (hoth p1 (Ne.symm hq.2.2.2.2.2.2.2.2.2))
        rcases HO2.out k hk with h1 | h1
        · exact hq.2.1 k h1
        · have := hq.2.2.2.2.1; omega
      · exact (HK2.out.trans (Kept.of_below HB7.out)).setCell (.inl (.inr (.inr (.inl rfl)))) _
end Go.Proofs.Ybulkeila

/-
  '(*zzs6731aconn).Close' and '(*tcpConns).closeAll' by their contracts.
-/
import Derived.Test.YbulkeijkALocks
import Derived.Test.YbulkeijkAMap
import Derived.Below
import Derived.Deep.Light
namespace Go.Proofs.Ybulkeijk
open Go.RowKit Go.MuLone Go.Maps Go.Deep
open Go.ChangeMaps (setBlock)

set_option maxHeartbeats 1600000 in
theorem close_any (a : Addr) (n : Int) (w : World) (hc : w.cell? a = some (.int .i64 n)) (hz : w.frozen? a = false) :
    Calls Yba.prog 41 #[.pointer (some a)] w fun e w' => e = .returned .nilIface ∧ w' = w.setCell a (.int .i64 (wrap64 (n + 1))) := by
  go_enter Yba.func41, Yba.ntmps41
  go_wp2
  go_ret
  exact ⟨rfl, rfl⟩

theorem meth41 (v : Value) (w : World) : (method 203 24 v "Close").run Yba.prog w = .ok (41, v) w := by kernel_rfl

/-- THE LOOP OF 'closeAll' UNDER WAY: w: the world at the entry; wr: the world now. S: the stand-ins' blocks; 'sof e': the stand-in that entry e leads to. -/
structure Mid (w : World) (base bc bm : Nat) (S : Nat → Prop) (sof : MapEntry → Nat) (es : Array MapEntry) (clock : Nat) (seen : Array Nat) (wr : World) : Prop where
  it : wr.heap[w.heap.size]? = some (.mapIter (some bm) clock seen clock)
  below : Below base w wr
  cnt : ∀ s, S s → ∃ c : Nat, wr.cell? ⟨s, 0, none⟩ = some (.int .i64 c) ∧ c + toCome (fun e => sof e == s) es seen = es.toList.countP (fun e => sof e == s)
  kept : ∀ k, k < w.heap.size → ¬ S k → k ≠ bc → wr.heap[k]? = w.heap[k]?
  lock : ∀ o, wr.cell? ⟨bc, o, none⟩ = (w.setCell ⟨bc, 0, none⟩ (.int .i32 1)).cell? ⟨bc, o, none⟩
  frz : ∀ a : Addr, a.block < w.heap.size → wr.frozen? a = w.frozen? a
  size : wr.heap.size = w.heap.size + 1

/-- Of the entry's hypotheses. -/
structure Held (w : World) (base bc bm : Nat) (S : Nat → Prop) (sof : MapEntry → Nat) (es : Array MapEntry) (clock : Nat) : Prop where
  base_le : base ≤ w.heap.size
  hbase : base ≤ bc
  map : w.heap[bm]? = some (.map es clock)
  old : ∀ x ∈ es.toList, x.born < clock
  nodup : (es.toList.map (·.born)).Nodup
  few : es.size ≤ 65536
  keys : ∀ e ∈ es.toList, ∃ kb, e.key = .pointer (some ⟨kb, 0, none⟩) ∧ w.cell? ⟨kb, 0, none⟩ = some (.iface 24 (.pointer (some ⟨sof e, 0, none⟩))) ∧ S (sof e) ∧ ¬ S kb ∧ kb ≠ bc
  stands : ∀ s, S s → w.cell? ⟨s, 0, none⟩ = some (.int .i64 0) ∧ w.frozen? ⟨s, 0, none⟩ = false ∧ base ≤ s ∧ s ≠ bc ∧ s ≠ bm
  free : w.cell? ⟨bc, 0, none⟩ = some (.int .i32 0)
  open_ : w.cell? ⟨bc, 2, none⟩ = some (.map (some bm))
  frz : w.frozen? ⟨bc, 0, none⟩ = false

theorem cell_lt {w : World} {a : Addr} {v : Value} (h : w.cell? a = some v) : a.block < w.heap.size := World.block_lt_of_cell? _ _ h

theorem cell_of_block {w w' : World} {k : Nat} (h : w'.heap[k]? = w.heap[k]?) (o : Nat) : w'.cell? ⟨k, o, none⟩ = w.cell? ⟨k, o, none⟩ := by
  simp only [World.cell?, h]

theorem setBlock_other (w : World) (r : Nat) (o : Obj) {k : Nat} (h : k ≠ r) : (setBlock w r o).heap[k]? = w.heap[k]? := by
  simp [setBlock, Ne.symm h]

theorem setBlock_same (w : World) (r : Nat) (o : Obj) (h : r < w.heap.size) : (setBlock w r o).heap[r]? = some o := by
  simp [setBlock, h]

variable {w wr : World} {base bc bm : Nat} {S : Nat → Prop} {sof : MapEntry → Nat} {es : Array MapEntry} {clock : Nat} {seen : Array Nat}

theorem Held.start (h : Held w base bc bm S sof es clock) : Mid w base bc bm S sof es clock #[] ((w.setCell ⟨bc, 0, none⟩ (.int .i32 1)).alloc (.mapIter (some bm) clock #[] clock)) := by
  have hs : (w.setCell ⟨bc, 0, none⟩ (.int .i32 1)).heap.size = w.heap.size := nblk_setCell _ _ _
  have hbc := cell_lt h.free
  refine ⟨?_, ?_, ?_, ?_, ?_, ?_, ?_⟩
  · rw [← hs]; exact blk_alloc_new _ _
  · exact ((Below.refl base w).setCell h.hbase _).alloc (by rw [hs]; exact h.base_le) _
  · intro s hs'
    obtain ⟨h1, _, _, h4, _⟩ := h.stands s hs'
    have hlt := cell_lt h1
    refine ⟨0, ?_, by rw [toCome_all]; omega⟩
    rw [cell_of_block (blk_alloc_lt _ _ s (by rw [hs]; exact hlt)), cell_of_block (blk_setCell_other w _ _ s h4)]
    simpa using h1
  · intro k hk _ hne
    rw [blk_alloc_lt _ _ k (by rw [hs]; exact hk), blk_setCell_other w _ _ k hne]
  · intro o
    exact cell_of_block (blk_alloc_lt _ _ bc (by rw [hs]; exact hbc)) o
  · intro a ha
    have e1 : ((w.setCell ⟨bc, 0, none⟩ (.int .i32 1)).alloc (.mapIter (some bm) clock #[] clock)).frozen? a = (w.setCell ⟨bc, 0, none⟩ (.int .i32 1)).frozen? a := by
      simp only [World.frozen?, blk_alloc_lt _ _ a.block (by rw [hs]; exact ha)]
    rw [e1]
    simp
  · rw [nblk_alloc, hs]

theorem Mid.map (h : Held w base bc bm S sof es clock) (m : Mid w base bc bm S sof es clock seen wr) : wr.heap[bm]? = some (.map es clock) := by
  have hlt : bm < w.heap.size := (Array.getElem?_eq_some_iff.1 h.map).1
  rw [m.kept bm hlt (fun hs => (h.stands bm hs).2.2.2.2 rfl) (fun e => by subst e; have := h.free; simp [World.cell?, h.map] at this), h.map]

/-- An entry has been handed out: what the round reads. -/
theorem Mid.peek (h : Held w base bc bm S sof es clock) (m : Mid w base bc bm S sof es clock seen wr) {e : MapEntry} (he : e ∈ (leftOf es seen).toList) {w1 w' : World} (h1 : w1 = wr ∨ w1 = wr.drew)
    (hw' : w' = setBlock w1 w.heap.size (.mapIter (some bm) clock (seen.push e.born) clock)) :
    ∃ (kb c : Nat), e.key = .pointer (some ⟨kb, 0, none⟩) ∧ w'.cell? ⟨kb, 0, none⟩ = some (.iface 24 (.pointer (some ⟨sof e, 0, none⟩))) ∧ w'.cell? ⟨sof e, 0, none⟩ = some (.int .i64 c) ∧ w'.frozen? ⟨sof e, 0, none⟩ = false ∧ wrap64 ((c : Int) + 1) = (c : Int) + 1 ∧
      Mid w base bc bm S sof es clock (seen.push e.born) (w'.setCell ⟨sof e, 0, none⟩ (.int .i64 ((c : Int) + 1))) := by
  have hes : e ∈ es.toList := by
    simp [leftOf] at he
    simpa using he.1
  obtain ⟨kb, hk, hc, hS, hkS, hkb⟩ := h.keys e hes
  obtain ⟨c, hcc, hsum⟩ := m.cnt (sof e) hS
  obtain ⟨s1, s2, s3, s4, s5⟩ := h.stands (sof e) hS
  have slt : sof e < w.heap.size := cell_lt s1
  have klt : kb < w.heap.size := cell_lt hc
  have hh : w1.heap = wr.heap := by rcases h1 with rfl | rfl <;> rfl
  have hsz1 : w1.heap.size = w.heap.size + 1 := by rw [hh]; exact m.size
  have oth : ∀ k, k ≠ w.heap.size → w'.heap[k]? = wr.heap[k]? := fun k hk' => by rw [hw', setBlock_other _ _ _ hk', hh]
  have hsz' : w'.heap.size = w.heap.size + 1 := by rw [hw']; simp [setBlock, hsz1]
  have hpush := toCome_push (fun x => sof x == sof e) h.nodup he
  simp only [beq_self_eq_true, if_true] at hpush
  have hle : es.toList.countP (fun x => sof x == sof e) ≤ 65536 := Nat.le_trans List.countP_le_length (by simpa using h.few)
  have hwrap : wrap64 ((c : Int) + 1) = (c : Int) + 1 := by unfold wrap64; omega
  have cs' : w'.cell? ⟨sof e, 0, none⟩ = some (.int .i64 c) := by
    rw [cell_of_block (oth (sof e) (by omega))]; exact hcc
  refine ⟨kb, c, hk, ?_, cs', ?_, hwrap, ?_, ?_, ?_, ?_, ?_, ?_, ?_⟩
  · rw [cell_of_block (oth kb (by omega)), cell_of_block (m.kept kb klt hkS hkb)]
    exact hc
  · have : w'.frozen? ⟨sof e, 0, none⟩ = wr.frozen? ⟨sof e, 0, none⟩ := by
      simp only [World.frozen?, oth (sof e) (by omega)]
    rw [this, m.frz _ slt, s2]
  · rw [blk_setCell_other _ _ _ _ (by simp; omega), hw', setBlock_same _ _ _ (by omega)]
  · have b1 : Below base w w' := by
      rw [hw']
      rcases h1 with rfl | rfl
      · exact ⟨m.below.os, m.below.tape, m.below.output, by simp [setBlock, m.size], fun k hk' => by rw [setBlock_other _ _ _ (by have := h.base_le; omega)]; exact m.below.block k hk'⟩
      · exact ⟨m.below.os, m.below.tape, m.below.output, by simp [setBlock, m.size], fun k hk' => by rw [setBlock_other _ _ _ (by have := h.base_le; omega)]; exact m.below.block k hk'⟩
    exact b1.setCell s3 _
  · intro s hs
    obtain ⟨t1, t2, t3, t4, t5⟩ := h.stands s hs
    have tlt : s < w.heap.size := cell_lt t1
    by_cases hse : s = sof e
    · subst hse
      exact ⟨c + 1, by rw [World.cell?_setCell_same _ _ _ cs']; simp, by omega⟩
    · obtain ⟨d, hd, hsum2⟩ := m.cnt s hs
      have hp2 := toCome_push (fun x => sof x == s) h.nodup he
      have hne : (sof e == s) = false := by simpa using fun e1 => hse e1.symm
      simp only [hne, Bool.false_eq_true, if_false, Nat.add_zero] at hp2
      refine ⟨d, ?_, by omega⟩
      rw [cell_of_block (blk_setCell_other _ _ _ s hse), cell_of_block (oth s (by omega))]
      exact hd
  · intro k hk' hnS hnb
    rw [blk_setCell_other _ _ _ k (fun e1 => hnS (by simp at e1; rw [e1]; exact hS)), oth k (by omega)]
    exact m.kept k hk' hnS hnb
  · intro o
    have hbc : bc < w.heap.size := cell_lt h.free
    rw [cell_of_block (blk_setCell_other _ _ _ bc (by simp; exact Ne.symm s4)), cell_of_block (oth bc (by omega))]
    exact m.lock o
  · intro a ha
    have : (w'.setCell ⟨sof e, 0, none⟩ (.int .i64 ((c : Int) + 1))).frozen? a = w'.frozen? a := by simp
    rw [this]
    have : w'.frozen? a = wr.frozen? a := by simp only [World.frozen?, oth a.block (by omega)]
    rw [this, m.frz a ha]
  · rw [nblk_setCell, hsz']

theorem Mid.left (h : Held w base bc bm S sof es clock) (m : Mid w base bc bm S sof es clock seen wr) : wr.rangeLeft bm w.heap.size = (leftOf es seen).size := by
  simp only [World.rangeLeft, m.map h, m.it]

set_option maxRecDepth 100000 in
set_option maxHeartbeats 3200000 in
theorem closeAll_held (h : Held w base bc bm S sof es clock) :
    Calls Yba.prog 4 #[.pointer (some ⟨bc, 0, none⟩)] w fun e w' => e = .returned (.tuple #[]) ∧ ∃ wr seen, Mid w base bc bm S sof es clock seen wr ∧ (leftOf es seen).size = 0 ∧ w' = wr.setCell ⟨bc, 0, none⟩ (.int .i32 0) := by
  have h0 := h.free
  have f0 := h.frz
  have c2 : (w.setCell ⟨bc, 0, none⟩ (.int .i32 1)).cell? ⟨bc, 2, none⟩ = some (.map (some bm)) := by
    rw [World.cell?_setCell_other _ _ _ _ (by simp)]; exact h.open_
  have hs : (w.setCell ⟨bc, 0, none⟩ (.int .i32 1)).heap.size = w.heap.size := nblk_setCell _ _ _
  have hmap : (w.setCell ⟨bc, 0, none⟩ (.int .i32 1)).heap[bm]? = some (.map es clock) := by
    rw [blk_setCell_other _ _ _ bm (fun e => by simp at e; subst e; simp [World.cell?, h.map] at h0)]; exact h.map
  have hstart : Hid (Mid w base bc bm S sof es clock #[] ((w.setCell ⟨bc, 0, none⟩ (.int .i32 1)).alloc (.mapIter (some bm) clock #[] clock))) := h.start
  have hH : Hid (Held w base bc bm S sof es clock) := h
  have hsz : Hid ((w.setCell ⟨bc, 0, none⟩ (.int .i32 1)).heap.size = w.heap.size) := hs
  clear h hs
  go_enter_defers Yba.func4, Yba.ntmps4
  go_wp2_with (first
    | (go_at_call 7; refine (lock_free Yba.muLib ⟨bc, 0, none⟩ _ h0 f0).mono ?_; rintro e w' ⟨rfl, rfl⟩)
    | (at_range; refine wpList_range_raw _ rfl _ 37 rfl Yba.underlying37 bm es clock rfl hmap ?_; intro w0 hw0))
  rw [hsz.out]
  go_frame
  subst hw0
  go_loopw [2] (fun _ wr => ∃ seen, Mid w base bc bm S sof es clock seen wr) (fun _ wr => wr.rangeLeft bm w.heap.size)
  case atStart => exact ⟨_, hstart.out⟩
  case round =>
    obtain ⟨seen, hmid⟩ := hrel
    have hM : Hid (Mid w base bc bm S sof es clock seen wr) := hmid
    have hmap' := hmid.map hH.out
    have hit := hmid.it
    have hold := hH.out.old
    have hnd := hH.out.nodup
    have hlk : wr.cell? ⟨bc, 0, none⟩ = some (.int .i32 1) := by
      rw [hmid.lock 0]; exact World.cell?_setCell_same _ _ _ h0
    have hlf : wr.frozen? ⟨bc, 0, none⟩ = false := by rw [hmid.frz _ (cell_lt h0)]; exact f0
    clear hmid
    go_wp2_with (first
      | (at_next; refine wpList_next_raw _ rfl _ rfl w.heap.size bm clock clock seen es clock rfl hit hmap' hold (Nat.le_refl _) hnd ?_ ?_))
    · intro hl0
      go_wp2_with fail
      refine leaves_cons (f := 6) (args := #[.pointer (some ⟨bc, 0, none⟩)]) (by simp) (by simp [go_sem]) ?_
      refine (unlock_deferred Yba.muLib ⟨bc, 0, none⟩ .returning _ hlk hlf).mono ?_
      rintro e u' w'' ⟨rfl, rfl, rfl⟩
      exact ⟨_, results_none rfl _ _ _, rfl, wr, seen, hM.out, hl0, rfl⟩
    · intro e w' he hw' hen
      obtain ⟨w1, h1, hw'⟩ := hw'
      obtain ⟨kb, c, hk, hkc, hsc, hsf, hwrap, hnext⟩ := hM.out.peek hH.out he h1 hw'
      have hN : Hid (Mid w base bc bm S sof es clock (seen.push e.born) (w'.setCell ⟨sof e, 0, none⟩ (.int .i64 ((c : Int) + 1)))) := hnext
      rw [hk] at hen ⊢
      clear hnext hw' hit hmap' hold hnd hlk hlf
      have hmeth := meth41
      have hin := fun args w => run_callFunc_enter (P := Yba.prog) Yba.func41 (by kernel_rfl) rfl args w
      go_wp2_with fail
      refine (close_any _ _ _ hsc hsf).mono ?_
      rintro e1 w2 ⟨rfl, rfl⟩
      rw [hwrap]
      go_wp2_with fail
      go_roundw
      case rel => exact ⟨_, hN.out⟩
      case measure =>
        rw [hN.out.left hH.out, hM.out.left hH.out]
        exact left_push_lt hH.out.nodup he

set_option maxRecDepth 100000 in
set_option maxHeartbeats 3200000 in
/-- The field holds a nil map: nothing is closed. -/
theorem closeAll_nil {bc : Nat} {w : World} (h0 : w.cell? ⟨bc, 0, none⟩ = some (.int .i32 0)) (h2 : w.cell? ⟨bc, 2, none⟩ = some (.map none)) (f0 : w.frozen? ⟨bc, 0, none⟩ = false) :
    Calls Yba.prog 4 #[.pointer (some ⟨bc, 0, none⟩)] w fun e w' => e = .returned (.tuple #[]) ∧ w' = ((w.setCell ⟨bc, 0, none⟩ (.int .i32 1)).alloc (.mapIter none 0 #[] 0)).setCell ⟨bc, 0, none⟩ (.int .i32 0) := by
  have hlt : bc < w.heap.size := cell_lt h0
  have c0 : (w.setCell ⟨bc, 0, none⟩ (.int .i32 1)).cell? ⟨bc, 0, none⟩ = some (.int .i32 1) := World.cell?_setCell_same _ _ _ h0
  have c2 : (w.setCell ⟨bc, 0, none⟩ (.int .i32 1)).cell? ⟨bc, 2, none⟩ = some (.map none) := by
    rw [World.cell?_setCell_other _ _ _ _ (by simp)]; exact h2
  have hs : (w.setCell ⟨bc, 0, none⟩ (.int .i32 1)).heap.size = w.heap.size := nblk_setCell _ _ _
  have f1 : (w.setCell ⟨bc, 0, none⟩ (.int .i32 1)).frozen? ⟨bc, 0, none⟩ = false := by simp [f0]
  have hlt1 : bc < (w.setCell ⟨bc, 0, none⟩ (.int .i32 1)).heap.size := by rw [hs]; exact hlt
  have hr := run_range_nilMap (P := Yba.prog) (w.setCell ⟨bc, 0, none⟩ (.int .i32 1)) 37 41 4 Yba.underlying37
  have hnx := run_next_nilMap (P := Yba.prog) (w.setCell ⟨bc, 0, none⟩ (.int .i32 1)) 0 0 0 #[]
  go_enter_defers Yba.func4, Yba.ntmps4
  go_wp2_with (first
    | (go_at_call 7; refine (lock_free Yba.muLib ⟨bc, 0, none⟩ _ h0 f0).mono ?_; rintro e w' ⟨rfl, rfl⟩))
  generalize hw1 : w.setCell ⟨bc, 0, none⟩ (.int .i32 1) = w1 at *
  rw [hs] at hnx
  refine wp_loop_rounds 1 ?_
  rw [rounds_succ]
  go_wp2_with fail
  refine leaves_cons (f := 6) (args := #[.pointer (some ⟨bc, 0, none⟩)]) (by simp) (by simp [go_sem]) ?_
  refine (unlock_deferred Yba.muLib ⟨bc, 0, none⟩ .returning _ ?_ ?_).mono ?_
  · rw [cell_of_block (blk_alloc_lt _ _ bc hlt1)]; exact c0
  · have : (w1.alloc (.mapIter none 0 #[] 0)).frozen? ⟨bc, 0, none⟩ = w1.frozen? ⟨bc, 0, none⟩ := by
      simp only [World.frozen?, blk_alloc_lt _ _ bc hlt1]
    rw [this]; exact f1
  rintro e u' w'' ⟨rfl, rfl, rfl⟩
  exact ⟨_, results_none rfl _ _ _, rfl, by rw [hw1]⟩

end Go.Proofs.Ybulkeijk

/-
  The law's walk.
-/
import Derived.Test.YbulkeilaCState
import Derived.Laws.IdiomCopy
import Derived.Laws.MakeOwn
import Derived.StillTailTactics
import Derived.Test.YbulkeilaCHead
namespace Go.Proofs.Ybulkeila
open Go Go.Deep Go.RowKit

/-- The data that came in. -/
def DataIn (a : Option Addr) (n : Nat) (f : Nat → Int) (w : World) : Prop := (a = none → n = 0) ∧ ∀ x, a = some x → 0 < n → ∃ b o, x = ⟨b, o, none⟩ ∧ b < w.heap.size ∧ ∀ i, i < n → w.cell? ⟨b, o + i, none⟩ = some (.int .u8 (f i))
/-- The script that came in. -/
def OpsIn (a : Option Addr) (n : Nat) (P O T M : Nat → Nat) (w : World) : Prop := (∀ i, i < n → P i < 256 ∧ O i < 256 ∧ T i < 256 ∧ M i < 256) ∧ (0 < n → ∃ b o, a = some ⟨b, o, none⟩ ∧ b < w.heap.size ∧ ∀ i, i < n →
  w.cell? ⟨b, o + i * 4, none⟩ = some (.int .u8 (P i)) ∧ w.cell? ⟨b, o + i * 4 + 1, none⟩ = some (.int .u8 (O i)) ∧ w.cell? ⟨b, o + i * 4 + 2, none⟩ = some (.int .u8 (T i)) ∧ w.cell? ⟨b, o + i * 4 + 3, none⟩ = some (.int .u8 (M i)))

theorem set2_cells {w : World} {V : Nat} {x y a b : Value} (q0 : w.cell? ⟨V, 0, none⟩ = some x) (q1 : w.cell? ⟨V, 1, none⟩ = some y) :
    ((w.setCell ⟨V, 0, none⟩ a).setCell ⟨V, 1, none⟩ b).cell? ⟨V, 0, none⟩ = some a ∧ ((w.setCell ⟨V, 0, none⟩ a).setCell ⟨V, 1, none⟩ b).cell? ⟨V, 1, none⟩ = some b := by
  refine ⟨?_, ?_⟩
  · rw [World.cell?_setCell_other _ _ _ _ (by simp)]
    exact World.cell?_setCell_same _ _ _ q0
  · exact World.cell?_setCell_same _ _ _ ((World.cell?_setCell_other _ _ _ _ (by simp)).trans q1)

theorem mixed : Yba.prog.follows .mixedOrders = true := by kernel_rfl

theorem inf5 : (Yba.prog.info? 5).map (fun i => (i.zero, i.size, i.bytes)) = some (some (.int .u8 0), 1, 1) := by kernel_rfl
theorem inf5' : (Yba.prog.info? 5).map (·.size) = some 1 := by kernel_rfl
theorem mkBytes (n : Nat) (h : n ≤ 1073741824) (W : World) : (Instr.makeSlice 23 (.int .i64 (n : Int)) (.int .i64 (n : Int))).run Yba.prog W =
    .ok (.slice (some ⟨W.heap.size, 0, none⟩) n n) (W.alloc (.cells (madeCells #[.int .u8 0] n) 5)) := by
  obtain ⟨i, hi, hh⟩ := Option.map_eq_some_iff.1 inf5
  simp only [Prod.mk.injEq] at hh
  obtain ⟨h1, h2, h3⟩ := hh
  have := run_make (P := Yba.prog) W 23 5 i _ Yba.underlying23 hi h1 .i64 .i64 n n (by omega) (by omega) (by rw [h3]; omega) (by omega)
  rw [this, h2, Nat.mul_one]; rfl

theorem made_at (z : Value) (n j : Nat) (h : j < n) : (madeCells #[z] n)[j]? = some z := by
  simp [madeCells, h, Nat.mod_one]

/-- The copy of the data. -/
def Copied (dn : Nat) (f : Nat → Int) (w : World) (v : Value) (wx : World) : Prop :=
  ∃ ca cc, v = .slice ca dn cc ∧ Below w.heap.size w wx ∧ (0 < dn → ∃ b o, ca = some ⟨b, o, none⟩ ∧ w.heap.size ≤ b ∧ b < wx.heap.size ∧ ∀ i, i < dn → wx.cell? ⟨b, o + i, none⟩ = some (.int .u8 (f i)))

/-- 'copy(dc, data)' behind 'dc = make([]byte, len(data))'. -/
theorem copied (x : Addr) (dn dcap : Nat) (f : Nat → Int) (w : World) (hd : DataIn (some x) dn f w) : ∃ w', (Builtin.copy_ #[23, 23] 3 #[.slice (some ⟨w.heap.size, 0, none⟩) dn dn, .slice (some x) dn dcap]).run Yba.prog (w.alloc (.cells (madeCells #[.int .u8 0] dn) 5)) = .ok (.int .i64 (dn : Int)) w' ∧
    Copied dn f w (.slice (some ⟨w.heap.size, 0, none⟩) dn dn) w' := by
  have hnew : ∀ j, j < dn → (w.alloc (.cells (madeCells #[.int .u8 0] dn) 5)).cell? ⟨w.heap.size, 0 + j, none⟩ = some (.int .u8 0) := fun j hj => by
    rw [Nat.zero_add, World.cell?_alloc_new]
    exact made_at _ dn j hj
  have hfz : ∀ j, (w.alloc (.cells (madeCells #[.int .u8 0] dn) 5)).frozen? ⟨w.heap.size, j, none⟩ = false := fun j => by
    have := blk_alloc_new w (.cells (madeCells #[.int .u8 0] dn) 5)
    simp only [World.frozen?, this]
    simp
  have hl : ((List.range dn).map fun i => Value.int .u8 (f i)).length = dn := by simp
  refine ⟨_, by
    have := run_copy_cells (P := Yba.prog) (w.alloc (.cells (madeCells #[.int .u8 0] dn) 5)) 23 23 3 5 w.heap.size 0 dn dn x dn dcap ((List.range dn).map fun i => Value.int .u8 (f i)) Yba.underlying23 inf5' (by rw [hl]; exact (Nat.min_self dn).symm) (fun j v hv => ?_) (fun j hj => ?_) (fun j hj => ?_) (fun v hv => ?_)
    · rw [hl] at this; exact this
    · have hj : j < dn := by
        rcases Nat.lt_or_ge j dn with h | h
        · exact h
        · rw [List.getElem?_eq_none (by rw [hl]; exact h)] at hv; cases hv
      simp [hj] at hv
      subst hv
      obtain ⟨b, o, rfl, hbl, hc⟩ := hd.2 x rfl (by omega)
      have ha : (⟨b, o, none⟩ : Addr).add j = ⟨b, o + j, none⟩ := by
        by_cases h0 : j = 0 <;> simp [Addr.add, h0]
      rw [ha, cell_of_block (blk_alloc_lt _ _ b hbl)]
      exact hc j hj
    · rw [hnew j (by rw [hl] at hj; exact hj)]; rfl
    · exact hfz _
    · obtain ⟨i, _, rfl⟩ := List.mem_map.1 hv
      rfl, some ⟨w.heap.size, 0, none⟩, dn, rfl, ?_, fun _ => ⟨w.heap.size, 0, rfl, Nat.le_refl _, ?_, fun i hi => ?_⟩⟩
  · have b1 : Below w.heap.size w (w.alloc (.cells (madeCells #[.int .u8 0] dn) 5)) := (Below.refl _ _).alloc (Nat.le_refl _) _
    exact b1.trans ⟨World.os_setCells _ _ _ _, tape_setCells _ _ _ _, World.output_setCells _ _ _ _, Nat.le_of_eq (size_setCells _ _ _ _).symm, fun k hk => World.heap_setCells_other _ _ _ _ (by rw [nblk_alloc]; omega) (by omega)⟩
  · rw [size_setCells, nblk_alloc]; omega
  · rw [World.cell?_setCells_in w.heap.size _ 0 _ (fun j hj => by rw [hnew j (by rw [hl] at hj; exact hj)]; rfl) i (by rw [hl]; exact hi)]
    simp

theorem below_drewN {B : Nat} {a b : World} (h : Below B a b) (n : Nat) : Below B a (b.drewN n) := ⟨h.os, h.tape, h.output, h.size, h.block⟩

theorem len_le_total {x : E} : ∀ {L : List E}, x ∈ L → x.len ≤ total L
  | [], h => by simp at h
  | y :: r, h => by
    rw [total_cons]
    rcases List.mem_cons.1 h with rfl | h
    · omega
    · have := len_le_total h; omega

/-- Where key k was last met among the first i. -/
def Found (K : List E) (k i : Nat) (fd : Int) : Prop := (fd = -1 ∧ ∀ (j : Nat) (x : E), j < i → K[j]? = some x → x.k ≠ k) ∨ ∃ (j : Nat) (x : E), j < i ∧ fd = (j : Int) ∧ K[j]? = some x ∧ x.k = k

theorem neq74 (W : World) (a : Addr) : (binOp .neq 74 (.pointer (some a)) (.pointer (some a))).run Yba.prog W = .ok (.bool false) W := by
  have hi : ∃ i, Yba.prog.info? 5 = some i := by
    obtain ⟨i, hi, _⟩ := Option.map_eq_some_iff.1 inf5
    exact ⟨i, hi⟩
  obtain ⟨i, hi⟩ := hi
  have h : ∀ d : Nat, (Op.equalIn (d + 1) 74 (.pointer (some a)) (.pointer (some a))).run Yba.prog W = .ok true W := fun d => by
    simp [Op.equalIn, run_underlying Yba.underlying74, sizeOf, hi, typeInfo, run_sameAddr_same]
  simp only [binOp]
  simp [Op.equal, Op.maxDepth, h 9999]

set_option maxRecDepth 100000 in
set_option maxHeartbeats 0 in
theorem law_any (nilR : Bool) (bud : Int) (oa : Option Addr) (on oc : Nat) (p off t : Nat) (da : Option Addr) (dn dcap : Nat) (P O T M : Nat → Nat) (f : Nat → Int) (w : World) (hO : OpsIn oa on P O T M w) (hD : DataIn da dn f w)
    (hbud : -9223372036854775808 ≤ bud ∧ bud ≤ 9223372036854775807) (hp : p < 256) (hoff : off < 256) (ht : t < 256) (hon : on ≤ 4096) (hdn : dn ≤ 1048576) :
    Calls Yba.prog 3 #[.bool nilR, .int .i64 bud, .slice oa on oc, .int .u8 p, .int .u8 off, .int .u8 t, .slice da dn dcap] w fun e w' => e = .returned (.bool true) ∧ Below w.heap.size w w' := by
  have g1 : ¬ ((4096 : Int) < on) := by omega
  have g2 : ¬ ((1048576 : Int) < dn) := by omega
  have g1' : decide ((4096 : Int) < on) = false := by simpa using g1
  have HO : Hid (OpsIn oa on P O T M w) := hO
  have HD : Hid (DataIn da dn f w) := hD
  have HZ : Hid ((-9223372036854775808 ≤ bud ∧ bud ≤ 9223372036854775807) ∧ p < 256 ∧ off < 256 ∧ t < 256 ∧ on ≤ 4096 ∧ dn ≤ 1048576) := ⟨hbud, hp, hoff, ht, hon, hdn⟩
  have q23 : ∀ (w : World) (a : Option Addr) (l c : Nat), (binOp .neq 23 (.slice a l c) (.slice none 0 0)).run Yba.prog w = .ok (.bool a.isSome) w := fun w a l c => by cases a <;> kernel_rfl
  clear hO hD hbud hon hdn
  go_enter Yba.func3, Yba.ntmps3
  go_upto_if 48 with fail
  go_cut [15] (fun s15 wx => Copied dn f w s15 wx)
  case first =>
    cases da with
    | none =>
      go_wp2_with fail
      go_meet
      have h0 : dn = 0 := HD.out.1 rfl
      exact ⟨none, 0, by rw [h0], Below.refl _ _, fun h => by omega⟩
    | some x =>
      obtain ⟨w', hrun, hcp⟩ := copied x dn dcap f w HD.out
      have HR : Hid ((Builtin.copy_ #[23, 23] 3 #[.slice (some ⟨w.heap.size, 0, none⟩) dn dn, .slice (some x) dn dcap]).run Yba.prog (w.alloc (.cells (madeCells #[.int .u8 0] dn) 5)) = .ok (.int .i64 (dn : Int)) w') := hrun
      have hmk := mkBytes dn (by have := HZ.out; omega)
      have HCP : Hid (Copied dn f w (.slice (some ⟨w.heap.size, 0, none⟩) dn dn) w') := hcp
      clear HR hcp
      go_wp2_with fail
      go_meet
      exact HCP.out
  case rest =>
    obtain ⟨ca, cc, rfl, hbc, hcb⟩ := hcut
    rename World => w2
    have HBC : Hid (Below w.heap.size w w2) := hbc
    have HCB : Hid (0 < dn → ∃ b o, ca = some ⟨b, o, none⟩ ∧ w.heap.size ≤ b ∧ b < w2.heap.size ∧ ∀ i, i < dn → w2.cell? ⟨b, o + i, none⟩ = some (.int .u8 (f i))) := hcb
    clear hbc hcb q23 g1 g2 g1'
    cases nilR with
    | true =>
      as_aux_lemma =>
        go_wp2_with fail
        refine (keep_nil _ _ _ _ _).mono ?_
        rintro x w3 ⟨rfl, rfl⟩
        go_wp2_with fail
        have hA : ∀ O, Below w2.heap.size w2 (w2.alloc O) := fun O => (Below.refl _ _).alloc (Nat.le_refl _) O
        refine (equal_any da ca dn dcap cc f _ ?_ ?_ (by have := HZ.out; omega)).mono ?_
        · intro h0
          cases da with
          | none => have := HD.out.1 rfl; omega
          | some x =>
            obtain ⟨b, o, rfl, hbl, hc⟩ := HD.out.2 x rfl h0
            exact ⟨b, o, rfl, fun i hi => by rw [cell_of_block ((hA _).block b (Nat.lt_of_lt_of_le hbl HBC.out.size)), cell_of_block (HBC.out.block b hbl)]; exact hc i hi⟩
        · intro h0
          obtain ⟨b, o, a1, a2, a3, a4⟩ := HCB.out h0
          exact ⟨b, o, a1, fun i hi => by rw [cell_of_block ((hA _).block b a3)]; exact a4 i hi⟩
        rintro x w4 ⟨rfl, hb4⟩
        go_wp2_with fail
        go_ret
        exact ⟨rfl, HBC.out.trans (((hA _).trans (hb4.mono (hA _).size)).mono HBC.out.size)⟩
    | false =>
      go_wp2_with fail
      refine (new_cache bud _).mono ?_
      rintro x w3 ⟨rfl, cs, hc0, hc2, rfl⟩
      have HCS : Hid (cs[0]? = some (.int .i32 0) ∧ cs[2]? = some (.pointer (some ⟨w2.heap.size + 1, 0, none⟩))) := ⟨hc0, hc2⟩
      clear hc0 hc2
      go_wp2_with fail
      simp only [Nat.add_assoc, Nat.reduceAdd]
      obtain ⟨N, hN0⟩ : ∃ N, w2.heap.size = N := ⟨_, rfl⟩
      have hN : Hid (w2.heap.size = N) := hN0
      have hSt0 : ∀ cs zs : Array Value, cs[0]? = some (.int .i32 0) → cs[2]? = some (.pointer (some ⟨w2.heap.size + 1, 0, none⟩)) → St bud N dn f ca [] [] none none none 0 w.heap.size w (start bud cs zs w2) := fun cs zs h1 h2 => by rw [← hN0]; exact St.at_start h1 h2 HBC.out HCB.out
      have HS0 : Hid (∀ zs : Array Value, St bud N dn f ca [] [] none none none 0 w.heap.size w (start bud cs zs w2)) := fun zs => hSt0 cs zs HCS.out.1 HCS.out.2
      clear hSt0
      rw [hN0]
      clear hN0
      have hon : (on : Int) ≤ 4096 := by have := HZ.out; omega
      go_loopw [20, 21, 80] (fun s20 s21 s80 wr => ∃ (i : Nat) (L : List E) (ob obm : Option Nat) (ma : Option Addr) (mcap : Nat), i ≤ on ∧ s80 = .int .i64 i ∧ s20 = .slice ma L.length mcap ∧ s21 = .int .i64 (total L : Int) ∧ L.length ≤ i ∧ total L ≤ 15 * i ∧ St bud N dn f ca L L ob obm ma mcap w.heap.size w wr) (fun _ _ s80 _ => on - (intOf s80).toNat)
      case atStart =>
        refine ⟨0, [], none, none, none, 0, by omega, rfl, rfl, rfl, by simp, by simp [total], ?_⟩
        have h := HS0.out #[.pointer none, .pointer none, .int .i64 0, .pointer none, .pointer none, .int .u32 0, .int .i32 0, .int .u32 0, .slice none 0 0, .nilIface]
        unfold start at h
        rw [hN.out] at h
        exact h
      case round =>
        obtain ⟨i, L, ob, obm, ma, mcap, hi, rfl, rfl, rfl, hL1, hL2, hSt⟩ := hrel
        have HS : Hid (St bud N dn f ca L L ob obm ma mcap w.heap.size w wr) := hSt
        have HL : Hid (L.length ≤ i ∧ total L ≤ 15 * i) := ⟨hL1, hL2⟩
        clear hSt hL1 hL2 HCB HCS HS0
        by_cases hin : i < on
        · obtain ⟨b, o, rfl, hbl, hcs⟩ := HO.out.2 (by omega)
          obtain ⟨c0, c1, c2, c3⟩ := hcs i hin
          obtain ⟨r0, r1, r2, r3⟩ := HO.out.1 i hin
          have hbb := HS.out.below.block b hbl
          rw [← cell_of_block hbb] at c0 c1 c2 c3
          have i0 : (0 : Int) ≤ (i : Int) := by omega
          have i1 : (i : Int) < (on : Int) := by omega
          have hmk : ∀ W : World, (Instr.makeSlice 23 (.int .i64 ((M i : Int) % 16)) (.int .i64 ((M i : Int) % 16))).run Yba.prog W = .ok (.slice (some ⟨W.heap.size, 0, none⟩) (M i % 16) (M i % 16)) (W.alloc (.cells (madeCells #[.int .u8 0] (M i % 16)) 5)) := fun W => by
            have := mkBytes (M i % 16) (by omega) W
            rw [show ((M i % 16 : Nat) : Int) = (M i : Int) % 16 by omega] at this
            exact this
          clear hcs hbb
          go_wp2_with fail
          have hmn : M i % 16 < 16 := Nat.mod_lt _ (by omega)
          clear c0 c1 c2 c3 hmk
          go_loopw [26] (fun s26 wz => ∃ j : Nat, j ≤ M i % 16 ∧ s26 = .int .i64 j ∧ Fill (P i) (O i) (T i) (M i) (M i % 16) j wr wz) (fun s26 _ => M i % 16 - (intOf s26).toNat)
          case atStart => exact ⟨0, by omega, rfl, Fill.start _ _ _ _ _ _⟩
          case round =>
            obtain ⟨j, hj, rfl, hF⟩ := hrel
            rename World => wz
            have HF : Hid (Fill (P i) (O i) (T i) (M i) (M i % 16) j wr wz) := hF
            clear hF
            by_cases hjn : j < M i % 16
            · have y3 := HF.out.q3
              have yd := HF.out.d j hjn
              have yf := HF.out.frz
              have j0 : (0 : Int) ≤ (j : Int) := by omega
              have j1 : (j : Int) < (M i : Int) % 16 := by omega
              have j2 : (j : Int) < ((M i % 16 : Nat) : Int) := by omega
              go_wp2_with fail
              go_roundw
              case rel => exact ⟨j + 1, by omega, by simp, HF.out.step hjn⟩
              case measure => simp [intOf]; omega
            · have hje : j = M i % 16 := by omega
              subst hje
              have y0 := HF.out.q0
              have y1 := HF.out.q1
              have y2 := HF.out.q2
              have j1 : ¬ (((M i % 16 : Nat) : Int) < (M i : Int) % 16) := by omega
              obtain ⟨e, he⟩ : ∃ e : E, e = { k := P i % 2 * 4 + O i % 4, t := (T i : Int), a := some ⟨wr.heap.size + 1, 0, none⟩, len := M i % 16, cap := M i % 16 } := ⟨_, rfl⟩
              have HSz : Hid (St bud N dn f ca L L ob obm ma mcap w.heap.size w wz) := HS.out.later HF.out.below
              have HBy : Hid (BytesS N ob obm e.a e.len wz) := by rw [he]; exact HF.out.bytes HS.out
              have hk8 : e.k < 8 := by rw [he]; show P i % 2 * 4 + O i % 4 < 8; omega
              have harr : wz.cell? ⟨N + 5, P i % 2, none⟩ = some (.pointer (some ⟨pk (N + 3) (N + 4) e.k, 0, none⟩)) := by rw [he]; exact HSz.out.pack _ _ (by omega) (by omega)
              have hsf : Safe N ob obm wr.heap.size := by
                have sz := HS.out.sz
                refine ⟨by omega, by omega, by omega, fun e1 => ?_, fun e1 => ?_⟩
                · obtain ⟨_, _, _, hR⟩ := HS.out.cache.c3
                  have := hR.lt (by omega) _ e1
                  omega
                · have := HS.out.row.lt (by omega) _ e1
                  omega
              have hbb := HZ.out
              have hll := HL.out
              have HK4 := HSz.out.keepsAt (e := e) hk8 (by rw [he]; show M i % 16 ≤ _; omega) (by omega) (by omega) hbb.1 HBy.out hsf y2 (a := some ⟨wr.heap.size + 1, 0, none⟩) (len := M i % 16) (cap := M i % 16) (t := (T i : Int)) (o4 := (O i : Int) % 4) (by rw [he]) (by rw [he]) (by rw [he]) (by rw [he]) (by rw [he]; show (((P i % 2 * 4 + O i % 4) % 4 : Nat) : Int) = _; omega) rfl
              have HKH : Hid (Calls Yba.prog 4 #[.pointer (some ⟨N + 2, 0, none⟩), .pointer (some ⟨pk (N + 3) (N + 4) e.k, 0, none⟩), .int .i64 ((O i : Int) % 4), .int .u8 (T i : Int), .slice (some ⟨wr.heap.size + 1, 0, none⟩) (M i % 16) (M i % 16)] wz.drew fun x w' => x = .returned (.bool (hasK (putL bud e L) e.k)) ∧ PostK bud N dn f ca L obm ma mcap w.heap.size w e wr.heap.size (T i : Int) w') := HK4
              have HE : Hid (e = { k := P i % 2 * 4 + O i % 4, t := (T i : Int), a := some ⟨wr.heap.size + 1, 0, none⟩, len := M i % 16, cap := M i % 16 }) := he
              generalize hpp : pk (N + 3) (N + 4) e.k = pp at HKH harr
              clear hbb hll hsf HK4 hpp he
              go_upto_region 25 with fail
              go_cut [28] (fun s28 wx => s28 = .bool (hasK (putL bud e L) e.k) ∧ PostK bud N dn f ca L obm ma mcap w.heap.size w e wr.heap.size (T i : Int) wx)
              case first =>
                as_aux_lemma =>
                  have hp0 : (0 : Int) ≤ (P i : Int) % 2 := by omega
                  have hp1 : (P i : Int) % 2 < 2 := by omega
                  have hq2 : P i % 2 < 2 := by omega
                  have htP : (P i : Int).tmod 2 = (P i : Int) % 2 := Int.tmod_eq_emod_of_nonneg (by omega)
                  have htN : ((P i : Int) % 2).toNat = P i % 2 := by omega
                  have hwO : IntKind.i64.wrap ((O i : Int) % 4) = (O i : Int) % 4 := by rw [IntKind.wrap_i64]; omega
                  have htO : (O i : Int).tmod 4 = (O i : Int) % 4 := Int.tmod_eq_emod_of_nonneg (by omega)
                  go_still_tail 13, mixed
                  go_wp2_with fail
                  refine HKH.out.mono ?_
                  rintro x w' ⟨rfl, hpk⟩
                  go_wp2_with fail
                  go_meet
                  exact ⟨rfl, hpk⟩
              case rest =>
                obtain ⟨rfl, ob', hS5, hB5, hq5⟩ := hcut
                rename World => w5
                have HS5 : Hid (St bud N dn f ca (putL bud e L) L ob' obm ma mcap w.heap.size w w5) := hS5
                have HB5 : Hid (BytesS N ob' obm e.a e.len w5) := hB5
                clear hS5 hB5 HSz HBy HKH harr y0 y1 y2 HF
                have hll := HL.out
                have HM := HS5.out.modelsAt (e := e) HB5.out hk8 (by rw [HE.out]; show M i % 16 ≤ _; omega) (by omega) (by omega) (a := some ⟨wr.heap.size + 1, 0, none⟩) (len := M i % 16) (cap := M i % 16) (t := (T i : Int)) (k := (P i : Int) % 2 * 4 + (O i : Int) % 4) (by rw [HE.out]) (by rw [HE.out]) (by rw [HE.out]) (by rw [HE.out]) (by rw [HE.out]; show ((P i % 2 * 4 + O i % 4 : Nat) : Int) = _; omega)
                clear hll
                have HMH : Hid (Calls Yba.prog 7 #[.slice ma L.length mcap, .int .i64 (total L : Int), .int .i64 bud, .agg #[.int .i64 ((P i : Int) % 2 * 4 + (O i : Int) % 4), .int .u8 (T i : Int), .slice (some ⟨wr.heap.size + 1, 0, none⟩) (M i % 16) (M i % 16)]] w5 fun x w' => ∃ ma' mcap' obm', x = .returned (.tuple #[.slice ma' (putL bud e L).length mcap', .int .i64 (total (putL bud e L) : Int), .bool (wantB bud e L)]) ∧ St bud N dn f ca (putL bud e L) (putL bud e L) ob' obm' ma' mcap' w.heap.size w w') := HM
                clear HM
                go_wp2_with fail
                refine HMH.out.mono ?_
                rintro x w6 ⟨ma', mcap', obm', rfl, hS6⟩
                have hw : wantB bud e L = hasK (putL bud e L) e.k := (hasK_put bud e L).symm
                rw [hw]
                have HS6 : Hid (St bud N dn f ca (putL bud e L) (putL bud e L) ob' obm' ma' mcap' w.heap.size w w6) := hS6
                clear hS6 HMH HS5 HB5 hw
                have hel : e.len ≤ 15 := by rw [HE.out]; show M i % 16 ≤ 15; omega
                have HT : Hid ((putL bud e L).length ≤ i + 1 ∧ total (putL bud e L) ≤ 15 * (i + 1)) := by
                  have h1 := length_putL (bud := bud) e L
                  have h2 := total_putL (bud := bud) e L
                  have h3 := HL.out
                  constructor <;> omega
                clear hel
                generalize hasK (putL bud e L) e.k = hb
                cases hb with
                | true =>
                  go_wp2_with fail
                  go_roundw
                  case rel =>
                    exact ⟨i + 1, putL bud e L, ob', obm', ma', mcap', by omega, by simp, rfl, rfl, HT.out.1, HT.out.2, HS6.out⟩
                  case measure => simp [intOf]; omega
                | false =>
                  go_wp2_with fail
                  go_roundw
                  case rel =>
                    exact ⟨i + 1, putL bud e L, ob', obm', ma', mcap', by omega, by simp, rfl, rfl, HT.out.1, HT.out.2, HS6.out⟩
                  case measure => simp [intOf]; omega
        · have hie : i = on := by omega
          subst hie
          have hin' : ¬ ((i : Int) < (i : Int)) := by omega
          obtain ⟨e, he⟩ : ∃ e : E, e = { k := p % 2 * 4 + off % 4, t := (t : Int), a := da, len := dn, cap := dcap } := ⟨_, rfl⟩
          have HE : Hid (e = { k := p % 2 * 4 + off % 4, t := (t : Int), a := da, len := dn, cap := dcap }) := he
          clear he
          have hby : BytesS N ob obm e.a e.len wr := by
            rw [HE.out]
            intro h0
            show ∃ b o, ∃ g : Nat → Int, da = some ⟨b, o, none⟩ ∧ _
            cases hda : da with
            | none => exact absurd (HD.out.1 hda) (by have : 0 < dn := h0; omega)
            | some x =>
              obtain ⟨b, o, rfl, hbl, hc⟩ := HD.out.2 x hda h0
              obtain ⟨s1, s2⟩ := HS.out.old hbl
              exact ⟨b, o, f, rfl, s1, Nat.lt_of_lt_of_le hbl HS.out.below.size, fun i hi => by rw [cell_of_block s2]; exact hc i hi⟩
          have hk8 : e.k < 8 := by rw [HE.out]; show p % 2 * 4 + off % 4 < 8; omega
          have hbb := HZ.out
          have hll := HL.out
          have hK := HS.out.keepsAt0 (e := e) hk8 (by rw [HE.out]; show dn ≤ _; omega) (by omega) (by omega) hbb.1 hby (a := da) (len := dn) (cap := dcap) (t := (t : Int)) (o4 := (off : Int) % 4) (by rw [HE.out]) (by rw [HE.out]) (by rw [HE.out]) (by rw [HE.out]) (by rw [HE.out]; show (((p % 2 * 4 + off % 4) % 4 : Nat) : Int) = _; omega) rfl
          have HKH : Hid (Calls Yba.prog 4 #[.pointer (some ⟨N + 2, 0, none⟩), .pointer (some ⟨pk (N + 3) (N + 4) e.k, 0, none⟩), .int .i64 ((off : Int) % 4), .int .u8 (t : Int), .slice da dn dcap] wr fun x w' => x = .returned (.bool (hasK (putL bud e L) e.k)) ∧ ∃ ob', St bud N dn f ca (putL bud e L) L ob' obm ma mcap w.heap.size w w' ∧ BytesS N ob' obm e.a e.len w') := hK
          have harr : wr.cell? ⟨N + 5, p % 2, none⟩ = some (.pointer (some ⟨pk (N + 3) (N + 4) e.k, 0, none⟩)) := by rw [HE.out]; exact HS.out.pack _ _ (by omega) (by omega)
          generalize hpp : pk (N + 3) (N + 4) e.k = pp at HKH harr
          have hq2 : p % 2 < 2 := by omega
          clear hby hbb hll hK hpp
          go_wp2_with fail
          refine HKH.out.mono ?_
          rintro x w5 ⟨rfl, ob', hS5, hB5⟩
          have HS5 : Hid (St bud N dn f ca (putL bud e L) L ob' obm ma mcap w.heap.size w w5) := hS5
          have HB5 : Hid (BytesS N ob' obm e.a e.len w5) := hB5
          clear hS5 hB5 HKH harr hq2
          have hll := HL.out
          have hzz := HZ.out
          have HM := HS5.out.modelsAt (e := e) HB5.out hk8 (by rw [HE.out]; show dn ≤ _; omega) (by omega) (by omega) (a := da) (len := dn) (cap := dcap) (t := (t : Int)) (k := (p : Int) % 2 * 4 + (off : Int) % 4) (by rw [HE.out]) (by rw [HE.out]) (by rw [HE.out]) (by rw [HE.out]) (by rw [HE.out]; show ((p % 2 * 4 + off % 4 : Nat) : Int) = _; omega)
          have HMH : Hid (Calls Yba.prog 7 #[.slice ma L.length mcap, .int .i64 (total L : Int), .int .i64 bud, .agg #[.int .i64 ((p : Int) % 2 * 4 + (off : Int) % 4), .int .u8 (t : Int), .slice da dn dcap]] w5 fun x w' => ∃ ma' mcap' obm', x = .returned (.tuple #[.slice ma' (putL bud e L).length mcap', .int .i64 (total (putL bud e L) : Int), .bool (wantB bud e L)]) ∧ St bud N dn f ca (putL bud e L) (putL bud e L) ob' obm' ma' mcap' w.heap.size w w') := HM
          clear hll HM hzz
          go_wp2_with fail
          refine HMH.out.mono ?_
          rintro x w6 ⟨ma', mcap', obm', rfl, hS6⟩
          have hw : wantB bud e L = hasK (putL bud e L) e.k := (hasK_put bud e L).symm
          rw [hw]
          have HS6 : Hid (St bud N dn f ca (putL bud e L) (putL bud e L) ob' obm' ma' mcap' w.heap.size w w6) := hS6
          have HT : Hid ((putL bud e L).length ≤ 5000 ∧ total (putL bud e L) ≤ 1200000) := by
            have h1 := length_putL (bud := bud) e L
            have h4 := total_putL (bud := bud) e L
            have h5 : e.len = dn := by rw [HE.out]
            have h2 := HL.out
            have h3 := HZ.out
            constructor <;> omega
          clear hS6 HMH HS5 HB5 hw HS HL
          generalize hasK (putL bud e L) e.k = hb
          generalize putL bud e L = K at HS6 HT ⊢
          go_upto_if 174 with fail
          go_cut [14] (fun s14 wx => wx = w6)
          case first =>
            cases hb <;> (
              go_wp2_with fail
              go_meet
              trivial)
          case rest =>
            subst hcut
            clear HE hk8
            go_wp2_with fail
            have hKl : (K.length : Int) ≤ 5000 := by have := HT.out.1; omega
            go_loopw [33] (fun s33 wr => ∃ k : Nat, k ≤ 8 ∧ s33 = .int .i64 k ∧ St bud N dn f ca K K ob' obm' ma' mcap' w.heap.size w wr) (fun s33 _ => 8 - (intOf s33).toNat)
            case atStart => exact ⟨0, by omega, rfl, HS6.out⟩
            case round =>
              obtain ⟨k, hk, rfl, hSt⟩ := hrel
              rename World => wk
              have HSk : Hid (St bud N dn f ca K K ob' obm' ma' mcap' w.heap.size w wk) := hSt
              clear hSt HS6
              by_cases hk8 : k < 8
              · obtain ⟨vt, va, vl, vc, _, hov⟩ := lookV_eq K k
                have hK2 := HSk.out.lk.obj
                have hKa : wk.cell? ⟨N + 5, k / 4, none⟩ = some (.pointer (some ⟨pk (N + 3) (N + 4) k, 0, none⟩)) := by
                  have := HSk.out.pack (k / 4) (k % 4) (by omega) (by omega)
                  rwa [show k / 4 * 4 + k % 4 = k by omega] at this
                have k0 : (0 : Int) ≤ (k : Int) := by omega
                have k1 : (k : Int) < 8 := by omega
                have k2 : k / 4 < 2 := by omega
                generalize hpp : pk (N + 3) (N + 4) k = pp at hKa
                have HGH : Hid (∀ W : World, (∀ i, i < wk.heap.size → W.heap[i]? = wk.heap[i]?) → Calls Yba.prog 8 #[.pointer (some ⟨N + 1, 0, none⟩), .agg #[.pointer (some ⟨pp, 0, none⟩), .int .i64 ((k : Int) % 4)]] W fun x w' => x = .returned (.tuple #[.agg #[.int .u8 vt, .slice va vl vc], .bool (hasK K k)]) ∧ Below W.heap.size W w') :=
                  fun W hW => HSk.out.gets hk8 (by omega) hpp hov W hW
                have HOV : Hid (objV K k = .agg #[.int .u8 vt, .slice va vl vc]) := hov
                clear hov hpp
                go_wp2_with fail
                go_cut [34, 35] (fun s34 s35 wx => PostG K k vt va vl vc wk s34 s35 wx)
                case first =>
                  as_aux_lemma =>
                    have k3 : (k : Int).tdiv 4 = (k : Int) / 4 := Int.tdiv_eq_ediv_of_nonneg (by omega)
                    have k3b : ((k : Int) / 4).toNat = k / 4 := by omega
                    have k3c : (k : Int) / 4 < 2 := by omega
                    have k3d : (0 : Int) ≤ (k : Int) / 4 := by omega
                    have k3e : wrap64 ((k : Int) / 4) = (k : Int) / 4 := by unfold wrap64; omega
                    have k3f : IntKind.i64.wrap ((k : Int) / 4) = (k : Int) / 4 := by rw [IntKind.wrap_i64]; omega
                    have k4 : (k : Int).tmod 4 = (k : Int) % 4 := Int.tmod_eq_emod_of_nonneg (by omega)
                    have HFx : Hid (∀ w'' : World, Below (wk.drew.alloc (.cells #[.int .u8 0, .slice none 0 0] 59)).heap.size (wk.drew.alloc (.cells #[.int .u8 0, .slice none 0 0] 59)) w'' → w''.cell? ⟨wk.heap.size, 0, none⟩ = some (.int .u8 0) ∧ w''.cell? ⟨wk.heap.size, 1, none⟩ = some (.slice none 0 0) ∧ (∀ o, w''.frozen? ⟨wk.heap.size, o, none⟩ = false) ∧ Below wk.heap.size wk w'' ∧ wk.heap.size < w''.heap.size) := fun w'' hb => by
                      have hn : w''.heap[wk.heap.size]? = some (.cells #[.int .u8 0, .slice none 0 0] 59) := (hb.block wk.heap.size (by show _ < (wk.alloc _).heap.size; rw [nblk_alloc]; omega)).trans (blk_alloc_new wk _)
                      have h2 : (wk.drew.alloc (.cells #[.int .u8 0, .slice none 0 0] 59)).heap.size = wk.heap.size + 1 := nblk_alloc wk _
                      have h3 := hb.size
                      refine ⟨by simp only [World.cell?, hn]; rfl, by simp only [World.cell?, hn]; rfl, fun o => by simp only [World.frozen?, hn]; simp, ?_, by omega⟩
                      exact ⟨hb.os, hb.tape, hb.output, by omega, fun k hk => (hb.block k (by show _ < (wk.alloc _).heap.size; rw [nblk_alloc]; omega)).trans (blk_alloc_lt wk _ k hk)⟩
                    have HF1 : Hid (∀ w'' : World, Below wk.drew.heap.size wk.drew w'' → Below wk.heap.size wk w'') := fun w'' hb => ⟨hb.os, hb.tape, hb.output, hb.size, hb.block⟩
                    have hC0 : Below wk.heap.size wk wk.drew := (Below.refl _ _).drew
                    have hD2 : ∀ W : World, Below wk.heap.size wk W → W.cell? ⟨N + 2, 2, none⟩ = some (.pointer (some ⟨N + 1, 0, none⟩)) := fun W h => (cell_of_block (h.block _ (cell_lt hK2)) 2).trans hK2
                    have hDa : ∀ W : World, Below wk.heap.size wk W → W.cell? ⟨N + 5, k / 4, none⟩ = some (.pointer (some ⟨pp, 0, none⟩)) := fun W h => (cell_of_block (h.block _ (cell_lt hKa)) _).trans hKa
                    clear hK2 hKa
                    refine regionC (fun W => Below wk.heap.size wk W) mixed ?_
                    refine takeC' (i := 0) (v := ?_) (a' := ?_) rfl (by kernel_rfl) (by kernel_rfl) (by kernel_rfl) (fun _ _ _ h => h) hC0 (by rfl) (fun W hW => ?_) ?_ ?_
                    rotate_left 2
                    · have e2 := hD2 W hW
                      have ea := hDa W hW
                      go_simp
                      try rfl
                    · go_simp
                      try rfl
                    refine takeC' (i := 1) (v := ?_) (a' := ?_) rfl (by kernel_rfl) (by kernel_rfl) (by kernel_rfl) (fun _ _ _ h => h) hC0 (by rfl) (fun W hW => ?_) ?_ ?_
                    rotate_left 2
                    · have e2 := hD2 W hW
                      have ea := hDa W hW
                      go_simp
                      try rfl
                    · go_simp
                      try rfl
                    refine takeC' (i := 2) (v := ?_) (a' := ?_) rfl (by kernel_rfl) (by kernel_rfl) (by kernel_rfl) (fun _ _ _ h => h) hC0 (by rfl) (fun W hW => ?_) ?_ ?_
                    rotate_left 2
                    · have e2 := hD2 W hW
                      have ea := hDa W hW
                      go_simp
                      try rfl
                    · go_simp
                      try rfl
                    refine takeC' (i := 3) (v := ?_) (a' := ?_) rfl (by kernel_rfl) (by kernel_rfl) (by kernel_rfl) (fun _ _ _ h => h) hC0 (by rfl) (fun W hW => ?_) ?_ ?_
                    rotate_left 2
                    · have e2 := hD2 W hW
                      have ea := hDa W hW
                      go_simp
                      try rfl
                    · go_simp
                      try rfl
                    refine takeC' (i := 4) (v := ?_) (a' := ?_) rfl (by kernel_rfl) (by kernel_rfl) (by kernel_rfl) (fun _ _ _ h => h) hC0 (by rfl) (fun W hW => ?_) ?_ ?_
                    rotate_left 2
                    · have e2 := hD2 W hW
                      have ea := hDa W hW
                      go_simp
                      try rfl
                    · go_simp
                      try rfl
                    refine takeC' (i := 5) (v := ?_) (a' := ?_) rfl (by kernel_rfl) (by kernel_rfl) (by kernel_rfl) (fun _ _ _ h => h) hC0 (by rfl) (fun W hW => ?_) ?_ ?_
                    rotate_left 2
                    · have e2 := hD2 W hW
                      have ea := hDa W hW
                      go_simp
                      try rfl
                    · go_simp
                      try rfl
                    refine takeC' (i := 6) (v := ?_) (a' := ?_) rfl (by kernel_rfl) (by kernel_rfl) (by kernel_rfl) (fun _ _ _ h => h) hC0 (by rfl) (fun W hW => ?_) ?_ ?_
                    rotate_left 2
                    · have e2 := hD2 W hW
                      have ea := hDa W hW
                      go_simp
                      try rfl
                    · go_simp
                      try rfl
                    refine takeC' (i := 7) (v := ?_) (a' := ?_) rfl (by kernel_rfl) (by kernel_rfl) (by kernel_rfl) (fun _ _ _ h => h) hC0 (by rfl) (fun W hW => ?_) ?_ ?_
                    rotate_left 2
                    · have e2 := hD2 W hW
                      have ea := hDa W hW
                      go_simp
                      try rfl
                    · go_simp
                      try rfl
                    refine takeC' (i := 8) (v := ?_) (a' := ?_) rfl (by kernel_rfl) (by kernel_rfl) (by kernel_rfl) (fun _ _ _ h => h) hC0 (by rfl) (fun W hW => ?_) ?_ ?_
                    rotate_left 2
                    · have e2 := hD2 W hW
                      have ea := hDa W hW
                      go_simp
                      try rfl
                    · go_simp
                      try rfl
                    refine takeC' (i := 9) (v := ?_) (a' := ?_) rfl (by kernel_rfl) (by kernel_rfl) (by kernel_rfl) (fun _ _ _ h => h) hC0 (by rfl) (fun W hW => ?_) ?_ ?_
                    rotate_left 2
                    · have e2 := hD2 W hW
                      have ea := hDa W hW
                      go_simp
                      try rfl
                    · go_simp
                      try rfl
                    refine takeC' (i := 10) (v := ?_) (a' := ?_) rfl (by kernel_rfl) (by kernel_rfl) (by kernel_rfl) (fun _ _ _ h => h) hC0 (by rfl) (fun W hW => ?_) ?_ ?_
                    rotate_left 2
                    · have e2 := hD2 W hW
                      have ea := hDa W hW
                      go_simp
                      try rfl
                    · go_simp
                      try rfl
                    refine twoC (i := 11) (j := 15) (by kernel_rfl) rfl (by rfl) rfl (by rfl) (fun R hR => ?_) (fun R hR => ?_)
                    · go_wp2_with fail
                      refine (HGH.out wk.drew (fun _ _ => rfl)).mono ?_
                      rintro x w'' ⟨rfl, hb⟩
                      replace hb := HF1.out w'' hb
                      dsimp only
                      refine hR _ _ ⟨hb, ?_⟩
                      clear hR R
                      refine takeC' (i := 12) (v := ?_) (a' := ?_) rfl (by kernel_rfl) (by kernel_rfl) (by kernel_rfl) (fun _ _ _ h => h) hb (by rfl) (fun W hW => ?_) ?_ ?_
                      rotate_left 2
                      · go_simp
                        try rfl
                      · go_simp
                        try rfl
                      refine takeC' (i := 13) (v := ?_) (a' := ?_) rfl (by kernel_rfl) (by kernel_rfl) (by kernel_rfl) (fun _ _ _ h => h) hb (by rfl) (fun W hW => ?_) ?_ ?_
                      rotate_left 2
                      · go_simp
                        try rfl
                      · go_simp
                        try rfl
                      refine takeC' (i := 14) (v := ?_) (a' := ?_) rfl (by kernel_rfl) (by kernel_rfl) (by kernel_rfl) (fun _ _ _ h => h) hb (by rfl) (fun W hW => ?_) ?_ ?_
                      rotate_left 2
                      · go_simp
                        try rfl
                      · go_simp
                        try rfl
                      refine oneC (i := 15) (by kernel_rfl) rfl (by rfl) (fun R hR => ?_)
                      go_wp2_with fail
                      refine ⟨hb.alloc hb.size _, ?_⟩
                      refine oneC (i := 16) (by kernel_rfl) rfl (by rfl) (fun R hR => ?_)
                      go_wp2_with fail
                      refine ⟨hb.alloc hb.size _, ?_⟩
                      refine takeC' (i := 17) (v := ?_) (a' := ?_) rfl (by kernel_rfl) (by kernel_rfl) (by kernel_rfl) (fun _ _ _ h => h) (hb.alloc hb.size _) (by rfl) (fun W hW => ?_) ?_ ?_
                      rotate_left 2
                      · go_simp
                        try rfl
                      · go_simp
                        try rfl
                      refine doneC (by kernel_rfl) ?_
                      go_wp2_with fail
                      go_meet
                      exact ⟨w''.heap.size, rfl, rfl, by simp, by simp, hb.alloc hb.size _, hb.size, by simp⟩
                    · go_wp2_with fail
                      refine ⟨hC0.alloc (Nat.le_refl _) _, ?_⟩
                      refine oneC (i := 11) (by kernel_rfl) rfl (by rfl) (fun R hR => ?_)
                      go_wp2_with fail
                      refine (HGH.out (wk.drew.alloc (.cells #[.int .u8 0, .slice none 0 0] 59)) (fun i hi => blk_alloc_lt wk.drew _ i hi)).mono ?_
                      rintro x w'' ⟨rfl, hb⟩
                      obtain ⟨q0, q1, qz, hb, hlt⟩ := HFx.out w'' hb
                      dsimp only
                      refine hR _ _ ⟨hb, ?_⟩
                      clear hR R
                      refine takeC' (i := 12) (v := ?_) (a' := ?_) rfl (by kernel_rfl) (by kernel_rfl) (by kernel_rfl) (fun _ _ _ h => h) hb (by rfl) (fun W hW => ?_) ?_ ?_
                      rotate_left 2
                      · go_simp
                        try rfl
                      · go_simp
                        try rfl
                      refine takeC' (i := 13) (v := ?_) (a' := ?_) rfl (by kernel_rfl) (by kernel_rfl) (by kernel_rfl) (fun _ _ _ h => h) hb (by rfl) (fun W hW => ?_) ?_ ?_
                      rotate_left 2
                      · go_simp
                        try rfl
                      · go_simp
                        try rfl
                      refine takeC' (i := 14) (v := ?_) (a' := ?_) rfl (by kernel_rfl) (by kernel_rfl) (by kernel_rfl) (fun _ _ _ h => h) hb (by rfl) (fun W hW => ?_) ?_ ?_
                      rotate_left 2
                      · go_simp
                        try rfl
                      · go_simp
                        try rfl
                      refine oneC (i := 16) (by kernel_rfl) rfl (by rfl) (fun R hR => ?_)
                      go_wp2_with fail
                      refine ⟨(hb.setCell (Nat.le_refl _) _).setCell (Nat.le_refl _) _, ?_⟩
                      refine takeC' (i := 17) (v := ?_) (a' := ?_) rfl (by kernel_rfl) (by kernel_rfl) (by kernel_rfl) (fun _ _ _ h => h) ((hb.setCell (Nat.le_refl _) _).setCell (Nat.le_refl _) _) (by rfl) (fun W hW => ?_) ?_ ?_
                      rotate_left 2
                      · go_simp
                        try rfl
                      · go_simp
                        try rfl
                      refine doneC (by kernel_rfl) ?_
                      go_wp2_with fail
                      go_meet
                      exact ⟨wk.heap.size, rfl, rfl, (set2_cells q0 q1).1, (set2_cells q0 q1).2, (hb.setCell (Nat.le_refl _) _).setCell (Nat.le_refl _) _, Nat.le_refl _, by simpa using hlt⟩
                case rest =>
                  obtain ⟨V, rfl, rfl, v0, v1, hbV, hVl, hVs⟩ := hcut
                  rename World => w8
                  have HS8 : Hid (St bud N dn f ca K K ob' obm' ma' mcap' w.heap.size w w8) := HSk.out.later hbV
                  have HV : Hid (wk.heap.size ≤ V ∧ V < w8.heap.size) := ⟨hVl, hVs⟩
                  clear hbV hVl hVs HSk HGH hK2 hKa
                  go_wp2_with fail
                  go_loopw [36, 37] (fun s36 s37 wx => wx = w8 ∧ ∃ (i : Nat) (fd : Int), i ≤ K.length ∧ s37 = .int .i64 i ∧ s36 = .int .i64 fd ∧ Found K k i fd) (fun _ s37 _ => K.length - (intOf s37).toNat)
                  case atStart => exact ⟨rfl, 0, -1, by omega, rfl, rfl, .inl ⟨rfl, fun j x hj => by omega⟩⟩
                  case round =>
                    obtain ⟨hwx, i2, fd, hi2, rfl, rfl, hfd⟩ := hrel
                    subst hwx
                    rename World => w8
                    have HFD : Hid (Found K k i2 fd) := hfd
                    clear hfd
                    by_cases hil : i2 < K.length
                    · obtain ⟨x, hx⟩ : ∃ x, K[i2]? = some x := ⟨K[i2], by simp [hil]⟩
                      obtain ⟨b, o, rfl, hob, hcs⟩ := HS8.out.row.addr (by omega)
                      have hc0 : w8.cell? ⟨b, o + i2 * 3, none⟩ = some (.int .i64 (x.k : Int)) := by
                        have := hcs (i2 * 3) (by omega)
                        rw [show i2 * 3 = i2 * 3 + 0 by omega, flat3 K i2 x 0 hx (by omega)] at this
                        exact this
                      have HX : Hid (K[i2]? = some x) := hx
                      have j0 : (0 : Int) ≤ (i2 : Int) := by omega
                      have j1 : (i2 : Int) < (K.length : Int) := by omega
                      clear hcs hx
                      by_cases hxe : x.k = k
                      · have e1 : ((x.k : Int) == (k : Int)) = true := by simp [hxe]
                        as_aux_lemma =>
                          go_wp2_with fail
                          go_roundw
                          case rel => exact ⟨by trivial, i2 + 1, (i2 : Int), by omega, by simp, rfl, .inr ⟨i2, x, by omega, rfl, HX.out, hxe⟩⟩
                          case measure => simp [intOf]; omega
                      · have e1 : ((x.k : Int) == (k : Int)) = false := by simp; omega
                        as_aux_lemma =>
                          go_wp2_with fail
                          go_roundw
                          case rel =>
                            refine ⟨by trivial, i2 + 1, fd, by omega, by simp, rfl, ?_⟩
                            rcases HFD.out with ⟨h1, h2⟩ | ⟨j, y, h1, h2, h3, h4⟩
                            · exact .inl ⟨h1, fun j y hj hy => by
                                by_cases hji : j = i2
                                · subst hji
                                  rw [HX.out] at hy
                                  cases hy
                                  exact hxe
                                · exact h2 j y (by omega) hy⟩
                            · exact .inr ⟨j, y, by omega, h2, h3, h4⟩
                          case measure => simp [intOf]; omega
                    · have hile : i2 = K.length := by omega
                      subst hile
                      have hil' : ¬ ((K.length : Int) < (K.length : Int)) := by omega
                      rcases HFD.out with ⟨rfl, hno⟩ | ⟨j, x, hj, rfl, hx, hxk⟩
                      · have hhk : hasK K k = false := hasK_false (fun j x hx => hno j x (by
                          rcases Nat.lt_or_ge j K.length with h | h
                          · exact h
                          · rw [List.getElem?_eq_none h] at hx; cases hx) hx)
                        rw [hhk]
                        clear hno HFD hhk
                        as_aux_lemma =>
                          go_wp2_with fail
                          go_roundw
                          case rel => exact ⟨k + 1, by omega, by simp, HS8.out⟩
                          case measure => simp [intOf]; omega
                      · subst hxk
                        have hov := (objV_at HS8.out.cache.keys hx).symm.trans HOV.out
                        simp at hov
                        obtain ⟨rfl, rfl, rfl, rfl⟩ := hov
                        rw [hasK_true hx]
                        have hxl : x.len ≤ 1073741824 := by have := len_le_total (List.mem_of_getElem? hx); have := HT.out.2; omega
                        obtain ⟨b, o, rfl, hob, hcs⟩ := HS8.out.row.addr (by omega)
                        have hd : ∀ c, c < 3 → w8.cell? ⟨b, o + j * 3 + c, none⟩ = (entCells x)[c]? := fun c hc => by
                          have := hcs (j * 3 + c) (by omega)
                          rw [flat3 K j x c hx hc, ← Nat.add_assoc] at this
                          exact this
                        have d0 : w8.cell? ⟨b, o + j * 3, none⟩ = some (.int .i64 (x.k : Int)) := hd 0 (by omega)
                        have d1 : w8.cell? ⟨b, o + j * 3 + 1, none⟩ = some (.int .u8 x.t) := hd 1 (by omega)
                        have d2 : w8.cell? ⟨b, o + j * 3 + 2, none⟩ = some (.slice x.a x.len x.cap) := hd 2 (by omega)
                        have j0 : (0 : Int) ≤ (j : Int) := by omega
                        have j1 : (j : Int) < (K.length : Int) := by omega
                        have a0 : ∀ O, (w8.alloc O).cell? ⟨V, 0, none⟩ = some (.int .u8 x.t) := fun O => (cell_of_block (blk_alloc_lt w8 O V HV.out.2) 0).trans v0
                        have a1 : ∀ O, (w8.alloc O).cell? ⟨V, 1, none⟩ = some (.slice x.a x.len x.cap) := fun O => (cell_of_block (blk_alloc_lt w8 O V HV.out.2) 1).trans v1
                        have HXb : Hid (BytesS N ob' obm' x.a x.len w8) := HS8.out.data x (.inl (List.mem_of_getElem? hx))
                        have HXL : Hid (x.len ≤ 1073741824) := hxl
                        clear hcs hd hx hob HFD hxl
                        as_aux_lemma =>
                          go_wp2_with fail
                          have hbA : Below w8.heap.size w8 (w8.alloc (.cells #[.int .i64 (x.k : Int), .int .u8 x.t, .slice x.a x.len x.cap] 57)) := (Below.refl _ _).alloc (Nat.le_refl _) _
                          have hby : ∃ g : Nat → Int, Bytes x.a x.len g (w8.alloc (.cells #[.int .i64 (x.k : Int), .int .u8 x.t, .slice x.a x.len x.cap] 57)) := by
                            by_cases h0 : 0 < x.len
                            · obtain ⟨b1, o1, g, h1, h2, h3, h4⟩ := HXb.out h0
                              exact ⟨g, fun _ => ⟨b1, o1, h1, fun i hi => by rw [cell_of_block (hbA.block b1 h3)]; exact h4 i hi⟩⟩
                            · exact ⟨fun _ => 0, fun h => absurd h h0⟩
                          obtain ⟨g, hby⟩ := hby
                          refine (equal_any x.a x.a x.len x.cap x.cap g _ hby hby HXL.out).mono ?_
                          rintro y w10 ⟨rfl, hb10⟩
                          have hs9 : (w8.alloc (.cells #[.int .i64 (x.k : Int), .int .u8 x.t, .slice x.a x.len x.cap] 57)).heap.size = w8.heap.size + 1 := nblk_alloc _ _
                          have c2 : w10.cell? ⟨w8.heap.size, 2, none⟩ = some (.slice x.a x.len x.cap) := by
                            rw [cell_of_block (hb10.block w8.heap.size (by omega))]; simp
                          have c1 : w10.cell? ⟨V, 1, none⟩ = some (.slice x.a x.len x.cap) := by
                            rw [cell_of_block (hb10.block V (by have := HV.out.2; omega))]; exact a1 _
                          have HBX : Hid (Below w8.heap.size w8 w10) := hbA.trans (hb10.mono hbA.size)
                          clear hb10 hby hbA hs9 a0 a1 d0 d1 d2 v0 v1
                          have hne := neq74
                          by_cases h0 : 0 < x.len
                          · obtain ⟨b1, o1, g1, h1, _⟩ := HXb.out h0
                            have hpos : (0 : Int) < (x.len : Int) := by omega
                            rw [h1] at c1 c2 ⊢
                            go_wp2_with fail
                            go_quiet (fail)
                            go_wp2_with fail
                            go_roundw
                            case rel => exact ⟨x.k + 1, by omega, by simp, HS8.out.later (below_drewN HBX.out _)⟩
                            case measure => simp [intOf]; omega
                          · have hpos : decide ((0 : Int) < (x.len : Int)) = false := by simp; omega
                            go_wp2_with fail
                            go_quiet (fail)
                            go_wp2_with fail
                            go_roundw
                            case rel => exact ⟨x.k + 1, by omega, by simp, HS8.out.later (below_drewN HBX.out _)⟩
                            case measure => simp [intOf]; omega
              · have hk8' : ¬ ((k : Int) < 8) := by omega
                as_aux_lemma =>
                  go_wp2_with fail
                  have hdn : dn ≤ 1073741824 := by have := HZ.out; omega
                  refine (equal_any da ca dn dcap cc f _ ?_ ?_ hdn).mono ?_
                  · intro h0
                    cases hda : da with
                    | none => have := HD.out.1 hda; omega
                    | some x =>
                      obtain ⟨b, o, rfl, hbl, hc⟩ := HD.out.2 x hda h0
                      exact ⟨b, o, rfl, fun i hi => by rw [cell_of_block (HSk.out.old hbl).2]; exact hc i hi⟩
                  · intro h0
                    obtain ⟨b, o, a1, a2, a3, a4⟩ := HSk.out.dc h0
                    exact ⟨b, o, a1, a4⟩
                  rintro x w9 ⟨rfl, hb9⟩
                  go_wp2_with fail
                  go_ret
                  exact ⟨rfl, HSk.out.below.trans (hb9.mono HSk.out.below.size)⟩
end Go.Proofs.Ybulkeila

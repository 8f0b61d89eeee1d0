/-
  newChargeParts.
-/
import Derived.Test.YbulkeinsCLp
import Derived.Deep.Cut
import Derived.Deep.DeepCutAuto
import Derived.LoopTactic
import Derived.Deep.LoopGhost
import Derived.StillTailTactics
namespace Go.Proofs.Ybulkeins
open Go Go.RowKit Go.Deep

set_option maxRecDepth 100000 in
set_option maxHeartbeats 6400000 in
theorem new_any (s e : Int) (id col : ByteArray) (cm : Option Addr) (k D n : Nat) (K : Nat → Nat) (hn : n ≤ 65536) (hs : -2147483648 ≤ s ∧ s ≤ 2147483647) (he : -2147483648 ≤ e ∧ e ≤ 2147483647) (w : World) (hc : CmAt k cm w) (hk : BkAt D n K w) :
    Calls Yba.prog 6 #[.agg #[.int .u64 0, .int .i64 s, .pointer none, .int .u64 0, .int .i64 e, .pointer none], .agg (chCells id col cm (if n = 0 then none else some ⟨D, 0, none⟩) n)] w
      (NewPost s e id col cm k D n K w) := by
  generalize hba : (if n = 0 then none else some (⟨D, 0, none⟩ : Addr)) = ba
  unfold chCells
  go_enter Yba.func6, Yba.ntmps6
  go_wp2_with fail
  have hbx := Boxes.new s e id col cm ba n w
  have hb2 := below2 w (.cells #[.int .u64 0, .int .i64 s, .pointer none, .int .u64 0, .int .i64 e, .pointer none] 30) (.cells #[.string id, .string col, .int .i64 0, .pointer none, .int .i64 0, .pointer cm, .slice ba n n] 48)
  have hc1 := hc.below hb2
  have hk1 := hk.below hb2
  generalize ((w.alloc (.cells #[.int .u64 0, .int .i64 s, .pointer none, .int .u64 0, .int .i64 e, .pointer none] 30)).alloc (.cells #[.string id, .string col, .int .i64 0, .pointer none, .int .i64 0, .pointer cm, .slice ba n n] 48)) = w1 at hbx hb2 hc1 hk1 ⊢
  generalize w.heap.size + 1 = Bc at hbx ⊢
  have HB2 : Hid (Below w.heap.size w w1) := hb2
  generalize w.heap.size = Bp at hbx ⊢
  have HBX : Hid (Boxes s e id col cm ba n Bp Bc w1) := hbx
  have HK1 : Hid (BkAt D n K w1) := hk1
  have HBA : Hid ((if n = 0 then none else some (⟨D, 0, none⟩ : Addr)) = ba) := hba
  go_cut [5] (fun s5 wx => ∃ C O, s5 = .pointer (some ⟨C, 0, none⟩) ∧ Lp s e id col cm k D n K C O w1 0 (fun _ => 0) none none 0 wx)
  case first =>
    as_aux_lemma =>
      have HC : Hid (∀ w4 : World, w4.heap = w1.heap → Calls Yba.prog 12 #[.agg #[.int .u64 0, .int .i64 s, .pointer none, .int .u64 0, .int .i64 e, .pointer none], .agg #[.int .i64 0, .pointer none, .int .i64 0], .pointer cm] w4 (PartPost s e k cm w4)) := fun w4 h4 => newPart_any s e k cm hs he w4 (by
        unfold CmAt World.cell? at hc1 ⊢
        rw [h4]
        exact hc1)
      have HZ : Hid (∀ w4 : World, Below w1.heap.size w1 w4 → Boxes s e id col cm ba n Bp Bc w4) := fun w4 h => HBX.out.kept h
      have HL : Hid (∀ (w4 : World) (O : Nat) (q : Option Addr), Below w1.drew.heap.size w1.drew w4 → w4.heap[O]? = some (.cells (partCells none cm q) 59) → WsNew w1.drew.heap.size s e k q w4 → Lp s e id col cm k D n K w4.heap.size O w1 0 (fun _ => 0) none none 0 (w4.alloc (.cells (cpCells id col cm ba n O none 0 0) 54))) := fun w4 O q h h2 h3 => by
        have := Lp.start (id := id) (col := col) (D := D) (n := n) (K := K) (⟨h.os, h.tape, h.output, h.size, h.block⟩ : Below w1.heap.size w1 w4) h2 h3
        rw [hba] at this
        exact this
      clear hc1 hk1 hb2 hc hk hba hs he hn HB2 HK1 HBA HBX hbx
      have hC0 : Below w1.heap.size w1 w1.drew := (Below.refl _ _).drew
      refine regionC (fun W => Below w1.heap.size w1 W) mixed ?_
      refine takeC' (i := 0) (v := ?_) (a' := ?_) rfl (by kernel_rfl) (by kernel_rfl) (by kernel_rfl) (fun _ _ _ h => h) hC0 (by rfl) (fun W hW => ?_) ?_ ?_
      rotate_left 2
      · obtain ⟨⟨p0, p1, p2, p3, p4, p5⟩, c0, c1, c2, c3, c4, c5, c6⟩ := HZ.out W hW
        go_simp
        try rfl
      · go_simp
        try rfl
      refine takeC' (i := 1) (v := ?_) (a' := ?_) rfl (by kernel_rfl) (by kernel_rfl) (by kernel_rfl) (fun _ _ _ h => h) hC0 (by rfl) (fun W hW => ?_) ?_ ?_
      rotate_left 2
      · obtain ⟨⟨p0, p1, p2, p3, p4, p5⟩, c0, c1, c2, c3, c4, c5, c6⟩ := HZ.out W hW
        go_simp
        try rfl
      · go_simp
        try rfl
      refine takeC' (i := 2) (v := ?_) (a' := ?_) rfl (by kernel_rfl) (by kernel_rfl) (by kernel_rfl) (fun _ _ _ h => h) hC0 (by rfl) (fun W hW => ?_) ?_ ?_
      rotate_left 2
      · obtain ⟨⟨p0, p1, p2, p3, p4, p5⟩, c0, c1, c2, c3, c4, c5, c6⟩ := HZ.out W hW
        go_simp
        try rfl
      · go_simp
        try rfl
      refine takeC' (i := 3) (v := ?_) (a' := ?_) rfl (by kernel_rfl) (by kernel_rfl) (by kernel_rfl) (fun _ _ _ h => h) hC0 (by rfl) (fun W hW => ?_) ?_ ?_
      rotate_left 2
      · obtain ⟨⟨p0, p1, p2, p3, p4, p5⟩, c0, c1, c2, c3, c4, c5, c6⟩ := HZ.out W hW
        go_simp
        try rfl
      · go_simp
        try rfl
      refine takeC' (i := 4) (v := ?_) (a' := ?_) rfl (by kernel_rfl) (by kernel_rfl) (by kernel_rfl) (fun _ _ _ h => h) hC0 (by rfl) (fun W hW => ?_) ?_ ?_
      rotate_left 2
      · obtain ⟨⟨p0, p1, p2, p3, p4, p5⟩, c0, c1, c2, c3, c4, c5, c6⟩ := HZ.out W hW
        go_simp
        try rfl
      · go_simp
        try rfl
      refine takeC' (i := 5) (v := ?_) (a' := ?_) rfl (by kernel_rfl) (by kernel_rfl) (by kernel_rfl) (fun _ _ _ h => h) hC0 (by rfl) (fun W hW => ?_) ?_ ?_
      rotate_left 2
      · obtain ⟨⟨p0, p1, p2, p3, p4, p5⟩, c0, c1, c2, c3, c4, c5, c6⟩ := HZ.out W hW
        go_simp
        try rfl
      · go_simp
        try rfl
      refine oneC (i := 6) (by kernel_rfl) rfl (by rfl) (fun K hK => ?_)
      go_wp2_with fail
      refine (HC.out w1.drew rfl).mono ?_
      rintro x w4 ⟨O, q, rfl, hb4, hle, hO4, hq4⟩
      have hq := HL.out w4 O q hb4 hO4 hq4
      have hb5 : Below w1.heap.size w1 w4 := ⟨hb4.os, hb4.tape, hb4.output, hb4.size, hb4.block⟩
      clear hb4 HZ HC HL hO4 hq4 hle hC0
      dsimp only
      refine hK _ _ ⟨hb5, ?_⟩
      clear hK K
      refine takeC' (i := 7) (v := .agg #[.string id, .string col, .int .i64 0, .pointer none, .int .i64 0, .pointer cm, .slice ba n n, .pointer (some ⟨O, 0, none⟩), .slice none 0 0]) (a' := ?_) rfl (by kernel_rfl) (by kernel_rfl) (by kernel_rfl) (fun _ _ _ h => h) hb5 (by rfl) (fun W hW => exec_build (t := 54) (parts := #[(0, .tmp 9), (1, .tmp 15)]) (l := [(0, .agg #[.string id, .string col, .int .i64 0, .pointer none, .int .i64 0, .pointer cm, .slice ba n n]), (1, .pointer (some ⟨O, 0, none⟩))]) rfl (by simp [Act.eval]) (built54 id col cm ba n O) W) ?_ ?_
      rotate_left 1
      · go_simp
        try rfl
      refine oneC (i := 8) (by kernel_rfl) rfl (by rfl) (fun K hK => ?_)
      go_wp2_with fail
      refine ⟨hb5.alloc hb5.size _, ?_⟩
      refine takeC' (i := 9) (v := ?_) (a' := ?_) rfl (by kernel_rfl) (by kernel_rfl) (by kernel_rfl) (fun _ _ _ h => h) (hb5.alloc hb5.size _) (by rfl) (fun W hW => ?_) ?_ ?_
      rotate_left 2
      · go_simp
        try rfl
      · go_simp
        try rfl
      refine doneC (by kernel_rfl) ?_
      go_wp2_with fail
      go_meet
      exact ⟨w4.heap.size, O, rfl, hq⟩
  case rest =>
    obtain ⟨C, O, rfl, hL0⟩ := hcut
    rename World => w5
    have hbx5 := HBX.out.kept hL0.below
    have HB5 : Hid (∀ wr, Below w1.heap.size w1 wr → Boxes s e id col cm ba n Bp Bc wr) := fun wr h => HBX.out.kept h
    have HK5 : Hid (∀ wr, Below w1.heap.size w1 wr → BkAt D n K wr) := fun wr h => HK1.out.below h
    have HL0 : Hid (Lp s e id col cm k D n K C O w1 0 (fun _ => 0) none none 0 w5) := hL0
    have HN : Hid (n ≤ 65536) := hn
    have hn' : (n : Int) ≤ 65536 := by omega
    have HSE : Hid ((-2147483648 ≤ s ∧ s ≤ 2147483647) ∧ (-2147483648 ≤ e ∧ e ≤ 2147483647)) := ⟨hs, he⟩
    obtain ⟨⟨p0, p1, p2, p3, p4, p5⟩, c0, c1, c2, c3, c4, c5, c6⟩ := hbx5
    clear hbx hb2 hc1 hk1 hL0 hc hk hba hn hs he HBX HK1
    go_wp2_with fail
    clear p0 p1 p2 p3 p4 p5 c0 c1 c2 c3 c4 c5 c6
    go_loopw [21] (fun s21 wr => ∃ (i : Nat) (P : Nat → Nat) (ob : Option Nat) (A : Option Addr) (cap : Nat), i ≤ n ∧ s21 = .int .i64 i ∧ Lp s e id col cm k D n K C O w1 i P ob A cap wr) (fun s21 _ => n - (intOf s21).toNat)
    case atStart => exact ⟨0, _, none, none, 0, Nat.zero_le _, rfl, HL0.out⟩
    case round =>
      obtain ⟨i, P, ob, A, cap, hi, rfl, hLi⟩ := hrel
      rename World => wr
      have HLi : Hid (Lp s e id col cm k D n K C O w1 i P ob A cap wr) := hLi
      by_cases hin : i < n
      · have hba : ba = some ⟨D, 0, none⟩ := by rw [← HBA.out, if_neg (by omega)]
        subst hba
        have hin' : (i : Int) < n := by omega
        have hi0 : (0 : Int) ≤ i := by omega
        obtain ⟨⟨p0, p1, p2, p3, p4, p5⟩, c0, c1, c2, c3, c4, c5, c6⟩ := HB5.out wr hLi.below
        obtain ⟨b2, b3, b4, b14⟩ := HK5.out wr hLi.below i hin
        have HCM : Hid (CmAt (K i) (some ⟨D, i * 15 + 5, none⟩) wr) := .inr ⟨D, i * 15 + 5, rfl, b14⟩
        clear hLi HBA b14
        go_wp2_with fail
        go_still_tail 8, mixed
        go_wp2_with fail
        refine (newPart_any s e (K i) (some ⟨D, i * 15 + 5, none⟩) HSE.out.1 HSE.out.2 wr.drew HCM.out).mono ?_
        rintro x w2 ⟨Q, q, rfl, hb2, hQ, hQ2, hq⟩
        obtain ⟨t8, a', cap', ob', w', hrun, g8, gf, hL'⟩ := HLi.out.step HN.out hin (w2 := w2) ⟨hb2.os, hb2.tape, hb2.output, hb2.size, hb2.block⟩ hQ hQ2 hq
        have y0 : w2.cell? ⟨Q, 0, none⟩ = some (.pointer none) := by simp only [World.cell?, hQ2]; rfl
        have yf : w2.frozen? ⟨Q, 0, none⟩ = false := by simp only [World.frozen?, hQ2]; rfl
        have HL' : Hid (Lp s e id col cm k D n K C O w1 (i + 1) (fun j => if j = i then Q else P j) ob' a' cap' (w'.setCell ⟨C, 8, none⟩ (.slice a' (i + 1) cap'))) := hL'
        have HRUN : Hid ((Builtin.append_ #[52, 52] 52 #[.slice A i cap, .slice (some ⟨w2.heap.size, 0, none⟩) 1 1]).run Yba.prog ((w2.setCell ⟨Q, 0, none⟩ (.pointer (some ⟨D, i * 15, none⟩))).alloc (.cells #[.pointer (some ⟨Q, 0, none⟩)] 51)) = .ok (.slice a' (i + 1) cap') w') := hrun
        clear p0 p1 p2 p3 p4 p5 c0 c1 c2 c3 c4 c5 c6 b2 b3 b4 hL' hb2 hQ hQ2 hq HLi HCM hrun
        go_wp2_with (at_builtin; refine wpList_append_run _ rfl (.tmp 47) (.tmp 49) 52 rfl rfl rfl HRUN.out ?_)
        exact ⟨⟨i + 1, _, _, _, _, by omega, by simp, HL'.out⟩, by simp [intOf]; omega⟩
      · have hni : i = n := by omega
        subst hni
        have hlt : ¬ (i : Int) < i := by omega
        clear hLi
        go_wp2_with fail
        go_ret
        exact ⟨w1, C, O, P, ob, A, cap, rfl, HB2.out.trans (HLi.out.below.mono HB2.out.size), HLi.out, HB2.out.size⟩
end Go.Proofs.Ybulkeins

/-
  The law's walk.
-/
import Derived.Test.YbulkeinsCNew
import Derived.Test.YbulkeinsCEql
import Derived.Test.YbulkeinsCWs
import Derived.Deep.QuietTactic
import Derived.BigQuiet
namespace Go.Proofs.Ybulkeins
open Go Go.RowKit Go.Deep
set_option linter.unusedVariables false
set_option linter.unusedSimpArgs false

set_option maxRecDepth 100000 in
set_option maxHeartbeats 64000000 in
theorem law_any (s e : Int) (id col : ByteArray) (sel : Nat) (tu : Bool) (A : Option Addr) (n cap : Nat) (K : Nat → Nat) (w : World) (hs : -2147483648 ≤ s ∧ s ≤ 2147483647) (he : -2147483648 ≤ e ∧ e ≤ 2147483647) (hsel : sel < 256) (hrow : RowIn A n K w) :
    Calls Yba.prog 3 #[.int .i32 s, .int .i32 e, .string id, .string col, .int .u8 (sel : Int), .bool tu, .slice A n cap] w fun x w' => x = .returned (.bool true) ∧ Below w.heap.size w w' := by
  by_cases hbig : 65536 < n
  · have hb1 : (65536 : Int) < (n : Int) := by omega
    go_enter Yba.func3, Yba.ntmps3
    go_wp2_with fail
    go_ret
    exact ⟨rfl, Below.refl _ _⟩
  · have hb1 : ¬ (65536 : Int) < (n : Int) := by omega
    have hn' : (n : Int) ≤ 65536 := by omega
    have ws : IntKind.i64.wrap s = s := by rw [IntKind.wrap_i64]; omega
    have we : IntKind.i64.wrap e = e := by rw [IntKind.wrap_i64]; omega
    have ws' : wrap64 s = s := by unfold wrap64; omega
    have we' : wrap64 e = e := by unfold wrap64; omega
    have HW : Hid (IntKind.i64.wrap (s * 1000000000) = s * 1000000000 ∧ IntKind.i64.wrap (e * 1000000000) = e * 1000000000 ∧ wrap64 (s * 1000000000) = s * 1000000000 ∧ wrap64 (e * 1000000000) = e * 1000000000) := by
      refine ⟨?_, ?_, ?_, ?_⟩
      · rw [IntKind.wrap_i64]; omega
      · rw [IntKind.wrap_i64]; omega
      · unfold wrap64; omega
      · unfold wrap64; omega
    have HSE : Hid ((-2147483648 ≤ s ∧ s ≤ 2147483647) ∧ (-2147483648 ≤ e ∧ e ≤ 2147483647)) := ⟨hs, he⟩
    have HRW : Hid (RowIn A n K w) := hrow
    have HSL : Hid (sel < 256) := hsel
    have HN : Hid (n ≤ 65536) := by show n ≤ 65536; omega
    clear hs he hrow hbig
    go_enter Yba.func3, Yba.ntmps3
    go_wp2_with fail
    have hbw : Below w.heap.size w (w.alloc (.cells #[.int .u64 0, .int .i64 0, .pointer none] 26)) := (Below.refl _ _).alloc (Nat.le_refl _) _
    have ht : (w.alloc (.cells #[.int .u64 0, .int .i64 0, .pointer none] 26)).heap[w.heap.size]? = some (.cells #[.int .u64 0, .int .i64 0, .pointer none] 26) := blk_alloc_new _ _
    have HBW : Hid (Below w.heap.size w (w.alloc (.cells #[.int .u64 0, .int .i64 0, .pointer none] 26))) := hbw
    generalize (w.alloc (.cells #[.int .u64 0, .int .i64 0, .pointer none] 26)) = w1 at HBW hbw ht ⊢
    have HT : Hid (∀ W : World, Below w1.heap.size w1 W → W.cell? ⟨w.heap.size, 0, none⟩ = some (.int .u64 0) ∧ W.cell? ⟨w.heap.size, 1, none⟩ = some (.int .i64 0) ∧ W.cell? ⟨w.heap.size, 2, none⟩ = some (.pointer none)) := fun W h => by
      have e := (h.block _ (blk_lt ht)).trans ht
      simp only [World.cell?, e]
      exact ⟨rfl, rfl, rfl⟩
    clear hbw ht
    go_cut [18] (fun s18 wx => PerPost s e w1 s18 wx)
    case first =>
      as_aux_lemma =>
        have hC0 : Below w1.heap.size w1 w1.drew := (Below.refl _ _).drew
        obtain ⟨q1, q2, q3, q4⟩ := HW.out
        have HAs : Hid (∀ W : World, Calls Yba.prog 4 #[.agg #[.int .u64 0, .int .i64 0, .pointer none], .int .i64 (s * 1000000000)] W fun x w' => x = .returned (.agg #[.int .u64 0, .int .i64 s, .pointer none]) ∧ Below W.heap.size W w') := fun W => add_zero s W HSE.out.1
        have HAe : Hid (∀ W : World, Calls Yba.prog 4 #[.agg #[.int .u64 0, .int .i64 0, .pointer none], .int .i64 (e * 1000000000)] W fun x w' => x = .returned (.agg #[.int .u64 0, .int .i64 e, .pointer none]) ∧ Below W.heap.size W w') := fun W => add_zero e W HSE.out.2
        clear HW HSE HRW HSL HN HBW ws we ws' we' hb1 hn'
        refine regionC (fun W => Below w1.heap.size w1 W) mixed ?_
        refine takeC' (i := 0) (v := ?_) (a' := ?_) rfl (by kernel_rfl) (by kernel_rfl) (by kernel_rfl) (fun _ _ _ h => h) hC0 (by rfl) (fun W hW => ?_) ?_ ?_
        rotate_left 2
        · obtain ⟨t0, t1, t2⟩ := HT.out W hW
          go_simp
          try rfl
        · go_simp
          try rfl
        refine takeC' (i := 1) (v := ?_) (a' := ?_) rfl (by kernel_rfl) (by kernel_rfl) (by kernel_rfl) (fun _ _ _ h => h) hC0 (by rfl) (fun W hW => ?_) ?_ ?_
        rotate_left 2
        · obtain ⟨t0, t1, t2⟩ := HT.out W hW
          go_simp
          try rfl
        · go_simp
          try rfl
        refine takeC' (i := 2) (v := ?_) (a' := ?_) rfl (by kernel_rfl) (by kernel_rfl) (by kernel_rfl) (fun _ _ _ h => h) hC0 (by rfl) (fun W hW => ?_) ?_ ?_
        rotate_left 2
        · obtain ⟨t0, t1, t2⟩ := HT.out W hW
          go_simp
          try rfl
        · go_simp
          try rfl
        refine takeC' (i := 4) (v := ?_) (a' := ?_) rfl (by kernel_rfl) (by kernel_rfl) (by kernel_rfl) (fun _ _ _ h => h) hC0 (by rfl) (fun W hW => ?_) ?_ ?_
        rotate_left 2
        · obtain ⟨t0, t1, t2⟩ := HT.out W hW
          go_simp
          try rfl
        · go_simp
          try rfl
        refine takeC' (i := 5) (v := ?_) (a' := ?_) rfl (by kernel_rfl) (by kernel_rfl) (by kernel_rfl) (fun _ _ _ h => h) hC0 (by rfl) (fun W hW => ?_) ?_ ?_
        rotate_left 2
        · obtain ⟨t0, t1, t2⟩ := HT.out W hW
          go_simp
          try rfl
        · go_simp
          try rfl
        refine takeC' (i := 6) (v := ?_) (a' := ?_) rfl (by kernel_rfl) (by kernel_rfl) (by kernel_rfl) (fun _ _ _ h => h) hC0 (by rfl) (fun W hW => ?_) ?_ ?_
        rotate_left 2
        · obtain ⟨t0, t1, t2⟩ := HT.out W hW
          go_simp
          try rfl
        · go_simp
          try rfl
        refine twoC (i := 3) (j := 9) (by kernel_rfl) rfl (by rfl) rfl (by rfl) (fun R hR => ?_) (fun R hR => ?_)
        · go_wp2_with fail
          refine (HAs.out w1.drew).mono ?_
          rintro x w2 ⟨rfl, hw2⟩
          replace hw2 : Below w1.heap.size w1 w2 := ⟨hw2.os, hw2.tape, hw2.output, hw2.size, hw2.block⟩
          dsimp only
          refine hR _ _ ⟨hw2, ?_⟩
          clear hR R
          refine twoC (i := 7) (j := 9) (by kernel_rfl) rfl (by rfl) rfl (by rfl) (fun R hR => ?_) (fun R hR => ?_)
          · go_wp2_with fail
            refine (HAe.out w2).mono ?_
            rintro x w3 ⟨rfl, hw3⟩
            replace hw3 : Below w1.heap.size w1 w3 := hw2.trans (hw3.mono hw2.size)
            dsimp only
            refine hR _ _ ⟨hw3, ?_⟩
            clear hR R
            refine takeC' (i := 8) (v := .agg (perCells s e)) (a' := ?_) rfl (by kernel_rfl) (by kernel_rfl) (by kernel_rfl) (fun _ _ _ h => h) hw3 (by rfl) (fun W hW => exec_build (t := 30) (parts := #[(0, .tmp 43), (1, .tmp 47)]) (l := [(0, .agg #[.int .u64 0, .int .i64 s, .pointer none]), (1, .agg #[.int .u64 0, .int .i64 e, .pointer none])]) rfl (by simp [Act.eval]) (built30 s e) W) ?_ ?_
            rotate_left 1
            · unfold perCells
              go_simp
              try rfl
            refine oneC (i := 9) (by kernel_rfl) rfl (by rfl) (fun R hR => ?_)
            go_wp2_with fail
            refine ⟨hw3.alloc hw3.size _, ?_⟩
            refine oneC (i := 10) (by kernel_rfl) rfl (by rfl) (fun R hR => ?_)
            go_wp2_with fail
            refine ⟨hw3.alloc hw3.size _, ?_⟩
            refine doneC (by kernel_rfl) ?_
            go_wp2_with fail
            go_meet
            exact ⟨w3.heap.size, rfl, hw3.alloc hw3.size _, hw3.size, blk_alloc_new _ _⟩
          · go_wp2_with fail
            refine ⟨hw2.alloc hw2.size _, ?_⟩
            refine oneC (i := 7) (by kernel_rfl) rfl (by rfl) (fun R hR => ?_)
            go_wp2_with fail
            refine (HAe.out (w2.alloc (.cells #[.int .u64 0, .int .i64 0, .pointer none, .int .u64 0, .int .i64 0, .pointer none] 30))).mono ?_
            rintro x w4 ⟨rfl, hw4⟩
            have hV : w4.heap[w2.heap.size]? = some (.cells #[.int .u64 0, .int .i64 0, .pointer none, .int .u64 0, .int .i64 0, .pointer none] 30) := (hw4.block w2.heap.size (by rw [nblk_alloc]; omega)).trans (blk_alloc_new _ _)
            replace hw4 : Below w1.heap.size w1 w4 := (hw2.alloc hw2.size _).trans (hw4.mono (hw2.alloc hw2.size _).size)
            dsimp only
            refine hR _ _ ⟨hw4, ?_⟩
            clear hR R
            obtain ⟨c0, c1, c2, c3, c4, c5, cf⟩ := cells6 hV
            refine takeC' (i := 8) (v := .agg (perCells s e)) (a' := ?_) rfl (by kernel_rfl) (by kernel_rfl) (by kernel_rfl) (fun _ _ _ h => h) hw4 (by rfl) (fun W hW => exec_build (t := 30) (parts := #[(0, .tmp 43), (1, .tmp 47)]) (l := [(0, .agg #[.int .u64 0, .int .i64 s, .pointer none]), (1, .agg #[.int .u64 0, .int .i64 e, .pointer none])]) rfl (by simp [Act.eval]) (built30 s e) W) ?_ ?_
            rotate_left 1
            · unfold perCells
              go_simp
              try rfl
            refine oneC (i := 10) (by kernel_rfl) rfl (by rfl) (fun R hR => ?_)
            go_wp2_with fail
            refine ⟨below6 hw4 hw2.size _ _ _ _ _ _, ?_⟩
            refine doneC (by kernel_rfl) ?_
            go_wp2_with fail
            go_meet
            exact ⟨w2.heap.size, rfl, below6 hw4 hw2.size _ _ _ _ _ _, hw2.size, set6 hV⟩
        · go_wp2_with fail
          refine ⟨hC0.alloc (Nat.le_refl _) _, ?_⟩
          refine oneC (i := 3) (by kernel_rfl) rfl (by rfl) (fun R hR => ?_)
          go_wp2_with fail
          refine (HAs.out (w1.drew.alloc (.cells #[.int .u64 0, .int .i64 0, .pointer none, .int .u64 0, .int .i64 0, .pointer none] 30))).mono ?_
          rintro x w4 ⟨rfl, hw4⟩
          have hV : w4.heap[w1.heap.size]? = some (.cells #[.int .u64 0, .int .i64 0, .pointer none, .int .u64 0, .int .i64 0, .pointer none] 30) := (hw4.block w1.heap.size (by show _ < (w1.alloc _).heap.size; rw [nblk_alloc]; omega)).trans (blk_alloc_new w1 _)
          replace hw4 : Below w1.heap.size w1 w4 := (hC0.alloc (Nat.le_refl _) _).trans (hw4.mono (hC0.alloc (Nat.le_refl _) _).size)
          dsimp only
          refine hR _ _ ⟨hw4, ?_⟩
          clear hR R
          refine oneC (i := 7) (by kernel_rfl) rfl (by rfl) (fun R hR => ?_)
          go_wp2_with fail
          refine (HAe.out w4).mono ?_
          rintro x w5 ⟨rfl, hw5⟩
          replace hV : w5.heap[w1.heap.size]? = some (.cells #[.int .u64 0, .int .i64 0, .pointer none, .int .u64 0, .int .i64 0, .pointer none] 30) := (hw5.block w1.heap.size (blk_lt hV)).trans hV
          replace hw5 : Below w1.heap.size w1 w5 := hw4.trans (hw5.mono hw4.size)
          dsimp only
          refine hR _ _ ⟨hw5, ?_⟩
          clear hR R
          obtain ⟨c0, c1, c2, c3, c4, c5, cf⟩ := cells6 hV
          refine takeC' (i := 8) (v := .agg (perCells s e)) (a' := ?_) rfl (by kernel_rfl) (by kernel_rfl) (by kernel_rfl) (fun _ _ _ h => h) hw5 (by rfl) (fun W hW => exec_build (t := 30) (parts := #[(0, .tmp 43), (1, .tmp 47)]) (l := [(0, .agg #[.int .u64 0, .int .i64 s, .pointer none]), (1, .agg #[.int .u64 0, .int .i64 e, .pointer none])]) rfl (by simp [Act.eval]) (built30 s e) W) ?_ ?_
          rotate_left 1
          · unfold perCells
            go_simp
            try rfl
          refine oneC (i := 10) (by kernel_rfl) rfl (by rfl) (fun R hR => ?_)
          go_wp2_with fail
          refine ⟨below6 hw5 (Nat.le_refl _) _ _ _ _ _ _, ?_⟩
          refine doneC (by kernel_rfl) ?_
          go_wp2_with fail
          go_meet
          exact ⟨w1.heap.size, rfl, below6 hw5 (Nat.le_refl _) _ _ _ _ _ _, (Nat.le_refl _), set6 hV⟩
    case rest =>
      as_aux_lemma =>
        obtain ⟨V, rfl, hb2, hV1, hV⟩ := hcut
        rename World => w2
        have HP : Hid (Below w.heap.size w w2 ∧ w2.heap[V]? = some (.cells (perCells s e) 30)) := ⟨HBW.out.trans (hb2.mono HBW.out.size), hV⟩
        clear hb2 hV1 hV HBW HT HW
        have m1 : (sel : Int).tmod 5 = (sel : Int) % 5 := Int.tmod_eq_emod_of_nonneg (by omega)
        have m2 : IntKind.u8.wrap ((sel : Int) % 5) = (sel : Int) % 5 := by rw [IntKind.wrap_u8]; omega
        go_upto_if 52 with fail
        go_cut [19, 20, 21, 50, 51, 52] (fun s19 s20 s21 s50 s51 s52 wx => CmPost sel col tu w2 s19 s20 s21 wx)
        case first =>
          as_aux_lemma =>
            by_cases h5 : sel % 5 = 0
            · have e5 : (sel : Int) % 5 = 0 := by omega
              go_wp2_with fail
              go_meet
              exact ⟨none, 0, _, rfl, rfl, rfl, Below.refl _ _, .inl ⟨h5, rfl, rfl⟩, by first | rfl | omega⟩
            · obtain ⟨k, hk⟩ : ∃ k, k + 1 = sel % 5 := ⟨sel % 5 - 1, by omega⟩
              have e5 : (sel : Int) % 5 = (k : Int) + 1 := by omega
              have e6 : ((k : Int) + 1 == 0) = false := by simp; omega
              have e6' : ¬ ((k : Int) + 1 = 0) := by omega
              have e7 : IntKind.u8.wrap (k : Int) = (k : Int) := by rw [IntKind.wrap_u8]; omega
              have hb40 := build40 col (winS k) tu
              go_wp2_with fail
              refine (window_any k (by omega) _).mono ?_
              rintro x w3 ⟨rfl, rfl⟩
              go_wp2_with fail
              go_meet
              exact ⟨some ⟨w3.heap.size, 0, none⟩, k, _, rfl, rfl, rfl, (Below.refl _ _).alloc (Nat.le_refl _) _, .inr ⟨h5, hk, w3.heap.size, rfl, blk_alloc_new _ _⟩, by first | rfl | omega⟩
        case rest =>
          as_aux_lemma =>
            obtain ⟨cm, k, q, rfl, rfl, rfl, hb3, hcm, hq⟩ := hcut
            rename World => w3
            have HP3 : Hid (Below w.heap.size w w3 ∧ w3.heap[V]? = some (.cells (perCells s e) 30)) := ⟨HP.out.1.trans (hb3.mono HP.out.1.size), (hb3.block V (blk_lt HP.out.2)).trans HP.out.2⟩
            have HCM : Hid (CmFull sel col tu cm k w3) := hcm
            have HQ : Hid (q = (sel : Int) % 5) := hq
            clear hq
            have HR3 : Hid (RowIn A n K w3) := HRW.out.below HP3.out.1
            clear hb3 hcm HP
            go_upto_if 64 with fail
            go_cut [23, 64] (fun s23 s64 wx => BsPost tu n K w3 s23 wx)
            case first =>
              as_aux_lemma =>
                by_cases hn0 : n = 0
                · subst hn0
                  go_wp2_with fail
                  go_meet
                  exact ⟨0, rfl, Below.refl _ _, fun h => absurd h (by omega)⟩
                · have hpos : (0 : Int) < (n : Int) := by omega
                  have hposN : 0 < n := by omega
                  simp only [hposN, decide_true]
                  have hmk := mkBs n HN.out
                  obtain ⟨x, rfl⟩ : ∃ x, A = some x := by
                    obtain ⟨_, x, hx, _⟩ := HR3.out 0 (by omega)
                    exact ⟨x, hx⟩
                  go_wp2_with fail
                  have hb4 : Below w3.heap.size w3 (w3.alloc (.cells (madeCells #[.int .i64 0, .int .i64 0, .int .i64 0, .pointer none, .int .i64 0, .string ⟨#[]⟩, .int .i64 0, .pointer none, .int .i64 0, .int .i64 0, .pointer none, .int .i64 0, .pointer none, .bool false, .string ⟨#[]⟩] (15 * n)) 46)) := (Below.refl _ _).alloc (Nat.le_refl _) _
                  have HB4 : Hid (Below w3.heap.size w3 (w3.alloc (.cells (madeCells #[.int .i64 0, .int .i64 0, .int .i64 0, .pointer none, .int .i64 0, .string ⟨#[]⟩, .int .i64 0, .pointer none, .int .i64 0, .int .i64 0, .pointer none, .int .i64 0, .pointer none, .bool false, .string ⟨#[]⟩] (15 * n)) 46)) ∧ BsAt tu w3.heap.size n K 0 (w3.alloc (.cells (madeCells #[.int .i64 0, .int .i64 0, .int .i64 0, .pointer none, .int .i64 0, .string ⟨#[]⟩, .int .i64 0, .pointer none, .int .i64 0, .int .i64 0, .pointer none, .int .i64 0, .pointer none, .bool false, .string ⟨#[]⟩] (15 * n)) 46))) := ⟨hb4, BsAt.start tu n K w3.heap.size _ (blk_alloc_new _ _)⟩
                  clear hb4 hmk
                  generalize (w3.alloc (.cells (madeCells #[.int .i64 0, .int .i64 0, .int .i64 0, .pointer none, .int .i64 0, .string ⟨#[]⟩, .int .i64 0, .pointer none, .int .i64 0, .int .i64 0, .pointer none, .int .i64 0, .pointer none, .bool false, .string ⟨#[]⟩] (15 * n)) 46)) = w4 at HB4 ⊢
                  have hDle : w3.heap.size ≤ w3.heap.size := Nat.le_refl _
                  generalize hDD : w3.heap.size = D at HB4 hDle ⊢
                  have HDD : Hid (w3.heap.size = D) := hDD
                  clear hDD hDle
                  go_loopw [24] (fun s24 wr => ∃ i : Nat, i ≤ n ∧ s24 = .int .i64 i ∧ Below D w3 wr ∧ BsAt tu D n K i wr) (fun s24 _ => n - (intOf s24).toNat)
                  case atStart => exact ⟨0, Nat.zero_le _, rfl, HB4.out.1, HB4.out.2⟩
                  case round =>
                    obtain ⟨i, hi, rfl, hbr, hbs⟩ := hrel
                    rename World => wr
                    have HBR : Hid (Below D w3 wr ∧ BsAt tu D n K i wr) := ⟨hbr, hbs⟩
                    by_cases hin : i < n
                    · have i0 : (0 : Int) ≤ (i : Int) := by omega
                      have i1 : (i : Int) < (n : Int) := by omega
                      have hbk := build40 id (winS (K i)) (!tu)
                      obtain ⟨hki, x', hx', hx⟩ := HR3.out.below (HDD.out ▸ hbr) i hin
                      cases hx'
                      have hth : wr.there D (i * 15 + 5) 10 := fun j hj => hbs.there _ (by omega)
                      have HST : Hid (Below D w3 (wr.setCells D (i * 15 + 5) (cmList id (!tu) (K i))) ∧ BsAt tu D n K (i + 1) (wr.setCells D (i * 15 + 5) (cmList id (!tu) (K i)))) := ⟨below_setCells hbr (Nat.le_refl _) _ _, hbs.step hin id⟩
                      clear hbr hbs HB4
                      go_wp2_with fail
                      refine (window_any (K i) hki _).mono ?_
                      rintro y w5 ⟨rfl, rfl⟩
                      dsimp only
                      go_step
                      refine wpList_plain rfl (fun R hR => ?_)
                      go_simp
                      refine hR _ _ ?_
                      clear hR R
                      refine wpList_plain rfl (fun R hR => ?_)
                      go_simp
                      refine hR _ _ ?_
                      clear hR R
                      refine wpList_plain rfl (fun R hR => ?_)
                      go_simp
                      refine hR _ _ ?_
                      clear hR R
                      refine wpList_store_mid rfl 40 (.tmp 84) (.tmp 82) rfl D (i * 15 + 5) _ rfl rfl hth siz40 (by simp [Value.oneCell']) ?_
                      generalize hw6 : w5.setCells D (i * 15 + 5) _ = w6
                      have HS6 : Hid (Below D w3 w6 ∧ BsAt tu D n K (i + 1) w6) := by rw [← hw6]; exact HST.out
                      clear hw6 HST hth hx hbk hki
                      go_wp2_with fail
                      go_roundw
                      case rel => exact ⟨i + 1, by omega, by simp, HS6.out⟩
                      case measure => simp [intOf]; omega
                    · have hni : i = n := by omega
                      subst hni
                      have hlt : ¬ (i : Int) < i := by omega
                      clear hbr hbs HB4
                      go_wp2_with fail
                      go_meet
                      exact ⟨D, by rw [if_neg hn0], HDD.out ▸ HBR.out.1, fun _ => HBR.out.2⟩
            case rest =>
              as_aux_lemma =>
                obtain ⟨D, rfl, hb4, hbs⟩ := hcut
                rename World => w4
                generalize hba : (if n = 0 then none else some (⟨D, 0, none⟩ : Addr)) = ba
                have HBA : Hid ((if n = 0 then none else some (⟨D, 0, none⟩ : Addr)) = ba) := hba
                have hbw : Below w.heap.size w w4 := HP3.out.1.trans (hb4.mono HP3.out.1.size)
                have hV4 : w4.heap[V]? = some (.cells (perCells s e) 30) := (hb4.block V (blk_lt HP3.out.2)).trans HP3.out.2
                have hcm4 : CmFull sel col tu cm k w4 := HCM.out.below hb4
                have hal : Below w4.heap.size w4 (w4.alloc (.cells #[.string id, .string col, .int .i64 0, .pointer none, .int .i64 0, .pointer cm, .slice ba n n] 48)) := (Below.refl _ _).alloc (Nat.le_refl _) _
                have HNEW : Hid (Calls Yba.prog 6 #[.agg #[.int .u64 0, .int .i64 s, .pointer none, .int .u64 0, .int .i64 e, .pointer none], .agg #[.string id, .string col, .int .i64 0, .pointer none, .int .i64 0, .pointer cm, .slice ba n n]] (w4.alloc (.cells #[.string id, .string col, .int .i64 0, .pointer none, .int .i64 0, .pointer cm, .slice ba n n] 48)) (NewPost s e id col cm k D n K (w4.alloc (.cells #[.string id, .string col, .int .i64 0, .pointer none, .int .i64 0, .pointer cm, .slice ba n n] 48)))) := by
                  have := new_any s e id col cm k D n K HN.out HSE.out.1 HSE.out.2 (w4.alloc (.cells #[.string id, .string col, .int .i64 0, .pointer none, .int .i64 0, .pointer cm, .slice ba n n] 48)) (hcm4.at.below hal) (by
                    by_cases h0 : n = 0
                    · intro j hj; omega
                    · exact (hbs (by omega)).bk.below hal)
                  rw [hba] at this
                  exact this
                have HB4 : Hid (Below w.heap.size w (w4.alloc (.cells #[.string id, .string col, .int .i64 0, .pointer none, .int .i64 0, .pointer cm, .slice ba n n] 48)) ∧ CmFull sel col tu cm k (w4.alloc (.cells #[.string id, .string col, .int .i64 0, .pointer none, .int .i64 0, .pointer cm, .slice ba n n] 48)) ∧ (0 < n → BsAt tu D n K n (w4.alloc (.cells #[.string id, .string col, .int .i64 0, .pointer none, .int .i64 0, .pointer cm, .slice ba n n] 48)))) :=
                  ⟨hbw.trans (hal.mono hbw.size), hcm4.below hal, fun h => (hbs h).kept (hal.block D ((hbs h).lt h))⟩
                have hVa : ∀ O, (w4.alloc O).heap[V]? = some (.cells (perCells s e) 30) := fun O => (blk_alloc_lt w4 O V (blk_lt hV4)).trans hV4
                have y0 : ∀ O, (w4.alloc O).cell? ⟨V, 0, none⟩ = some (.int .u64 0) := fun O => by simp only [World.cell?, hVa]; rfl
                have y1 : ∀ O, (w4.alloc O).cell? ⟨V, 1, none⟩ = some (.int .i64 s) := fun O => by simp only [World.cell?, hVa]; rfl
                have y2 : ∀ O, (w4.alloc O).cell? ⟨V, 2, none⟩ = some (.pointer none) := fun O => by simp only [World.cell?, hVa]; rfl
                have y3 : ∀ O, (w4.alloc O).cell? ⟨V, 3, none⟩ = some (.int .u64 0) := fun O => by simp only [World.cell?, hVa]; rfl
                have y4 : ∀ O, (w4.alloc O).cell? ⟨V, 4, none⟩ = some (.int .i64 e) := fun O => by simp only [World.cell?, hVa]; rfl
                have y5 : ∀ O, (w4.alloc O).cell? ⟨V, 5, none⟩ = some (.pointer none) := fun O => by simp only [World.cell?, hVa]; rfl
                have hb48 := build48 id col cm ba n
                clear hb4 hbs hba hbw hV4 hcm4 hal hVa HP3 HCM
                go_wp2_with fail
                refine HNEW.out.mono ?_
                rintro x w6 ⟨w0, C, O, P, ob, Ab, cap', rfl, hb6, hL, hle⟩
                clear y0 y1 y2 y3 y4 y5 hb48 HNEW
                have HW6 : Hid (Below w.heap.size w w6 ∧ CmFull sel col tu cm k w6 ∧ (0 < n → BsAt tu D n K n w6)) := ⟨HB4.out.1.trans (hb6.mono HB4.out.1.size), HB4.out.2.1.below hb6, fun h => (HB4.out.2.2 h).kept (hb6.block D ((HB4.out.2.2 h).lt h))⟩
                have HL : Hid (Lp s e id col cm k D n K C O w0 n P ob Ab cap' w6) := hL
                have hC : w6.heap[C]? = some (.cells (cpCells id col cm ba n O Ab n cap') 54) := HBA.out ▸ hL.atC
                have HR6 : Hid (RowIn A n K w6) := HRW.out.below HW6.out.1
                clear hb6 hL hle HB4 HR3 HRW
                have hC1 : ∀ o1, (w6.alloc o1).heap[C]? = some (.cells (cpCells id col cm ba n O Ab n cap') 54) := fun o1 => (blk_alloc_lt w6 o1 C (blk_lt hC)).trans hC
                have c7 : w6.cell? ⟨C, 7, none⟩ = some (.pointer (some ⟨O, 0, none⟩)) := by simp only [World.cell?, hC]; rfl
                have c0 : ∀ o1, (w6.alloc o1).cell? ⟨C, 0, none⟩ = some (.string id) := fun o1 => by simp only [World.cell?, hC1]; rfl
                have c1 : ∀ o1, (w6.alloc o1).cell? ⟨C, 1, none⟩ = some (.string col) := fun o1 => by simp only [World.cell?, hC1]; rfl
                have c2 : ∀ o1, (w6.alloc o1).cell? ⟨C, 2, none⟩ = some (.int .i64 0) := fun o1 => by simp only [World.cell?, hC1]; rfl
                have c3 : ∀ o1, (w6.alloc o1).cell? ⟨C, 3, none⟩ = some (.pointer none) := fun o1 => by simp only [World.cell?, hC1]; rfl
                have c4 : ∀ o1, (w6.alloc o1).cell? ⟨C, 4, none⟩ = some (.int .i64 0) := fun o1 => by simp only [World.cell?, hC1]; rfl
                have c5 : ∀ o1, (w6.alloc o1).cell? ⟨C, 5, none⟩ = some (.pointer cm) := fun o1 => by simp only [World.cell?, hC1]; rfl
                have c6 : ∀ o1, (w6.alloc o1).cell? ⟨C, 6, none⟩ = some (.slice ba n n) := fun o1 => by simp only [World.cell?, hC1]; rfl
                have n37 := neq37
                have n31 := neq31 cm
                have HC : Hid (w6.heap[C]? = some (.cells (cpCells id col cm ba n O Ab n cap') 54)) := hC
                clear hC hC1
                dsimp only
                go_wp2_with fail
                have hb8 := below2 w6 (.cells #[.int .i64 0, .pointer none, .int .i64 0] 37) (.cells #[.string id, .string col, .int .i64 0, .pointer none, .int .i64 0, .pointer cm, .slice ba n n] 48)
                have hz8 := blk2a w6 (.cells #[.int .i64 0, .pointer none, .int .i64 0] 37) (.cells #[.string id, .string col, .int .i64 0, .pointer none, .int .i64 0, .pointer cm, .slice ba n n] 48)
                have hh8 := blk2b w6 (.cells #[.int .i64 0, .pointer none, .int .i64 0] 37) (.cells #[.string id, .string col, .int .i64 0, .pointer none, .int .i64 0, .pointer cm, .slice ba n n] 48)
                clear c7 c0 c1 c2 c3 c4 c5 c6
                generalize ((w6.alloc (.cells #[.int .i64 0, .pointer none, .int .i64 0] 37)).alloc (.cells #[.string id, .string col, .int .i64 0, .pointer none, .int .i64 0, .pointer cm, .slice ba n n] 48)) = w8 at hb8 hz8 hh8 ⊢
                obtain ⟨qo, hO, hws⟩ := HL.out.own.ws
                have HA8 : Hid (∃ Z Ch, w6.heap.size = Z ∧ w6.heap.size + 1 = Ch ∧ All s e id col sel tu cm ba k D n K A C O qo P Ab ob cap' Z Ch w w8) := ⟨_, _, rfl, rfl, {
                  below := HW6.out.1.trans (hb8.mono HW6.out.1.size)
                  atC := (hb8.block C (blk_lt HC.out)).trans HC.out
                  atO := (hb8.block O (blk_lt hO)).trans hO
                  ws := hws.below hb8
                  cmF := HW6.out.2.1.below hb8
                  bs := fun hn => (HW6.out.2.2 hn).kept (hb8.block D ((HW6.out.2.2 hn).lt hn))
                  rowIn := HR6.out.below hb8
                  row := HL.out.row.kept fun b e => hb8.block b (HL.out.row.lt (by omega) b e)
                  parts := fun j hj => by
                    obtain ⟨q, h1, h2⟩ := (HL.out.parts j hj).ws
                    exact ⟨q, (hb8.block _ (blk_lt h1)).trans h1, h2.below hb8⟩
                  atZ := hz8
                  atCh := hh8 }⟩
                have HNIL : Hid (n = 0 → Ab = none) := HL.out.nil
                clear hb8 hz8 hh8 hO hws HL HC HW6 HR6
                obtain ⟨Z, Ch, e1, e2, hA8⟩ := HA8.out
                rw [e2, e1]
                have HA : Hid (All s e id col sel tu cm ba k D n K A C O qo P Ab ob cap' Z Ch w w8) := hA8
                clear hA8 e1 e2 HA8
                go_cut [145] (fun s145 wx => s145 = .bool false ∧ Below w8.heap.size w8 wx)
                case first =>
                  as_aux_lemma =>
                    have c6 : w8.cell? ⟨Ch, 6, none⟩ = some (.slice ba n n) := by simp only [World.cell?, HA.out.atCh]; rfl
                    by_cases hn0 : n = 0
                    · subst hn0
                      go_quiet (fail)
                      go_wp2_with fail
                      go_meet
                      exact ⟨rfl, rfl, rfl, rfl, Nat.le_refl _, fun _ _ => rfl⟩
                    · have hba : ba = some ⟨D, 0, none⟩ := by rw [← HBA.out, if_neg hn0]
                      subst hba
                      have hpos : (0 : Int) < (n : Int) := by omega
                      have hposN : 0 < n := by omega
                      have n55 := neq55 (some ⟨D, 0, none⟩)
                      go_quiet (fail)
                      go_wp2_with fail
                      go_meet
                      exact ⟨rfl, rfl, rfl, rfl, Nat.le_refl _, fun _ _ => rfl⟩
                case rest =>
                  as_aux_lemma =>
                    obtain ⟨rfl, hb9⟩ := hcut
                    rename World => w9
                    have HA9 : Hid (All s e id col sel tu cm ba k D n K A C O qo P Ab ob cap' Z Ch w w9) := HA.out.on hb9
                    have d7 : w9.cell? ⟨C, 7, none⟩ = some (.pointer (some ⟨O, 0, none⟩)) := by simp only [World.cell?, HA9.out.atC]; rfl
                    have o0 : w9.cell? ⟨O, 0, none⟩ = some (.pointer none) := by simp only [World.cell?, HA9.out.atO]; rfl
                    have o1 : w9.cell? ⟨O, 1, none⟩ = some (.int .i64 0) := by simp only [World.cell?, HA9.out.atO]; rfl
                    have o2 : w9.cell? ⟨O, 2, none⟩ = some (.pointer none) := by simp only [World.cell?, HA9.out.atO]; rfl
                    have o3 : w9.cell? ⟨O, 3, none⟩ = some (.int .i64 0) := by simp only [World.cell?, HA9.out.atO]; rfl
                    have o4 : w9.cell? ⟨O, 4, none⟩ = some (.pointer cm) := by simp only [World.cell?, HA9.out.atO]; rfl
                    have o5 : w9.cell? ⟨O, 5, none⟩ = some (.int .i64 0) := by simp only [World.cell?, HA9.out.atO]; rfl
                    have o6 : w9.cell? ⟨O, 6, none⟩ = some (.pointer none) := by simp only [World.cell?, HA9.out.atO]; rfl
                    have o7 : w9.cell? ⟨O, 7, none⟩ = some (.int .i64 0) := by simp only [World.cell?, HA9.out.atO]; rfl
                    have z0 : w9.cell? ⟨Z, 0, none⟩ = some (.int .i64 0) := by simp only [World.cell?, HA9.out.atZ]; rfl
                    have z1 : w9.cell? ⟨Z, 1, none⟩ = some (.pointer none) := by simp only [World.cell?, HA9.out.atZ]; rfl
                    have z2 : w9.cell? ⟨Z, 2, none⟩ = some (.int .i64 0) := by simp only [World.cell?, HA9.out.atZ]; rfl
                    clear hb9 HA
                    go_wp2_with fail
                    go_quiet (fail)
                    go_upto_if 180 with fail
                    clear d7 o0 o1 o2 o3 o4 o5 o6 o7 z0 z1 z2
                    have HAq : Hid (All s e id col sel tu cm ba k D n K A C O qo P Ab ob cap' Z Ch w (w9.drewN nq)) := HA9.out.on ⟨rfl, rfl, rfl, Nat.le_refl _, fun _ _ => rfl⟩
                    clear HA9
                    generalize w9.drewN nq = w10 at HAq ⊢
                    go_cut [181] (fun s181 wx => Below w10.heap.size w10 wx)
                    case first =>
                      as_aux_lemma =>
                        have o8 : w10.cell? ⟨O, 8, none⟩ = some (.pointer qo) := by simp only [World.cell?, HAq.out.atO]; rfl
                        rcases HAq.out.cmF with ⟨h5, hcn, hk0⟩ | ⟨h5, hk5, B, hcB, hB⟩
                        · obtain rfl : q = 0 := by have := HQ.out; omega
                          have hqo : qo = none := by
                            rcases HAq.out.ws with ⟨_, h⟩ | ⟨h, _⟩
                            · exact h
                            · exact absurd (by rw [hk0]) h
                          subst hqo
                          go_wp2_with fail
                          go_meet
                          exact Below.refl _ _
                        · have hq1 : ¬ q = 0 := by have := HQ.out; omega
                          have hq2 : (q == 0) = false := by simpa using hq1
                          have HWS : Hid (Calls Yba.prog 7 #[.pointer qo, .int .u8 (k : Int), .int .i64 s, .int .i64 e] w10 fun x w' => x = .returned (.bool true) ∧ Below w10.heap.size w10 w') := ws_any s e k qo (by omega) HSE.out.1 HSE.out.2 w10 HAq.out.ws
                          clear hq1
                          go_wp2_with fail
                          refine HWS.out.mono ?_
                          rintro x w11 ⟨rfl, hb11⟩
                          have HB11 : Hid (Below w10.heap.size w10 w11) := hb11
                          have hB11 := (hb11.block B (blk_lt hB)).trans hB
                          have b8 : w11.cell? ⟨B, 8, none⟩ = some (.bool tu) := by simp only [World.cell?, hB11]; rfl
                          have b9 : w11.cell? ⟨B, 9, none⟩ = some (.string (winS k)) := by simp only [World.cell?, hB11]; rfl
                          have HWI : Hid (∀ W : World, Calls Yba.prog 5 #[.int .u8 (k : Int)] W fun x w' => x = .returned (.string (winS k)) ∧ w' = W) := fun W => window_any k (by omega) W
                          have n4 := neq4 tu
                          subst hcB
                          clear hb11 hB11 hB HWS o8 n31
                          dsimp only
                          go_wp2_with fail
                          go_quiet ((go_at_call 5; refine Calls.quiet_of_same (HWI.out _)))
                          go_wp2_with fail
                          go_meet
                          exact ⟨HB11.out.os, HB11.out.tape, HB11.out.output, HB11.out.size, HB11.out.block⟩
                    case rest =>
                      as_aux_lemma =>
                        rename World => w12
                        have HAr : Hid (All s e id col sel tu cm ba k D n K A C O qo P Ab ob cap' Z Ch w w12) := HAq.out.on hcut
                        have d8 : w12.cell? ⟨C, 8, none⟩ = some (.slice Ab n cap') := by simp only [World.cell?, HAr.out.atC]; rfl
                        clear hcut HAq
                        by_cases hn0 : n = 0
                        · subst hn0
                          have hAb := HNIL.out rfl
                          subst hAb
                          have e52 := fun w => eql52 w cap'
                          go_wp2_with fail
                          go_ret
                          exact ⟨rfl, HAr.out.below⟩
                        · have hne : ¬ ((n : Int) = 0) := by omega
                          have hne2 : ((n : Int) == 0) = false := by simpa using hn0
                          have hposN : 0 < n := by omega
                          obtain ⟨x, rfl⟩ : ∃ x, A = some x := by
                            obtain ⟨_, x, hx, _⟩ := HAr.out.rowIn 0 hposN
                            exact ⟨x, hx⟩
                          have hba : ba = some ⟨D, 0, none⟩ := by rw [← HBA.out, if_neg hn0]
                          subst hba
                          obtain ⟨b, off, rfl, rfl, _⟩ := HAr.out.row.addr hposN
                          go_wp2_with fail
                          clear hne hne2 hposN d8
                          go_loopw [30] (fun s30 wr => ∃ i : Nat, i ≤ n ∧ s30 = .int .i64 i ∧ Below w12.heap.size w12 wr) (fun s30 _ => n - (intOf s30).toNat)
                          case atStart => exact ⟨0, Nat.zero_le _, rfl, Below.refl _ _⟩
                          case round =>
                            obtain ⟨i, hi, rfl, hbr⟩ := hrel
                            rename World => wr
                            have HBr : Hid (Below w12.heap.size w12 wr) := hbr
                            have HAi := HAr.out.on hbr
                            by_cases hin : i < n
                            · as_aux_lemma =>
                                have i0 : (0 : Int) ≤ (i : Int) := by omega
                                have i1 : (i : Int) < (n : Int) := by omega
                                have d8 : wr.cell? ⟨C, 8, none⟩ = some (.slice (some ⟨b, off, none⟩) n cap') := by simp only [World.cell?, HAi.atC]; rfl
                                have r1 : wr.cell? ⟨b, off + i, none⟩ = some (.pointer (some ⟨P i, 0, none⟩)) := by
                                  obtain ⟨b', off', h1, _, h3⟩ := HAi.row.addr (by omega)
                                  cases h1
                                  exact (h3 i (by omega)).trans (ptrs_at P hin)
                                obtain ⟨hki, x', hx', hx⟩ := HAi.rowIn i hin
                                cases hx'
                                obtain ⟨qi, hPi, hwi⟩ := HAi.parts i hin
                                generalize hPP : P i = Pi at r1 hPi
                                have p0 : wr.cell? ⟨Pi, 0, none⟩ = some (.pointer (some ⟨D, i * 15, none⟩)) := by simp only [World.cell?, hPi]; rfl
                                have p1 : wr.cell? ⟨Pi, 1, none⟩ = some (.int .i64 0) := by simp only [World.cell?, hPi]; rfl
                                have p2 : wr.cell? ⟨Pi, 2, none⟩ = some (.pointer none) := by simp only [World.cell?, hPi]; rfl
                                have p3 : wr.cell? ⟨Pi, 3, none⟩ = some (.int .i64 0) := by simp only [World.cell?, hPi]; rfl
                                have p4 : wr.cell? ⟨Pi, 4, none⟩ = some (.pointer (some ⟨D, i * 15 + 5, none⟩)) := by simp only [World.cell?, hPi]; rfl
                                have p5 : wr.cell? ⟨Pi, 5, none⟩ = some (.int .i64 0) := by simp only [World.cell?, hPi]; rfl
                                have p6 : wr.cell? ⟨Pi, 6, none⟩ = some (.pointer none) := by simp only [World.cell?, hPi]; rfl
                                have p7 : wr.cell? ⟨Pi, 7, none⟩ = some (.int .i64 0) := by simp only [World.cell?, hPi]; rfl
                                have p8 : wr.cell? ⟨Pi, 8, none⟩ = some (.pointer qi) := by simp only [World.cell?, hPi]; rfl
                                have z0 : wr.cell? ⟨Z, 0, none⟩ = some (.int .i64 0) := by simp only [World.cell?, HAi.atZ]; rfl
                                have z1 : wr.cell? ⟨Z, 1, none⟩ = some (.pointer none) := by simp only [World.cell?, HAi.atZ]; rfl
                                have z2 : wr.cell? ⟨Z, 2, none⟩ = some (.int .i64 0) := by simp only [World.cell?, HAi.atZ]; rfl
                                have n56 := neq56 (some ⟨D, i * 15, none⟩)
                                have n31' := neq31 (some ⟨D, i * 15 + 5, none⟩)
                                have HWS : Hid (∀ W : World, W.heap = wr.heap → Calls Yba.prog 7 #[.pointer qi, .int .u8 (K i : Int), .int .i64 s, .int .i64 e] W fun x w' => x = .returned (.bool true) ∧ Below W.heap.size W w') := fun W hW => ws_any s e (K i) qi hki HSE.out.1 HSE.out.2 W (by
                                  unfold WsAt at hwi ⊢
                                  rw [hW]
                                  exact hwi)
                                have HBS : Hid (∀ W : World, Below wr.heap.size wr W → W.cell? ⟨D, i * 15 + 13, none⟩ = some (.bool (!tu)) ∧ W.cell? ⟨D, i * 15 + 14, none⟩ = some (.string (winS (K i))) ∧ W.cell? (x.add i) = some (.int .u8 (K i : Int))) := fun W hW => by
                                  have hA := HAi.on hW
                                  have h1 := (hA.bs (by omega)).laid i hin
                                  obtain ⟨_, x', hx', hx⟩ := hA.rowIn i hin
                                  cases hx'
                                  exact ⟨h1.1, h1.2, hx⟩
                                have HWI : Hid (∀ W : World, Calls Yba.prog 5 #[.int .u8 (K i : Int)] W fun x w' => x = .returned (.string (winS (K i))) ∧ w' = W) := fun W => window_any (K i) hki W
                                have e4 := eql4 tu
                                have HIN : Hid (i < n) := hin
                                clear hPi hwi hPP HAi hbr hki n31 hin
                                go_wp2_with fail
                                go_quiet (fail)
                                go_wp2_with fail
                                clear p0 p1 p2 p3 p4 p5 p6 p7 z0 z1 z2 n37 n56 n31' d8 r1
                                have p8' : (wr.drewN nq).cell? ⟨Pi, 8, none⟩ = some (.pointer qi) := p8
                                have hx' : (wr.drewN nq).cell? (x.add i) = some (.int .u8 (K i : Int)) := hx
                                have HWQ : Hid (∀ W : World, W.heap = (wr.drewN nq).heap → Calls Yba.prog 7 #[.pointer qi, .int .u8 (K i : Int), .int .i64 s, .int .i64 e] W fun x w' => x = .returned (.bool true) ∧ Below W.heap.size W w') := HWS.out
                                have HBQ : Hid (∀ W : World, Below (wr.drewN nq).heap.size (wr.drewN nq) W → W.cell? ⟨D, i * 15 + 13, none⟩ = some (.bool (!tu)) ∧ W.cell? ⟨D, i * 15 + 14, none⟩ = some (.string (winS (K i))) ∧ W.cell? (x.add i) = some (.int .u8 (K i : Int))) := fun W hW => HBS.out W ⟨hW.os, hW.tape, hW.output, hW.size, hW.block⟩
                                have HBs : Hid (Below w12.heap.size w12 (wr.drewN nq)) := ⟨HBr.out.os, HBr.out.tape, HBr.out.output, HBr.out.size, HBr.out.block⟩
                                clear p8 hx HWS HBS HBr
                                generalize wr.drewN nq = w13 at p8' hx' HWQ HBQ HBs ⊢
                                go_still_tail 10, mixed
                                go_wp2_with fail
                                refine (HWQ.out w13.drew rfl).mono ?_
                                rintro y w14 ⟨rfl, hb14⟩
                                replace hb14 : Below w13.heap.size w13 w14 := ⟨hb14.os, hb14.tape, hb14.output, hb14.size, hb14.block⟩
                                obtain ⟨t13, t14, tx⟩ := HBQ.out w14 hb14
                                have HBt : Hid (Below w12.heap.size w12 w14) := HBs.out.trans (hb14.mono HBs.out.size)
                                clear p8' hx' HWQ HBQ HBs hb14
                                dsimp only
                                go_wp2_with fail
                                go_quiet ((go_at_call 5; refine Calls.quiet_of_same (HWI.out _)))
                                go_wp2_with fail
                                go_roundw
                                case rel => exact ⟨i + 1, HIN.out, by simp, HBt.out.os, HBt.out.tape, HBt.out.output, HBt.out.size, HBt.out.block⟩
                                case measure =>
                                  have := HIN.out
                                  simp [intOf]
                                  omega
                            · have hni : i = n := by omega
                              subst hni
                              have hlt : ¬ (i : Int) < i := by omega
                              clear hbr
                              go_wp2_with fail
                              go_ret
                              exact ⟨rfl, HAi.below⟩
end Go.Proofs.Ybulkeins

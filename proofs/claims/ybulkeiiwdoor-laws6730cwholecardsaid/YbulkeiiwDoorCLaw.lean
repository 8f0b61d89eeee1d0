import Derived.Test.YbulkeiiwDoorCSorted
import Derived.Test.YbulkeiiwDoorCSuffix
import Derived.Deep.Cut
import Derived.Deep.DeepCutAuto
namespace Go.Proofs.YbulkeiiwDoor
open Go.RowKit Go.Shelf

theorem al1' (w : World) (o1 : Obj) : Below w.heap.size w (w.alloc o1) := (Below.refl _ _).alloc (Nat.le_refl _) _

theorem hNc (w : World) (o : Obj) (k : Nat) (h : k = w.heap.size) : (w.alloc o).heap[k]? = some o := by
  subst h
  show (w.heap.push o)[w.heap.size]? = _
  rw [Array.getElem?_push, if_pos rfl]
/-- A block that lies in W, read in a later world. -/
theorem blkc {W w1 : World} (hb : Below W.heap.size W w1) {b : Nat} {cs : Array Value} {t : TypeId} (h : W.heap[b]? = some (.cells cs t (0, 0))) :
    (∀ o, w1.cell? ⟨b, o, none⟩ = cs[o]?) ∧ (∀ o, w1.frozen? ⟨b, o, none⟩ = false) ∧ b < w1.heap.size := by
  have hB : b < W.heap.size := by
    rcases Nat.lt_or_ge b W.heap.size with h' | h'
    · exact h'
    · rw [Array.getElem?_eq_none h'] at h; cases h
  have h1 : w1.heap[b]? = some (.cells cs t (0, 0)) := by rw [hb.block b hB]; exact h
  exact ⟨fun o => by simp [World.cell?, h1], fun o => by simp [World.frozen?, h1], Nat.lt_of_lt_of_le hB hb.size⟩
theorem blkLc {W w1 : World} (hb : Below W.heap.size W w1) {b : Nat} {cs : Array Value} (h : (∀ o, W.cell? ⟨b, o, none⟩ = cs[o]?) ∧ (∀ o, W.frozen? ⟨b, o, none⟩ = false) ∧ b < W.heap.size) :
    (∀ o, w1.cell? ⟨b, o, none⟩ = cs[o]?) ∧ (∀ o, w1.frozen? ⟨b, o, none⟩ = false) ∧ b < w1.heap.size :=
  ⟨fun o => by rw [hb.cell (p := ⟨b, o, none⟩) h.2.2]; exact h.1 o, fun o => by rw [hb.frozen (p := ⟨b, o, none⟩) h.2.2]; exact h.2.1 o, Nat.lt_of_lt_of_le h.2.2 hb.size⟩

/-- What stands once the classes and their copies lie. -/
structure LC (Sa Sb : Nat → ByteArray) (na nb : Nat) (ra rb ka kb : Option Addr) (ca cb C : Nat) (w w' : World) : Prop where
  below : Below w.heap.size w w'
  a : Strs Sa na ra w'
  b : Strs Sb nb rb w'
  ka : Strs Sa na ka w'
  kb : Strs Sb nb kb w'
  box : (∀ o, w'.cell? ⟨C, o, none⟩ = #[Value.slice ra na ca, Value.slice rb nb cb][o]?) ∧ (∀ o, w'.frozen? ⟨C, o, none⟩ = false) ∧ C < w'.heap.size
theorem LC.later {Sa Sb : Nat → ByteArray} {na nb : Nat} {ra rb ka kb : Option Addr} {ca cb C : Nat} {w w' w2 : World} (h : LC Sa Sb na nb ra rb ka kb ca cb C w w') (hb : Below w'.heap.size w' w2) : LC Sa Sb na nb ra rb ka kb ca cb C w w2 :=
  ⟨h.below.trans (hb.mono h.below.size), h.a.later hb, h.b.later hb, h.ka.later hb, h.kb.later hb, blkLc hb h.box⟩

set_option maxHeartbeats 8000000 in
set_option maxRecDepth 100000 in
theorem lawC_any (S0 S1 : Nat → ByteArray) (n0 c0 n1 c1 : Nat) (r0 r1 : Option Addr) (mo : Bool) (name : ByteArray) (sel : Int) (w : World) (h0 : Strs S0 n0 r0 w) (h1 : Strs S1 n1 r1 w) (hs0 : 0 ≤ sel) (hs1 : sel ≤ 255) (hname : name.size ≤ 140737488355328)
    (hb0 : ∀ i, i < n0 → (srt S0 n0 i).size ≤ 140737488355328) (hb1 : ∀ i, i < n1 → (srt S1 n1 i).size ≤ 140737488355328) :
    Calls Ybad.prog 4 #[.slice r0 n0 c0, .slice r1 n1 c1, .bool mo, .string name, .int .u8 sel] w fun e w' => e = .returned (.bool true) ∧ Below w.heap.size w w' := by
  by_cases hg0 : 65536 < n0
  · go_enter Ybad.func4, Ybad.ntmps4
    go_wp2
    go_ret
    exact ⟨rfl, Below.refl _ _⟩
  by_cases hg1 : 65536 < n1
  · go_enter Ybad.func4, Ybad.ntmps4
    go_wp2
    go_ret
    exact ⟨rfl, Below.refl _ _⟩
  have hn0 : n0 ≤ 65536 := by omega
  have hn1 : n1 ≤ 65536 := by omega
  clear hg0 hg1
  have H0 : Hid (Strs S0 n0 r0 w) := h0
  have H1 : Hid (Strs S1 n1 r1 w) := h1
  have B0 : Hid (∀ i, i < n0 → (srt S0 n0 i).size ≤ 140737488355328) := hb0
  have B1 : Hid (∀ i, i < n1 → (srt S1 n1 i).size ≤ 140737488355328) := hb1
  clear h0 h1 hb0 hb1
  go_enter Ybad.func4, Ybad.ntmps4
  go_wp2_with fail
  refine (sorted_any S0 n0 c0 r0 w hn0 H0.out).mono ?_
  rintro e w1 ⟨ra, ca, rfl, hca, hSa, hb1⟩
  have A1 : Hid (Strs (srt S0 n0) n0 ra w1 ∧ Below w.heap.size w w1) := ⟨hSa, hb1⟩
  clear hSa hb1
  go_wp2_with fail
  refine (sorted_any S1 n1 c1 r1 w1 hn1 (Strs.later H1.out A1.out.2)).mono ?_
  rintro e w2 ⟨rb, cb, rfl, hcb, hSb, hb2⟩
  have A2 : Hid (Strs (srt S0 n0) n0 ra w2 ∧ Strs (srt S1 n1) n1 rb w2 ∧ Below w.heap.size w w2) := ⟨A1.out.1.later hb2, hSb, A1.out.2.trans (hb2.mono A1.out.2.size)⟩
  clear hSb hb2 A1 H0 H1
  have R0 : Hid (Asc (srt S0 n0) n0) := srt_asc S0 n0
  have R1 : Hid (Asc (srt S1 n1) n1) := srt_asc S1 n1
  generalize srt S0 n0 = Sa at A2 R0 B0
  generalize srt S1 n1 = Sb at A2 R1 B1
  go_wp2_with fail
  refine (clone_any Sa n0 ca ra _ hn0 (A2.out.1.later (al1' _ _))).mono ?_
  rintro e w3 ⟨ka, cka, rfl, hcka, hK3, hb3⟩
  have X3 := blkLc hb3 (blkc (Below.refl _ (w2.alloc (.cells #[Value.slice ra n0 ca, Value.slice rb n1 cb] 56))) (hNc _ _ _ rfl))
  have A3 : Hid (Strs Sa n0 ra w3 ∧ Strs Sb n1 rb w3 ∧ Strs Sa n0 ka w3 ∧ Below w.heap.size w w3) := ⟨(A2.out.1.later (al1' _ _)).later hb3, (A2.out.2.1.later (al1' _ _)).later hb3, hK3, (A2.out.2.2.trans ((al1' _ _).mono A2.out.2.2.size)).trans (hb3.mono (by have := A2.out.2.2.size; simp; omega))⟩
  clear A2 hb3 hK3
  generalize w2.heap.size = C at X3 ⊢
  obtain ⟨x1, x2, x3⟩ := X3
  go_wp2_with fail
  refine (clone_any Sb n1 cb rb w3 hn1 A3.out.2.1).mono ?_
  rintro e w4 ⟨kb, ckb, rfl, hckb, hK4, hb4⟩
  have A4 : Hid (LC Sa Sb n0 n1 ra rb ka kb ca cb C w w4) := ⟨A3.out.2.2.2.trans (hb4.mono A3.out.2.2.2.size), A3.out.1.later hb4, A3.out.2.1.later hb4, A3.out.2.2.1.later hb4, hK4, blkLc hb4 ⟨x1, x2, x3⟩⟩
  clear A3 hb4 hK4 x1 x2 x3
  obtain ⟨x1, x2, x3⟩ := A4.out.box
  go_upto_if 50 with fail
  go_cut [14] (fun s14 wx => wx = w4 ∧ s14 = if mo = true then .slice rb n1 cb else .slice ra n0 ca)
  case first =>
    as_aux_lemma =>
      cases mo with
      | true =>
        go_wp2_with fail
        go_meet
        exact ⟨rfl, rfl⟩
      | false =>
        go_wp2_with fail
        go_meet
        exact ⟨rfl, rfl⟩
  case rest =>
    obtain ⟨rfl, rfl⟩ := hcut
    obtain ⟨S, n, c, ro, hsl, hn, hnc, hSn, hAs, hBs, hsel⟩ : ∃ (S : Nat → ByteArray) (n c : Nat) (ro : Option Addr), (if mo = true then Value.slice rb n1 cb else Value.slice ra n0 ca) = .slice ro n c ∧ n ≤ 65536 ∧ n ≤ c ∧ (∀ W, LC Sa Sb n0 n1 ra rb ka kb ca cb C w W → Strs S n ro W) ∧ Asc S n ∧ (∀ i, i < n → (S i).size ≤ 140737488355328) ∧
        ((mo = false ∧ ro = ra ∧ n = n0 ∧ c = ca) ∨ (mo = true ∧ ro = rb ∧ n = n1 ∧ c = cb)) := by
      cases mo with
      | true => exact ⟨Sb, n1, cb, rb, rfl, hn1, hcb, fun W h => h.b, R1.out, B1.out, Or.inr ⟨rfl, rfl, rfl, rfl⟩⟩
      | false => exact ⟨Sa, n0, ca, ra, rfl, hn0, hca, fun W h => h.a, R0.out, B0.out, Or.inl ⟨rfl, rfl, rfl, rfl⟩⟩
    rw [hsl]
    have H : Hid ((∀ W, LC Sa Sb n0 n1 ra rb ka kb ca cb C w W → Strs S n ro W) ∧ Asc S n ∧ (∀ i, i < n → (S i).size ≤ 140737488355328) ∧ ((mo = false ∧ ro = ra ∧ n = n0 ∧ c = ca) ∨ (mo = true ∧ ro = rb ∧ n = n1 ∧ c = cb))) := ⟨hSn, hAs, hBs, hsel⟩
    clear hSn hAs hBs hsel hsl R0 R1 B0 B1
    rename World => w4
    go_upto_if 55 with fail
    go_cut [3] (fun s3 wx => wx = w4 ∧ ∃ nm : ByteArray, s3 = .string nm ∧ nm.size ≤ 140737488355329)
    case first =>
      as_aux_lemma =>
        by_cases hz : n = 0
        · subst hz
          go_wp2_with fail
          go_meet
          exact ⟨rfl, name, rfl, by omega⟩
        · have hnp : 0 < n := by omega
          obtain ⟨b, o, rfl, hb, hc⟩ := H.out.1 _ A4.out hnp
          obtain ⟨k, hk⟩ : ∃ k : Nat, sel / 4 % (n : Int) = (k : Int) := ⟨(sel / 4 % (n : Int)).toNat, by have := Int.emod_nonneg (sel / 4) (show (n : Int) ≠ 0 by omega); omega⟩
          have hkn : k < n := by have := Int.emod_lt_of_pos (sel / 4) (show (0 : Int) < (n : Int) by omega); omega
          have hck := hc k hkn
          have hes := H.out.2.2.1 k hkn
          clear hc
          generalize S k = e at hck hes
          have hd : sel % 4 = 0 ∨ sel % 4 = 1 ∨ sel % 4 = 2 ∨ sel % 4 = 3 := by omega
          have i1 : (0 : Int) ≤ (k : Int) := by omega
          have i2 : (k : Int) < (n : Int) := by omega
          rcases hd with hd | hd | hd | hd
          · go_wp2_with fail
            go_meet
            exact ⟨rfl, name, rfl, by omega⟩
          · go_wp2_with fail
            go_meet
            exact ⟨rfl, e, rfl, by omega⟩
          · go_wp2_with fail
            go_meet
            exact ⟨rfl, _, rfl, by rw [ByteArray.size_append]; exact Nat.add_le_add hes (Nat.le_refl 1)⟩
          · go_wp2_with fail
            go_meet
            exact ⟨rfl, _, rfl, by rw [ByteArray.size_append, ByteArray.size_extract]; exact Nat.add_le_add (by omega) (Nat.le_refl 1)⟩
    case rest =>
      obtain ⟨rfl, nm, rfl, hnm⟩ := hcut
      go_wp2_with fail
      refine (span_any S n c ro ra rb n0 ca n1 cb mo nm _ hn hnc (H.out.1 _ A4.out) H.out.2.1 (by omega) H.out.2.2.2).mono ?_
      rintro e w5 ⟨rfl, hb5⟩
      have A5 : Hid (LC Sa Sb n0 n1 ra rb ka kb ca cb C w w5) := A4.out.later hb5
      clear A4 hb5 x1 x2 x3
      go_upto_region 20 with fail
      go_cut [19] (fun s19 wx => s19 = .bool (isP nm) ∧ wx = w5.alloc (.cells #[.int .u32 (spanA S n nm).1, .int .u32 (spanA S n nm).2.1] 58))
      case first =>
        as_aux_lemma =>
          by_cases hz : nm.size = 0
          · go_wp2_with fail
            go_meet
            exact ⟨by rw [isP_zero nm hz], rfl⟩
          · have hzp : 0 < nm.size := by omega
            go_wp2_with fail
            go_meet
            exact ⟨by rw [isP_pos nm hzp], rfl⟩
      case rest =>
        obtain ⟨rfl, rfl⟩ := hcut
        have A6 : Hid (LC Sa Sb n0 n1 ra rb ka kb ca cb C w (w5.alloc (.cells #[.int .u32 (spanA S n nm).1, .int .u32 (spanA S n nm).2.1] 58))) := A5.out.later (al1' _ _)
        have X6 : Hid _ := blkc (Below.refl _ (w5.alloc (.cells #[.int .u32 (spanA S n nm).1, .int .u32 (spanA S n nm).2.1] 58))) (hNc _ _ _ rfl)
        have hCD : C < w5.heap.size := A5.out.box.2.2
        clear A5
        generalize w5.alloc (.cells #[.int .u32 (spanA S n nm).1, .int .u32 (spanA S n nm).2.1] 58) = w6 at A6 X6 ⊢
        generalize w5.heap.size = D at X6 hCD ⊢
        generalize hbp : isP nm = bp
        have HB : Hid (isP nm = bp) := hbp
        clear hbp
        go_upto_if 103 with fail
        go_cut [20] (fun s20 wx => s20 = .string (pf nm) ∧ wx = w6)
        case first =>
          as_aux_lemma =>
            cases bp with
            | true =>
              have hzp : 0 < nm.size := by
                rcases Nat.eq_zero_or_pos nm.size with h | h
                · have := HB.out; rw [isP_zero nm h] at this; cases this
                · exact h
              go_wp2_with fail
              go_meet
              exact ⟨by rw [pf_yes nm HB.out], rfl⟩
            | false =>
              go_wp2_with fail
              go_meet
              exact ⟨by rw [pf_no nm HB.out], rfl⟩
        case rest =>
          obtain ⟨rfl, rfl⟩ := hcut
          rename World => w6
          have HE : Hid (endN S n nm = if bp = true then lo S (pf nm) n + pre S (pf nm) n else if fnd S (pf nm) n = true then lo S (pf nm) n + 1 else lo S (pf nm) n) := by
            show _ = _
            unfold endN; rw [HB.out]
          have HA : Hid (spanA S n nm = if lo S (pf nm) n = endN S n nm then (0, 0, false) else if endN S n nm = n then (((lo S (pf nm) n : Nat) : Int), 4294967295, true) else (((lo S (pf nm) n : Nat) : Int), ((endN S n nm : Nat) : Int) - 1, true)) := rfl
          generalize pf nm = p at HE HA ⊢
          go_wp2
          go_loopw [21, 22] (fun f i wx => wx = w6 ∧ ∃ j : Nat, j ≤ n ∧ i = .int .i64 j ∧ f = .int .i64 (lo S p j)) (fun _ i _ => n - (intOf i).toNat)
          case atStart => exact ⟨rfl, 0, Nat.zero_le _, rfl, rfl⟩
          case round =>
            obtain ⟨rfl, j, hj, rfl, rfl⟩ := hrel
            rename World => w6
            have hlj : lo S p j ≤ j := lo_le S p j
            by_cases hlt : j < n
            · obtain ⟨b, o, rfl, hb, hc⟩ := H.out.1 _ A6.out (by omega)
              have hcj := hc j hlt
              clear hc
              have hsu : lo S p (j + 1) = if ltB (S j) p = true then lo S p j + 1 else lo S p j := rfl
              have i1 : (0 : Int) ≤ (j : Int) := by omega
              have i2 : (j : Int) < (n : Int) := by omega
              cases hq : ltB (S j) p with
              | true =>
                rw [hq] at hsu
                have HS : Hid (lo S p (j + 1) = lo S p j + 1) := hsu
                have hq' : Op.bytesLess (S j).toList p.toList = true := hq
                clear hsu hq
                generalize S j = x at hcj hq'
                generalize lo S p j = lj at hlj HS ⊢
                go_wp2
                exact ⟨⟨by trivial, j + 1, by omega, by simp, by rw [HS.out]; simp⟩, by simp [intOf]; omega⟩
              | false =>
                rw [hq] at hsu
                have HS : Hid (lo S p (j + 1) = lo S p j) := hsu
                have hq' : Op.bytesLess (S j).toList p.toList = false := hq
                clear hsu hq
                generalize S j = x at hcj hq'
                generalize lo S p j = lj at hlj HS ⊢
                go_wp2
                exact ⟨⟨by trivial, j + 1, by omega, by simp, by rw [HS.out]⟩, by simp [intOf]; omega⟩
            · obtain rfl : j = n := by omega
              go_upto_if 124 with fail
              have hpl := pre_le H.out.2.1 p
              go_cut [23] (fun s23 wx => s23 = .int .i64 (endN S j nm) ∧ wx = w6)
              case first =>
                as_aux_lemma =>
                  cases bp with
                  | true =>
                    go_wp2_with fail
                    go_loopw [24, 25] (fun f i wx => wx = w6 ∧ ∃ k : Nat, k ≤ j ∧ i = .int .i64 k ∧ f = .int .i64 (pre S p k)) (fun _ i _ => j - (intOf i).toNat)
                    case atStart => exact ⟨rfl, 0, Nat.zero_le _, rfl, rfl⟩
                    case round =>
                      obtain ⟨rfl, k, hk, rfl, rfl⟩ := hrel
                      have hpk : pre S p k ≤ k := cnt_le _ _
                      by_cases hlk : k < j
                      · obtain ⟨b, o, rfl, hb, hc⟩ := H.out.1 _ A6.out (by omega)
                        have hcj := hc k hlk
                        clear hc
                        have hsu : pre S p (k + 1) = if hpB p (S k) = true then pre S p k + 1 else pre S p k := rfl
                        have i1 : (0 : Int) ≤ (k : Int) := by omega
                        have i2 : (k : Int) < (j : Int) := by omega
                        have hbs := H.out.2.2.1 k hlk
                        generalize S k = x at hcj hbs hsu
                        by_cases hsz : p.size ≤ x.size
                        · rw [hpB_long] at hsu
                          cases hq : ((x.extract 0 p.size).toList == p.toList) with
                          | true =>
                            rw [hq] at hsu
                            have HS : Hid (pre S p (k + 1) = pre S p k + 1) := hsu
                            clear hsu
                            generalize pre S p k = pk at hpk HS ⊢
                            go_wp2
                            exact ⟨⟨by trivial, k + 1, by omega, by simp, by rw [HS.out]; simp⟩, by simp [intOf]; omega⟩
                          | false =>
                            rw [hq] at hsu
                            have HS : Hid (pre S p (k + 1) = pre S p k) := hsu
                            clear hsu
                            generalize pre S p k = pk at hpk HS ⊢
                            go_wp2
                            exact ⟨⟨by trivial, k + 1, by omega, by simp, by rw [HS.out]⟩, by simp [intOf]; omega⟩
                        · rw [hpB_short p x (by omega)] at hsu
                          have HS : Hid (pre S p (k + 1) = pre S p k) := hsu
                          clear hsu
                          generalize pre S p k = pk at hpk HS ⊢
                          go_wp2
                          exact ⟨⟨by trivial, k + 1, by omega, by simp, by rw [HS.out]⟩, by simp [intOf]; omega⟩
                      · obtain rfl : k = j := by omega
                        go_wp2_with fail
                        go_meet
                        exact ⟨by rw [HE.out]; simp, rfl⟩
                  | false =>
                    have hfd : fnd S p j = (decide (lo S p j < j) && ((S (lo S p j)).toList == p.toList)) := rfl
                    by_cases hl : lo S p j < j
                    · obtain ⟨b, o, rfl, hb, hc⟩ := H.out.1 _ A6.out (by omega)
                      have hcj := hc (lo S p j) hl
                      clear hc
                      have i2 : ((lo S p j : Nat) : Int) < (j : Int) := by omega
                      cases hq : ((S (lo S p j)).toList == p.toList) with
                      | true =>
                        rw [hq] at hfd
                        have HF : Hid (endN S j nm = lo S p j + 1) := by
                          show _ = _
                          rw [HE.out, hfd]; simp [hl]
                        clear hfd
                        generalize S (lo S p j) = x at hcj hq
                        go_wp2_with fail
                        go_meet
                        exact ⟨by rw [HF.out]; simp, rfl⟩
                      | false =>
                        rw [hq] at hfd
                        have HF : Hid (endN S j nm = lo S p j) := by
                          show _ = _
                          rw [HE.out, hfd]; simp
                        clear hfd
                        generalize S (lo S p j) = x at hcj hq
                        go_wp2_with fail
                        go_meet
                        exact ⟨by rw [HF.out], rfl⟩
                    · have HF : Hid (endN S j nm = lo S p j) := by
                        show _ = _
                        rw [HE.out, hfd]; simp [hl]
                      clear hfd
                      go_wp2_with fail
                      go_meet
                      exact ⟨by rw [HF.out], rfl⟩
              case rest =>
                obtain ⟨rfl, rfl⟩ := hcut
                rename World => w6
                have hEn : lo S p j ≤ endN S j nm ∧ endN S j nm ≤ j := by
                  rw [HE.out]
                  cases bp with
                  | true => simp; omega
                  | false =>
                    cases hF : fnd S p j with
                    | true => have : lo S p j < j := by { unfold fnd at hF; simp at hF; exact hF.1 }
                              simp; omega
                    | false => simp; omega
                have HA' := HA.out
                generalize endN S j nm = E at HA' hEn ⊢
                generalize lo S p j = L at HA' hlj hEn ⊢
                obtain ⟨y1, y2, y3⟩ := X6.out
                obtain ⟨x1, x2, x3⟩ := A6.out.box
                generalize spanA S j nm = V at HA' y1 ⊢
                by_cases e1 : L = E
                · rw [if_pos e1] at HA'
                  subst HA'
                  have e1' : (L : Int) = (E : Int) := by omega
                  go_wp2_with fail
                  refine (equal_any Sa n0 ca cka ra ka _ hn0 (A6.out.a.later (al1' _ _)) (A6.out.ka.later (al1' _ _))).mono ?_
                  rintro e w8 ⟨rfl, q, rfl⟩
                  go_wp2_with fail
                  refine (equal_any Sb n1 cb ckb rb kb _ hn1 ((A6.out.b.later (al1' _ _)).later (below_drewN (Below.refl _ _) q)) ((A6.out.kb.later (al1' _ _)).later (below_drewN (Below.refl _ _) q))).mono ?_
                  rintro e w9 ⟨rfl, q', rfl⟩
                  go_wp2
                  go_ret
                  exact ⟨rfl, below_drewN (A6.out.below.alloc A6.out.below.size _) _⟩
                · rw [if_neg e1] at HA'
                  have e1' : ¬ (L : Int) = (E : Int) := by omega
                  by_cases e2 : E = j
                  · rw [if_pos e2] at HA'
                    subst HA'
                    have e2' : (E : Int) = (j : Int) := by omega
                    go_wp2_with fail
                    refine (last_any _).mono ?_
                    rintro e w7 ⟨rfl, rfl⟩
                    go_wp2_with fail
                    refine (equal_any Sa n0 ca cka ra ka _ hn0 (A6.out.a.later (al1' _ _)) (A6.out.ka.later (al1' _ _))).mono ?_
                    rintro e w8 ⟨rfl, q, rfl⟩
                    go_wp2_with fail
                    refine (equal_any Sb n1 cb ckb rb kb _ hn1 ((A6.out.b.later (al1' _ _)).later (below_drewN (Below.refl _ _) q)) ((A6.out.kb.later (al1' _ _)).later (below_drewN (Below.refl _ _) q))).mono ?_
                    rintro e w9 ⟨rfl, q', rfl⟩
                    go_wp2
                    go_ret
                    exact ⟨rfl, below_drewN (A6.out.below.alloc A6.out.below.size _) _⟩
                  · rw [if_neg e2] at HA'
                    subst HA'
                    have e2' : ¬ (E : Int) = (j : Int) := by omega
                    go_wp2_with fail
                    refine (equal_any Sa n0 ca cka ra ka _ hn0 (A6.out.a.later (al1' _ _)) (A6.out.ka.later (al1' _ _))).mono ?_
                    rintro e w8 ⟨rfl, q, rfl⟩
                    go_wp2_with fail
                    refine (equal_any Sb n1 cb ckb rb kb _ hn1 ((A6.out.b.later (al1' _ _)).later (below_drewN (Below.refl _ _) q)) ((A6.out.kb.later (al1' _ _)).later (below_drewN (Below.refl _ _) q))).mono ?_
                    rintro e w9 ⟨rfl, q', rfl⟩
                    go_wp2
                    go_ret
                    exact ⟨rfl, below_drewN (A6.out.below.alloc A6.out.below.size _) _⟩
end Go.Proofs.YbulkeiiwDoor

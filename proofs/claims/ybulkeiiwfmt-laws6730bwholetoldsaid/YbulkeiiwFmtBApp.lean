import Derived.Test.YbulkeiiwFmtBBuf
namespace Go.Proofs.YbulkeiiwFmt
open Go.RowKit Go.Sort

set_option maxHeartbeats 1000000 in
theorem appendTo4_any (A : Int) (z : Addr) (g : Nat) (w0 w : World) (h : Buf g 0 w0 w) :
    Calls Ybaf.prog 29 #[adV A z, .slice (some ⟨g, 0, none⟩) 0 15] w fun e w' => ∃ n', e = .returned (.slice (some ⟨g, 0, none⟩) n' 15) ∧ n' ≤ 15 ∧ Buf g n' w0 w' := by
  have hH : Hid _ := h
  have hg := h.lt
  clear h
  go_enter Ybaf.func29, Ybaf.ntmps29
  go_wp2_with fail
  refine (v4_any A z 0 _ (by simp)).mono ?_
  rintro e w1 ⟨x1, rfl, x10, x11, hb1⟩
  have Bx1 : Hid _ := blk hb1 (b := w.heap.size) (cs := #[.int .u64 0, .int .u64 A, .pointer (some z)]) (t := 34) (by repeat (first | rw [hD] | (refine hN _ _ _ ?_; (repeat rw [World.size_alloc]) <;> omega) | (refine (hO _ _ _ ?_).trans ?_; · (repeat rw [World.size_alloc]) <;> omega)))
  have B1 : Hid _ := (hH.out.later (al1 _ _)).later hb1
  have ng : w.heap.size ≠ g := by omega
  have ng' : ¬ g = w.heap.size := by omega
  have O1 : Hid (Only g w w1) := Only.of_below ((al1 _ _).trans (hb1.mono (by simp)))
  clear hb1
  go_wp2_with fail
  refine (dec_any g 0 w1 w1 B1.out.from (by omega) x1 x10 x11).mono ?_
  rintro e w2 ⟨n1, rfl, hn1, B2⟩
  have O2 : Hid (Only g w w2) := O1.out.trans B2.only
  obtain ⟨p2, f2, l2⟩ := Only.blkL B2.only ng Bx1.out
  obtain ⟨v2, hv2⟩ := B2.all n1 (by omega)
  have hz2 := B2.fz n1
  have hl2 := B2.lt
  have hr2 : n1 < 15 := by omega
  have hB2 : Hid _ := B2
  clear B2
  go_wp2_with fail
  refine (v4_any A z 1 _ (by simp)).mono ?_
  rintro e w3 ⟨x3, rfl, y3, z3, hb3⟩
  have hB3 : Hid _ := ((hB2.out.step hr2 46).later (al1 _ _)).later hb3
  have O3 : Hid (Only g w w3) := ((O2.out.setCell _ _).trans (Only.of_below (al1 _ _))).trans (Only.of_below hb3)
  have Bx3 : Hid _ := blkL hb3 (blkL (al1 _ _) (Only.blkL ((Only.refl g w2).setCell n1 (.int .u8 46)) ng ⟨p2, f2, l2⟩))
  clear hb3 p2 f2 hv2 hz2
  go_wp2_with fail
  refine (dec_any g (n1 + 1) w3 w3 hB3.out.from (by omega) x3 y3 z3).mono ?_
  rintro e w4 ⟨n2, rfl, hn2, B4⟩
  have O4 : Hid (Only g w w4) := O3.out.trans B4.only
  obtain ⟨p4, f4, l4⟩ := Only.blkL B4.only ng Bx3.out
  obtain ⟨v4, hv4⟩ := B4.all n2 (by omega)
  have hz4 := B4.fz n2
  have hl4 := B4.lt
  have hr4 : n2 < 15 := by omega
  have hB4 : Hid _ := B4
  clear B4
  go_wp2_with fail
  refine (v4_any A z 2 _ (by simp)).mono ?_
  rintro e w5 ⟨x5, rfl, y5, z5, hb5⟩
  have hB5 : Hid _ := ((hB4.out.step hr4 46).later (al1 _ _)).later hb5
  have O5 : Hid (Only g w w5) := ((O4.out.setCell _ _).trans (Only.of_below (al1 _ _))).trans (Only.of_below hb5)
  have Bx5 : Hid _ := blkL hb5 (blkL (al1 _ _) (Only.blkL ((Only.refl g w4).setCell n2 (.int .u8 46)) ng ⟨p4, f4, l4⟩))
  clear hb5 p4 f4 hv4 hz4
  go_wp2_with fail
  refine (dec_any g (n2 + 1) w5 w5 hB5.out.from (by omega) x5 y5 z5).mono ?_
  rintro e w6 ⟨n3, rfl, hn3, B6⟩
  have O6 : Hid (Only g w w6) := O5.out.trans B6.only
  obtain ⟨p6, f6, l6⟩ := Only.blkL B6.only ng Bx5.out
  obtain ⟨v6, hv6⟩ := B6.all n3 (by omega)
  have hz6 := B6.fz n3
  have hl6 := B6.lt
  have hr6 : n3 < 15 := by omega
  have hB6 : Hid _ := B6
  clear B6
  go_wp2_with fail
  refine (v4_any A z 3 _ (by simp)).mono ?_
  rintro e w7 ⟨x7, rfl, y7, z7, hb7⟩
  have hB7 : Hid _ := ((hB6.out.step hr6 46).later (al1 _ _)).later hb7
  have O7 : Hid (Only g w w7) := ((O6.out.setCell _ _).trans (Only.of_below (al1 _ _))).trans (Only.of_below hb7)
  have Bx7 : Hid _ := blkL hb7 (blkL (al1 _ _) (Only.blkL ((Only.refl g w6).setCell n3 (.int .u8 46)) ng ⟨p6, f6, l6⟩))
  clear hb7 p6 f6 hv6 hz6
  go_wp2_with fail
  refine (dec_any g (n3 + 1) w7 w7 hB7.out.from (by omega) x7 y7 z7).mono ?_
  rintro e w8 ⟨n4, rfl, hn4, B8⟩
  go_wp2
  go_ret
  exact ⟨_, rfl, by omega, B8.lt, B8.all, B8.fz, B8.by8, hH.out.only.trans (O7.out.trans B8.only)⟩
end Go.Proofs.YbulkeiiwFmt

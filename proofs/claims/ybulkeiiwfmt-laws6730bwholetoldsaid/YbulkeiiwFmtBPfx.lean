import Derived.Test.YbulkeiiwFmtBAddr
namespace Go.Proofs.YbulkeiiwFmt
open Go.RowKit

abbrev pfV (A p : Int) (z : Addr) : Value := .agg #[.int .u64 0, .int .u64 A, .pointer (some z), .int .u8 p]

set_option maxHeartbeats 400000 in
theorem isValidP_any (A p : Int) (z : Addr) (w : World) :
    Calls Ybaf.prog 18 #[pfV A p z] w fun e w' => e = .returned (.bool (decide (0 < p))) ∧ Below w.heap.size w w' := by
  go_enter Ybaf.func18, Ybaf.ntmps18
  go_wp2
  go_ret
  exact ⟨rfl, al1 _ _⟩
set_option maxHeartbeats 400000 in
theorem bits_any (A p : Int) (z : Addr) (w : World) (h0 : 0 ≤ p) (h1 : p ≤ 255) :
    Calls Ybaf.prog 16 #[pfV A p z] w fun e w' => e = .returned (.int .i64 (p - 1)) ∧ Below w.heap.size w w' := by
  go_enter Ybaf.func16, Ybaf.ntmps16
  go_wp2
  go_ret
  exact ⟨rfl, al1 _ _⟩
/-- The three names. -/
def nm (i : Int) : ByteArray := if i % 3 = 0 then ⟨#[101, 116, 104, 48]⟩ else if i % 3 = 1 then ⟨#[101, 116, 104, 49]⟩ else ⟨#[108, 111]⟩
set_option maxHeartbeats 400000 in
theorem name_any (i : Int) (w : World) (h0 : 0 ≤ i) (h1 : i ≤ 255) :
    Calls Ybaf.prog 6 #[.int .u8 i] w fun e w' => e = .returned (.string (nm i)) ∧ w' = w := by
  have hd : i % 3 = 0 ∨ i % 3 = 1 ∨ i % 3 = 2 := by omega
  rcases hd with h | h | h
  all_goals
    have hn := h
    unfold nm
    rw [h]
    go_enter Ybaf.func6, Ybaf.ntmps6
    go_wp2
    go_ret
    exact ⟨rfl, rfl⟩
set_option maxHeartbeats 400000 in
theorem prefixFrom_in (A b : Int) (z : Addr) (w : World) (g : G z w) (h0 : 0 ≤ b) (h1 : b ≤ 32) :
    Calls Ybaf.prog 4 #[adV A z, .int .i64 b] w fun e w' => e = .returned (pfV A (b + 1) z) ∧ Below w.heap.size w w' := by
  go_enter Ybaf.func4, Ybaf.ntmps4
  go_wp2_with (first
    | (go_at_call 10; refine (isZero_any A z _ (g.later (al2 _ _ _))).mono ?_; rintro e w1 ⟨rfl, hb⟩; (have g1 := (g.later (al2 _ _ _)).later hb); (have qa := blk hb (b := w.heap.size) (cs := #[.int .u64 0, .int .u64 A, .pointer (some z)]) (t := 34) (by repeat (first | rw [hD] | (refine hN _ _ _ ?_; (repeat rw [World.size_alloc]) <;> omega) | (refine (hO _ _ _ ?_).trans ?_; · (repeat rw [World.size_alloc]) <;> omega)))); (have ra := blk hb (b := w.heap.size + 1) (cs := #[.int .u64 0, .int .u64 0, .pointer none, .int .u8 0]) (t := 36) (by repeat (first | rw [hD] | (refine hN _ _ _ ?_; (repeat rw [World.size_alloc]) <;> omega) | (refine (hO _ _ _ ?_).trans ?_; · (repeat rw [World.size_alloc]) <;> omega)))); obtain ⟨q1, q2, q3⟩ := qa))
  have hB1 : Below w.heap.size w w1 := (al2 _ _ _).trans (hb.mono (by simp; omega))
  clear hb
  refine (bitLen_any A z _ g1).mono ?_
  rintro e w2 ⟨rfl, hb2⟩
  obtain ⟨s1, s2, s3⟩ := blkL hb2 ⟨q1, q2, q3⟩
  have rb := blkL hb2 ra
  have hB2 : Below w.heap.size w w2 := hB1.trans (hb2.mono (by omega))
  have g2 := g1.later hb2
  clear q1 q2 ra hb2 hB1
  go_wp2_with fail
  refine (withoutZone_any A z _ g2).mono ?_
  rintro e w3 ⟨rfl, hb3⟩
  obtain ⟨r1, r2, r3⟩ := blkL hb3 rb
  have hB3 : Below w.heap.size w w3 := hB2.trans (hb3.mono (by omega))
  clear s1 s2 rb hb3 hB2
  go_wp2
  refine bodyPost_ret (v := pfV A (b + 1) z) (by simp [results, Ybaf.results4, go_sem, r1]) rfl ⟨rfl, ?_⟩
  exact (((hB3.setCell (by simp) _).setCell (by simp) _).setCell (by simp) _).setCell (by simp) _
set_option maxHeartbeats 400000 in
theorem prefixFrom_out (A b : Int) (z : Addr) (w : World) (g : G z w) (h0 : 32 < b) (h1 : b ≤ 39) :
    Calls Ybaf.prog 4 #[adV A z, .int .i64 b] w fun e w' => e = .returned (pfV A (0) z) ∧ Below w.heap.size w w' := by
  go_enter Ybaf.func4, Ybaf.ntmps4
  go_wp2_with (first
    | (go_at_call 10; refine (isZero_any A z _ (g.later (al2 _ _ _))).mono ?_; rintro e w1 ⟨rfl, hb⟩; (have g1 := (g.later (al2 _ _ _)).later hb); (have qa := blk hb (b := w.heap.size) (cs := #[.int .u64 0, .int .u64 A, .pointer (some z)]) (t := 34) (by repeat (first | rw [hD] | (refine hN _ _ _ ?_; (repeat rw [World.size_alloc]) <;> omega) | (refine (hO _ _ _ ?_).trans ?_; · (repeat rw [World.size_alloc]) <;> omega)))); (have ra := blk hb (b := w.heap.size + 1) (cs := #[.int .u64 0, .int .u64 0, .pointer none, .int .u8 0]) (t := 36) (by repeat (first | rw [hD] | (refine hN _ _ _ ?_; (repeat rw [World.size_alloc]) <;> omega) | (refine (hO _ _ _ ?_).trans ?_; · (repeat rw [World.size_alloc]) <;> omega)))); obtain ⟨q1, q2, q3⟩ := qa))
  have hB1 : Below w.heap.size w w1 := (al2 _ _ _).trans (hb.mono (by simp; omega))
  clear hb
  refine (bitLen_any A z _ g1).mono ?_
  rintro e w2 ⟨rfl, hb2⟩
  obtain ⟨s1, s2, s3⟩ := blkL hb2 ⟨q1, q2, q3⟩
  have rb := blkL hb2 ra
  have hB2 : Below w.heap.size w w2 := hB1.trans (hb2.mono (by omega))
  have g2 := g1.later hb2
  clear q1 q2 ra hb2 hB1
  go_wp2_with fail
  refine (withoutZone_any A z _ g2).mono ?_
  rintro e w3 ⟨rfl, hb3⟩
  obtain ⟨r1, r2, r3⟩ := blkL hb3 rb
  have hB3 : Below w.heap.size w w3 := hB2.trans (hb3.mono (by omega))
  clear s1 s2 rb hb3 hB2
  go_wp2
  refine bodyPost_ret (v := pfV A (0) z) (by simp [results, Ybaf.results4, go_sem, r1]) rfl ⟨rfl, ?_⟩
  exact (((hB3.setCell (by simp) _).setCell (by simp) _).setCell (by simp) _).setCell (by simp) _

/-- The number of four bytes. -/
def num (a b c d : Int) : Int := a * 16777216 + b * 65536 + c * 256 + d

theorem join32 (i : Nat) (x y : Int) (hx0 : 0 ≤ x) (hx1 : x < 4294967296) (hx : x.toNat % 2 ^ i = 0) (hy0 : 0 ≤ y) (hy : y.toNat < 2 ^ i) (hy1 : y < 4294967296) : bits .or .u32 x y = x + y := by
  rw [u32_or x y hx0 hx1 hy0 hy1, nat_join i _ _ hx hy]; omega
theorem join64 (i : Nat) (x y : Int) (hx0 : 0 ≤ x) (hx1 : x < 18446744073709551616) (hx : x.toNat % 2 ^ i = 0) (hy0 : 0 ≤ y) (hy : y.toNat < 2 ^ i) (hy1 : y < 18446744073709551616) : bits .or .u64 x y = x + y := by
  rw [u64_or x y hx0 hx1 hy0 hy1, nat_join i _ _ hx hy]; omega
theorem num32 (a b c d : Int) (ha : 0 ≤ a ∧ a ≤ 255) (hb : 0 ≤ b ∧ b ≤ 255) (hc : 0 ≤ c ∧ c ≤ 255) (hd : 0 ≤ d ∧ d ≤ 255) :
    bits .or .u32 (bits .or .u32 (bits .or .u32 (a * 16777216) (b * 65536)) (c * 256)) d = num a b c d := by
  rw [join32 24 (a * 16777216) (b * 65536) (by omega) (by omega) (by omega) (by omega) (by omega) (by omega),
    join32 16 (a * 16777216 + b * 65536) (c * 256) (by omega) (by omega) (by omega) (by omega) (by omega) (by omega),
    join32 8 (a * 16777216 + b * 65536 + c * 256) d (by omega) (by omega) (by omega) (by omega) (by omega) (by omega)]
  rfl
theorem num64 (a b c d : Int) (ha : 0 ≤ a ∧ a ≤ 255) (hb : 0 ≤ b ∧ b ≤ 255) (hc : 0 ≤ c ∧ c ≤ 255) (hd : 0 ≤ d ∧ d ≤ 255) :
    bits .or .u64 (bits .or .u64 (bits .or .u64 (bits .or .u64 281470681743360 (a * 16777216)) (b * 65536)) (c * 256)) d = 281470681743360 + num a b c d := by
  rw [join64 32 281470681743360 (a * 16777216) (by omega) (by omega) (by omega) (by omega) (by omega) (by omega),
    join64 24 (281470681743360 + a * 16777216) (b * 65536) (by omega) (by omega) (by omega) (by omega) (by omega) (by omega),
    join64 16 (281470681743360 + a * 16777216 + b * 65536) (c * 256) (by omega) (by omega) (by omega) (by omega) (by omega) (by omega),
    join64 8 (281470681743360 + a * 16777216 + b * 65536 + c * 256) d (by omega) (by omega) (by omega) (by omega) (by omega) (by omega)]
  unfold num; omega

set_option maxHeartbeats 400000 in
theorem from4_num (a b c d : Int) (z : Addr) (w : World) (g : G z w) (ha : 0 ≤ a ∧ a ≤ 255) (hb : 0 ≤ b ∧ b ≤ 255) (hc : 0 ≤ c ∧ c ≤ 255) (hd : 0 ≤ d ∧ d ≤ 255) :
    Calls Ybaf.prog 5 #[.agg #[.int .u8 a, .int .u8 b, .int .u8 c, .int .u8 d]] w fun e w' => e = .returned (adV (281470681743360 + num a b c d) z) ∧ Below w.heap.size w w' := by
  obtain ⟨hz, hz0⟩ := g
  have h1 : 1 < w.heap.size := World.block_lt_of_cell? w ⟨1, 0, none⟩ hz0
  have h0 : 0 < w.heap.size := by omega
  have hn := num64 a b c d ha hb hc hd
  have HN : Hid _ := hn
  clear hn
  go_enter Ybaf.func5, Ybaf.ntmps5
  go_wp2
  rw [← HN.out]
  exact bodyPost_ret (v := adV _ z) (by simp [results, Ybaf.results5, go_sem]) rfl ⟨rfl, al2 _ _ _⟩

set_option maxHeartbeats 400000 in
theorem u32_any (a b c d : Int) (w : World) (ha : 0 ≤ a ∧ a ≤ 255) (hb : 0 ≤ b ∧ b ≤ 255) (hc : 0 ≤ c ∧ c ≤ 255) (hd : 0 ≤ d ∧ d ≤ 255) :
    Calls Ybaf.prog 8 #[.agg #[.int .u8 a, .int .u8 b, .int .u8 c, .int .u8 d]] w fun e w' => e = .returned (.int .u32 (num a b c d)) ∧ Below w.heap.size w w' := by
  have HN : Hid _ := num32 a b c d ha hb hc hd
  go_enter Ybaf.func8, Ybaf.ntmps8
  go_wp2
  rw [← HN.out]
  go_ret
  exact ⟨rfl, al1 _ _⟩

/-- One route of the law, as a value. -/
abbrev rtV (a b c d t i : Int) : Value := .agg #[.int .u8 a, .int .u8 b, .int .u8 c, .int .u8 d, .int .u8 t, .int .u8 i]

/-- Do the two addresses agree in the first t bits? -/
def hit (s p t : Int) : Bool := bits .xor .u32 s p / 2 ^ (32 - t).toNat == 0
/-- Does the route's prefix hold s? -/
def okR (a b c d t s : Int) : Bool := decide (t % 40 ≤ 32) && hit s (num a b c d) (t % 40)

set_option maxHeartbeats 400000 in
theorem holds_any (a b c d t i s : Int) (w : World) (ha : 0 ≤ a ∧ a ≤ 255) (hb : 0 ≤ b ∧ b ≤ 255) (hc : 0 ≤ c ∧ c ≤ 255) (hd : 0 ≤ d ∧ d ≤ 255) (h0 : 0 ≤ t) (h1 : t ≤ 255) :
    Calls Ybaf.prog 9 #[rtV a b c d t i, .int .u32 s] w fun e w' => e = .returned (.tuple #[.int .i64 (t % 40), .bool (okR a b c d t s)]) ∧ Below w.heap.size w w' := by
  by_cases ht : t % 40 ≤ 32
  · have e1 : okR a b c d t s = (bits BinOp.xor .u32 s (num a b c d) / 2 ^ (32 - t % 40).toNat == 0) := by simp [okR, hit, ht]
    rw [e1]
    clear e1
    go_enter Ybaf.func9, Ybaf.ntmps9
    go_wp2_with (go_at_call 8; refine (u32_any a b c d _ ha hb hc hd).mono ?_; rintro e w1 ⟨rfl, hb1⟩)
    go_ret2
    exact ⟨rfl, (al1 _ _).trans (hb1.mono (by simp))⟩
  · have e1 : okR a b c d t s = false := by simp [okR, ht]
    rw [e1]
    clear e1
    go_enter Ybaf.func9, Ybaf.ntmps9
    go_wp2
    go_ret2
    exact ⟨rfl, al1 _ _⟩
end Go.Proofs.YbulkeiiwFmt

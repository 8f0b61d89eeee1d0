import Derived.Test.YbulkeiiwFmtBPfx
namespace Go.Proofs.YbulkeiiwFmt
open Go.RowKit

theorem and63 (x : Int) (h0 : 0 ≤ x) (h1 : x < 64) : bits .and .i64 x 63 = x := by
  have := bits_mask .i64 7 (by decide) (fun n h0 h1 => by rw [IntKind.wrap_i64]; omega) 6 (by decide) x h0 (by omega)
  rw [show ((63 : Int)) = 2 ^ 6 - 1 from by decide]
  rw [this]; omega
theorem xor_low (C s p : Nat) (hC : C % 4294967296 = 0) (hs : s < 4294967296) (hp : p < 4294967296) : (C + s) ^^^ (C + p) = s ^^^ p := by
  rw [← nat_join 32 C s (by omega) (by omega), ← nat_join 32 C p (by omega) (by omega)]
  apply Nat.eq_of_testBit_eq
  intro i
  simp only [Nat.testBit_xor, Nat.testBit_or]
  by_cases hi : i < 32
  · have hc : C.testBit i = false := by
      obtain ⟨q, hq⟩ : ∃ q, C = q * 2 ^ 32 := ⟨C / 2 ^ 32, by omega⟩
      rw [hq, Nat.testBit_mul_two_pow]; simp; omega
    simp [hc]
  · have h1 : s.testBit i = false := Nat.testBit_lt_two_pow (Nat.lt_of_lt_of_le hs (by have := Nat.pow_le_pow_right (n := 2) (by omega) (show 32 ≤ i by omega); omega))
    have h2 : p.testBit i = false := Nat.testBit_lt_two_pow (Nat.lt_of_lt_of_le hp (by have := Nat.pow_le_pow_right (n := 2) (by omega) (show 32 ≤ i by omega); omega))
    simp [h1, h2]
theorem xor64 (s p : Int) (p0 : 0 ≤ p) (p1 : p < 4294967296) (s0 : 0 ≤ s) (s1 : s < 4294967296) :
    bits .xor .u64 (281470681743360 + s) (281470681743360 + p) = bits .xor .u32 s p := by
  rw [u64_xor _ _ (by omega) (by omega) (by omega) (by omega), u32_xor _ _ (by omega) (by omega) (by omega) (by omega)]
  have := xor_low 281470681743360 s.toNat p.toNat (by decide) (by omega) (by omega)
  rw [show (281470681743360 + s).toNat = 281470681743360 + s.toNat by omega, show (281470681743360 + p).toNat = 281470681743360 + p.toNat by omega, this]
theorem xor_bd (s p : Int) (p0 : 0 ≤ p) (p1 : p < 4294967296) (s0 : 0 ≤ s) (s1 : s < 4294967296) : 0 ≤ bits .xor .u32 s p ∧ bits .xor .u32 s p < 4294967296 := by
  rw [u32_xor _ _ (by omega) (by omega) (by omega) (by omega)]
  have := Nat.xor_lt_two_pow (n := 32) (x := s.toNat) (y := p.toNat) (by omega) (by omega)
  omega
theorem div_bd (x : Int) (k : Nat) (h0 : 0 ≤ x) (h1 : x < 4294967296) : 0 ≤ x / 2 ^ k ∧ x / 2 ^ k < 4294967296 := by
  have hk : (0 : Int) < 2 ^ k := Int.pow_pos (by omega)
  refine ⟨Int.ediv_nonneg h0 (Int.le_of_lt hk), ?_⟩
  have := Int.ediv_le_self (2 ^ k) h0
  omega

set_option maxHeartbeats 400000 in
theorem contains_no (A' A : Int) (z : Addr) (w : World) :
    Calls Ybaf.prog 15 #[pfV A' 0 z, adV A z] w fun e w' => e = .returned (.bool false) ∧ Below w.heap.size w w' := by
  go_enter Ybaf.func15, Ybaf.ntmps15
  go_wp2_with (go_at_call 18; refine (isValidP_any A' 0 z _).mono ?_; rintro e w1 ⟨rfl, hb⟩)
  go_ret
  exact ⟨rfl, (al2 _ _ _).trans (hb.mono (by simp; omega))⟩
set_option maxHeartbeats 400000 in
theorem contains_in (p s b : Int) (z : Addr) (w : World) (g : G z w) (h0 : 0 ≤ b) (h1 : b ≤ 32) (p0 : 0 ≤ p) (p1 : p < 4294967296) (s0 : 0 ≤ s) (s1 : s < 4294967296) :
    Calls Ybaf.prog 15 #[pfV (281470681743360 + p) (b + 1) z, adV (281470681743360 + s) z] w fun e w' => e = .returned (.bool (hit s p b)) ∧ Below w.heap.size w w' := by
  have hbp : (0 : Int) < b + 1 := by omega
  have hw : IntKind.i64.wrap (32 - b) = 32 - b := by rw [IntKind.wrap_i64]; omega
  have hm := and63 (32 - b) (by omega) (by omega)
  have hx := xor64 s p p0 p1 s0 s1
  have hd := div_bd _ (32 - b).toNat (xor_bd s p p0 p1 s0 s1).1 (xor_bd s p p0 p1 s0 s1).2
  have hsh : (0 : Int) ≤ 32 - b := by omega
  go_enter Ybaf.func15, Ybaf.ntmps15
  go_wp2_with (go_at_call 18; refine (isValidP_any _ (b + 1) z _).mono ?_; rintro e w1 ⟨rfl, hb⟩; (have qa := blk hb (b := w.heap.size) (cs := #[.int .u64 0, .int .u64 (281470681743360 + p), .pointer (some z), .int .u8 (b + 1)]) (t := 36) (by repeat (first | rw [hD] | (refine hN _ _ _ ?_; (repeat rw [World.size_alloc]) <;> omega) | (refine (hO _ _ _ ?_).trans ?_; · (repeat rw [World.size_alloc]) <;> omega)))); (have ra := blk hb (b := w.heap.size + 1) (cs := #[.int .u64 0, .int .u64 (281470681743360 + s), .pointer (some z)]) (t := 34) (by repeat (first | rw [hD] | (refine hN _ _ _ ?_; (repeat rw [World.size_alloc]) <;> omega) | (refine (hO _ _ _ ?_).trans ?_; · (repeat rw [World.size_alloc]) <;> omega)))); obtain ⟨r1, r2, r3⟩ := ra)
  have hB1 : Below w.heap.size w w1 := (al2 _ _ _).trans (hb.mono (by simp; omega))
  have g1 := g.later hB1
  clear hb
  refine (hasZone_any _ z _ g1).mono ?_
  rintro e w2 ⟨rfl, hb2⟩
  obtain ⟨t1, t2, t3⟩ := blkL hb2 ⟨r1, r2, r3⟩
  obtain ⟨s1, s2, s3⟩ := blkL hb2 qa
  have hB2 : Below w.heap.size w w2 := hB1.trans (hb2.mono hB1.size)
  have g2 := g1.later hb2
  clear r1 r2 qa hb2 hB1
  go_wp2_with fail
  go_region_held3 (fun w' => (∀ o, w'.cell? ⟨w.heap.size, o, none⟩ = #[Value.int .u64 0, .int .u64 (281470681743360 + p), .pointer (some z), .int .u8 (b + 1)][o]?) ∧ (∀ o, w'.cell? ⟨w.heap.size + 1, o, none⟩ = #[Value.int .u64 0, .int .u64 (281470681743360 + s), .pointer (some z)][o]?))
    (((try dsimp only); (repeat' apply And.intro) <;> (go_keep; done)))
    (first
      | (go_at_call 11; refine (bitLen_any _ z _ g3).mono ?_; rintro e w4 ⟨rfl, hb4⟩; (obtain ⟨u1, u2, u3⟩ := blkL hb4 ⟨v1, v2, v3⟩); (obtain ⟨x1, x2, x3⟩ := blkL hb4 ⟨y1, y2, y3⟩); (have hB4 : Below w.heap.size w w4 := hB3.trans (hb4.mono (by omega))); (have g4 := g3.later hb4))
      | (go_at_call 11; refine (bitLen_any _ z _ g2.drew).mono ?_; rintro e w3 ⟨rfl, hb3⟩; (obtain ⟨v1, v2, v3⟩ := blkL hb3 (b := w.heap.size) ⟨s1, s2, s3⟩); (obtain ⟨y1, y2, y3⟩ := blkL hb3 (b := w.heap.size + 1) ⟨t1, t2, t3⟩); (have hB3 : Below w.heap.size w w3 := hB2.drew.trans (hb3.mono (by simp; omega))); (have g3 := g2.drew.later hb3)))
  clear t1 t2 s1 s2 v1 v2 y1 y2 hb3 hb4 hB3 hB2 g1 g2 g3
  go_wp2_with fail
  refine (is4_any _ z _ g4).mono ?_
  rintro e w5 ⟨rfl, hb5⟩
  obtain ⟨s1', s2, s3'⟩ := blkL hb5 ⟨u1, u2, u3⟩
  obtain ⟨t1, t2, t3'⟩ := blkL hb5 ⟨x1, x2, x3⟩
  have hB5 : Below w.heap.size w w5 := hB4.trans (hb5.mono (by omega))
  clear u1 u2 x1 x2 hb5 hB4 g4
  go_wp2_with fail
  go_region_held3 (fun w' => (∀ o, w'.cell? ⟨w.heap.size, o, none⟩ = #[Value.int .u64 0, .int .u64 (281470681743360 + p), .pointer (some z), .int .u8 (b + 1)][o]?) ∧ (∀ o, w'.cell? ⟨w.heap.size + 1, o, none⟩ = #[Value.int .u64 0, .int .u64 (281470681743360 + s), .pointer (some z)][o]?))
    (((try dsimp only); (repeat' apply And.intro) <;> (go_keep; done)))
    (first
      | (go_at_call 16; refine (bits_any _ (b + 1) z _ (by omega) (by omega)).mono ?_; rintro e w6 ⟨rfl, hb6⟩; (obtain ⟨v1, v2, v3⟩ := blkL hb6 (b := w.heap.size) ⟨s1', s2, s3'⟩); (obtain ⟨y1, y2, y3⟩ := blkL hb6 (b := w.heap.size + 1) ⟨t1, t2, t3'⟩); (have hB6 : Below w.heap.size w w6 := hB5.drew.trans (hb6.mono (by simp; omega)))))
  all_goals go_wp2
  go_ret
  refine ⟨?_, hB6⟩
  have hwr : IntKind.u32.wrap (bits .xor .u32 s p / 2 ^ (32 - b).toNat) = bits .xor .u32 s p / 2 ^ (32 - b).toNat := by rw [IntKind.wrap_u32]; omega
  rw [hwr]
  rfl

/-- Does the prefix (its bits plus one: q) hold s? -/
def cont (p q s : Int) : Bool := decide (0 < q) && hit s p (q - 1)

theorem contains_any (p s q : Int) (z : Addr) (w : World) (g : G z w) (h0 : 0 ≤ q) (h1 : q ≤ 33) (p0 : 0 ≤ p) (p1 : p < 4294967296) (s0 : 0 ≤ s) (s1 : s < 4294967296) :
    Calls Ybaf.prog 15 #[pfV (281470681743360 + p) q z, adV (281470681743360 + s) z] w fun e w' => e = .returned (.bool (cont p q s)) ∧ Below w.heap.size w w' := by
  by_cases hq : 0 < q
  · have h := contains_in p s (q - 1) z w g (by omega) (by omega) p0 p1 s0 s1
    rw [show q - 1 + 1 = q by omega] at h
    have e : cont p q s = hit s p (q - 1) := by simp [cont, hq]
    rw [e]; exact h
  · have h : q = 0 := by omega
    subst h
    exact contains_no _ _ z w
end Go.Proofs.YbulkeiiwFmt

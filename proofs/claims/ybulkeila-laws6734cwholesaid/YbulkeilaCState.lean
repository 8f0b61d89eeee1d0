/-
  What the law carries from step to step: the cache (list Lc), the model (list Lm), the packs, the copy of the data.
  N: the map's block; N + 1: the inner cache; N + 2: the cache; N + 3, N + 4: the packs; N + 5: the array of packs.
-/
import Derived.Test.YbulkeilaCKeep
import Derived.Test.YbulkeilaCModel
import Derived.Test.YbulkeilaCSmall
namespace Go.Proofs.Ybulkeila
open Go Go.Deep Go.RowKit
set_option linter.unusedSimpArgs false

def Safe (N : Nat) (ob obm : Option Nat) (b : Nat) : Prop := b ≠ N ∧ b ≠ N + 1 ∧ b ≠ N + 2 ∧ ob ≠ some b ∧ obm ≠ some b
/-- n bytes that no step writes, whatever they are. -/
def BytesS (N : Nat) (ob obm : Option Nat) (a : Option Addr) (n : Nat) (w : World) : Prop := 0 < n → ∃ b o, ∃ g : Nat → Int, a = some ⟨b, o, none⟩ ∧ Safe N ob obm b ∧ b < w.heap.size ∧ ∀ i, i < n → w.cell? ⟨b, o + i, none⟩ = some (.int .u8 (g i))
/-- .. the bytes f. -/
def BytesF (N : Nat) (ob obm : Option Nat) (f : Nat → Int) (a : Option Addr) (n : Nat) (w : World) : Prop := 0 < n → ∃ b o, a = some ⟨b, o, none⟩ ∧ Safe N ob obm b ∧ b < w.heap.size ∧ ∀ i, i < n → w.cell? ⟨b, o + i, none⟩ = some (.int .u8 (f i))

structure St (bud : Int) (N dn : Nat) (f : Nat → Int) (ca : Option Addr) (Lc Lm : List E) (ob obm : Option Nat) (ma : Option Addr) (mcap B : Nat) (w wr : World) : Prop where
  cache : Cache bud (N + 1) N (N + 3) (N + 4) Lc ob wr
  lk : Lk (N + 2) (N + 1) wr
  row : Row 3 obm ma Lm.length mcap (Lm.flatMap entCells) wr
  arr0 : wr.cell? ⟨N + 5, 0, none⟩ = some (.pointer (some ⟨N + 3, 0, none⟩))
  arr1 : wr.cell? ⟨N + 5, 1, none⟩ = some (.pointer (some ⟨N + 4, 0, none⟩))
  data : ∀ e, (e ∈ Lc ∨ e ∈ Lm) → BytesS N ob obm e.a e.len wr
  dc : BytesF N ob obm f ca dn wr
  below : Below B w wr
  le : B ≤ N
  sz : N + 6 ≤ wr.heap.size
  o1 : ∀ k, ob = some k → N + 6 ≤ k ∧ obm ≠ some k
  o2 : ∀ k, obm = some k → N + 6 ≤ k

variable {bud : Int} {N dn : Nat} {f : Nat → Int} {ca : Option Addr} {Lc Lm : List E} {ob obm : Option Nat} {ma : Option Addr} {mcap B : Nat} {w wr wx : World}

theorem BytesS.step {a : Option Addr} {n : Nat} {ob' obm' : Option Nat} (h : BytesS N ob obm a n wr) (hb : ∀ i, i < wr.heap.size → Safe N ob obm i → wx.heap[i]? = wr.heap[i]?) (hs : wr.heap.size ≤ wx.heap.size)
    (h1 : ∀ k, ob' = some k → ob = some k ∨ wr.heap.size ≤ k) (h2 : ∀ k, obm' = some k → obm = some k ∨ wr.heap.size ≤ k) : BytesS N ob' obm' a n wx := fun h0 => by
  obtain ⟨b, o, g, a1, a2, a3, a4⟩ := h h0
  have hkk := hb b a3 a2
  obtain ⟨s1, s2, s3, s4, s5⟩ := a2
  refine ⟨b, o, g, a1, ⟨s1, s2, s3, fun e => ?_, fun e => ?_⟩, Nat.lt_of_lt_of_le a3 hs, fun i hi => by rw [cell_of_block hkk]; exact a4 i hi⟩
  · rcases h1 b e with e1 | e1
    · exact s4 e1
    · omega
  · rcases h2 b e with e1 | e1
    · exact s5 e1
    · omega

theorem BytesF.step {a : Option Addr} {n : Nat} {ob' obm' : Option Nat} (h : BytesF N ob obm f a n wr) (hb : ∀ i, i < wr.heap.size → Safe N ob obm i → wx.heap[i]? = wr.heap[i]?) (hs : wr.heap.size ≤ wx.heap.size)
    (h1 : ∀ k, ob' = some k → ob = some k ∨ wr.heap.size ≤ k) (h2 : ∀ k, obm' = some k → obm = some k ∨ wr.heap.size ≤ k) : BytesF N ob' obm' f a n wx := fun h0 => by
  obtain ⟨b, o, a1, a2, a3, a4⟩ := h h0
  have hkk := hb b a3 a2
  obtain ⟨s1, s2, s3, s4, s5⟩ := a2
  refine ⟨b, o, a1, ⟨s1, s2, s3, fun e => ?_, fun e => ?_⟩, Nat.lt_of_lt_of_le a3 hs, fun i hi => by rw [cell_of_block hkk]; exact a4 i hi⟩
  · rcases h1 b e with e1 | e1
    · exact s4 e1
    · omega
  · rcases h2 b e with e1 | e1
    · exact s5 e1
    · omega

theorem Lk.kept {pb cb : Nat} (h : Lk pb cb wr) (hb : wx.heap[pb]? = wr.heap[pb]?) : Lk pb cb wx := ⟨by rw [cell_of_block hb]; exact h.free, by rw [cell_of_block hb]; exact h.obj, by rw [frozen_of_block hb]; exact h.frz⟩

/-- New blocks, and stores into blocks laid since: nothing turns. -/
theorem St.later (h : St bud N dn f ca Lc Lm ob obm ma mcap B w wr) (hb : Below wr.heap.size wr wx) : St bud N dn f ca Lc Lm ob obm ma mcap B w wx := by
  have hs := hb.size
  have sz := h.sz
  refine ⟨h.cache.below hb.block, h.lk.kept (hb.block _ (by omega)), h.row.kept fun k hk => hb.block k (h.row.lt (by omega) k hk), by rw [cell_of_block (hb.block _ (by omega))]; exact h.arr0, by rw [cell_of_block (hb.block _ (by omega))]; exact h.arr1,
    fun e he => (h.data e he).step (fun i hi _ => hb.block i hi) hs (fun _ hk => .inl hk) (fun _ hk => .inl hk), h.dc.step (fun i hi _ => hb.block i hi) hs (fun _ hk => .inl hk) (fun _ hk => .inl hk), h.below.trans (hb.mono (by have := h.below.size; have := h.le; omega)), h.le, by omega, h.o1, h.o2⟩

theorem mem_putL {e x : E} {L : List E} (h : x ∈ putL bud e L) : x ∈ L ∨ x = e := by
  unfold putL at h
  split at h
  · exact .inl h
  · split at h
    · exact .inl h
    · rcases List.mem_append.1 h with h1 | h1
      · obtain ⟨p, hp⟩ := roomL_sub bud e.len L
        exact .inl (by rw [hp]; exact List.mem_append_right _ h1)
      · exact .inr (by simpa using h1)

theorem total_putL (e : E) (L : List E) : total (putL bud e L) ≤ total L + e.len := by
  unfold putL
  split
  · omega
  · split
    · omega
    · rw [total_append]; have := roomL_total bud e.len L; omega

theorem length_putL (e : E) (L : List E) : (putL bud e L).length ≤ L.length + 1 := by
  unfold putL
  split
  · omega
  · split
    · omega
    · obtain ⟨p, hp⟩ := roomL_sub bud e.len L
      have := congrArg List.length hp
      rw [List.length_append] at this
      rw [List.length_append]
      simp
      omega

/-- Behind keepObject. -/
theorem St.keep (h : St bud N dn f ca Lc Lm ob obm ma mcap B w wr) {e : E} (he : BytesS N ob obm e.a e.len wr) {ob' : Option Nat} (hl : Lk (N + 2) (N + 1) wx) (hc : Cache bud (N + 1) N (N + 3) (N + 4) (putL bud e Lc) ob' wx)
    (hk : Kept (fun i => i = N + 1 ∨ i = N ∨ i = N + 2 ∨ ob = some i) wr wx) (ho : ∀ k, ob' = some k → ob = some k ∨ wr.heap.size ≤ k) : St bud N dn f ca (putL bud e Lc) Lm ob' obm ma mcap B w wx ∧ BytesS N ob' obm e.a e.len wx := by
  have sz := h.sz
  have hs : ∀ i, i < wr.heap.size → Safe N ob obm i → wx.heap[i]? = wr.heap[i]? := fun i hi s => hk.block i hi (fun hh => by
    obtain ⟨s1, s2, s3, s4, _⟩ := s
    rcases hh with h1 | h1 | h1 | h1
    · exact s2 h1
    · exact s1 h1
    · exact s3 h1
    · exact s4 h1)
  have h2 : ∀ k, obm = some k → obm = some k ∨ wr.heap.size ≤ k := fun k hk => .inl hk
  have hrow : ∀ k, obm = some k → wx.heap[k]? = wr.heap[k]? := fun k hkk => hk.block k (h.row.lt (by omega) k hkk) (fun hh => by
    have := h.o2 k hkk
    rcases hh with h1 | h1 | h1 | h1
    · omega
    · omega
    · omega
    · exact (h.o1 k h1).2 hkk)
  have h5 : wx.heap[N + 5]? = wr.heap[N + 5]? := hk.block (N + 5) (by omega) (fun hh => by
    rcases hh with h1 | h1 | h1 | h1
    · omega
    · omega
    · omega
    · have := (h.o1 _ h1).1; omega)
  have hee : BytesS N ob' obm e.a e.len wx := he.step hs hk.size ho h2
  refine ⟨⟨hc, hl, h.row.kept hrow, by rw [cell_of_block h5]; exact h.arr0, by rw [cell_of_block h5]; exact h.arr1, ?_, h.dc.step hs hk.size ho h2, ?_, h.le, by have := hk.size; omega, ?_, h.o2⟩, hee⟩
  · intro x hx
    rcases hx with hx | hx
    · rcases mem_putL hx with h1 | h1
      · exact (h.data x (.inl h1)).step hs hk.size ho h2
      · rw [h1]; exact hee
    · exact (h.data x (.inr hx)).step hs hk.size ho h2
  · exact h.below.trans (hk.below (by have := h.below.size; have := h.le; omega) (fun i hi => by
      have := h.le
      rcases hi with h1 | h1 | h1 | h1
      · omega
      · omega
      · omega
      · have := (h.o1 _ h1).1; omega))
  · intro k hkk
    rcases ho k hkk with h1 | h1
    · exact h.o1 k h1
    · refine ⟨by omega, fun hh => ?_⟩
      have := h.row.lt (by omega) k hh
      omega

/-- Behind the model's step. -/
theorem St.model (h : St bud N dn f ca Lc Lm ob obm ma mcap B w wr) {e : E} (he : BytesS N ob obm e.a e.len wr) {obm' : Option Nat} {ma' : Option Addr} {mcap' : Nat} (hr : Row 3 obm' ma' (putL bud e Lm).length mcap' ((putL bud e Lm).flatMap entCells) wx)
    (hk : Kept (fun i => obm = some i) wr wx) (ho : ∀ k, obm' = some k → obm = some k ∨ wr.heap.size ≤ k) : St bud N dn f ca Lc (putL bud e Lm) ob obm' ma' mcap' B w wx := by
  have sz := h.sz
  have hs : ∀ i, i < wr.heap.size → Safe N ob obm i → wx.heap[i]? = wr.heap[i]? := fun i hi s => hk.block i hi s.2.2.2.2
  have h1 : ∀ k, ob = some k → ob = some k ∨ wr.heap.size ≤ k := fun k hk => .inl hk
  have hlow : ∀ i, i < N + 6 → wx.heap[i]? = wr.heap[i]? := fun i hi => hk.block i (by omega) (fun hh => by have := h.o2 i hh; omega)
  have hob : ∀ k, ob = some k → wx.heap[k]? = wr.heap[k]? := fun k hkk => by
    obtain ⟨_, _, _, hR⟩ := h.cache.c3
    exact hk.block k (hR.lt (by omega) k hkk) (h.o1 k hkk).2
  refine ⟨h.cache.kept (hlow _ (by omega)) (hlow _ (by omega)) hob (hlow _ (by omega)) (hlow _ (by omega)), h.lk.kept (hlow _ (by omega)), hr, by rw [cell_of_block (hlow _ (by omega))]; exact h.arr0, by rw [cell_of_block (hlow _ (by omega))]; exact h.arr1, ?_, h.dc.step hs hk.size h1 ho, ?_, h.le, by have := hk.size; omega, ?_, ?_⟩
  · intro x hx
    rcases hx with hx | hx
    · exact (h.data x (.inl hx)).step hs hk.size h1 ho
    · rcases mem_putL hx with h2 | h2
      · exact (h.data x (.inr h2)).step hs hk.size h1 ho
      · rw [h2]; exact he.step hs hk.size h1 ho
  · exact h.below.trans (hk.below (by have := h.below.size; have := h.le; omega) (fun i hi => by
      have := h.le
      have := h.o2 i hi
      omega))
  · intro k hkk
    refine ⟨(h.o1 k hkk).1, fun hh => ?_⟩
    rcases ho k hh with h2 | h2
    · exact (h.o1 k hkk).2 h2
    · obtain ⟨_, _, _, hR⟩ := h.cache.c3
      have := hR.lt (by omega) k hkk
      omega
  · intro k hkk
    rcases ho k hkk with h2 | h2
    · exact h.o2 k h2
    · omega


theorem toList_alloc (W : World) (o : Obj) : (W.alloc o).heap.toList = W.heap.toList ++ [o] := by
  show (W.heap.push o).toList = _
  simp

/-- The world ahead of the script. -/
def start (bud : Int) (cs zs : Array Value) (w2 : World) : World :=
  (((((w2.alloc (.map #[] 0)).alloc (.cells #[.int .i64 bud, .int .i64 0, .map (some w2.heap.size), .slice none 0 0] 84)).alloc (.cells cs 70)).alloc (.cells zs 46)).alloc (.cells zs 46)).alloc (.cells #[.pointer (some ⟨w2.heap.size + 3, 0, none⟩), .pointer (some ⟨w2.heap.size + 4, 0, none⟩)] 50)

theorem St.at_start {w w2 : World} {cs zs : Array Value} (hcs0 : cs[0]? = some (.int .i32 0)) (hcs2 : cs[2]? = some (.pointer (some ⟨w2.heap.size + 1, 0, none⟩))) (hb : Below w.heap.size w w2)
    (hd : 0 < dn → ∃ b o, ca = some ⟨b, o, none⟩ ∧ w.heap.size ≤ b ∧ b < w2.heap.size ∧ ∀ i, i < dn → w2.cell? ⟨b, o + i, none⟩ = some (.int .u8 (f i))) :
    St bud w2.heap.size dn f ca [] [] none none none 0 w.heap.size w (start bud cs zs w2) := by
  have hblk : ∀ k, (start bud cs zs w2).heap[w2.heap.size + k]? = [Obj.map #[] 0, .cells #[.int .i64 bud, .int .i64 0, .map (some w2.heap.size), .slice none 0 0] 84, .cells cs 70, .cells zs 46, .cells zs 46, .cells #[.pointer (some ⟨w2.heap.size + 3, 0, none⟩), .pointer (some ⟨w2.heap.size + 4, 0, none⟩)] 50][k]? := by
    intro k
    have hh : (start bud cs zs w2).heap.toList = w2.heap.toList ++ [Obj.map #[] 0, .cells #[.int .i64 bud, .int .i64 0, .map (some w2.heap.size), .slice none 0 0] 84, .cells cs 70, .cells zs 46, .cells zs 46, .cells #[.pointer (some ⟨w2.heap.size + 3, 0, none⟩), .pointer (some ⟨w2.heap.size + 4, 0, none⟩)] 50] := by
      simp only [start, toList_alloc, List.append_assoc, List.cons_append, List.nil_append]
    rw [← Array.getElem?_toList, hh, List.getElem?_append_right (by simp)]
    simp
  have h0 := hblk 0; have h1 := hblk 1; have h2 := hblk 2; have h3 := hblk 3; have h4 := hblk 4; have h5 := hblk 5
  simp only [List.getElem?_cons_zero, List.getElem?_cons_succ, Nat.add_zero] at h0 h1 h2 h3 h4 h5
  have hsz : (start bud cs zs w2).heap.size = w2.heap.size + 6 := by simp [start]
  have hb2 : Below w2.heap.size w2 (start bud cs zs w2) := by
    unfold start
    refine ((((((Below.refl _ w2).alloc ?_ _).alloc ?_ _).alloc ?_ _).alloc ?_ _).alloc ?_ _).alloc ?_ _ <;> simp <;> omega
  refine ⟨⟨by simp [World.cell?, h1], by simp [World.cell?, h1, total], by simp [World.cell?, h1], ⟨none, 0, by simp [World.cell?, h1], Row.nil _ _⟩, ⟨#[], 0, h0, rfl⟩, ⟨fun e he => absurd he (by simp), List.nodup_nil⟩, ⟨by omega, ⟨zs, h3⟩, zs, h4⟩, fun o => by simp [World.frozen?, h1]⟩,
    ⟨by simp only [World.cell?, h2]; simpa using hcs0, by simp only [World.cell?, h2]; simpa using hcs2, by simp [World.frozen?, h2]⟩, Row.nil _ _, by simp [World.cell?, h5], by simp [World.cell?, h5], fun e he => absurd he (by simp), ?_, hb.trans (hb2.mono hb.size), hb.size, by omega, fun k hk => absurd hk (by simp), fun k hk => absurd hk (by simp)⟩
  intro h
  obtain ⟨b, o, a1, a2, a3, a4⟩ := hd h
  exact ⟨b, o, a1, ⟨by omega, by omega, by omega, by simp, by simp⟩, by omega, fun i hi => by rw [cell_of_block (hb2.block b a3)]; exact a4 i hi⟩


/-- One step of the script: the copy of the step, and its data, filled up to j. -/
structure Fill (p o t m n j : Nat) (wr wz : World) : Prop where
  below : Below wr.heap.size wr wz
  size : wz.heap.size = wr.heap.size + 2
  q0 : wz.cell? ⟨wr.heap.size, 0, none⟩ = some (.int .u8 (p : Int))
  q1 : wz.cell? ⟨wr.heap.size, 1, none⟩ = some (.int .u8 (o : Int))
  q2 : wz.cell? ⟨wr.heap.size, 2, none⟩ = some (.int .u8 (t : Int))
  q3 : wz.cell? ⟨wr.heap.size, 3, none⟩ = some (.int .u8 (m : Int))
  d : ∀ x, x < n → wz.cell? ⟨wr.heap.size + 1, x, none⟩ = some (.int .u8 (if x < j then (m : Int) else 0))
  frz : ∀ x, wz.frozen? ⟨wr.heap.size + 1, x, none⟩ = false

theorem Fill.start (p o t m n : Nat) (wr : World) : Fill p o t m n 0 wr ((wr.alloc (.cells #[.int .u8 (p : Int), .int .u8 (o : Int), .int .u8 (t : Int), .int .u8 (m : Int)] 53)).alloc (.cells (madeCells #[.int .u8 0] n) 5)) := by
  have h0 : ((wr.alloc (.cells #[.int .u8 (p : Int), .int .u8 (o : Int), .int .u8 (t : Int), .int .u8 (m : Int)] 53)).alloc (.cells (madeCells #[.int .u8 0] n) 5)).heap[wr.heap.size]? = some (.cells #[.int .u8 (p : Int), .int .u8 (o : Int), .int .u8 (t : Int), .int .u8 (m : Int)] 53) :=
    (blk_alloc_lt _ _ _ (by rw [nblk_alloc]; omega)).trans (blk_alloc_new _ _)
  have h1 : ((wr.alloc (.cells #[.int .u8 (p : Int), .int .u8 (o : Int), .int .u8 (t : Int), .int .u8 (m : Int)] 53)).alloc (.cells (madeCells #[.int .u8 0] n) 5)).heap[wr.heap.size + 1]? = some (.cells (madeCells #[.int .u8 0] n) 5) := by
    have := blk_alloc_new (wr.alloc (.cells #[.int .u8 (p : Int), .int .u8 (o : Int), .int .u8 (t : Int), .int .u8 (m : Int)] 53)) (.cells (madeCells #[.int .u8 0] n) 5)
    rwa [nblk_alloc] at this
  refine ⟨((Below.refl _ _).alloc (Nat.le_refl _) _).alloc (by rw [nblk_alloc]; omega) _, by rw [nblk_alloc, nblk_alloc], by simp only [World.cell?, h0]; rfl, by simp only [World.cell?, h0]; rfl, by simp only [World.cell?, h0]; rfl, by simp only [World.cell?, h0]; rfl, fun x hx => ?_, fun x => by simp only [World.frozen?, h1]; simp⟩
  simp only [World.cell?, h1]
  simp [madeCells, hx, Nat.mod_one]

theorem Fill.step {p o t m n j : Nat} {wr wz : World} (h : Fill p o t m n j wr wz) (hj : j < n) : Fill p o t m n (j + 1) wr (wz.setCell ⟨wr.heap.size + 1, j, none⟩ (.int .u8 (m : Int))) := by
  have e : ∀ c, (wz.setCell ⟨wr.heap.size + 1, j, none⟩ (.int .u8 (m : Int))).cell? ⟨wr.heap.size, c, none⟩ = wz.cell? ⟨wr.heap.size, c, none⟩ := fun c => World.cell?_setCell_other _ _ _ _ (by simp)
  refine ⟨h.below.setCell (by simp) _, by rw [nblk_setCell]; exact h.size, by rw [e]; exact h.q0, by rw [e]; exact h.q1, by rw [e]; exact h.q2, by rw [e]; exact h.q3, fun x hx => ?_, fun x => by rw [World.frozen?_setCell]; exact h.frz x⟩
  by_cases hxj : j = x
  · subst hxj
    rw [World.cell?_setCell_same _ _ _ (h.d j hj)]
    simp
  · rw [World.cell?_setCell_other _ _ _ _ (by simp [hxj]), h.d x hx]
    have : (x < j + 1) = (x < j) := by simp; omega
    simp [this]

theorem Fill.bytes {p o t m n : Nat} {wr wz : World} (h : Fill p o t m n n wr wz) (hs : St bud N dn f ca Lc Lm ob obm ma mcap B w wr) : BytesS N ob obm (some ⟨wr.heap.size + 1, 0, none⟩) n wz := fun _ => by
  have sz := hs.sz
  refine ⟨wr.heap.size + 1, 0, fun _ => (m : Int), rfl, ⟨by omega, by omega, by omega, fun e => ?_, fun e => ?_⟩, by have := h.size; omega, fun i hi => ?_⟩
  · obtain ⟨_, _, _, hR⟩ := hs.cache.c3
    have := hR.lt (by omega) _ e
    omega
  · have := hs.row.lt (by omega) _ e
    omega
  · rw [Nat.zero_add, h.d i hi]; simp [hi]

/-- The pack's pointer out of the array. -/
theorem St.pack (h : St bud N dn f ca Lc Lm ob obm ma mcap B w wr) (p q : Nat) (hp : p < 2) (hq : q < 4) : wr.cell? ⟨N + 5, p, none⟩ = some (.pointer (some ⟨pk (N + 3) (N + 4) (p * 4 + q), 0, none⟩)) := by
  have : p = 0 ∨ p = 1 := by omega
  rcases this with rfl | rfl
  · have : (0 * 4 + q) / 4 = 0 := by omega
    simp only [pk, this, if_true]
    exact h.arr0
  · have : ¬ ((1 * 4 + q) / 4 = 0) := by omega
    simp only [pk, this, if_false]
    exact h.arr1

/-- keepObject on the state. -/
theorem St.keeps (h : St bud N dn f ca Lc Lm ob obm ma mcap B w wr) (e : E) (hk : e.k < 8) (hl : e.len ≤ 1073741824) (ht : total Lc ≤ 1073741824) (hn : Lc.length ≤ 10000) (hbud : -9223372036854775808 ≤ bud ∧ bud ≤ 9223372036854775807) (he : BytesS N ob obm e.a e.len wr) :
    Calls Yba.prog 4 #[.pointer (some ⟨N + 2, 0, none⟩), .pointer (some ⟨pk (N + 3) (N + 4) e.k, 0, none⟩), .int .i64 ((e.k % 4 : Nat) : Int), .int .u8 e.t, .slice e.a e.len e.cap] wr fun x w' => x = .returned (.bool (hasK (putL bud e Lc) e.k)) ∧
      ∃ ob', St bud N dn f ca (putL bud e Lc) Lm ob' obm ma mcap B w w' ∧ BytesS N ob' obm e.a e.len w' ∧ wr.heap.size ≤ w'.heap.size ∧ (∀ i, i < wr.heap.size → Safe N ob obm i → w'.heap[i]? = wr.heap[i]?) := by
  refine (keep_any h.cache h.lk e hk hl ht hn (fun k hkk => ?_) (by omega) ⟨by omega, by omega, by omega, by omega⟩ ⟨by omega, by omega, by omega, by omega⟩ hbud).mono ?_
  · have := (h.o1 k hkk).1
    exact ⟨by omega, by omega, by omega, by omega, by omega⟩
  · rintro x w' ⟨rfl, hlk, ob', hc, hkp, ho⟩
    obtain ⟨h1, h2⟩ := h.keep he hlk hc hkp ho
    refine ⟨rfl, ob', h1, h2, hkp.size, fun i hi s => hkp.block i hi (fun hh => ?_)⟩
    obtain ⟨s1, s2, s3, s4, _⟩ := s
    rcases hh with e1 | e1 | e1 | e1
    · exact s2 e1
    · exact s1 e1
    · exact s3 e1
    · exact s4 e1


theorem St.drew (h : St bud N dn f ca Lc Lm ob obm ma mcap B w wr) : St bud N dn f ca Lc Lm ob obm ma mcap B w wr.drew := h.later ((Below.refl _ _).drew)

/-- Behind keepObject, in a step of the script; q: the block of the step's copy. -/
def PostK (bud : Int) (N dn : Nat) (f : Nat → Int) (ca : Option Addr) (L : List E) (obm : Option Nat) (ma : Option Addr) (mcap B : Nat) (w : World) (e : E) (q : Nat) (t : Int) (wx : World) : Prop :=
  ∃ ob', St bud N dn f ca (putL bud e L) L ob' obm ma mcap B w wx ∧ BytesS N ob' obm e.a e.len wx ∧ wx.cell? ⟨q, 2, none⟩ = some (.int .u8 t)

theorem St.keepsAt (h : St bud N dn f ca Lc Lc ob obm ma mcap B w wr) {e : E} (hk : e.k < 8) (hl : e.len ≤ 1073741824) (ht : total Lc ≤ 1073741824) (hn : Lc.length ≤ 10000) (hbud : -9223372036854775808 ≤ bud ∧ bud ≤ 9223372036854775807) (he : BytesS N ob obm e.a e.len wr) {q : Nat} {tq : Int} (hs : Safe N ob obm q) (hq : wr.cell? ⟨q, 2, none⟩ = some (.int .u8 tq))
    {a : Option Addr} {len cap pp : Nat} {t o4 : Int} (ea : e.a = a) (el : e.len = len) (ec : e.cap = cap) (et : e.t = t) (eo : ((e.k % 4 : Nat) : Int) = o4) (ep : pk (N + 3) (N + 4) e.k = pp) :
    Calls Yba.prog 4 #[.pointer (some ⟨N + 2, 0, none⟩), .pointer (some ⟨pp, 0, none⟩), .int .i64 o4, .int .u8 t, .slice a len cap] wr.drew fun x w' => x = .returned (.bool (hasK (putL bud e Lc) e.k)) ∧ PostK bud N dn f ca Lc obm ma mcap B w e q tq w' := by
  subst ea el ec et eo ep
  refine (h.drew.keeps e hk hl ht hn hbud (he.step (fun _ _ _ => rfl) (Nat.le_refl _) (fun _ hk => .inl hk) (fun _ hk => .inl hk))).mono ?_
  rintro x w' ⟨rfl, ob', h1, h2, h3, h4⟩
  exact ⟨rfl, ob', h1, h2, by rw [cell_of_block (h4 q (cell_lt hq) hs)]; exact hq⟩

/-- The model's step on the state. -/
theorem St.modelsAt (h : St bud N dn f ca Lc Lm ob obm ma mcap B w wr) {e : E} (he : BytesS N ob obm e.a e.len wr) (hk : e.k < 8) (hl : e.len ≤ 1073741824) (ht : total Lm ≤ 1073741824) (hn : Lm.length ≤ 10000)
    {a : Option Addr} {len cap : Nat} {t k : Int} (ea : e.a = a) (el : e.len = len) (ec : e.cap = cap) (et : e.t = t) (ek : (e.k : Int) = k) :
    Calls Yba.prog 7 #[.slice ma Lm.length mcap, .int .i64 (total Lm : Int), .int .i64 bud, .agg #[.int .i64 k, .int .u8 t, .slice a len cap]] wr fun x w' =>
      ∃ ma' mcap' obm', x = .returned (.tuple #[.slice ma' (putL bud e Lm).length mcap', .int .i64 (total (putL bud e Lm) : Int), .bool (wantB bud e Lm)]) ∧ St bud N dn f ca Lc (putL bud e Lm) ob obm' ma' mcap' B w w' := by
  subst ea el ec et ek
  refine (model_any h.row e hk hl ht hn).mono ?_
  rintro x w' ⟨a', cap', ob', rfl, hr, hkp, ho⟩
  exact ⟨a', cap', ob', rfl, h.model he hr hkp ho⟩


theorem St.keepsAt0 (h : St bud N dn f ca Lc Lm ob obm ma mcap B w wr) {e : E} (hk : e.k < 8) (hl : e.len ≤ 1073741824) (ht : total Lc ≤ 1073741824) (hn : Lc.length ≤ 10000) (hbud : -9223372036854775808 ≤ bud ∧ bud ≤ 9223372036854775807) (he : BytesS N ob obm e.a e.len wr)
    {a : Option Addr} {len cap pp : Nat} {t o4 : Int} (ea : e.a = a) (el : e.len = len) (ec : e.cap = cap) (et : e.t = t) (eo : ((e.k % 4 : Nat) : Int) = o4) (ep : pk (N + 3) (N + 4) e.k = pp) :
    Calls Yba.prog 4 #[.pointer (some ⟨N + 2, 0, none⟩), .pointer (some ⟨pp, 0, none⟩), .int .i64 o4, .int .u8 t, .slice a len cap] wr fun x w' => x = .returned (.bool (hasK (putL bud e Lc) e.k)) ∧ ∃ ob', St bud N dn f ca (putL bud e Lc) Lm ob' obm ma mcap B w w' ∧ BytesS N ob' obm e.a e.len w' := by
  subst ea el ec et eo ep
  refine (h.keeps e hk hl ht hn hbud he).mono ?_
  rintro x w' ⟨rfl, ob', h1, h2, _, _⟩
  exact ⟨rfl, ob', h1, h2⟩

/-- The data that came in, under the state. -/
theorem St.old (h : St bud N dn f ca Lc Lm ob obm ma mcap B w wr) {b : Nat} (hb : b < B) : Safe N ob obm b ∧ wr.heap[b]? = w.heap[b]? := by
  have := h.le
  refine ⟨⟨by omega, by omega, by omega, fun e => ?_, fun e => ?_⟩, h.below.block b hb⟩
  · have := (h.o1 b e).1; omega
  · have := h.o2 b e; omega

/-- Get on the state; W: wr, and blocks laid since. -/
theorem St.gets (h : St bud N dn f ca Lc Lm ob obm ma mcap B w wr) {k pp : Nat} {o4 : Int} (hk : k < 8) (eo : ((k % 4 : Nat) : Int) = o4) (ep : pk (N + 3) (N + 4) k = pp) {t : Int} {a : Option Addr} {l c : Nat} (hv : objV Lc k = .agg #[.int .u8 t, .slice a l c]) (W : World) (hW : ∀ i, i < wr.heap.size → W.heap[i]? = wr.heap[i]?) :
    Calls Yba.prog 8 #[.pointer (some ⟨N + 1, 0, none⟩), .agg #[.pointer (some ⟨pp, 0, none⟩), .int .i64 o4]] W fun x w' => x = .returned (.tuple #[.agg #[.int .u8 t, .slice a l c], .bool (hasK Lc k)]) ∧ Below W.heap.size W w' := by
  subst eo ep
  rw [← hv]
  exact get_any (h.cache.below hW) hk

/-- Behind the look-up of key k: its value lies in block V. -/
def PostG (L : List E) (k : Nat) (t : Int) (a : Option Addr) (l c : Nat) (wr : World) (s34 s35 : Value) (wx : World) : Prop :=
  ∃ V, s34 = .pointer (some ⟨V, 0, none⟩) ∧ s35 = .bool (hasK L k) ∧ wx.cell? ⟨V, 0, none⟩ = some (.int .u8 t) ∧ wx.cell? ⟨V, 1, none⟩ = some (.slice a l c) ∧ Below wr.heap.size wr wx ∧ wr.heap.size ≤ V ∧ V < wx.heap.size

theorem objV_at {L : List E} (hk : KeysOk L) {j : Nat} {x : E} (hj : L[j]? = some x) : objV L x.k = .agg #[.int .u8 x.t, .slice x.a x.len x.cap] := by
  unfold objV
  have hm := List.mem_of_getElem? hj
  cases hf : L.find? (·.k == x.k) with
  | none =>
    have := List.find?_eq_none.1 hf x hm
    simp at this
  | some y =>
    have hy : y.k = x.k := by simpa using List.find?_some hf
    have hym := List.mem_of_find?_eq_some hf
    obtain ⟨i, hi⟩ := List.getElem?_of_mem hym
    have h1 : (L.map (·.k))[i]? = some y.k := by simp [hi]
    have h2 : (L.map (·.k))[j]? = some x.k := by simp [hj]
    have hlt : i < (L.map (·.k)).length := by
      rcases Nat.lt_or_ge i (L.map (·.k)).length with h | h
      · exact h
      · rw [List.getElem?_eq_none h] at h1; cases h1
    have e1 := (List.getElem?_inj hlt hk.2).1 (h1.trans (by rw [hy]; exact h2.symm))
    subst e1
    rw [hi] at hj
    cases hj
    rfl

theorem hasK_true {L : List E} {j : Nat} {x : E} (hj : L[j]? = some x) : hasK L x.k = true := by
  unfold hasK
  rw [List.any_eq_true]
  exact ⟨x, List.mem_of_getElem? hj, by simp⟩

theorem hasK_false {L : List E} {k : Nat} (h : ∀ (j : Nat) (x : E), L[j]? = some x → x.k ≠ k) : hasK L k = false := by
  unfold hasK
  rw [List.any_eq_false]
  intro x hx
  obtain ⟨j, hj⟩ := List.getElem?_of_mem hx
  simpa using h j x hj

end Go.Proofs.Ybulkeila

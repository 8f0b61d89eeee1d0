/-
  The cache's map: keyed by a struct of a pointer and an int64, written out entry by entry; L: what it holds, oldest first.
-/
import Derived.Test.YbulkeilaRows
import Derived.LaidEql
import Derived.Maps.RangeWalk
import Derived.Deep.Heap
import Derived.WalkKit
namespace Go.Proofs.Ybulkeila
open Go
open Go.ChangeMaps (setBlock)
set_option linter.unusedSimpArgs false

section
variable {P : Program} (w : World)

theorem findAsking_none {kt : TypeId} {k : Value} : ∀ (es : List MapEntry) (i : Nat), (∀ e ∈ es, (Op.equal kt k e.key).run P w = .ok false w) → (Instr.findAsking kt k es i).run P w = .ok none w
  | [], i, _ => by simp [Instr.findAsking]
  | e :: es, i, h => by
    simp [Instr.findAsking, h e (by simp), findAsking_none es (i + 1) (fun x hx => h x (by simp [hx]))]

theorem findAsking_some {kt : TypeId} {k : Value} {e0 : MapEntry} : ∀ (es : List MapEntry) (i j : Nat), es[j]? = some e0 → (∀ l e, l < j → es[l]? = some e → (Op.equal kt k e.key).run P w = .ok false w) → (Op.equal kt k e0.key).run P w = .ok true w →
    (Instr.findAsking kt k es i).run P w = .ok (some (i + j, e0.val)) w
  | [], i, j, h, _, _ => by simp at h
  | e :: es, i, 0, h, _, ht => by
    simp at h
    subst h
    simp [Instr.findAsking, ht]
  | e :: es, i, j + 1, h, hf, ht => by
    have h0 := hf 0 e (by omega) (by simp)
    have := findAsking_some es (i + 1) j (by simpa using h) (fun l x hl hx => hf (l + 1) x (by omega) (by simpa using hx)) ht
    simp [Instr.findAsking, h0, this]
    omega

theorem findKey_struct {kt : TypeId} {fs : Array Field} (hp : P.underlying kt = some (.struct fs)) (k : Value) (es : List MapEntry) {r : Option (Nat × Value)} (h : (Instr.findAsking kt k es 0).run P w = .ok r w) :
    (Instr.findKey kt k es).run P w = .ok r w := by
  cases es with
  | nil =>
    simp [Instr.findAsking] at h
    simp [Instr.findKey, run_underlying hp, Instr.findNow, h]
  | cons e es =>
    have hn : Instr.findNow (.struct fs) k (e :: es) 0 = none := by simp [Instr.findNow, Instr.sameNow]
    simp [Instr.findKey, run_underlying hp, hn, h]
end

/-! ### the key: 'entryKey{packs[k / 4], k % 4}' -/
def pk (p0 p1 : Nat) (k : Nat) : Nat := if k / 4 = 0 then p0 else p1
def keyV (p0 p1 k : Nat) : Value := .agg #[.pointer (some ⟨pk p0 p1 k, 0, none⟩), .int .i64 ((k % 4 : Nat) : Int)]

/-- The two packs. -/
def Packs (p0 p1 : Nat) (w : World) : Prop := p0 ≠ p1 ∧ (∃ c, w.heap[p0]? = some (.cells c 46)) ∧ ∃ c, w.heap[p1]? = some (.cells c 46)

theorem inf46 : (Yba.prog.info? 46).map (fun i => decide (i.size = 0)) = some false := by kernel_rfl
theorem stood73 : Yba.prog.stoodInHeld 73 = false := by kernel_rfl

theorem eq_ptr {w : World} (d : Nat) {a b : Nat} (h : a = b ∨ (∃ c t, w.heap[a]? = some (.cells c t (0, 0))) ∧ ∃ c t, w.heap[b]? = some (.cells c t (0, 0))) :
    (Op.equalIn (d + 1) 26 (.pointer (some ⟨a, 0, none⟩)) (.pointer (some ⟨b, 0, none⟩))).run Yba.prog w = .ok (decide (a = b)) w := by
  obtain ⟨i, hi, hh⟩ := Option.map_eq_some_iff.1 inf46
  have hsz : i.size ≠ 0 := by simpa using hh
  by_cases e : a = b
  · subst e
    simp [Op.equalIn, run_underlying Yba.underlying26, sizeOf, hi, typeInfo, run_sameAddr_same]
  · rcases h with h | ⟨⟨ca, ta, ha⟩, cb, tb, hb⟩
    · exact absurd h e
    · simp [Op.equalIn, run_underlying Yba.underlying26, sizeOf, hi, hsz, typeInfo, run_sameAddr_other (P := Yba.prog) w (a := ⟨a, 0, none⟩) (b := ⟨b, 0, none⟩) (by simp [e]) ha hb, e]

theorem eq_off {w : World} (d : Nat) (x y : Int) : (Op.equalIn (d + 1) 2 (.int .i64 x) (.int .i64 y)).run Yba.prog w = .ok (x == y) w := by
  simp [Op.equalIn, run_underlying Yba.underlying2]

theorem part26 (a b : Value) (w : World) : (part 26 #[a, b] 0).run Yba.prog w = .ok a w := by kernel_rfl
theorem part2 (a b : Value) (w : World) : (part 2 #[a, b] 1).run Yba.prog w = .ok b w := by kernel_rfl

theorem eq_key {p0 p1 : Nat} {w : World} (hp : Packs p0 p1 w) {j k : Nat} (hj : j < 8) (hk : k < 8) : (Op.equal 73 (keyV p0 p1 j) (keyV p0 p1 k)).run Yba.prog w = .ok (decide (j = k)) w := by
  obtain ⟨hne, ⟨c0, h0⟩, c1, h1⟩ := hp
  have hpk : ∀ i, ∃ c t, w.heap[pk p0 p1 i]? = some (.cells c t (0, 0)) := fun i => by
    unfold pk
    split
    · exact ⟨_, _, h0⟩
    · exact ⟨_, _, h1⟩
  have he : ∀ d : Nat, (Op.equalIn (d + 2) 73 (keyV p0 p1 j) (keyV p0 p1 k)).run Yba.prog w = .ok (decide (j = k)) w := fun d => by
    have e1 := eq_ptr (w := w) d (a := pk p0 p1 j) (b := pk p0 p1 k) (.inr ⟨hpk j, hpk k⟩)
    have e2 := eq_off (w := w) d ((j % 4 : Nat) : Int) ((k % 4 : Nat) : Int)
    have hc : decide (j = k) = (decide (pk p0 p1 j = pk p0 p1 k) && (((j % 4 : Nat) : Int) == ((k % 4 : Nat) : Int))) := by
      by_cases e : j = k
      · subst e; simp
      · by_cases e4 : j % 4 = k % 4
        · have hpp : pk p0 p1 j ≠ pk p0 p1 k := by
            unfold pk
            by_cases ej : j / 4 = 0
            · have ek : k / 4 ≠ 0 := by omega
              simp [ej, ek, hne]
            · have ek : k / 4 = 0 := by omega
              simp [ej, ek, Ne.symm hne]
          simp [e, hpp]
        · have : ¬ (((j % 4 : Nat) : Int) = ((k % 4 : Nat) : Int)) := by omega
          simp [e]
          omega
    rw [hc]
    have hf : (Yba.prog.fieldsOf 73).toList = [{ name := "p", type := 26, offset := 0, embedded := false, tag := "", pkgPath := "example.com/packwire/packwire/internal/pack", byteOffset := 0 }, { name := "off", type := 2, offset := 1, embedded := false, tag := "", pkgPath := "example.com/packwire/packwire/internal/pack", byteOffset := 8 }] := by
      simp [Program.fieldsOf, Yba.underlying73]
    rw [keyV, keyV, run_equalIn_struct w (d + 1) 73 _ _ (by simp [Program.fieldsOf, Yba.underlying73]) stood73, hf]
    simp only [Op.eqFields, Sem.run_bind, part26, part2, Result.andThen_ok, e1, e2, Sem.run_ite, ne_eq, String.reduceEq, not_false_eq_true, if_true]
    generalize (((j % 4 : Nat) : Int) == ((k % 4 : Nat) : Int)) = b4
    generalize decide (pk p0 p1 j = pk p0 p1 k) = b5
    cases b4 <;> cases b5 <;> rfl
  simp only [Op.equal, Op.maxDepth]
  exact he 9998

theorem check_key (w : World) (em : Bool) (x y : Value) : (Instr.checkKey em 10000 73 (.agg #[x, y])).run Yba.prog w = .ok () w := by kernel_rfl
theorem check_keyV (w : World) (em : Bool) (p0 p1 k : Nat) : (Instr.checkKey em 10000 73 (keyV p0 p1 k)).run Yba.prog w = .ok () w := check_key w em _ _
theorem zero79 (w : World) : (zeroValue 79).run Yba.prog w = .ok (.agg #[.int .u8 0, .slice none 0 0, .int .i64 0]) w := by kernel_rfl

/-- ONE OBJECT KEPT: its key (k = 4 * pack + offset), its type, its data. -/
structure E where
  k : Nat
  t : Int
  a : Option Addr
  len : Nat
  cap : Nat

def valV (e : E) : Value := .agg #[.int .u8 e.t, .slice e.a e.len e.cap, .int .i64 e.len]

/-- The map's entries are those of L, oldest first. -/
def MapIs (p0 p1 : Nat) (es : Array MapEntry) (L : List E) : Prop := es.toList.map (fun x => (x.key, x.val)) = L.map fun e => (keyV p0 p1 e.k, valV e)

/-- No key twice. -/
def KeysOk (L : List E) : Prop := (∀ e ∈ L, e.k < 8) ∧ (L.map (·.k)).Nodup

theorem MapIs.at {p0 p1 : Nat} {es : Array MapEntry} {L : List E} (h : MapIs p0 p1 es L) (j : Nat) : (es.toList[j]?).map (fun x => (x.key, x.val)) = (L[j]?).map fun e => (keyV p0 p1 e.k, valV e) := by
  have := congrArg (fun l => l[j]?) h
  simpa using this

theorem MapIs.size {p0 p1 : Nat} {es : Array MapEntry} {L : List E} (h : MapIs p0 p1 es L) : es.size = L.length := by
  have := congrArg List.length h
  simpa using this

section
variable {p0 p1 : Nat} {w : World} {es : Array MapEntry} {L : List E} {bm clock : Nat}

theorem find_none (hp : Packs p0 p1 w) (h : MapIs p0 p1 es L) (hk : KeysOk L) {k : Nat} (hk8 : k < 8) (hn : ∀ e ∈ L, e.k ≠ k) : (Instr.findKey 73 (keyV p0 p1 k) es.toList).run Yba.prog w = .ok none w := by
  refine findKey_struct w Yba.underlying73 _ _ (findAsking_none w _ _ fun x hx => ?_)
  obtain ⟨j, hj⟩ := List.getElem?_of_mem hx
  have hat := h.at j
  rw [hj] at hat
  cases hL : L[j]? with
  | none => rw [hL] at hat; simp at hat
  | some e =>
    rw [hL] at hat
    simp only [Option.map_some, Option.some.injEq, Prod.mk.injEq] at hat
    have hm : e ∈ L := List.mem_of_getElem? hL
    rw [hat.1, eq_key hp hk8 (hk.1 e hm)]
    have := hn e hm
    simp [Ne.symm this]

theorem find_some (hp : Packs p0 p1 w) (h : MapIs p0 p1 es L) (hk : KeysOk L) {j : Nat} {e : E} (hj : L[j]? = some e) : (Instr.findKey 73 (keyV p0 p1 e.k) es.toList).run Yba.prog w = .ok (some (j, valV e)) w := by
  have hat := h.at j
  rw [hj] at hat
  cases hx : es.toList[j]? with
  | none => rw [hx] at hat; simp at hat
  | some x =>
    rw [hx] at hat
    simp only [Option.map_some, Option.some.injEq, Prod.mk.injEq] at hat
    have he8 := hk.1 e (List.mem_of_getElem? hj)
    have := findAsking_some (P := Yba.prog) w (kt := 73) (k := keyV p0 p1 e.k) es.toList 0 j hx ?_ ?_
    · rw [hat.2, Nat.zero_add] at this
      exact findKey_struct w Yba.underlying73 _ _ this
    · intro l y hl hy
      have hat2 := h.at l
      rw [hy] at hat2
      cases hL2 : L[l]? with
      | none => rw [hL2] at hat2; simp at hat2
      | some e2 =>
        rw [hL2] at hat2
        simp only [Option.map_some, Option.some.injEq, Prod.mk.injEq] at hat2
        rw [hat2.1, eq_key hp he8 (hk.1 e2 (List.mem_of_getElem? hL2))]
        have hne : e.k ≠ e2.k := by
          intro e1
          have h1 : (L.map (·.k))[l]? = some e2.k := by simp [hL2]
          have h2 : (L.map (·.k))[j]? = some e.k := by simp [hj]
          have hlt : l < (L.map (·.k)).length := by
            rcases Nat.lt_or_ge l (L.map (·.k)).length with h | h
            · exact h
            · rw [List.getElem?_eq_none h] at h1; cases h1
          have := (List.getElem?_inj hlt hk.2).1 (h1.trans (by rw [← e1]; exact h2.symm))
          omega
        simp [hne]
    · rw [hat.1, eq_key hp he8 he8]; simp

/-- What a look-up hands back. -/
def lookV (L : List E) (k : Nat) : Value := match L.find? (·.k == k) with | some e => valV e | none => .agg #[.int .u8 0, .slice none 0 0, .int .i64 0]
def hasK (L : List E) (k : Nat) : Bool := L.any (·.k == k)

theorem look_ok (hb : w.heap[bm]? = some (.map es clock)) (hp : Packs p0 p1 w) (h : MapIs p0 p1 es L) (hk : KeysOk L) {k : Nat} (hk8 : k < 8) :
    (Instr.lookup 81 (.map (some bm)) (keyV p0 p1 k) true).run Yba.prog w = .ok (.tuple #[lookV L k, .bool (hasK L k)]) w := by
  unfold lookV hasK
  cases hf : L.find? (·.k == k) with
  | none =>
    have hn : ∀ e ∈ L, e.k ≠ k := fun e he => by simpa using List.find?_eq_none.1 hf e he
    have ha : L.any (·.k == k) = false := by simpa using hn
    rw [ha]
    have hfind := find_none (w := w) hp h hk hk8 hn
    simp only [Instr.lookup, Sem.run_bind, run_underlying Yba.underlying81, Result.andThen_ok, MapKept.run_getObj_map hb, Sem.run_pure]
    simp [check_keyV, hfind, zero79]
  | some e =>
    have hek : e.k = k := by simpa using List.find?_some hf
    subst hek
    have hm := List.mem_of_find?_eq_some hf
    obtain ⟨j, hj⟩ := List.getElem?_of_mem hm
    have ha : L.any (·.k == e.k) = true := by simpa using ⟨e, hm, rfl⟩
    rw [ha]
    have hfind := find_some (w := w) hp h hk hj
    simp only [Instr.lookup, Sem.run_bind, run_underlying Yba.underlying81, Result.andThen_ok, MapKept.run_getObj_map hb, Sem.run_pure]
    simp [check_keyV, hfind]

/-- 'm[k]' at the oldest. -/
theorem look_head {e : E} {r : List E} (hb : w.heap[bm]? = some (.map es clock)) (hp : Packs p0 p1 w) (h : MapIs p0 p1 es (e :: r)) (hk : KeysOk (e :: r)) :
    (Instr.lookup 81 (.map (some bm)) (keyV p0 p1 e.k) false).run Yba.prog w = .ok (valV e) w := by
  have hfind := find_some (w := w) hp h hk (j := 0) (e := e) rfl
  simp only [Instr.lookup, Sem.run_bind, run_underlying Yba.underlying81, Result.andThen_ok, MapKept.run_getObj_map hb, Sem.run_pure]
  simp [check_keyV, hfind]

/-- 'delete(m, the oldest's key)'. -/
theorem drop_head {e : E} {r : List E} (hb : w.heap[bm]? = some (.map es clock)) (hp : Packs p0 p1 w) (h : MapIs p0 p1 es (e :: r)) (hk : KeysOk (e :: r)) (ty : TypeId) :
    (Builtin.delete_ #[81, 73] ty #[.map (some bm), keyV p0 p1 e.k]).run Yba.prog w = .ok (.tuple #[]) (setBlock w bm (.map (es.eraseIdxIfInBounds 0) clock)) ∧ MapIs p0 p1 (es.eraseIdxIfInBounds 0) r := by
  have hfind := find_some (w := w) hp h hk (j := 0) (e := e) rfl
  constructor
  · simp [Builtin.delete_, run_underlying Yba.underlying81, MapKept.run_getObj_map hb, check_keyV, hfind, setObj, Sem.run, hb, setBlock]
  · unfold MapIs at h ⊢
    cases hes : es.toList with
    | nil => rw [hes] at h; simp at h
    | cons x xs =>
      rw [hes] at h
      simp only [List.map_cons, List.cons.injEq] at h
      have : (es.eraseIdxIfInBounds 0).toList = xs := by
        rw [Array.toList_eraseIdxIfInBounds, hes]
        rfl
      rw [this]
      exact h.2

/-- 'm[k] = v', k new. -/
theorem store_new {e : E} (hb : w.heap[bm]? = some (.map es clock)) (hp : Packs p0 p1 w) (h : MapIs p0 p1 es L) (hk : KeysOk L) (hk8 : e.k < 8) (hn : ∀ x ∈ L, x.k ≠ e.k) :
    (Instr.mapUpdate 81 (.map (some bm)) (keyV p0 p1 e.k) (valV e)).run Yba.prog w = .ok () (setBlock w bm (.map (es.push { key := keyV p0 p1 e.k, val := valV e, born := clock }) (clock + 1))) ∧
      MapIs p0 p1 (es.push { key := keyV p0 p1 e.k, val := valV e, born := clock }) (L ++ [e]) ∧ KeysOk (L ++ [e]) := by
  have hfind := find_none (w := w) hp h hk hk8 hn
  refine ⟨?_, ?_, ?_, ?_⟩
  · simp [Instr.mapUpdate, run_underlying Yba.underlying81, MapKept.run_getObj_map hb, check_keyV, hfind, setObj, Sem.run, hb, setBlock]
  · unfold MapIs at h ⊢
    simp [h]
  · intro x hx
    rcases List.mem_append.1 hx with hx | hx
    · exact hk.1 x hx
    · simp at hx; subst hx; exact hk8
  · rw [List.map_append, List.map_singleton]
    refine List.nodup_append.2 ⟨hk.2, by simp, fun a ha b hb' => ?_⟩
    obtain ⟨x, hx, rfl⟩ := List.mem_map.1 ha
    simp at hb'
    subst hb'
    exact hn x hx
end

end Go.Proofs.Ybulkeila

/-
  A map keyed by pointers whose block is written out entry by entry: finding a key, look-up, a store at a new key.
  No project text.
-/
import Derived.LaidEql
import Derived.Maps.RangeWalk
import Derived.Deep.Heap
namespace Go.Proofs.Ybulkeijk
open Go
open Go.ChangeMaps (setBlock)

section
variable {P : Program} (w : World)

theorem eq_ptr_same {kt te : TypeId} {j : TypeInfo} (hp : P.underlying kt = some (.pointer te)) (hte : P.info? te = some j) (a : Addr) :
    (Op.equal kt (.pointer (some a)) (.pointer (some a))).run P w = .ok true w := by
  have h : ∀ d : Nat, (Op.equalIn (d + 1) kt (.pointer (some a)) (.pointer (some a))).run P w = .ok true w := fun d => by
    simp [Op.equalIn, run_underlying hp, sizeOf, hte, typeInfo, run_sameAddr_same]
  simp only [Op.equal, Op.maxDepth]
  exact h 9999

theorem eq_ptr_other {kt te : TypeId} {j : TypeInfo} (hp : P.underlying kt = some (.pointer te)) (hte : P.info? te = some j) (hsz : j.size ≠ 0) {a b : Addr} {ca cb : Array Value} {ta tb : TypeId}
    (hne : a ≠ b) (ha : w.heap[a.block]? = some (.cells ca ta (0, 0))) (hb : w.heap[b.block]? = some (.cells cb tb (0, 0))) :
    (Op.equal kt (.pointer (some a)) (.pointer (some b))).run P w = .ok false w := by
  have h : ∀ d : Nat, (Op.equalIn (d + 1) kt (.pointer (some a)) (.pointer (some b))).run P w = .ok false w := fun d => by
    simp [Op.equalIn, run_underlying hp, sizeOf, hte, hsz, typeInfo, run_sameAddr_other w hne ha hb]
  simp only [Op.equal, Op.maxDepth]
  exact h 9999

theorem findAsking_none {kt : TypeId} {k : Value} : ∀ (es : List MapEntry) (i : Nat), (∀ e ∈ es, (Op.equal kt k e.key).run P w = .ok false w) → (Instr.findAsking kt k es i).run P w = .ok none w
  | [], i, _ => by simp [Instr.findAsking]
  | e :: es, i, h => by
    simp [Instr.findAsking, h e (by simp), findAsking_none es (i + 1) (fun x hx => h x (by simp [hx]))]

theorem findAsking_some {kt : TypeId} {k : Value} {e0 : MapEntry} : ∀ (es : List MapEntry) (i j : Nat), es[j]? = some e0 → (∀ l e, l < j → es[l]? = some e → (Op.equal kt k e.key).run P w = .ok false w) → (Op.equal kt k e0.key).run P w = .ok true w →
    (Instr.findAsking kt k es i).run P w = .ok (some (i + j, e0.val)) w
  | [], i, j, h, _, _ => by simp at h
  | e :: es, i, 0, h, _, ht => by
    simp at h
    subst h
    simp [Instr.findAsking, ht]
  | e :: es, i, j + 1, h, hf, ht => by
    have h0 := hf 0 e (by omega) (by simp)
    have := findAsking_some es (i + 1) j (by simpa using h) (fun l x hl hx => hf (l + 1) x (by omega) (by simpa using hx)) ht
    simp [Instr.findAsking, h0, this]
    omega

theorem findKey_ptr {kt te : TypeId} (hp : P.underlying kt = some (.pointer te)) (k : Value) (es : List MapEntry) {r : Option (Nat × Value)} (h : (Instr.findAsking kt k es 0).run P w = .ok r w) :
    (Instr.findKey kt k es).run P w = .ok r w := by
  cases es with
  | nil =>
    simp [Instr.findAsking] at h
    simp [Instr.findKey, run_underlying hp, Instr.findNow, h]
  | cons e es =>
    have hn : Instr.findNow (.pointer te) k (e :: es) 0 = none := by simp [Instr.findNow, Instr.sameNow]
    simp [Instr.findKey, run_underlying hp, hn, h]

theorem checkKey_ptr {kt te : TypeId} (hp : P.underlying kt = some (.pointer te)) (em : Bool) (k : Value) : (Instr.checkKey em 10000 kt k).run P w = .ok () w := by
  have h : ∀ n : Nat, (Instr.checkKey em (n + 1) kt k).run P w = .ok () w := fun n => by
    simp [Instr.checkKey, run_underlying hp]
  exact h 9999

/-- 'v, ok := m[k]', the key at place j. -/
theorem look_ptr {t kt te el : TypeId} (ht : P.underlying t = some (.map kt el)) (hp : P.underlying kt = some (.pointer te)) {bm : Nat} {es : Array MapEntry} {clock : Nat} (hb : w.heap[bm]? = some (.map es clock)) {k : Value} {j : Nat} {e0 : MapEntry}
    (hj : es.toList[j]? = some e0) (hf : ∀ l e, l < j → es.toList[l]? = some e → (Op.equal kt k e.key).run P w = .ok false w) (he : (Op.equal kt k e0.key).run P w = .ok true w) :
    (Instr.lookup t (.map (some bm)) k true).run P w = .ok (.tuple #[e0.val, .bool true]) w := by
  have hfind := findKey_ptr w hp k es.toList (findAsking_some w es.toList 0 j hj hf he)
  simp [Instr.lookup, run_underlying ht, MapKept.run_getObj_map hb, checkKey_ptr w hp, hfind]

/-- 'm[k] = v', the key new. -/
theorem store_ptr {t kt te el : TypeId} (ht : P.underlying t = some (.map kt el)) (hp : P.underlying kt = some (.pointer te)) {bm : Nat} {es : Array MapEntry} {clock : Nat} (hb : w.heap[bm]? = some (.map es clock)) {k v : Value}
    (hf : ∀ e ∈ es.toList, (Op.equal kt k e.key).run P w = .ok false w) :
    (Instr.mapUpdate t (.map (some bm)) k v).run P w = .ok () (setBlock w bm (.map (es.push { key := k, val := v, born := clock }) (clock + 1))) := by
  have hfind := findKey_ptr w hp k es.toList (findAsking_none w es.toList 0 hf)
  simp [Instr.mapUpdate, run_underlying ht, MapKept.run_getObj_map hb, checkKey_ptr w hp, hfind, setObj, Sem.run, hb, setBlock]

end

section
variable {P : Program} (w : World) {ops : Array Oper} {rest : List Oper} {o : Oper} {a : Act} {Q : Exit → Act → World → Prop}

theorem wpList_store_ptr (hg : o.guard = none) (m x v : Operand) (t : TypeId) (hop : o.op = Op.mapUpdate t m x v) {kt te el : TypeId} (ht : P.underlying t = some (.map kt el)) (hp : P.underlying kt = some (.pointer te))
    (bm : Nat) (es : Array MapEntry) (clock : Nat) (hm : a.eval m = .map (some bm)) (hb : w.heap[bm]? = some (.map es clock)) (key val : Value) (hx : a.eval x = key) (hv : a.eval v = val)
    (hf : ∀ e ∈ es.toList, (Op.equal kt key e.key).run P w = .ok false w)
    (hK : ∀ w', w' = setBlock w bm (.map (es.push { key := key, val := val, born := clock }) (clock + 1)) → wpList P ops Q rest (a.put o.dst undef) w') :
    wpList P ops Q (o :: rest) a w := by
  refine wpList_plain hg fun K' hK' => ?_
  unfold Oper.wp
  simp [execOp, hop, hm, hx, hv, store_ptr w ht hp hb hf, Result.andThen]
  exact hK' _ _ (hK _ rfl)

theorem wpList_look_ptr (hg : o.guard = none) (m x : Operand) (t : TypeId) (hop : o.op = Op.lookup t m x true) {kt te el : TypeId} (ht : P.underlying t = some (.map kt el)) (hp : P.underlying kt = some (.pointer te))
    (bm : Nat) (es : Array MapEntry) (clock : Nat) (hm : a.eval m = .map (some bm)) (hb : w.heap[bm]? = some (.map es clock)) (key val : Value) (j : Nat) (born : Nat) (hx : a.eval x = key)
    (hj : es.toList[j]? = some { key := key, val := val, born := born }) (hf : ∀ l e, l < j → es.toList[l]? = some e → (Op.equal kt key e.key).run P w = .ok false w) (he : (Op.equal kt key key).run P w = .ok true w)
    (hK : wpList P ops Q rest (a.put o.dst (.tuple #[val, .bool true])) w) :
    wpList P ops Q (o :: rest) a w := by
  refine wpList_plain hg fun K' hK' => ?_
  unfold Oper.wp
  simp [execOp, hop, hm, hx, look_ptr w ht hp hb hj hf he, Result.andThen]
  exact hK' _ _ hK

theorem wpList_range_raw (hg : o.guard = none) (m : Operand) (t : TypeId) (hop : o.op = Op.range t m) {k e : TypeId} (ht : P.underlying t = some (.map k e)) (bm : Nat) (es : Array MapEntry) (clock : Nat)
    (hm : a.eval m = .map (some bm)) (hb : w.heap[bm]? = some (.map es clock))
    (hK : ∀ w', w' = w.alloc (.mapIter (some bm) clock #[] clock) → wpList P ops Q rest (a.put o.dst (.pointer (some ⟨w.heap.size, 0, none⟩))) w') :
    wpList P ops Q (o :: rest) a w := by
  refine wpList_plain hg fun K' hK' => ?_
  unfold Oper.wp
  simp [execOp, hop, hm, run_range_map w t k e bm es clock ht hb, Result.andThen]
  exact hK' _ _ (hK _ rfl)

/-- The iterator in block r has been stepped: it has handed out the entry stamped b. -/
def Stepped (w w' : World) (r bm since clock : Nat) (seen : Array Nat) (b : Nat) : Prop := ∃ w1 : World, (w1 = w ∨ w1 = w.drew) ∧ w' = setBlock w1 r (.mapIter (some bm) since (seen.push b) clock)
/-- Entry e is still to come. -/
def ToCome (es : Array MapEntry) (seen : Array Nat) (e : MapEntry) : Prop := e ∈ (leftOf es seen).toList
def NoneLeft (es : Array MapEntry) (seen : Array Nat) : Prop := (leftOf es seen).size = 0

theorem wpList_next_raw (hg : o.guard = none) (it : Operand) (hop : o.op = Op.next it false) (r bm since c0 : Nat) (seen : Array Nat) (es : Array MapEntry) (clock : Nat) (hit : a.eval it = .pointer (some ⟨r, 0, none⟩))
    (hr : w.heap[r]? = some (.mapIter (some bm) since seen c0)) (hb : w.heap[bm]? = some (.map es clock)) (hold : ∀ x ∈ es.toList, x.born < since) (hsc : since ≤ c0)
    (hn : (es.toList.map (·.born)).Nodup)
    (hDone : NoneLeft es seen → wpList P ops Q rest (a.put o.dst (.tuple #[.bool false])) w)
    (hMore : ∀ (e : MapEntry) (w' : World), ToCome es seen e → Stepped w w' r bm since clock seen e.born →
      (Instr.entry (.pointer (some ⟨r, 0, none⟩))).run P w' = .ok (.tuple #[e.key, e.val]) w' → wpList P ops Q rest (a.put o.dst (.tuple #[.bool true, e.key, e.val])) w') :
    wpList P ops Q (o :: rest) a w := by
  refine wpList_plain hg fun K' hK' => ?_
  unfold Oper.wp
  rcases run_next_at (P := P) w o.type r bm since c0 seen es clock hr hb hold hsc with ⟨h0, hrun⟩ | ⟨e, he, w1, h1, hrun⟩
  · simp [execOp, hop, hit, hrun, Result.andThen]
    exact hK' _ _ (hDone h0)
  · simp [execOp, hop, hit, hrun, Result.andThen]
    have hes : e ∈ es.toList := by
      simp [leftOf] at he
      simpa using he.1
    have hne : bm ≠ r := fun e1 => by rw [e1, hr] at hb; cases hb
    have hr1 : w1.heap[r]? = some (.mapIter (some bm) since seen c0) := by rcases h1 with rfl | rfl <;> exact hr
    have hb1 : w1.heap[bm]? = some (.map es clock) := by rcases h1 with rfl | rfl <;> exact hb
    refine hK' _ _ (hMore e _ he ⟨w1, h1, rfl⟩ (run_entry_at _ r bm since seen es clock e ?_ ?_ hes hn))
    · simp [setBlock, (Array.getElem?_eq_some_iff.1 hr1).1]
    · simp [setBlock, Ne.symm hne, hb1]
end

/-! the entries still to come, as one of them is handed out -/
theorem leftOf_push (es : Array MapEntry) (seen : Array Nat) (b : Nat) : (leftOf es (seen.push b)).toList = (leftOf es seen).toList.filter (fun e => e.born != b) := by
  simp only [leftOf, Array.toList_filter, List.filter_filter]
  apply List.filter_congr
  intro x _
  simp
  by_cases h : x.born = b <;> simp [h, bne, Bool.and_comm]

theorem filter_born_perm : ∀ (l : List MapEntry) (e : MapEntry), (l.map (·.born)).Nodup → e ∈ l → l.Perm (e :: l.filter (fun x => x.born != e.born))
  | [], _, _, h => by simp at h
  | x :: l, e, hn, he => by
    have hn' : x.born ∉ l.map (·.born) ∧ (l.map (·.born)).Nodup := List.nodup_cons.1 hn
    rcases List.mem_cons.1 he with rfl | h
    · have : l.filter (fun x => x.born != e.born) = l := by
        apply List.filter_eq_self.2
        intro y hy
        have : y.born ≠ e.born := fun e1 => hn'.1 (e1 ▸ List.mem_map.2 ⟨y, hy, rfl⟩)
        simp [this]
      simp [this]
    · have hx : x.born ≠ e.born := fun e1 => hn'.1 (e1 ▸ List.mem_map.2 ⟨e, h, rfl⟩)
      have ih := filter_born_perm l e hn'.2 h
      simp only [List.filter_cons, bne_iff_ne, ne_eq, hx, not_false_eq_true, if_true]
      exact (ih.cons x).trans (List.Perm.swap _ _ _)

/-- HOW MANY OF THOSE STILL TO COME ANSWER TO f. -/
def toCome (f : MapEntry → Bool) (es : Array MapEntry) (seen : Array Nat) : Nat := (leftOf es seen).toList.countP f

theorem toCome_push (f : MapEntry → Bool) {es : Array MapEntry} {seen : Array Nat} {e : MapEntry} (hn : (es.toList.map (·.born)).Nodup) (he : e ∈ (leftOf es seen).toList) :
    toCome f es seen = toCome f es (seen.push e.born) + (if f e then 1 else 0) := by
  have hl : ((leftOf es seen).toList.map (·.born)).Nodup := by
    simp only [leftOf, Array.toList_filter]
    exact hn.sublist (List.Sublist.map _ List.filter_sublist)
  have := (filter_born_perm _ e hl he).countP_eq f
  rw [toCome, toCome, this, leftOf_push, List.countP_cons]

theorem left_push_lt {es : Array MapEntry} {seen : Array Nat} {e : MapEntry} (hn : (es.toList.map (·.born)).Nodup) (he : e ∈ (leftOf es seen).toList) : (leftOf es (seen.push e.born)).size < (leftOf es seen).size := by
  have h := toCome_push (fun _ => true) hn he
  simp [toCome] at h
  omega

theorem toCome_none (f : MapEntry → Bool) {es : Array MapEntry} {seen : Array Nat} (h : (leftOf es seen).size = 0) : toCome f es seen = 0 := by
  have : leftOf es seen = #[] := Array.eq_empty_of_size_eq_zero h
  simp [toCome, this]

theorem toCome_all (f : MapEntry → Bool) (es : Array MapEntry) : toCome f es #[] = es.toList.countP f := by
  have : leftOf es #[] = es := by
    apply Array.toList_inj.1
    simp [leftOf]
  rw [toCome, this]

end Go.Proofs.Ybulkeijk

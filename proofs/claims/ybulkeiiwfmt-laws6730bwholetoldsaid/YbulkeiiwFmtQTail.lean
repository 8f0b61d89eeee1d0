/-
  A region that draws its order, whose operations only read and call (each callee's contract ends in 'Below'), BUT FOR ITS LAST ONE, which waits for all the others (a store): one walk, in the text's order, then the last operation.
-/
import Derived.Lib.QuietBelow
import Derived.BigQuiet
import Derived.Tactics
namespace Go.Proofs.YbulkeiiwFmt
open Go Go.RowKit Go.Sort

section
variable {P : Program} {C : World → Prop}

theorem wpQuiet_append {ops : Array Oper} {Q : Act → Prop} : ∀ (l m : List Oper) (a : Act), wpQuiet P ops C (wpQuiet P ops C Q m) l a → wpQuiet P ops C Q (l ++ m) a
  | [], _, _, h => h
  | o :: l, m, a, h => by
    have h' : if Region.wanted o (yielded ops a.tmps) then o.quiet P a C (wpQuiet P ops C (wpQuiet P ops C Q m) l) else wpQuiet P ops C (wpQuiet P ops C Q m) l (a.put o.dst undef) := h
    show if Region.wanted o (yielded ops a.tmps) then o.quiet P a C (wpQuiet P ops C Q (l ++ m)) else wpQuiet P ops C Q (l ++ m) (a.put o.dst undef)
    split
    · rename_i hw
      rw [if_pos hw] at h'
      exact Oper.quiet_mono (fun a' => wpQuiet_append l m a') h'
    · rename_i hw
      rw [if_neg hw] at h'
      exact wpQuiet_append l m _ h'

/-- Every binding edge leads back. -/
def edgesB (md : Region.Mode) (ops : Array Oper) : Bool := (List.range ops.size).all fun i => ((ops[i]?).map (·.after.all fun e => !Region.binds md e || decide (e.on < i))).getD true
/-- Operation n waits for each of those before it. -/
def lastB (md : Region.Mode) (ops : Array Oper) (n : Nat) : Bool := (List.range n).all fun i => ((ops[n]?).map (·.after.any fun e => Region.binds md e && e.on == i)).getD false

theorem ready_spec {md : Region.Mode} {ops : Array Oper} {listed : Array Bool} {i : Nat} : i ∈ Region.ready md ops listed ↔ i < ops.size ∧ listed.getD i true = false ∧ ∃ o, ops[i]? = some o ∧ ∀ e ∈ o.after, Region.binds md e = true → listed.getD e.on false = true := by
  unfold Region.ready
  rw [List.mem_filter, List.mem_range]
  constructor
  · rintro ⟨h1, h2⟩
    simp only [Bool.and_eq_true, Bool.not_eq_true'] at h2
    refine ⟨h1, h2.1, ?_⟩
    cases ho : ops[i]? with
    | none => rw [ho] at h2; simp at h2
    | some o =>
      refine ⟨o, rfl, fun e he hb => ?_⟩
      have h3 := h2.2
      rw [ho] at h3
      simp only [Option.map_some, Option.getD_some, Array.all_eq_true'] at h3
      have := h3 e he
      simpa [hb] using this
  · rintro ⟨h1, h2, o, ho, h3⟩
    refine ⟨h1, ?_⟩
    rw [ho, h2]
    simp only [Bool.not_false, Option.map_some, Option.getD_some, Bool.true_and, Array.all_eq_true']
    intro e he
    cases hb : Region.binds md e with
    | false => simp
    | true => simpa using h3 e he hb

/-- While one is unlisted, one is ready. -/
theorem ready_ne {md : Region.Mode} {ops : Array Oper} {listed : Array Bool} (hE : edgesB md ops = true) (hs : listed.size = ops.size) : ∀ (n : Nat), n < ops.size → listed.getD n true = false → Region.ready md ops listed ≠ [] := by
  intro n
  induction n using Nat.strongRecOn with
  | _ n ih =>
    intro hn hl
    by_cases hex : ∃ m, m < n ∧ listed.getD m true = false
    · obtain ⟨m, hm, hm'⟩ := hex
      exact ih m hm (by omega) hm'
    · have hall : ∀ m, m < n → listed.getD m false = true := fun m hm => by
        have h1 : listed.getD m true = true := by
          cases hc : listed.getD m true with
          | true => rfl
          | false => exact absurd ⟨m, hm, hc⟩ hex
        have hm' : m < listed.size := by omega
        simp only [Array.getD, hm', dif_pos] at h1 ⊢
        exact h1
      have hmem : n ∈ Region.ready md ops listed := by
        refine ready_spec.2 ⟨hn, hl, ops[n], Array.getElem?_eq_getElem hn, fun e he hb => hall _ ?_⟩
        have := List.all_eq_true.1 hE n (List.mem_range.2 hn)
        rw [Array.getElem?_eq_getElem hn] at this
        simp only [Option.map_some, Option.getD_some, Array.all_eq_true'] at this
        have h2 := this e he
        simpa [hb] using h2
      intro h0
      rw [h0] at hmem
      cases hmem

variable {ops ops' : Array Oper} {n : Nat} {st : Oper} {Q : Exit → Act → World → Prop}

theorem wpAny_of_tail {md : Region.Mode} (hsz : ops.size = n + 1) (hst : ops[n]? = some st) (hE : edgesB md ops = true) (hL : lastB md ops n = true) (hsz' : ops'.size = ops.size) (hh : ∀ i, i < n → ops'[i]? = ops[i]?) {nop : Oper} (hn' : ops'[n]? = some nop)
    (hdst : nop.dst = none) (hsd : st.dst = none) (haf : nop.after = st.after) :
    ∀ (fuel : Nat) (listed : Array Bool) (a : Act) (w : World), C w → listed.size = ops.size → listed.getD n true = false →
      wpAnyQ P md ops' C (fun a' => ∀ w', C w' → wpOp P ops Q n (fun a'' w'' => Q .normal a'' w'') a' w') fuel listed a → wpAny P md ops Q fuel listed a w := by
  have hready : ∀ listed, Region.ready md ops' listed = Region.ready md ops listed := fun listed => by
    unfold Region.ready
    rw [hsz']
    apply List.filter_congr
    intro i hi
    rw [List.mem_range] at hi
    by_cases e : i = n
    · rw [e, hn', hst]; simp [haf]
    · rw [hh i (by omega)]
  have hdst' : ∀ j, (ops'[j]?).bind (fun o : Oper => o.dst) = (ops[j]?).bind (fun o : Oper => o.dst) := fun j => by
    by_cases e : j = n
    · rw [e, hn', hst]; simp [hdst, hsd]
    · by_cases hj : j < n
      · rw [hh j hj]
      · rw [Array.getElem?_eq_none (by omega), Array.getElem?_eq_none (by omega)]
  have hy : ∀ tmps, yielded ops' tmps = yielded ops tmps := fun tmps => by funext j; unfold yielded; rw [hdst']
  have hq : ∀ i (K : Act → Prop) (a : Act), i < n → qOp P ops' C i K a → qOp P ops C i K a := fun i K a hi h => by
    unfold qOp at *
    rw [hh i hi, hy] at h
    exact h
  intro fuel
  induction fuel with
  | zero =>
    intro listed a w _ hls hl h
    exact absurd ((hready listed).symm.trans h.1) (ready_ne hE hls n (by omega) hl)
  | succ f ih =>
    intro listed a w hC hls hl h
    refine ⟨fun h0 => absurd h0 (ready_ne hE hls n (by omega) hl), fun i hi => ?_⟩
    have hi' : i ∈ Region.ready md ops' listed := by rw [hready]; exact hi
    have h2 := h.2 i hi'
    by_cases e : i = n
    · subst e
      obtain ⟨_, _, o, ho, hwait⟩ := ready_spec.1 hi
      obtain rfl := Option.some.inj (hst.symm.trans ho)
      -- all the others are listed
      have hall : ∀ j, j < i → listed.getD j false = true := fun j hj => by
        have h3 := List.all_eq_true.1 hL j (List.mem_range.2 hj)
        rw [hst] at h3
        simp only [Option.map_some, Option.getD_some, Array.any_eq_true'] at h3
        obtain ⟨ed, hed, hb⟩ := h3
        simp only [Bool.and_eq_true, beq_iff_eq] at hb
        rw [← hb.2]; exact hwait ed hed hb.1
      have hr0 : Region.ready md ops (listed.setIfInBounds i true) = [] := by
        rw [List.eq_nil_iff_forall_not_mem]
        intro j hj
        obtain ⟨hj1, hj2, _⟩ := ready_spec.1 hj
        by_cases ej : j = i
        · subst ej
          have hjl : j < listed.size := by omega
          simp [Array.getD, hjl] at hj2
        · have hjl : j < listed.size := by omega
          have h3 := hall j (by omega)
          have h4 : (listed.setIfInBounds i true).getD j true = listed.getD j false := by
            simp only [Array.getD, Array.size_setIfInBounds, hjl, dif_pos, Array.getInternal_eq_getElem]
            rw [Array.getElem_setIfInBounds_ne]
            exact fun x => ej x.symm
          rw [h4, h3] at hj2
          cases hj2
      have hQa : ∀ w', C w' → wpOp P ops Q i (fun a'' w'' => Q .normal a'' w'') a w' := by
        obtain ⟨v, _, hK⟩ := yieldsIn_of_qOp hn' h2
        have hput : a.put nop.dst v = a := by rw [hdst]; rfl
        rw [hput] at hK
        cases f with
        | zero => exact hK.2
        | succ f => exact hK.1 (by rw [hready]; exact hr0)
      refine wpOp_mono (fun a'' w'' hQ => ?_) (hQa w hC)
      cases f with
      | zero => exact ⟨hr0, hQ⟩
      | succ f => exact ⟨fun _ => hQ, fun j hj => by rw [hr0] at hj; cases hj⟩
    · have hin : i < n := by
        have := (ready_spec.1 hi).1
        omega
      refine wpOp_of_qOp hC (fun a' w' hw' hK => ih (listed.setIfInBounds i true) a' w' hw' (by simpa using hls) ?_ hK) (hq i _ _ hin h2)
      have hnl : n < listed.size := by omega
      have : (listed.setIfInBounds i true).getD n true = listed.getD n true := by
        simp only [Array.getD, Array.size_setIfInBounds, hnl, dif_pos, Array.getInternal_eq_getElem]
        rw [Array.getElem_setIfInBounds_ne]
        exact e
      rw [this]; exact hl

theorem wpQuiet_congr {o1 o2 : Array Oper} (hy : ∀ tmps, yielded o1 tmps = yielded o2 tmps) {Q1 : Act → Prop} : ∀ (l : List Oper) (a : Act), wpQuiet P o1 C Q1 l a → wpQuiet P o2 C Q1 l a
  | [], _, h => h
  | o :: l, a, h => by
    have h' : if Region.wanted o (yielded o1 a.tmps) then o.quiet P a C (wpQuiet P o1 C Q1 l) else wpQuiet P o1 C Q1 l (a.put o.dst undef) := h
    show if Region.wanted o (yielded o2 a.tmps) then o.quiet P a C (wpQuiet P o2 C Q1 l) else wpQuiet P o2 C Q1 l (a.put o.dst undef)
    rw [hy] at h'
    split
    · rename_i hw
      rw [if_pos hw] at h'
      exact Oper.quiet_mono (fun a' => wpQuiet_congr hy l a') h'
    · rename_i hw
      rw [if_neg hw] at h'
      exact wpQuiet_congr hy l _ h'

/-- Operation st with nothing to do. -/
def idle (st : Oper) : Oper := { st with op := .move (.const undef) }

/-- ONE WALK OF THE TEXT's ORDER, THEN THE LAST OPERATION. -/
theorem wp_region_tail {id : Nat} {a : Act} {w : World} {l : List Oper} (n : Nat) (hm : P.follows .mixedOrders = true) (hsz : l.length = n + 1) (hst : l[n]? = some st) (hsd : st.dst = none) (hgd : st.guard = none)
    (hB : Region.lexB .any (l.set n (idle st)).toArray = true) (hE : edgesB .any l.toArray = true) (hL : lastB .any l.toArray n = true) (hC : C { w with drawn := w.drawn + 1 })
    (h : wpQuiet P l.toArray C (fun a' => ∀ w', C w' → wpList P l.toArray Q [st] a' w') (l.take n) a) : (Code.region id l.toArray true).wp P Q a w := by
  have hB' := hB
  simp only [Region.lexB, Bool.and_eq_true] at hB'
  have hy : ∀ tmps, yielded l.toArray tmps = yielded (l.set n (idle st)).toArray tmps := fun tmps => by
    funext j
    unfold yielded
    have e : (l.toArray[j]?).bind (fun o : Oper => o.dst) = ((l.set n (idle st)).toArray[j]?).bind (fun o : Oper => o.dst) := by
      simp only [List.getElem?_toArray]
      by_cases ej : n = j
      · subst ej
        rw [List.getElem?_set_self (by omega), hst]
        rfl
      · rw [List.getElem?_set_ne ej]
    rw [e]
  have hlist : l.set n (idle st) = l.take n ++ [idle st] := by
    rw [List.set_eq_take_append_cons_drop, if_pos (by omega), List.drop_of_length_le (by omega)]
  refine wp_region_any hm ?_
  have hop : ∀ a' w', wpList P l.toArray Q [st] a' w' → wpOp P l.toArray Q n (fun a'' w'' => Q .normal a'' w'') a' w' := fun a' w' h1 => by
    unfold wpOp
    rw [List.getElem?_toArray, hst]
    exact h1
  have h0 : n < l.length := by omega
  refine wpAny_of_tail (C := C) (ops' := (l.set n (idle st)).toArray) (n := n) (st := st) (nop := idle st) (by simpa using hsz) (by rw [List.getElem?_toArray]; exact hst) hE hL (by simp) (fun i hi => by simp only [List.getElem?_toArray]; rw [List.getElem?_set_ne (by omega)])
    (by rw [List.getElem?_toArray, List.getElem?_set_self (by omega)]) hsd hsd rfl l.toArray.size (Array.replicate l.toArray.size false) a _ hC (by simp) (by simp [Array.getD, h0]) ?_
  have hq : wpQuiet P (l.set n (idle st)).toArray C (fun a' => ∀ w', C w' → wpOp P l.toArray Q n (fun a'' w'' => Q .normal a'' w'') a' w') (l.set n (idle st)) a := by
    have h1 := wpQuiet_congr hy _ _ h
    rw [hlist] at h1 ⊢
    refine wpQuiet_append _ _ _ ?_
    have hmono : ∀ (m : List Oper) (a' : Act) (Q1 Q2 : Act → Prop) (o : Array Oper), (∀ a'', Q1 a'' → Q2 a'') → wpQuiet P o C Q1 m a' → wpQuiet P o C Q2 m a' := by
      intro m
      induction m with
      | nil => intro a' Q1 Q2 o h2 h3; exact h2 _ h3
      | cons x m ih =>
        intro a' Q1 Q2 o h2 h3
        have h3' : if Region.wanted x (yielded o a'.tmps) then x.quiet P a' C (wpQuiet P o C Q1 m) else wpQuiet P o C Q1 m (a'.put x.dst undef) := h3
        show if Region.wanted x (yielded o a'.tmps) then x.quiet P a' C (wpQuiet P o C Q2 m) else wpQuiet P o C Q2 m (a'.put x.dst undef)
        split
        · rename_i hw
          rw [if_pos hw] at h3'
          exact Oper.quiet_mono (fun a'' => ih a'' Q1 Q2 o h2) h3'
        · rename_i hw
          rw [if_neg hw] at h3'
          exact ih _ Q1 Q2 o h2 h3'
    refine hmono _ _ _ _ _ (fun a' ha' => ?_) h1
    refine BigFrame.wpQuiet_want (by unfold Region.wanted; rw [show (idle st).guard = none from hgd]) (fun K hK => ?_)
    refine BigFrame.quiet_move (.const undef) rfl (hK _ ?_)
    show ∀ w', C w' → wpOp P l.toArray Q n (fun a'' w'' => Q .normal a'' w'') (a'.put (idle st).dst _) w'
    rw [show (idle st).dst = none from hsd]
    exact fun w' hw' => hop a' w' (ha' w' hw')
  have := wpAnyQ_lex (C := C) (md := .any) hB'.1 (l.set n (idle st)) 0 (Array.replicate (l.set n (idle st)).toArray.size false) a (by simp) (by simpa using hB'.2) hq
  simpa using this

/-- The same at the class 'w with some blocks laid behind it, and whatever count of draws'. -/
theorem wp_region_tail_below {id : Nat} {a : Act} {w : World} {l : List Oper} (n : Nat) (hm : P.follows .mixedOrders = true) (hsz : l.length = n + 1) (hst : l[n]? = some st) (hsd : st.dst = none) (hgd : st.guard = none)
    (hB : Region.lexB .any (l.set n (idle st)).toArray = true) (hE : edgesB .any l.toArray = true) (hL : lastB .any l.toArray n = true)
    (h : wpQuiet P l.toArray (fun w' => ∃ p : Regrown, w' = grow (redrawn w p.d) p.os) (fun a' => ∀ w', (∃ p : Regrown, w' = grow (redrawn w p.d) p.os) → wpList P l.toArray Q [st] a' w') (l.take n) a) : (Code.region id l.toArray true).wp P Q a w :=
  wp_region_tail (C := fun w' => ∃ p : Regrown, w' = grow (redrawn w p.d) p.os) n hm hsz hst hsd hgd hB hE hL ⟨⟨w.drawn + 1, #[]⟩, by rw [grow_empty]; rfl⟩ h
end
end Go.Proofs.YbulkeiiwFmt

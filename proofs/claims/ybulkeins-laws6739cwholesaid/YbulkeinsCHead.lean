/-
  A region that draws its order and makes memory: an operation that reads the same in EVERY WORLD OF A CLASS, which all the others keep, may be taken first.
  No project text.
-/
import Derived.Orders
import Derived.RegionCalls
namespace Go.Proofs.Ybulkeins
open Go

variable {P : Program} {ops : Array Oper} {Q : Exit → Act → World → Prop} {md : Region.Mode} {C : World → Prop}

/-- 'wpAny', and every operation leaves a world of the class. -/
def wpAnyC (P : Program) (md : Region.Mode) (ops : Array Oper) (Q : Exit → Act → World → Prop) (C : World → Prop) : Nat → Array Bool → Act → World → Prop
  | 0, listed, a, w => Region.ready md ops listed = [] ∧ Q .normal a w
  | f + 1, listed, a, w => (Region.ready md ops listed = [] → Q .normal a w) ∧ ∀ i ∈ Region.ready md ops listed, wpOp P ops Q i (fun a' w' => C w' ∧ wpAnyC P md ops Q C f (listed.setIfInBounds i true) a' w') a w

theorem wpAny_of_C : ∀ (f : Nat) (listed : Array Bool) (a : Act) (w : World), wpAnyC P md ops Q C f listed a w → wpAny P md ops Q f listed a w
  | 0, _, _, _, h => h
  | f + 1, _, _, _, h => ⟨h.1, fun i hi => wpOp_mono (fun a' w' h' => wpAny_of_C f _ a' w' h'.2) (h.2 i hi)⟩

/-- In every world of the class the operation leaves v, and the world alone. -/
def YieldsC (P : Program) (ops : Array Oper) (C : World → Prop) (o : Oper) (v : Value) (a : Act) : Prop :=
  (Region.wanted o (yielded ops a.tmps) = true ∧ ∀ w, C w → (execOp a.eval o).run P w = .ok (.value v) w) ∨ (Region.wanted o (yielded ops a.tmps) = false ∧ v = undef)

theorem YieldsC.wpOp {i : Nat} {o : Oper} {v : Value} {a : Act} (hi : ops[i]? = some o) (hy : YieldsC P ops C o v a) {K : Act → World → Prop} {w : World} (hC : C w) (h : K (a.put o.dst v) w) : wpOp P ops Q i K a w := by
  unfold Go.wpOp
  simp only [hi]
  rcases hy with ⟨hw, hv⟩ | ⟨hw, rfl⟩
  · simp only [hw, if_true, Oper.wp, hv w hC, Oper.upon]; exact .inl h
  · simp only [hw, Bool.false_eq_true, if_false]; exact h

theorem YieldsC.same {o : Oper} {v : Value} {a a' : Act} (hy : YieldsC P ops C o v a) (he : execOp a'.eval o = execOp a.eval o) (hw : Region.wanted o (yielded ops a'.tmps) = Region.wanted o (yielded ops a.tmps)) : YieldsC P ops C o v a' := by
  unfold YieldsC at *
  rw [he, hw]
  exact hy

theorem wpOp_putC {j : Nat} {oi oj : Oper} {v : Value} (hj : ops[j]? = some oj) (hap : oi.apart ops oj = true) (hsi : ∀ cs b, oi.op ≠ .select cs b) (hsj : ∀ cs b, oj.op ≠ .select cs b)
    (hQ : ∀ c a w, Q (.panic c) (a.put oi.dst v) w → Q (.panic c) a w) {K : Act → World → Prop} {a : Act} {w : World} (hy : YieldsC P ops C oi v a) (h : wpOp P ops Q j K (a.put oi.dst v) w) :
    wpOp P ops Q j (fun a' w' => YieldsC P ops C oi v a' ∧ K (a'.put oi.dst v) w') a w := by
  obtain ⟨h1, h2, h3⟩ := Oper.apart_spec hap
  have keep : ∀ (a : Act), YieldsC P ops C oi v a → ∀ u, YieldsC P ops C oi v (a.put oj.dst u) := fun a hy u => hy.same (execOp_put oi hsi a oj.dst u h3) (wanted_put oi a oj.dst u h3)
  have back : ∀ (a : Act) (u : Value) (w : World), YieldsC P ops C oi v a → K ((a.put oi.dst v).put oj.dst u) w → YieldsC P ops C oi v (a.put oj.dst u) ∧ K ((a.put oj.dst u).put oi.dst v) w := fun a u w hy hk => ⟨keep a hy u, by rw [← Act.put_comm a v u h2]; exact hk⟩
  unfold wpOp at *
  simp only [hj] at *
  rw [wanted_put oj a oi.dst v h1] at h
  by_cases hw : Region.wanted oj (yielded ops a.tmps) = true
  · rw [if_pos hw] at h ⊢
    rcases h with h | ⟨hasks, hlets⟩
    · refine .inl ?_
      unfold Oper.wp at *
      rw [execOp_put oj hsj a oi.dst v h1] at h
      generalize (execOp a.eval oj).run P w = r at *
      cases r with
      | ok n w' =>
        cases n <;> simp only [Oper.upon] at h ⊢
        case value u => exact back a u w' hy h
        case skip => exact back a _ w' hy h
        case defer d => exact back { a with defers := d :: a.defers } _ w' (hy.same rfl rfl) (by rw [← Act.put_defers]; exact h)
        case enter f args =>
          refine Calls.mono h fun e w'' he => ?_
          cases e with
          | returned u => exact back a u w'' hy he
          | panicked c => exact hQ _ _ _ he
          | outgrown => exact he
        case row row args => exact Rows.mono h fun u w'' he => back a u w'' hy he
      | halt x w' =>
        cases x <;> simp only [Oper.upon] at h ⊢
        case panic u => exact hQ _ _ _ h
    · refine .inr ⟨?_, hlets⟩
      unfold Oper.asks at *
      rw [execOp_put oj hsj a oi.dst v h1] at hasks
      exact hasks
  · rw [if_neg hw] at h ⊢
    exact back a _ w hy h

theorem wpAnyC_first {i : Nat} {oi : Oper} {v : Value} (hi : ops[i]? = some oi) (hsel : ∀ (j : Nat) (o : Oper) cs b, ops[j]? = some o → o.op ≠ .select cs b) (hQ : ∀ c a w, Q (.panic c) (a.put oi.dst v) w → Q (.panic c) a w) :
    ∀ (f : Nat) (listed : Array Bool) (a : Act) (w : World), C w →
      (∀ j oj, ops[j]? = some oj → j ≠ i → listed.getD j true = false → (∀ e ∈ oj.after, Region.binds md e = true → e.on ≠ i) → oi.apart ops oj = true) →
      i ∈ Region.ready md ops listed → YieldsC P ops C oi v a → wpAnyC P md ops Q C f (listed.setIfInBounds i true) (a.put oi.dst v) w → wpAnyC P md ops Q C (f + 1) listed a w := by
  intro f
  induction f with
  | zero =>
    intro listed a w hC _ hr hy H
    refine ⟨fun h => (by rw [h] at hr; cases hr), fun j hj => ?_⟩
    by_cases hji : j = i
    · subst hji; exact hy.wpOp hi hC ⟨hC, H⟩
    · have := ready_mono hj hji
      rw [H.1] at this
      cases this
  | succ f ih =>
    intro listed a w hC hfree hr hy H
    refine ⟨fun h => (by rw [h] at hr; cases hr), fun j hj => ?_⟩
    by_cases hji : j = i
    · subst hji; exact hy.wpOp hi hC ⟨hC, H⟩
    · have h1 := H.2 j (ready_mono hj hji)
      obtain ⟨hjun, oj, hoj, hall⟩ := mem_ready.1 hj
      have hnot : ∀ e ∈ oj.after, Region.binds md e = true → e.on ≠ i := fun e he hb heq => by
        have h1 := hall e he hb
        have h0 := (mem_ready.1 hr).1
        rw [heq] at h1
        rcases Nat.lt_or_ge i listed.size with h' | h'
        · simp [h'] at h0 h1; rw [h0] at h1; cases h1
        · simp [Array.getElem?_eq_none h'] at h1
      have h2 := wpOp_putC hoj (hfree j oj hoj hji hjun hnot) (fun cs b => hsel i oi cs b hi) (fun cs b => hsel j oj cs b hoj) hQ hy h1
      have hfree' : ∀ k ok, ops[k]? = some ok → k ≠ i → (listed.setIfInBounds j true).getD k true = false → (∀ e ∈ ok.after, Region.binds md e = true → e.on ≠ i) → oi.apart ops ok = true := fun k ok hk hki hun hno => by
        refine hfree k ok hk hki ?_ hno
        by_cases hjk : j = k
        · subst hjk; exact hjun
        · rw [getD_set_ne true hjk] at hun; exact hun
      refine wpOp_mono (fun a' w' h3 => ?_) h2
      refine ⟨h3.2.1, ih (listed.setIfInBounds j true) a' w' h3.2.1 hfree' (ready_mono hr (Ne.symm hji)) h3.1 ?_⟩
      rw [Array.setIfInBounds_comm _ _ hji]
      exact h3.2.2

/-- Take operation i first. -/
theorem takeC {i : Nat} {oi : Oper} {v : Value} {f : Nat} {listed : Array Bool} {a : Act} {w : World} (hi : ops[i]? = some oi) (hs : Region.noSelect ops = true) (hf : Region.free md ops listed i = true) (hr : (Region.ready md ops listed).contains i = true)
    (hQ : ∀ c a w, Q (.panic c) (a.put oi.dst v) w → Q (.panic c) a w) (hC : C w) (hw : Region.wanted oi (yielded ops a.tmps) = true) (hy : ∀ w, C w → (execOp a.eval oi).run P w = .ok (.value v) w)
    (h : wpAnyC P md ops Q C f (listed.setIfInBounds i true) (a.put oi.dst v) w) : wpAnyC P md ops Q C (f + 1) listed a w :=
  wpAnyC_first hi (Region.noSelect_spec hs) hQ f listed a w hC (Region.free_spec hi hf) (by simpa using hr) (.inl ⟨hw, hy⟩) h

/-- The same, the act spelled out. -/
theorem takeC' {i : Nat} {oi : Oper} {v : Value} {f : Nat} {listed : Array Bool} {a a' : Act} {w : World} (hi : ops[i]? = some oi) (hs : Region.noSelect ops = true) (hf : Region.free md ops listed i = true) (hr : (Region.ready md ops listed).contains i = true)
    (hQ : ∀ c a w, Q (.panic c) (a.put oi.dst v) w → Q (.panic c) a w) (hC : C w) (hw : Region.wanted oi (yielded ops a.tmps) = true) (hy : ∀ w, C w → (execOp a.eval oi).run P w = .ok (.value v) w)
    (ha : a.put oi.dst v = a') (h : wpAnyC P md ops Q C f (listed.setIfInBounds i true) a' w) : wpAnyC P md ops Q C (f + 1) listed a w :=
  takeC hi hs hf hr hQ hC hw hy (ha ▸ h)

/-- One alone is ready. -/
theorem oneC {i : Nat} {oi : Oper} {f : Nat} {listed : Array Bool} {a : Act} {w : World} (hr : Region.ready md ops listed = [i]) (hi : ops[i]? = some oi) (hw : Region.wanted oi (yielded ops a.tmps) = true)
    (h : ∀ K : Act → World → Prop, (∀ a' w', (C w' ∧ wpAnyC P md ops Q C f (listed.setIfInBounds i true) a' w') → K a' w') → oi.wp P a w K Q) : wpAnyC P md ops Q C (f + 1) listed a w := by
  refine ⟨fun h0 => (by rw [hr] at h0; cases h0), fun j hj => ?_⟩
  rw [hr] at hj
  have : j = i := by simpa using hj
  subst this
  unfold wpOp
  simp only [hi]
  rw [if_pos hw]
  exact .inl (h _ fun _ _ h => h)

/-- Two are ready. -/
theorem twoC {i j : Nat} {oi oj : Oper} {f : Nat} {listed : Array Bool} {a : Act} {w : World} (hr : Region.ready md ops listed = [i, j]) (hi : ops[i]? = some oi) (hw : Region.wanted oi (yielded ops a.tmps) = true) (hj : ops[j]? = some oj) (hwj : Region.wanted oj (yielded ops a.tmps) = true)
    (h : ∀ K : Act → World → Prop, (∀ a' w', (C w' ∧ wpAnyC P md ops Q C f (listed.setIfInBounds i true) a' w') → K a' w') → oi.wp P a w K Q)
    (h2 : ∀ K : Act → World → Prop, (∀ a' w', (C w' ∧ wpAnyC P md ops Q C f (listed.setIfInBounds j true) a' w') → K a' w') → oj.wp P a w K Q) : wpAnyC P md ops Q C (f + 1) listed a w := by
  refine ⟨fun h0 => (by rw [hr] at h0; cases h0), fun k hk => ?_⟩
  rw [hr] at hk
  have : k = i ∨ k = j := by simpa using hk
  rcases this with rfl | rfl
  · unfold wpOp
    simp only [hi]
    rw [if_pos hw]
    exact .inl (h _ fun _ _ h => h)
  · unfold wpOp
    simp only [hj]
    rw [if_pos hwj]
    exact .inl (h2 _ fun _ _ h => h)

theorem doneC {f : Nat} {listed : Array Bool} {a : Act} {w : World} (hr : Region.ready md ops listed = []) (h : Q .normal a w) : wpAnyC P md ops Q C f listed a w := by
  cases f with
  | zero => exact ⟨hr, h⟩
  | succ f => exact ⟨fun _ => h, fun i hi => by rw [hr] at hi; cases hi⟩

/-- The region. -/
theorem regionC {id : Nat} {a : Act} {w : World} (C : World → Prop) (hm : P.follows .mixedOrders = true) (h : wpAnyC P .any ops Q C ops.size (Array.replicate ops.size false) a w.drew) : (Code.region id ops true).wp P Q a w :=
  wp_region_any hm (wpAny_of_C _ _ _ _ h)
end Go.Proofs.Ybulkeins

/-
  The row.
-/
import Derived.Test.YbulkeilaCLaw
import Derived.ProofKit
import Derived.OpenShut
import Derived.ChangeOld
import Derived.Deep.Slices
import Derived.Deep.Strs
namespace Go.Proofs.Ybulkeila
open Go.ChangeShapes Go.WideShapes Go.ChangeAt Go.RowKit Go.Deep
set_option linter.unusedVariables false

theorem own : ownKnob Yba.prog.godebug = none := by kernel_rfl
theorem laidOut : laidOutB Yba.prog = true := by kernel_rfl
theorem cells5 : Yba.prog.cellsOf 5 = 1 := by kernel_rfl
theorem cells53 : Yba.prog.cellsOf 53 = 4 := by kernel_rfl

theorem u8_wf {x : Int} (h : (Lit.int .u8 x).wf = true) : ∃ n : Nat, n < 256 ∧ x = (n : Int) := by
  have e0 : IntKind.u8.min = 0 := rfl
  have e1 : IntKind.u8.max = 255 := rfl
  simp only [Lit.wf, Bool.and_eq_true, decide_eq_true_eq] at h
  exact ⟨x.toNat, by omega, by omega⟩

theorem i64_wf {x : Int} (h : (Lit.int .i64 x).wf = true) : -9223372036854775808 ≤ x ∧ x ≤ 9223372036854775807 := by
  have e0 : IntKind.i64.min = -9223372036854775808 := rfl
  have e1 : IntKind.i64.max = 9223372036854775807 := rfl
  simp only [Lit.wf, Bool.and_eq_true, decide_eq_true_eq] at h
  omega

section
variable {H : Type} {enc : TypeId × Value → H} {W : World}

theorem open_u8 {fuel : Nat} {c : Value} {y : DataW H × List MemPlace} (h : DataW.trod enc Yba.prog W 0 (fun _ => true) true fuel 5 [c] = some y) : ∃ u : Nat, u < 256 ∧ c = .int .u8 (u : Int) := by
  obtain ⟨u, e, _, hw⟩ := DataW.trod_int Yba.underlying5 h
  obtain ⟨n, hn, rfl⟩ := u8_wf hw
  exact ⟨n, hn, by simpa using e⟩

/-- The script. -/
theorem open_ops {fuel : Nat} {a : Option Addr} {len cap : Nat} {y : DataW H × List MemPlace} (h : DataW.trod enc Yba.prog W 0 (fun _ => true) true fuel 22 [.slice a len cap] = some y) : ∃ P O T M : Nat → Nat, OpsIn a len P O T M W := by
  rcases open_slice Yba.underlying22 h with ⟨hcs, _⟩ | ⟨x, l, c, m, k, D, Pl, hcs, _, hl, _, hm, hy, hx⟩
  · simp only [List.cons.injEq, and_true, Value.slice.injEq] at hcs
    obtain ⟨rfl, rfl, rfl⟩ := hcs
    exact ⟨fun _ => 0, fun _ => 0, fun _ => 0, fun _ => 0, fun i hi => by omega, fun h => by omega⟩
  · simp only [List.cons.injEq, and_true, Value.slice.injEq] at hcs
    obtain ⟨rfl, rfl, rfl⟩ := hcs
    simp only [if_true] at hm
    subst hm
    have one : ∀ i, i < m → ∃ p : Nat × Nat × Nat × Nat, (p.1 < 256 ∧ p.2.1 < 256 ∧ p.2.2.1 < 256 ∧ p.2.2.2 < 256) ∧ W.cell? (x.add (i * 4)) = some (.int .u8 (p.1 : Int)) ∧ W.cell? (x.add (i * 4 + 1)) = some (.int .u8 (p.2.1 : Int)) ∧ W.cell? (x.add (i * 4 + 2)) = some (.int .u8 (p.2.2.1 : Int)) ∧ W.cell? (x.add (i * 4 + 3)) = some (.int .u8 (p.2.2.2 : Int)) := fun i hi => by
      obtain ⟨cs', h1, h2⟩ := hx i hi
      rw [cells53] at h1
      obtain ⟨_, hlen, hc⟩ := World.cells?_some h1
      match cs', hlen with
      | [c0, c1, c2, c3], _ =>
        obtain ⟨xs, n, _, _, _, hxl, hf⟩ := DataW.trod_struct Yba.underlying53 h2
        have hget : ∀ j, j < 4 → ∃ z, xs[j]? = some z := fun j hj => ⟨xs[j]'(by rw [hxl]; exact hj), by simp [hxl, hj]⟩
        obtain ⟨z0, e0⟩ := hget 0 (by omega)
        obtain ⟨z1, e1⟩ := hget 1 (by omega)
        obtain ⟨z2, e2⟩ := hget 2 (by omega)
        obtain ⟨z3, e3⟩ := hget 3 (by omega)
        have f0 := hf 0 _ rfl
        have f1 := hf 1 _ rfl
        have f2 := hf 2 _ rfl
        have f3 := hf 3 _ rfl
        rw [e0] at f0
        rw [e1] at f1
        rw [e2] at f2
        rw [e3] at f3
        change DataW.trod enc Yba.prog W 0 (fun _ => true) true n 5 (([c0, c1, c2, c3].drop 0).take (Yba.prog.cellsOf 5)) = some z0 at f0
        change DataW.trod enc Yba.prog W 0 (fun _ => true) true n 5 (([c0, c1, c2, c3].drop 1).take (Yba.prog.cellsOf 5)) = some z1 at f1
        change DataW.trod enc Yba.prog W 0 (fun _ => true) true n 5 (([c0, c1, c2, c3].drop 2).take (Yba.prog.cellsOf 5)) = some z2 at f2
        change DataW.trod enc Yba.prog W 0 (fun _ => true) true n 5 (([c0, c1, c2, c3].drop 3).take (Yba.prog.cellsOf 5)) = some z3 at f3
        rw [cells5] at f0 f1 f2 f3
        simp only [List.drop_zero, List.drop_succ_cons, List.take_succ_cons, List.take_zero] at f0 f1 f2 f3
        obtain ⟨u0, l0, rfl⟩ := open_u8 f0
        obtain ⟨u1, l1, rfl⟩ := open_u8 f1
        obtain ⟨u2, l2, rfl⟩ := open_u8 f2
        obtain ⟨u3, l3, rfl⟩ := open_u8 f3
        have g0 := hc 0 (by omega)
        have g1 := hc 1 (by omega)
        have g2 := hc 2 (by omega)
        have g3 := hc 3 (by omega)
        rw [add_add] at g0 g1 g2 g3
        exact ⟨(u0, u1, u2, u3), ⟨l0, l1, l2, l3⟩, by simpa using g0, by simpa using g1, by simpa using g2, by simpa using g3⟩
    obtain ⟨p, hp⟩ := choose_lt one
    refine ⟨fun i => (p i).1, fun i => (p i).2.1, fun i => (p i).2.2.1, fun i => (p i).2.2.2, fun i hi => (hp i (by omega)).1, fun h0 => ?_⟩
    obtain ⟨b, off, spot⟩ := x
    have hspot : spot = none := by have := World.cell?_spot (hp 0 (by omega)).2.1; simpa [Addr.add] using this
    subst hspot
    refine ⟨b, off, rfl, by have := World.block_lt_of_cell? _ _ (hp 0 (by omega)).2.1; simpa [Addr.add] using this, fun i hi => ?_⟩
    obtain ⟨_, h1, h2, h3, h4⟩ := hp i (by omega)
    rw [add_plain] at h1 h2 h3 h4
    exact ⟨h1, h2, h3, h4⟩

/-- The data. -/
theorem open_data {fuel : Nat} {a : Option Addr} {len cap : Nat} {y : DataW H × List MemPlace} (h : DataW.trod enc Yba.prog W 0 (fun _ => true) true fuel 23 [.slice a len cap] = some y) : ∃ f : Nat → Int, DataIn a len f W := by
  rcases open_ints Yba.underlying23 Yba.underlying5 (by kernel_rfl) h with ⟨hcs, _⟩ | ⟨x, l, c, zs, hcs, _, hl, hm, hz, _, hcell, hwz⟩
  · simp only [List.cons.injEq, and_true, Value.slice.injEq] at hcs
    obtain ⟨rfl, rfl, rfl⟩ := hcs
    exact ⟨fun _ => 0, fun _ => rfl, fun x hx => by cases hx⟩
  · simp only [List.cons.injEq, and_true, Value.slice.injEq] at hcs
    obtain ⟨rfl, rfl, rfl⟩ := hcs
    simp only [if_true] at hz
    refine ⟨fun i => zs.getD i 0, fun h => (by cases h), fun x' hx' h0 => ?_⟩
    cases hx'
    have c0 := hcell 0 (by omega)
    obtain ⟨b, o, spot⟩ := x
    have hspot : spot = none := by have := World.cell?_spot c0; simpa [Addr.add] using this
    subst hspot
    refine ⟨b, o, rfl, by have := World.block_lt_of_cell? _ _ c0; simpa [Addr.add] using this, fun i hi => ?_⟩
    have := hcell i (by omega)
    rwa [add_plain] at this
end

set_option maxRecDepth 100000 in
set_option maxHeartbeats 3200000 in
theorem law_long (nilR : Bool) (bud : Int) (oa : Option Addr) (on oc : Nat) (p off t : Nat) (da : Option Addr) (dn dcap : Nat) (w : World) (h : 4096 < on ∨ 1048576 < dn) :
    Calls Yba.prog 3 #[.bool nilR, .int .i64 bud, .slice oa on oc, .int .u8 p, .int .u8 off, .int .u8 t, .slice da dn dcap] w fun e w' => e = .returned (.bool true) ∧ Below w.heap.size w w' := by
  by_cases h1 : 4096 < on
  · have g1 : (4096 : Int) < on := by omega
    go_enter Yba.func3, Yba.ntmps3
    go_wp2_with fail
    go_ret
    exact ⟨rfl, Below.refl _ _⟩
  · have g1 : decide ((4096 : Int) < on) = false := by simp; omega
    have g1' : ¬ ((4096 : Int) < on) := by omega
    have g2 : (1048576 : Int) < dn := by omega
    go_enter Yba.func3, Yba.ntmps3
    go_wp2_with fail
    go_ret
    exact ⟨rfl, Below.refl _ _⟩

theorem law_all (nilR : Bool) (bud : Int) (oa : Option Addr) (on oc : Nat) (p off t : Nat) (da : Option Addr) (dn dcap : Nat) (P O T M : Nat → Nat) (f : Nat → Int) (w : World) (hO : OpsIn oa on P O T M w) (hD : DataIn da dn f w)
    (hbud : -9223372036854775808 ≤ bud ∧ bud ≤ 9223372036854775807) (hp : p < 256) (hoff : off < 256) (ht : t < 256) :
    Calls Yba.prog 3 #[.bool nilR, .int .i64 bud, .slice oa on oc, .int .u8 p, .int .u8 off, .int .u8 t, .slice da dn dcap] w fun e w' => e = .returned (.bool true) ∧ Below w.heap.size w w' := by
  by_cases h : 4096 < on ∨ 1048576 < dn
  · exact law_long nilR bud oa on oc p off t da dn dcap w h
  · exact law_any nilR bud oa on oc p off t da dn dcap P O T M f w hO hD hbud hp hoff ht (by omega) (by omega)

set_option maxRecDepth 100000 in
theorem lifted (os : Os) (started : os.Started) (H : Type) (enc : TypeId × Value → H) :
    ReturnsInHanded {} Yba.checked os 3 .any (Rows.lawS6734CWholeSpec.pre6 enc Yba.prog Yba.f3 Rows.lawS6734CWholeRow.domain false) (Rows.lawS6734CWholeSpec.post enc Yba.prog Yba.f3 false true false false) := by
  refine returnsInHanded_of_change (C := Yba.checked) own started (by kernel_rfl) Yba.func3
    (ChangeSpec.witness6 (enc := enc) (C := Yba.checked) false ⟨#[], #[.bool false, .int .i64 0, .slice none 0 0, .int .u8 0, .int .u8 0, .int .u8 0, .slice none 0 0], []⟩ 8 (by kernel_rfl) (by kernel_rfl) (by kernel_rfl) (by kernel_rfl)) ?_
  intro W base args ds gs before hval0 hW hcnd _
  have hval : ∀ (j : Nat) t v, Yba.f3.params[j]? = some t → args[j]? = some v → Value.okWide Yba.prog W .any base t v := hval0
  have hW' := hW
  obtain ⟨p, q, hA0, hV, rfl, hfz, hnd⟩ := hW
  have hA : DataW.TrodAll enc Yba.prog W 0 (fun _ => true) true Yba.f3.params.toList args.toList ds p := hA0
  rw [Yba.params3] at hA hval
  obtain ⟨v0, vs0, d0, ds0, p0, q0, hargs, rfl, rfl, h0, r0⟩ := trodAll_cons hA
  obtain ⟨v1, vs1, d1, ds1, p1, q1, rfl, rfl, rfl, h1, r1⟩ := trodAll_cons r0
  obtain ⟨v2, vs2, d2, ds2, p2, q2, rfl, rfl, rfl, h2, r2⟩ := trodAll_cons r1
  obtain ⟨v3, vs3, d3, ds3, p3, q3, rfl, rfl, rfl, h3, r3⟩ := trodAll_cons r2
  obtain ⟨v4, vs4, d4, ds4, p4, q4, rfl, rfl, rfl, h4, r4⟩ := trodAll_cons r3
  obtain ⟨v5, vs5, d5, ds5, p5, q5, rfl, rfl, rfl, h5, r5⟩ := trodAll_cons r4
  obtain ⟨v6, vs6, d6, ds6, p6, q6, rfl, rfl, rfl, h6, r6⟩ := trodAll_cons r5
  obtain ⟨rfl, rfl, rfl⟩ := trodAll_nil r6
  obtain rfl : args = #[v0, v1, v2, v3, v4, v5, v6] := by cases args; simp_all
  obtain ⟨rfl, rfl⟩ := trodVars_none hV
  obtain ⟨a0, rfl, rfl, rfl⟩ := open_bool Yba.underlying4 (hval 0 4 v0 rfl rfl) h0
  obtain ⟨a1, rfl, rfl, rfl, w1⟩ := open_int Yba.underlying3 (hval 1 3 v1 rfl rfl) h1
  obtain ⟨a2, len2, cap2, rfl⟩ := okWide_slice Yba.underlying22 (hval 2 22 v2 rfl rfl)
  have k2 := h2
  have lt2 : ∀ x ∈ p2, x.block < W.heap.size := by obtain ⟨m, hm⟩ := k2; exact DataW.trod_lt m _ _ _ hm
  obtain ⟨P, O, T, M, hO⟩ : ∃ P O T M : Nat → Nat, OpsIn a2 len2 P O T M W := by
    obtain ⟨fuel, hf⟩ := h2
    exact open_ops hf
  obtain ⟨a3, rfl, rfl, rfl, w3⟩ := open_int Yba.underlying5 (hval 3 5 v3 rfl rfl) h3
  obtain ⟨a4, rfl, rfl, rfl, w4⟩ := open_int Yba.underlying5 (hval 4 5 v4 rfl rfl) h4
  obtain ⟨a5, rfl, rfl, rfl, w5⟩ := open_int Yba.underlying5 (hval 5 5 v5 rfl rfl) h5
  obtain ⟨a6, len6, cap6, rfl⟩ := okWide_slice Yba.underlying23 (hval 6 23 v6 rfl rfl)
  have k6 := h6
  have lt6 : ∀ x ∈ p6, x.block < W.heap.size := by obtain ⟨m, hm⟩ := k6; exact DataW.trod_lt m _ _ _ hm
  obtain ⟨f, hD⟩ : ∃ f : Nat → Int, DataIn a6 len6 f W := by
    obtain ⟨fuel, hf⟩ := h6
    exact open_data hf
  obtain ⟨n3, l3, rfl⟩ := u8_wf w3
  obtain ⟨n4, l4, rfl⟩ := u8_wf w4
  obtain ⟨n5, l5, rfl⟩ := u8_wf w5
  clear hA0 hval0
  refine (law_all a0 a1 a2 len2 cap2 n3 n4 n5 a6 len6 cap6 P O T M f W hO hD (i64_wf w1) l3 l4 l5).mono fun e W' ⟨he, bel⟩ => ?_
  subst he
  exact ⟨_, rfl, _, _, _, [], _, [], hW', trodAll_mk1 (shut_bool Yba.underlying4 _), (trodAll_cons_mk (shut_bool Yba.underlying4 _) (trodAll_cons_mk (shut_int Yba.underlying3 w1) (trodAll_cons_mk (Below.trod laidOut (by kernel_rfl) (of_decide_eq_true (by kernel_rfl)) k2 bel lt2) (trodAll_cons_mk (shut_int Yba.underlying5 w3) (trodAll_cons_mk (shut_int Yba.underlying5 w4) (trodAll_cons_mk (shut_int Yba.underlying5 w5) (trodAll_cons_mk (Below.trod laidOut (by kernel_rfl) (of_decide_eq_true (by kernel_rfl)) k6 bel lt6) trodAll_mk0))))))), rfl, bel.frame _, fun h => by cases h⟩

/-- ████ THE STATEMENT ████ -/
theorem lawS6734CWhole_holds : Rows.LawS6734CWholeSaid :=
  OpenClaim.holds_of_wide 3 Yba.f3 rfl rfl rfl rfl rfl rfl rfl ⟨rfl, rfl, rfl, rfl, rfl⟩ rfl rfl rfl rfl rfl (by kernel_rfl) Yba.func3 (by kernel_rfl)
    (of_decide_eq_true (by kernel_rfl)) (by unfold Func.isWrapper; first | (rw [if_pos (by decide +kernel)]; kernel_rfl) | (rw [if_neg (by decide +kernel)]; exact ⟨rfl, rfl⟩))
    (fun os started H enc _ => lifted os started H enc)

end Go.Proofs.Ybulkeila

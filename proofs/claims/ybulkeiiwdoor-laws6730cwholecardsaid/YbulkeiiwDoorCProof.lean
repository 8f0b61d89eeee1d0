import Derived.Test.YbulkeiiwDoorTie
import Derived.Test.YbulkeiiwDoorCards
import Derived.Test.YbulkeiiwDoorCLaw
import Derived.Test.YbulkeiiwDoorCOpen
import Derived.ProofKit
import Derived.LaidMore
import Derived.Handy
import Derived.Lay
import Derived.OpenVars
import Derived.OpenShut
import Derived.SevenTiedAt
namespace Go.Proofs.YbulkeiiwDoor
open Go.ChangeShapes Go.WideShapes Go.ChangeAt Go.RowKit

theorem ownC : ownKnob Ybad.prog.godebug = none := by kernel_rfl
theorem laidOutC : laidOutB Ybad.prog = true := by kernel_rfl

set_option maxRecDepth 100000 in
theorem lawC_lifted (os : Os) (started : os.Started) (H : Type) (enc : TypeId × Value → H) :
    ReturnsInHanded {} Ybad.checked os 4 .any (fun w args => (Rows.lawS6730CWholeSpec.pre enc Ybad.prog Ybad.f4 [] false w args ∧ laidMetH Ybad.prog Rows.lawS6730CWholeRow.laid w) ∧ sizedMet enc Ybad.prog Ybad.f4 (OpenSpec.ofChange Rows.lawS6730CWholeSpec) false w args)
      (Rows.lawS6730CWholeSpec.post enc Ybad.prog Ybad.f4 false true false false) := by
  refine returnsInHanded_of_change_and (C := Ybad.checked) (X := fun w _ => laidMetH Ybad.prog Rows.lawS6730CWholeRow.laid w) (fun _ _ _ hh h => h.of_heap hh) ownC started (by kernel_rfl) Ybad.func4
    (ChangeSpec.witness_shaped (enc := enc) (C := Ybad.checked) (os := os) (X := fun w _ => laidMetH Ybad.prog Rows.lawS6730CWholeRow.laid w) false (World.laidAll Ybad.prog os Rows.lawS6730CWholeRow.laid) #[.slice none 0 0, .slice none 0 0, .bool false, .string ⟨#[]⟩, .int .u8 0] 8 (World.laidAll_os _ _ _)
      (World.shaped_of_ZipB (by kernel_rfl) (by kernel_rfl)) (by kernel_rfl) (by kernel_rfl) (by kernel_rfl)
      (by rw [MakeChecks.laidMetH_plain _ _ _ (by kernel_rfl)]; exact laidMet_laidAll _ (by kernel_rfl) (by kernel_rfl))) ?_
  intro W base args ds gs before hval0 hW _ hsz0 hL _
  have hsz : (DataW.weightsEach Ybad.prog (Ybad.f4.params.toList ++ Rows.lawS6730CWholeSpec.plain.varTypes Ybad.prog) (ds ++ gs)).all (· ≤ reachBytes) = true := hsz0
  have hval : ∀ (j : Nat) t v, Ybad.f4.params[j]? = some t → args[j]? = some v → Value.okWide Ybad.prog W .any base t v := hval0
  have hW' := hW
  obtain ⟨p, q, hA0, hV, rfl, _, _⟩ := hW
  have hA : DataW.TrodAll enc Ybad.prog W 0 (fun _ => true) true Ybad.f4.params.toList args.toList ds p := hA0
  rw [Ybad.params4] at hA hval hsz
  obtain ⟨v0, vs0, d0, ds0, p0, q0, ea, rfl, rfl, t0, hA⟩ := trodAll_cons hA
  obtain ⟨v1, vs1, d1, ds1, p1, q1, rfl, rfl, rfl, t1, hA⟩ := trodAll_cons hA
  obtain ⟨v2, vs2, d2, ds2, p2, q2, rfl, rfl, rfl, t2, hA⟩ := trodAll_cons hA
  obtain ⟨v3, vs3, d3, ds3, p3, q3, rfl, rfl, rfl, t3, hA⟩ := trodAll_cons hA
  obtain ⟨v4, vs4, d4, ds4, p4, q4, rfl, rfl, rfl, t4, hA⟩ := trodAll_cons hA
  obtain ⟨rfl, rfl, rfl⟩ := trodAll_nil hA
  obtain rfl : args = #[v0, v1, v2, v3, v4] := by cases args; simp_all
  have hlt : ∀ x ∈ p0 ++ (p1 ++ (p2 ++ (p3 ++ (p4 ++ [])))), x.block < W.heap.size := fun x hx => by simpa using hW'.lt x (List.mem_append_left _ hx)
  obtain ⟨a0, n0, c0, rfl⟩ := okWide_slice Ybad.underlying53 (hval 0 53 v0 rfl rfl)
  obtain ⟨a1, n1, c1, rfl⟩ := okWide_slice Ybad.underlying53 (hval 1 53 v1 rfl rfl)
  obtain ⟨mo, rfl⟩ := okWide_bool Ybad.underlying4 (hval 2 4 v2 rfl rfl)
  obtain ⟨nm, rfl⟩ := okWide_string Ybad.underlying9 (hval 3 9 v3 rfl rfl)
  obtain ⟨sel, rfl⟩ := okWide_int Ybad.underlying5 (hval 4 5 v4 rfl rfl)
  have wt : ∀ (j : Nat) (t : TypeId) (d : DataW H), (#[53, 53, 4, 9, 5].toList ++ Rows.lawS6730CWholeSpec.plain.varTypes Ybad.prog)[j]? = some t → ([d0, d1, d2, d3, d4] ++ gs)[j]? = some d → ∀ x ∈ d.weights Ybad.prog t, x ≤ reachBytes := fun j t d h1 h2 x hx => by
    have := List.all_eq_true.1 hsz x (DataW.weights_mem_each (j := j) (t := t) (d := d) h1 h2 x hx)
    simpa using this
  have t0' := t0
  have t1' := t1
  have t2' := t2
  have t3' := t3
  have t4' := t4
  obtain ⟨f0, hf0⟩ := t0
  obtain ⟨f1, hf1⟩ := t1
  obtain ⟨f3, hf3⟩ := t3
  obtain ⟨f4, hf4⟩ := t4
  obtain ⟨S0, hS0, hB0⟩ := open_strs (a0 := a0) (len0 := n0) (cap0 := c0) (by simpa [Value.cells] using hf0) (wt 0 53 d0 rfl rfl)
  obtain ⟨S1, hS1, hB1⟩ := open_strs (a0 := a1) (len0 := n1) (cap0 := c1) (by simpa [Value.cells] using hf1) (wt 1 53 d1 rfl rfl)
  have hnm : nm.size ≤ 140737488355328 := by
    obtain ⟨s, e, hD, _⟩ := DataW.trod_string Ybad.underlying9 hf3
    have e' : s = nm := by simpa [Value.cells] using e.symm
    subst e'
    have hDi : d3 = .lit (.string s.data.toList) := congrArg Prod.fst hD
    have := wt 3 9 d3 rfl rfl s.data.toList.length (by rw [hDi]; unfold DataW.weights; simp)
    simp [reachBytes] at this
    omega
  have hsl : 0 ≤ sel ∧ sel ≤ 255 := by
    obtain ⟨u, e, _, hw⟩ := DataW.trod_int Ybad.underlying5 hf4
    have e' : u = sel := by simpa [Value.cells] using e.symm
    subst e'
    simp [Lit.wf, IntKind.min, IntKind.max, IntKind.signed, IntKind.bits] at hw
    omega
  refine (lawC_any S0 S1 n0 c0 n1 c1 a0 a1 mo nm sel W hS0 hS1 hsl.1 hsl.2 hnm (srt_size S0 n0 _ hB0) (srt_size S1 n1 _ hB1)).mono ?_
  rintro e W' ⟨rfl, hb⟩
  obtain ⟨g1, rfl⟩ : ∃ g1, gs = [g1] := by
    match gs, hV with
    | [g1], _ => exact ⟨g1, rfl⟩
  have k0 := Below.trod laidOutC (by kernel_rfl) (of_decide_eq_true (by kernel_rfl)) t0' hb (fun x hx => hlt x (by simp [hx]))
  have k1 := Below.trod laidOutC (by kernel_rfl) (of_decide_eq_true (by kernel_rfl)) t1' hb (fun x hx => hlt x (by simp [hx]))
  have k2 := Below.trod laidOutC (by kernel_rfl) (of_decide_eq_true (by kernel_rfl)) t2' hb (fun x hx => hlt x (by simp [hx]))
  have k3 := Below.trod laidOutC (by kernel_rfl) (of_decide_eq_true (by kernel_rfl)) t3' hb (fun x hx => hlt x (by simp [hx]))
  have k4 := Below.trod laidOutC (by kernel_rfl) (of_decide_eq_true (by kernel_rfl)) t4' hb (fun x hx => hlt x (by simp [hx]))
  exact ⟨_, rfl, _, _, _, [], _, q, hW', trodAll_mk1 (shut_bool Ybad.underlying4 _), trodAll_cons_mk k0 (trodAll_cons_mk k1 (trodAll_cons_mk k2 (trodAll_cons_mk k3 (trodAll_mk1 k4)))), Below.trodVars laidOutC hb (by kernel_rfl) hV, hb.frame _, fun h => by cases h⟩

theorem lawC_holds : Rows.LawS6730CWholeSaid :=
  OpenClaim.holds_of_wide 4 Ybad.f4 rfl rfl rfl rfl rfl rfl rfl ⟨rfl, rfl, rfl, rfl, rfl⟩ rfl rfl rfl rfl rfl (by kernel_rfl) Ybad.func4 (by kernel_rfl)
    (of_decide_eq_true (by kernel_rfl)) (by unfold Func.isWrapper; first | (rw [if_pos (by decide +kernel)]; kernel_rfl) | (rw [if_neg (by decide +kernel)]; exact ⟨rfl, rfl⟩))
    (fun os started H enc _ => lawC_lifted os started H enc)

theorem lawS6730CWholeCard_holds : Rows.LawS6730CWholeCardSaid :=
  Claim7.holds_tied_plain_at .later [] [.wider] true (true, "9062796665d02ed5a521e50b1d96170fd3c4996bb09bc306d8ed33116de2186a") false
    lawC_holds (fun _ h => by cases h) (by kernel_rfl) (fun _ h => by cases h) lawS6730CWhole_row_tie rfl ⟨rfl, rfl⟩ (by kernel_rfl) rfl
    (fun f fn hf hfn => by
      obtain rfl : f = 4 := Option.some.inj ((show Ybad.prog.funcNamed Rows.lawS6730CWholeRow.func = some 4 by kernel_rfl).symm.trans hf) |>.symm
      obtain rfl : fn = Ybad.f4 := (Option.some.inj (Ybad.func4.symm.trans hfn)).symm
      exact ⟨by kernel_rfl, fun j t ht => by
        rw [Ybad.params4] at ht
        have hm : t ∈ [53, 53, 4, 9, 5] := by simpa using Array.mem_of_getElem? ht
        have hall : ([53, 53, 4, 9, 5].all fun u => !Ybad.prog.wantsStandIn u) = true := by kernel_rfl
        exact (show Ybad.prog.wantsStandIn t = false by simpa using List.all_eq_true.1 hall t hm)⟩)
    (by kernel_rfl)
end Go.Proofs.YbulkeiiwDoor

import Derived.Test.YbulkeiiwDoorTie
import Derived.Test.YbulkeiiwDoorCards
import Derived.Test.YbulkeiiwDoorALaw
import Derived.Test.YbulkeiiwDoorANone
import Derived.Test.YbulkeiiwDoorAOpen
import Derived.ProofKit
import Derived.LaidMore
import Derived.Handy
import Derived.Lay
import Derived.SevenTiedAt
namespace Go.Proofs.YbulkeiiwDoor
open Go.ChangeShapes Go.WideShapes Go.ChangeAt Go.RowKit

theorem ownA : ownKnob Ybad.prog.godebug = none := by kernel_rfl
theorem laidOutA : laidOutB Ybad.prog = true := by kernel_rfl
theorem gZ4 : Ybad.prog.globalNamed ((Rows.lawS6730AWholeRow.laid.map Prod.fst).headD "") = some 0 := by kernel_rfl
theorem tZ4 : (Ybad.prog.globals[0]?).map (·.type) = some 44 := by kernel_rfl
theorem cells44 : Ybad.prog.cellsOf 44 = 1 := by kernel_rfl
theorem cells42 : Ybad.prog.cellsOf 42 = 1 := by kernel_rfl

set_option maxRecDepth 100000 in
/-- What the listed variable gives: its one cell holds a pointer. -/
theorem of_laidA {W : World} (h : laidMetH Ybad.prog Rows.lawS6730AWholeRow.laid W) : ∃ z, W.cell? ⟨0, 0, none⟩ = some (.pointer z) := by
  rw [MakeChecks.laidMetH_plain _ _ _ (by kernel_rfl)] at h
  obtain ⟨ps, ⟨g0, t0, cs0, f0, p0, q0, hg0, ht0, hv0, hd0, _, _⟩, _, _⟩ := h
  obtain rfl := Option.some.inj (gZ4.symm.trans hg0)
  obtain rfl := Option.some.inj (tZ4.symm.trans ht0)
  obtain ⟨y0, n, _, hl, hy⟩ := trod_struct1 Ybad.underlying44 hd0
  rw [cells44] at hl
  obtain ⟨l0⟩ := cs0
  match l0, hl with
  | [c], _ =>
    simp only [cells42, List.drop_zero, List.take_succ_cons, List.take_zero] at hy
    have hc := World.var?_cell hg0 hv0 0
    rcases DataW.trod_pointer Ybad.underlying42 hy with ⟨e, _⟩ | ⟨a, _, _, _, _, e, _⟩
    · simp only [List.cons.injEq, and_true] at e
      exact ⟨none, by rw [hc, e]; rfl⟩
    · simp only [List.cons.injEq, and_true] at e
      exact ⟨some a, by rw [hc, e]; rfl⟩

set_option maxRecDepth 100000 in
theorem lawA_lifted (os : Os) (started : os.Started) (H : Type) (enc : TypeId × Value → H) :
    ReturnsInHanded {} Ybad.checked os 3 .any (fun w args => (Rows.lawS6730AWholeSpec.pre enc Ybad.prog Ybad.f3 [] false w args ∧ laidMetH Ybad.prog Rows.lawS6730AWholeRow.laid w) ∧ sizedMet enc Ybad.prog Ybad.f3 (OpenSpec.ofChange Rows.lawS6730AWholeSpec) false w args)
      (Rows.lawS6730AWholeSpec.post enc Ybad.prog Ybad.f3 false true false false) := by
  refine returnsInHanded_of_change_and (C := Ybad.checked) (X := fun w _ => laidMetH Ybad.prog Rows.lawS6730AWholeRow.laid w) (fun _ _ _ hh h => h.of_heap hh) ownA started (by kernel_rfl) Ybad.func3
    (ChangeSpec.witness_shaped (enc := enc) (C := Ybad.checked) (os := os) (X := fun w _ => laidMetH Ybad.prog Rows.lawS6730AWholeRow.laid w) false (World.laidAll Ybad.prog os Rows.lawS6730AWholeRow.laid) #[.slice none 0 0] 8 (World.laidAll_os _ _ _)
      (World.shaped_of_ZipB (by kernel_rfl) (by kernel_rfl)) (by kernel_rfl) (by kernel_rfl) (by kernel_rfl)
      (by rw [MakeChecks.laidMetH_plain _ _ _ (by kernel_rfl)]; exact laidMet_laidAll _ (by kernel_rfl) (by kernel_rfl))) ?_
  intro W base args ds gs before hval0 hW _ hsz0 hL _
  have hsz : (DataW.weightsEach Ybad.prog (Ybad.f3.params.toList ++ Rows.lawS6730AWholeSpec.plain.varTypes Ybad.prog) (ds ++ gs)).all (· ≤ reachBytes) = true := hsz0
  have hval : ∀ (j : Nat) t v, Ybad.f3.params[j]? = some t → args[j]? = some v → Value.okWide Ybad.prog W .any base t v := hval0
  have hW' := hW
  obtain ⟨p, q, hA0, hV, rfl, _, _⟩ := hW
  have hA : DataW.TrodAll enc Ybad.prog W 0 (fun _ => true) true Ybad.f3.params.toList args.toList ds p := hA0
  rw [Ybad.params3] at hA hval hsz
  obtain ⟨v0, d0, rfl, rfl, h0⟩ := trodAll_one hA
  obtain ⟨rfl, rfl⟩ := trodVars_none hV
  have hlt : ∀ x ∈ p, x.block < W.heap.size := fun x hx => by simpa using hW'.lt x (List.mem_append_left _ hx)
  have h0' := h0
  obtain ⟨a0, len, cap, rfl⟩ := okWide_slice Ybad.underlying22 (hval 0 22 v0 rfl rfl)
  obtain ⟨fuel, hf⟩ := h0
  have hw : ∀ x ∈ d0.weights Ybad.prog 22, x ≤ reachBytes := fun x hx => by
    have := List.all_eq_true.1 hsz x (DataW.weights_mem_each (j := 0) (t := 22) (d := d0) rfl rfl x hx)
    simpa using this
  obtain ⟨z, hz⟩ := of_laidA hL
  have fin : ∀ (e : Ending) (W' : World), (e = .returned (.bool true) ∧ Below W.heap.size W W') → ∃ v, e = .returned v ∧ Rows.lawS6730AWholeSpec.post enc Ybad.prog Ybad.f3 false true false false W #[.slice a0 len cap] v W' := by
    rintro e W' ⟨rfl, hb⟩
    exact ⟨_, rfl, _, _, _, [], p, [], hW', trodAll_mk1 (shut_bool Ybad.underlying4 _), trodAll_mk1 (Below.trod laidOutA (by kernel_rfl) (of_decide_eq_true (by kernel_rfl)) h0' hb hlt), rfl, hb.frame _, fun h => by cases h⟩
  rcases open_rows (v := .slice a0 len cap) (by simpa [Value.cells] using hf) hw with ⟨a, c, e⟩ | ⟨B, O, len', cap', F, L, T, n, c, f, l, e, hlen, hmax, hn, hB, hF, hL', hT, hI⟩
  · cases e
    exact (law_none _ _ W).mono fin
  · cases e
    exact (law_some B O len cap F L T n c f l z W hlen hmax hn hz hB hF hL' hT hI).mono fin

theorem lawA_holds : Rows.LawS6730AWholeSaid :=
  OpenClaim.holds_of_wide 3 Ybad.f3 rfl rfl rfl rfl rfl rfl rfl ⟨rfl, rfl, rfl, rfl, rfl⟩ rfl rfl rfl rfl rfl (by kernel_rfl) Ybad.func3 (by kernel_rfl)
    (of_decide_eq_true (by kernel_rfl)) (by unfold Func.isWrapper; first | (rw [if_pos (by decide +kernel)]; kernel_rfl) | (rw [if_neg (by decide +kernel)]; exact ⟨rfl, rfl⟩))
    (fun os started H enc _ => lawA_lifted os started H enc)

theorem lawS6730AWholeCard_holds : Rows.LawS6730AWholeCardSaid :=
  Claim7.holds_tied_plain_at .later [] [.called] true (true, "9062796665d02ed5a521e50b1d96170fd3c4996bb09bc306d8ed33116de2186a") false
    lawA_holds (fun _ h => by cases h) (by kernel_rfl) (fun _ h => by cases h) lawS6730AWhole_row_tie rfl ⟨rfl, rfl⟩ (by kernel_rfl) rfl
    (fun f fn hf hfn => by
      obtain rfl : f = 3 := Option.some.inj ((show Ybad.prog.funcNamed Rows.lawS6730AWholeRow.func = some 3 by kernel_rfl).symm.trans hf) |>.symm
      obtain rfl : fn = Ybad.f3 := (Option.some.inj (Ybad.func3.symm.trans hfn)).symm
      exact ⟨by kernel_rfl, fun j t ht => by
        rw [Ybad.params3] at ht
        have hm : t ∈ [22] := by simpa using Array.mem_of_getElem? ht
        have hall : ([22].all fun u => !Ybad.prog.wantsStandIn u) = true := by kernel_rfl
        exact (show Ybad.prog.wantsStandIn t = false by simpa using List.all_eq_true.1 hall t hm)⟩)
    (by kernel_rfl)
#print axioms lawS6730AWholeCard_holds
end Go.Proofs.YbulkeiiwDoor

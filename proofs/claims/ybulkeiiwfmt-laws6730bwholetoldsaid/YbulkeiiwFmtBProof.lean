import Derived.Test.YbulkeiiwFmtTie
import Derived.Test.YbulkeiiwFmtCards
import Derived.Test.YbulkeiiwFmtBOpen
import Derived.Stop.JoinedAt
import Derived.Stop.Texts
import Derived.Stop.JoinedTold
import Derived.SevenTiedAt
namespace Go.Proofs.YbulkeiiwFmt
open Go.ChangeShapes Go.WideShapes Go.ChangeAt Go.RowKit Go.Deep
open Go.Extern.Stop Go.Stop Go.Extern

abbrev laidL : List (String × DataW Unit) := Rows.lawS6730BWholeRow.laid
theorem gZ4 : Ybaf.prog.globalNamed ((laidL.map Prod.fst).headD "") = some 0 := by kernel_rfl
theorem gZ0 : Ybaf.prog.globalNamed (((laidL.drop 2).map Prod.fst).headD "") = some 1 := by kernel_rfl
theorem tZ4 : (Ybaf.prog.globals[0]?).map (·.type) = some 32 := by kernel_rfl
theorem tZ0 : (Ybaf.prog.globals[1]?).map (·.type) = some 32 := by kernel_rfl
theorem cells32 : Ybaf.prog.cellsOf 32 = 1 := by kernel_rfl
theorem cells30 : Ybaf.prog.cellsOf 30 = 1 := by kernel_rfl

/-- What one listed variable gives: its one cell holds a pointer, nil or not as its datum says. -/
theorem of_one {W : World} {n : String} {g : Nat} {cs : Array Value} {fuel : Nat} {d : DataW Unit} {p : List MemPlace} (hg : Ybaf.prog.globalNamed n = some g) (hv : W.var? Ybaf.prog n = some cs)
    (hd : DataW.trod (fun _ => ()) Ybaf.prog W 0 (fun _ => true) false fuel 32 cs.toList = some (d, p)) :
    ∃ z, W.cell? ⟨g, 0, none⟩ = some (.pointer z) ∧ ((∃ a, z = some a ∧ ∃ y, d = .agg [.ptr y]) ∨ (z = none ∧ d = .agg [.nil])) := by
  obtain ⟨y0, m, hx, hl, hy⟩ := trod_struct1 Ybaf.underlying32 hd
  rw [cells32] at hl
  obtain ⟨l0⟩ := cs
  have hd1 : d = .agg [y0.1] := congrArg Prod.fst hx
  match l0, hl with
  | [c], _ =>
    simp only [cells30, List.drop_zero, List.take_succ_cons, List.take_zero] at hy
    have hc := World.var?_cell hg hv 0
    rcases DataW.trod_pointer Ybaf.underlying30 hy with ⟨e, e2⟩ | ⟨a, _, y, _, _, e, e2, _⟩
    · simp only [List.cons.injEq, and_true] at e
      exact ⟨none, by rw [hc, e]; rfl, Or.inr ⟨rfl, by rw [hd1, e2]⟩⟩
    · simp only [List.cons.injEq, and_true] at e
      exact ⟨some a, by rw [hc, e]; rfl, Or.inl ⟨a, rfl, y.1, by rw [hd1, e2]⟩⟩

set_option maxRecDepth 100000 in
theorem of_laidB {W : World} (h : laidMetH Ybaf.prog laidL W) : ∃ z, G z W := by
  rw [MakeChecks.laidMetH_plain _ _ _ (by kernel_rfl)] at h
  obtain ⟨ps, ⟨g0, t0, cs0, f0, p0, q0, hg0, ht0, hv0, hd0, ⟨g1, t1, cs1, f1, p1, q1, hg1, ht1, hv1, hd1, ⟨g2, t2, cs2, f2, p2, q2, hg2, ht2, hv2, hd2, _, _⟩, _⟩, _⟩, _, _⟩ := h
  obtain rfl := Option.some.inj (gZ4.symm.trans hg0)
  obtain rfl := Option.some.inj (gZ0.symm.trans hg2)
  obtain rfl := Option.some.inj (tZ4.symm.trans ht0)
  obtain rfl := Option.some.inj (tZ0.symm.trans ht2)
  obtain ⟨z, hz, h1⟩ := of_one hg0 hv0 hd0
  obtain ⟨z', hz', h2⟩ := of_one hg2 hv2 hd2
  rcases h1 with ⟨a, rfl, _⟩ | ⟨_, e⟩
  · rcases h2 with ⟨_, _, _, e⟩ | ⟨rfl, _⟩
    · simp [Rows.laid_net_netip_z0] at e
    · exact ⟨a, hz, hz'⟩
  · simp [Rows.laid_net_netip_z4] at e

abbrev specB : OpenSpec := OpenSpec.ofChange Rows.lawS6730BWholeSpec
abbrev argsB : Array Value := #[.agg #[.int .u8 0, .int .u8 0, .int .u8 0, .int .u8 0], .int .u8 0, .slice none 0 0]
abbrev inB : Input := ⟨#[], argsB, []⟩

set_option maxRecDepth 100000 in
theorem rowB (os : Os) {H : Type} (enc : TypeId × Value → H) : specB.preRow enc Ybaf.prog Ybaf.f3 [] false laidL ((World.laidAll Ybaf.prog os laidL).forCall (fun _ _ => 0) inB).memory argsB := by
  have hw : (DataW.whole enc Ybaf.prog ((World.laidAll Ybaf.prog os laidL).forCall (fun _ _ => 0) inB).memory Ybaf.f3.params.toList specB.vars false argsB.toList 8).isSome = true := by kernel_rfl
  obtain ⟨x, hx⟩ := Option.isSome_iff_exists.1 hw
  exact OpenSpec.preRow_of_cond 8 hx rfl (fun k hk => by cases hk) (by kernel_rfl) (by rw [MakeChecks.laidMetH_plain _ _ _ (by kernel_rfl)]; exact laidMet_laidAll _ (by kernel_rfl) (by kernel_rfl))

set_option maxRecDepth 100000 in
theorem witnessB (os : Os) {H : Type} (enc : TypeId × Value → H) (F : Stop.Interp) :
    ∃ (w : World) (tape : Tape) (i : Input), w.os = os ∧ (w.forCall tape i).Shaped Ybaf.checked.prog ∧ i.vars = [] ∧ Input.okWide Ybaf.checked.prog (w.forCall tape i) .any w.heap.size 3 i ∧
      specB.preRow enc Ybaf.checked.prog Ybaf.f3 [] false laidL (w.forCall tape i).memory i.args ∧ ({} : Assume).holds Ybaf.checked.prog (lone (Frame.enter Ybaf.checked.prog 3 i.args .normal) [] (w.forCall tape i)) ∧ F.answers tape := by
  have hsh : ((World.laidAll Ybaf.prog os laidL).forCall (fun _ _ => 0) inB).Shaped Ybaf.prog := World.shaped_of_ZipB (by kernel_rfl) (by kernel_rfl)
  have hok : Input.okWideB Ybaf.prog ((World.laidAll Ybaf.prog os laidL).forCall (fun _ _ => 0) inB) 3 inB = true := by kernel_rfl
  refine ⟨World.laidAll Ybaf.prog os laidL, F.over fun _ _ => 0, inB, World.laidAll_os _ _ _, hsh, rfl, (Input.okWide_of_okWideB hok).2, rowB os enc, ?_, F.over_answers _⟩
  simp only [Assume.holds]
  exact ⟨by simp, by simp, by simp, by simp, by simp⟩

set_option maxRecDepth 100000 in
theorem lawB_lifted (os : Os) (started : os.Started) (H : Type) (enc : TypeId × Value → H) :
    ReturnsInTold none {} Ybaf.checked os 3 .any Input.okWide (specB.preRow enc Ybaf.prog Ybaf.f3 [] false laidL) (fun F => (specB.at F).post enc Ybaf.prog Ybaf.f3 false true false false) (aloneAtReturn Ybaf.prog) nothingAlways := by
  refine returnsInTold_of_row (C := Ybaf.checked) (s := specB) (by kernel_rfl) ownB started (by kernel_rfl) Ybaf.func3 (witnessB os enc) ?_
  intro F W base args ds gs before _ hF hval0 hW _ _ _ hL _
  have hval : ∀ (j : Nat) t v, Ybaf.f3.params[j]? = some t → args[j]? = some v → Value.okWide Ybaf.prog W .any base t v := hval0
  have hW' := hW
  obtain ⟨p, q, hA0, hV, rfl, _, _⟩ := hW
  have hA : DataW.TrodAll enc Ybaf.prog W 0 (fun _ => true) true Ybaf.f3.params.toList args.toList ds p := hA0
  rw [Ybaf.params3] at hA hval
  obtain ⟨v0, v1, v2, d0, d1, d2, p0, p1, p2, rfl, rfl, rfl, h0, h1, h2⟩ := trodAll_three hA
  obtain ⟨rfl, rfl⟩ := trodVars_none hV
  have hlt : ∀ x ∈ p0 ++ p1 ++ p2, x.block < W.heap.size := fun x hx => by simpa using hW'.lt x (List.mem_append_left _ hx)
  obtain ⟨cs, rfl, hsz, _⟩ : ∃ cs, v0 = .agg cs ∧ cs.size = Ybaf.prog.cellsOf 22 ∧ Row.okWide Ybaf.prog W .any base 22 cs := by
    have := hval 0 22 v0 rfl rfl
    simpa [Value.okWide, Ybaf.underlying22] using this
  rw [cells22] at hsz
  obtain ⟨l⟩ := cs
  obtain ⟨c0, c1, c2, c3, rfl⟩ := list4 l hsz
  obtain ⟨ni, rfl⟩ := okWide_int Ybaf.underlying5 (hval 1 5 v1 rfl rfl)
  obtain ⟨a0, len, cap, rfl⟩ := okWide_slice Ybaf.underlying23 (hval 2 23 v2 rfl rfl)
  have h0' := h0
  have h1' := h1
  have h2' := h2
  obtain ⟨f0, hf0⟩ := h0
  obtain ⟨f1, hf1⟩ := h1
  obtain ⟨f2, hf2⟩ := h2
  obtain ⟨s0, s1, s2, s3, ⟨rfl, b0⟩, ⟨rfl, b1⟩, ⟨rfl, b2⟩, ⟨rfl, b3⟩⟩ := open_addr (c0 := c0) (c1 := c1) (c2 := c2) (c3 := c3) (by simpa [Value.cells] using hf0)
  obtain ⟨ni', e, bn⟩ := open_u8 (c := .int .u8 ni) (by simpa [Value.cells] using hf1)
  cases e
  obtain ⟨r, hS⟩ := open_routes (a0 := a0) (len0 := len) (cap0 := cap) (by simpa [Value.cells] using hf2)
  obtain ⟨z, hG⟩ := of_laidB hL
  refine (law_any r s0 s1 s2 s3 ni a0 len cap z W hG hS b0 b1 b2 b3 bn).mono ?_
  rintro e W' ⟨rfl, hb⟩
  have t0 := Below.trod laidOutB' (by kernel_rfl) (of_decide_eq_true (by kernel_rfl)) h0' hb (fun x hx => hlt x (List.mem_append_left _ (List.mem_append_left _ hx)))
  have t1 := Below.trod laidOutB' (by kernel_rfl) (of_decide_eq_true (by kernel_rfl)) h1' hb (fun x hx => hlt x (List.mem_append_left _ (List.mem_append_right _ hx)))
  have t2 := Below.trod laidOutB' (by kernel_rfl) (of_decide_eq_true (by kernel_rfl)) h2' hb (fun x hx => hlt x (List.mem_append_right _ hx))
  exact ⟨_, rfl, _, _, _, [], _, [], hW', trodAll_mk1 (shut_bool Ybaf.underlying4 _), trodAll_mk3 t0 t1 t2, rfl, hb.frame _, fun h => by cases h⟩

theorem stopsB : Ybaf.pinned.checked.prog.stops = Rows.lawS6730BWholeRow.stops := by kernel_rfl
theorem stopKnobsB : Ybaf.pinned.checked.prog.stopKnobs = [] := by kernel_rfl
theorem quietB (os : Os) : Stop.quiet Ybaf.pinned.checked.prog os := by
  intro k hk
  rw [stopKnobsB] at hk
  cases hk

theorem lawS6730BWholeTold_holds : Rows.LawS6730BWholeToldSaid :=
  Claim7.holds_of_told_tied_any_at .later 3 Ybaf.f3 (Rows.lawS6730BWholeRow.stops.headD "") [] [] _ _ _ _ _ (by kernel_rfl) rfl rfl rfl laidOutB' (by kernel_rfl) rfl ⟨rfl, rfl, rfl, rfl, rfl, rfl, rfl⟩ rfl rfl (by kernel_rfl) (by kernel_rfl) Ybaf.func3 (by kernel_rfl)
    (of_decide_eq_true (by kernel_rfl)) (of_decide_eq_true (by kernel_rfl)) stopsB.symm rfl stopKnobsB.symm (by kernel_rfl)
    (by kernel_rfl) (by kernel_rfl) (by kernel_rfl) (by kernel_rfl) (by kernel_rfl) (by kernel_rfl) (by kernel_rfl) (by kernel_rfl) (by kernel_rfl) rfl (by kernel_rfl) rfl rfl
    rfl rfl
    rfl (by kernel_rfl) (by kernel_rfl) (by kernel_rfl) (by decide) (by kernel_rfl) lawS6730BWhole_row_tie
    (OpenClaim.moreEntering_of (by kernel_rfl) (by kernel_rfl) (by kernel_rfl) (by kernel_rfl) (by kernel_rfl) (by kernel_rfl) (by kernel_rfl) (by kernel_rfl) (by kernel_rfl) (by kernel_rfl))
    ⟨_, WideRow.started_initial, quietB _⟩
    (fun os started _ H enc _ => lawB_lifted os started H enc)
end Go.Proofs.YbulkeiiwFmt

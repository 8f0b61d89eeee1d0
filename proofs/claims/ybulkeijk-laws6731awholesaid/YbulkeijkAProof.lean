/-
  The row.
-/
import Derived.Test.YbulkeijkANil
import Derived.ProofKit
import Derived.OpenShut
import Derived.ChangeOld
import Derived.Deep.Grids
namespace Go.Proofs.Ybulkeijk
open Go.ChangeShapes Go.WideShapes Go.ChangeAt Go.RowKit Go.Deep
set_option linter.unusedVariables false

theorem own : ownKnob Yba.prog.godebug = none := by kernel_rfl
theorem laidOut : laidOutB Yba.prog = true := by kernel_rfl

theorem addr_plain {w : World} {a : Addr} {v : Value} (h : w.cell? a = some v) : ∃ b o, a = ⟨b, o, none⟩ := by
  obtain ⟨b, o, s⟩ := a
  have hspot : s = none := by simpa using World.cell?_spot h
  subst hspot
  exact ⟨b, o, rfl⟩

set_option maxRecDepth 100000 in
theorem lifted (os : Os) (started : os.Started) (H : Type) (enc : TypeId × Value → H) :
    ReturnsInHanded {} Yba.checked os 3 .any (Rows.lawS6731AWholeSpec.pre6 enc Yba.prog Yba.f3 Rows.lawS6731AWholeRow.domain false) (Rows.lawS6731AWholeSpec.post enc Yba.prog Yba.f3 false true false false) := by
  refine returnsInHanded_of_change (C := Yba.checked) own started (by kernel_rfl) Yba.func3
    (ChangeSpec.witness6 (enc := enc) (C := Yba.checked) false ⟨#[], #[.slice none 0 0, .slice none 0 0, .bool false], []⟩ 8 (by kernel_rfl) (by kernel_rfl) (by kernel_rfl) (by kernel_rfl)) ?_
  intro W base args ds gs before hval0 hW hcnd _
  have hval : ∀ (j : Nat) t v, Yba.f3.params[j]? = some t → args[j]? = some v → Value.okWide Yba.prog W .any base t v := hval0
  have hW' := hW
  obtain ⟨p, q, hA0, hV, rfl, hfz, hnd⟩ := hW
  have hA : DataW.TrodAll enc Yba.prog W 0 (fun _ => true) true Yba.f3.params.toList args.toList ds p := hA0
  rw [Yba.params3] at hA hval
  obtain ⟨v0, vs0, d0, ds0, p0, q0, hargs, rfl, rfl, h0, r0⟩ := trodAll_cons hA
  obtain ⟨v1, vs1, d1, ds1, p1, q1, rfl, rfl, rfl, h1, r1⟩ := trodAll_cons r0
  obtain ⟨v2, vs2, d2, ds2, p2, q2, rfl, rfl, rfl, h2, r2⟩ := trodAll_cons r1
  obtain ⟨rfl, rfl, rfl⟩ := trodAll_nil r2
  obtain rfl : args = #[v0, v1, v2] := by cases args; simp_all
  obtain ⟨rfl, rfl⟩ := trodVars_none hV
  obtain ⟨a0, len0, cap0, rfl⟩ := okWide_slice Yba.underlying22 (hval 0 22 v0 rfl rfl)
  have k0 := h0
  have lt0 : ∀ x ∈ p0, x.block < W.heap.size := by obtain ⟨m, hm⟩ := k0; exact DataW.trod_lt m _ _ _ hm
  obtain ⟨dd, hI⟩ : ∃ dd : Nat → Nat, Ids a0 len0 dd W := by
    obtain ⟨fuel, hf⟩ := h0
    rcases open_ints Yba.underlying22 Yba.underlying5 (by kernel_rfl) hf with ⟨hcs, _⟩ | ⟨x, l, c, zs, hcs, _, hl, hm, hz, _, hcell, hwz⟩
    · simp [Value.cells] at hcs
      obtain ⟨rfl, rfl, rfl⟩ := hcs
      exact ⟨fun _ => 0, fun i hi => by omega, fun h => by omega⟩
    · simp [Value.cells] at hcs
      obtain ⟨rfl, rfl, rfl⟩ := hcs
      have hzl : zs.length = cap0 := by simpa using hz
      have hwi : ∀ i, i < len0 → 0 ≤ zs.getD i 0 ∧ zs.getD i 0 < 256 := fun i hi => by
        have hm : zs.getD i 0 ∈ zs := by
          have hil : i < zs.length := by omega
          rw [show zs.getD i 0 = zs[i] by simp [hil]]
          exact List.getElem_mem hil
        have := hwz _ hm
        have e0 : IntKind.u8.min = 0 := rfl
        have e1 : IntKind.u8.max = 255 := rfl
        generalize zs.getD i 0 = z at this
        simp only [Lit.wf, Bool.and_eq_true, decide_eq_true_eq] at this
        omega
      refine ⟨fun i => (zs.getD i 0).toNat, fun i hi => by have := hwi i hi; show (zs.getD i 0).toNat < 256; omega, fun hp => ?_⟩
      have c0 := hcell 0 (by omega)
      obtain ⟨b, o, hx⟩ := addr_plain c0
      have hx' : x = ⟨b, o, none⟩ := by
        cases x
        simp [Addr.add] at hx ⊢
        omega
      subst hx'
      refine ⟨b, o, rfl, World.block_lt_of_cell? _ _ c0, fun i hi => ?_⟩
      have := hcell i (by omega)
      rw [add_plain] at this
      show W.cell? ⟨b, o + i, none⟩ = some (.int .u8 ((zs.getD i 0).toNat : Int))
      rw [this, Int.toNat_of_nonneg (hwi i hi).1]
  obtain ⟨a1, len1, cap1, rfl⟩ := okWide_slice Yba.underlying23 (hval 1 23 v1 rfl rfl)
  have k1 := h1
  have lt1 : ∀ x ∈ p1, x.block < W.heap.size := by obtain ⟨m, hm⟩ := k1; exact DataW.trod_lt m _ _ _ hm
  obtain ⟨ff, hF⟩ : ∃ ff : Nat → Bool, Flags a1 len1 ff W := by
    obtain ⟨fuel, hf⟩ := h1
    rcases open_bools Yba.underlying23 Yba.underlying4 (by kernel_rfl) hf with ⟨hcs, _⟩ | ⟨x, l, c, B, hcs, _, hl, hm, _, hcell⟩
    · simp [Value.cells] at hcs
      obtain ⟨rfl, rfl, rfl⟩ := hcs
      exact ⟨fun _ => false, fun h => by omega⟩
    · simp [Value.cells] at hcs
      obtain ⟨rfl, rfl, rfl⟩ := hcs
      refine ⟨B, fun hp => ?_⟩
      have c0 := hcell 0 (by omega)
      obtain ⟨b, o, hx⟩ := addr_plain c0
      have hx' : x = ⟨b, o, none⟩ := by
        cases x
        simp [Addr.add] at hx ⊢
        omega
      subst hx'
      refine ⟨b, o, rfl, World.block_lt_of_cell? _ _ c0, fun i hi => ?_⟩
      have := hcell i (by omega)
      rwa [add_plain] at this
  obtain ⟨a2, rfl, rfl, rfl⟩ := open_bool Yba.underlying4 (hval 2 4 v2 rfl rfl) h2
  clear hA0 hval0
  refine (law_any a0 a1 len0 cap0 len1 cap1 a2 dd ff W hI hF).mono fun e W' ⟨he, bel⟩ => ?_
  subst he
  exact ⟨_, rfl, _, _, _, [], _, [], hW', trodAll_mk1 (shut_bool Yba.underlying4 _), (trodAll_cons_mk (Below.trod laidOut (by kernel_rfl) (of_decide_eq_true (by kernel_rfl)) k0 bel lt0) (trodAll_cons_mk (Below.trod laidOut (by kernel_rfl) (of_decide_eq_true (by kernel_rfl)) k1 bel lt1) (trodAll_cons_mk (shut_bool Yba.underlying4 _) trodAll_mk0))), rfl, bel.frame _, fun h => by cases h⟩

/-- ████ THE STATEMENT ████ -/
theorem lawS6731AWhole_holds : Rows.LawS6731AWholeSaid :=
  OpenClaim.holds_of_wide 3 Yba.f3 rfl rfl rfl rfl rfl rfl rfl ⟨rfl, rfl, rfl, rfl, rfl⟩ rfl rfl rfl rfl rfl (by kernel_rfl) Yba.func3 (by kernel_rfl)
    (of_decide_eq_true (by kernel_rfl)) (by unfold Func.isWrapper; first | (rw [if_pos (by decide +kernel)]; kernel_rfl) | (rw [if_neg (by decide +kernel)]; exact ⟨rfl, rfl⟩))
    (fun os started H enc _ => lifted os started H enc)

end Go.Proofs.Ybulkeijk

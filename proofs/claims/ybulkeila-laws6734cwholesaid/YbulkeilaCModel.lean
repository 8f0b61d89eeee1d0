/-
  'zzs6734cput', the model, by its contract.
-/
import Derived.Test.YbulkeilaCPut
import Derived.OwnWalk
namespace Go.Proofs.Ybulkeila
open Go Go.Deep Go.RowKit
set_option linter.unusedSimpArgs false

def entCells (e : E) : List Value := [.int .i64 (e.k : Int), .int .u8 e.t, .slice e.a e.len e.cap]

theorem flat3 : ∀ (L : List E) (i : Nat) (x : E) (c : Nat), L[i]? = some x → c < 3 → (L.flatMap entCells)[i * 3 + c]? = (entCells x)[c]?
  | [], i, x, c, h, _ => by simp at h
  | y :: r, 0, x, c, h, hc => by
    simp at h
    subst h
    rw [List.flatMap_cons, List.getElem?_append_left (by simp [entCells]; omega)]
    simp
  | y :: r, i + 1, x, c, h, hc => by
    rw [List.flatMap_cons, List.getElem?_append_right (by simp [entCells]; omega)]
    have := flat3 r i x c (by simpa using h) hc
    rw [← this]
    congr 1
    simp [entCells]
    omega

theorem inf57 : (Yba.prog.info? 57).map (fun i => (i.zero, i.size, i.bytes)) = some (some (.agg #[.int .i64 0, .int .u8 0, .slice none 0 0]), 3, 40) := by kernel_rfl

/-- 'append(model, e)'. -/
theorem append_ent {ob : Option Nat} {a : Option Addr} {n cap : Nat} {xs : List Value} {w : World} (h : Row 3 ob a n cap xs w) (hn : n ≤ 10000) {N : Nat} {u v x : Value} (h0 : w.cell? ⟨N, 0, none⟩ = some u) (h1 : w.cell? ⟨N, 1, none⟩ = some v) (h2 : w.cell? ⟨N, 2, none⟩ = some x) (hu : u.oneCell' = true) (hv : v.oneCell' = true) (hx : x.oneCell' = true) (c : Nat) (ty : TypeId) :
    ∃ a' cap' ob' w', (Builtin.append_ #[51, 51] ty #[.slice a n cap, .slice (some ⟨N, 0, none⟩) 1 c]).run Yba.prog w = .ok (.slice a' (n + 1) cap') w' ∧ Row 3 ob' a' (n + 1) cap' (xs ++ [u, v, x]) w' ∧ w.grownBy w' ob ∧ (∀ k, ob' = some k → ob = some k ∨ w.heap.size ≤ k) := by
  obtain ⟨i, hi, hh⟩ := Option.map_eq_some_iff.1 inf57
  simp only [Prod.mk.injEq] at hh
  obtain ⟨z1, z2, z3⟩ := hh
  refine h.append Yba.underlying51 hi z1 z2 rfl (by rw [z3]; omega) (by omega) (by omega) (news := [u, v, x]) rfl ?_ ?_
  · intro j y hy
    match j with
    | 0 => simp at hy; subst hy; simpa [Addr.add] using h0
    | 1 => simp at hy; subst hy; simpa [Addr.add] using h1
    | 2 => simp at hy; subst hy; simpa [Addr.add] using h2
    | j + 3 => simp at hy
  · intro y hy
    simp at hy
    rcases hy with rfl | rfl | rfl
    · exact hu
    · exact hv
    · exact hx

/-- An append whose run is known, in a region that does not draw. -/
theorem wpList_append_run {P : Program} (w : World) {ops : Array Oper} {rest : List Oper} {o : Oper} {a : Act} {Q : Exit → Act → World → Prop} (hg : o.guard = none) (s x : Operand) (t : TypeId)
    (hop : o.op = Op.call { callee := Callee.builtin Builtin.append, args := #[s, x], argTypes := #[t, t] }) {vs vx v' : Value} {w' : World} (hs : a.eval s = vs) (hx : a.eval x = vx)
    (hrun : (Builtin.append_ #[t, t] o.type #[vs, vx]).run P w = .ok v' w') (hK : wpList P ops Q rest (a.put o.dst v') w') : wpList P ops Q (o :: rest) a w := by
  refine wpList_plain hg fun K' hK' => ?_
  unfold Oper.wp
  simp [execOp, hop, resolve, invoke, builtin, hs, hx, hrun, Result.andThen]
  exact hK' _ _ hK

def wantB (bud : Int) (e : E) (L : List E) : Bool := hasK L e.k || decide ((e.len : Int) ≤ bud)

theorem hasK_put (bud : Int) (e : E) (L : List E) : hasK (putL bud e L) e.k = wantB bud e L := by
  unfold putL wantB
  cases h : hasK L e.k with
  | true => simp [h]
  | false =>
    by_cases hb : bud < (e.len : Int)
    · simp [hb, h]
    · have : (e.len : Int) ≤ bud := by omega
      simp [hb, this, hasK]

/-- What 'zzs6734cput' hands back. -/
def ModelPost (bud : Int) (e : E) (L : List E) (ob : Option Nat) (w : World) (x : Ending) (w' : World) : Prop :=
  ∃ a' cap' ob', x = .returned (.tuple #[.slice a' (putL bud e L).length cap', .int .i64 (total (putL bud e L) : Int), .bool (wantB bud e L)]) ∧ Row 3 ob' a' (putL bud e L).length cap' ((putL bud e L).flatMap entCells) w' ∧
    Kept (fun i => ob = some i) w w' ∧ (∀ k, ob' = some k → ob = some k ∨ w.heap.size ≤ k)

set_option maxRecDepth 100000 in
set_option maxHeartbeats 1600000 in
theorem model_any {bud : Int} {L : List E} {ob : Option Nat} {a : Option Addr} {cap : Nat} {w : World} (hR : Row 3 ob a L.length cap (L.flatMap entCells) w) (e : E) (hk : e.k < 8) (hl : e.len ≤ 1073741824) (ht : total L ≤ 1073741824) (hn : L.length ≤ 10000) :
    Calls Yba.prog 7 #[.slice a L.length cap, .int .i64 (total L : Int), .int .i64 bud, .agg #[.int .i64 (e.k : Int), .int .u8 e.t, .slice e.a e.len e.cap]] w fun x w' => ModelPost bud e L ob w x w' := by
  have hlt := hR.lt (by omega)
  have HR : Hid (Row 3 ob a L.length cap (L.flatMap entCells) (w.alloc (.cells #[.int .i64 (e.k : Int), .int .u8 e.t, .slice e.a e.len e.cap] 57))) := hR.kept fun k hk => blk_alloc_lt _ _ k (hlt k hk)
  have HN : Hid (e.len ≤ 1073741824 ∧ total L ≤ 1073741824 ∧ L.length ≤ 10000 ∧ e.k < 8) := ⟨hl, ht, hn, hk⟩
  have HLT : Hid (∀ k, ob = some k → k < w.heap.size) := hlt
  have hll : (L.length : Int) ≤ 10000 := by omega
  clear hR hk hl ht hn hlt
  go_enter Yba.func7, Yba.ntmps7
  go_wp2_with fail
  have b0 : (w.alloc (.cells #[.int .i64 (e.k : Int), .int .u8 e.t, .slice e.a e.len e.cap] 57)).cell? ⟨w.heap.size, 0, none⟩ = some (.int .i64 (e.k : Int)) := by simp
  have b1 : (w.alloc (.cells #[.int .i64 (e.k : Int), .int .u8 e.t, .slice e.a e.len e.cap] 57)).cell? ⟨w.heap.size, 1, none⟩ = some (.int .u8 e.t) := by simp
  have b2 : (w.alloc (.cells #[.int .i64 (e.k : Int), .int .u8 e.t, .slice e.a e.len e.cap] 57)).cell? ⟨w.heap.size, 2, none⟩ = some (.slice e.a e.len e.cap) := by simp
  have HB : Hid (Kept (fun i => ob = some i) w (w.alloc (.cells #[.int .i64 (e.k : Int), .int .u8 e.t, .slice e.a e.len e.cap] 57))) := (Kept.refl _ _).alloc _
  have HS : Hid ((w.alloc (.cells #[.int .i64 (e.k : Int), .int .u8 e.t, .slice e.a e.len e.cap] 57)).heap.size = w.heap.size + 1) := by show _ = _; simp
  generalize w.alloc (.cells #[.int .i64 (e.k : Int), .int .u8 e.t, .slice e.a e.len e.cap] 57) = w1 at HR b0 b1 b2 HB HS ⊢
  have HBx : Hid (w1.cell? ⟨w.heap.size, 0, none⟩ = some (.int .i64 (e.k : Int)) ∧ w1.cell? ⟨w.heap.size, 1, none⟩ = some (.int .u8 e.t) ∧ w1.cell? ⟨w.heap.size, 2, none⟩ = some (.slice e.a e.len e.cap)) := ⟨b0, b1, b2⟩
  clear b0 b1 b2
  go_loopw [11] (fun s wr => ∃ i : Nat, i ≤ L.length ∧ s = .int .i64 i ∧ (∀ j x, j < i → L[j]? = some x → x.k ≠ e.k) ∧ ∃ m, wr = w1.drewN m) (fun s _ => L.length - (intOf s).toNat)
  case atStart => exact ⟨0, by omega, rfl, fun j x hj => by omega, 0, rfl⟩
  case round =>
    obtain ⟨i, hi, rfl, hno, m, rfl⟩ := hrel
    have HNO : Hid (∀ j x, j < i → L[j]? = some x → x.k ≠ e.k) := hno
    clear hno
    have b0 : (w1.drewN m).cell? ⟨w.heap.size, 0, none⟩ = some (.int .i64 (e.k : Int)) := HBx.out.1
    have b2 : (w1.drewN m).cell? ⟨w.heap.size, 2, none⟩ = some (.slice e.a e.len e.cap) := HBx.out.2.2
    by_cases hil : i < L.length
    · obtain ⟨x, hx⟩ : ∃ x, L[i]? = some x := ⟨L[i], by simp [hil]⟩
      obtain ⟨b, off, rfl, hob, hcs⟩ := HR.out.addr (by omega)
      have hc0 : (w1.drewN m).cell? ⟨b, off + i * 3, none⟩ = some (.int .i64 (x.k : Int)) := by
        have := hcs (i * 3) (by omega)
        rw [show i * 3 = i * 3 + 0 by omega, flat3 L i x 0 hx (by omega)] at this
        exact this
      have HX : Hid (L[i]? = some x) := hx
      have i0 : (0 : Int) ≤ (i : Int) := by omega
      have i1 : (i : Int) < (L.length : Int) := by omega
      have HR4 : Hid (Row 3 ob (some ⟨b, off, none⟩) L.length cap (L.flatMap entCells) (w1.drewN m)) := HR.out.kept fun k _ => rfl
      have HB4 : Hid (Kept (fun i => ob = some i) w (w1.drewN m)) := HB.out.drewN m
      obtain ⟨w2, hw2⟩ : ∃ w2, w1.drewN m = w2 := ⟨_, rfl⟩
      have HW2 : Hid (w1.drewN m = w2) := hw2
      rw [hw2] at b0 b2 hc0 HR4 HB4 ⊢
      clear hcs hx hw2
      by_cases hxe : x.k = e.k
      · have e1 : ((x.k : Int) == (e.k : Int)) = true := by simp [hxe]
        go_wp2_with fail
        go_quiet (fail)
        go_wp2_with fail
        have hhas : hasK L e.k = true := by
          unfold hasK
          rw [List.any_eq_true]
          exact ⟨x, List.mem_of_getElem? HX.out, by simp [hxe]⟩
        have hput : putL bud e L = L := by unfold putL; rw [hhas]; rfl
        refine bodyPost_ret (results_tmp3 rfl _ _ _) rfl ⟨some ⟨b, off, none⟩, cap, ob, ?_, ?_, HB4.out.drewN nq, fun k hk => .inl hk⟩
        · rw [hput]; unfold wantB; rw [hhas]; rfl
        · rw [hput]; exact HR4.out.kept fun k _ => rfl
      · have e1 : ((x.k : Int) == (e.k : Int)) = false := by simp; omega
        go_wp2_with fail
        go_quiet (fail)
        go_wp2_with fail
        go_roundw
        case rel =>
          refine ⟨i + 1, by omega, by simp, fun j y hj hy => ?_, ?_⟩
          · by_cases hji : j = i
            · subst hji
              rw [HX.out] at hy
              cases hy
              exact hxe
            · exact HNO.out j y (by omega) hy
          · exact ⟨m + nq, by rw [← HW2.out]; simp⟩
        case measure => simp [intOf]; omega
    · have hnot : hasK L e.k = false := by
        unfold hasK
        rw [List.any_eq_false]
        intro x hx
        obtain ⟨j, hj⟩ := List.getElem?_of_mem hx
        have hjl : j < L.length := by
          rcases Nat.lt_or_ge j L.length with h | h
          · exact h
          · rw [List.getElem?_eq_none h] at hj; cases hj
        have := HNO.out j x (by omega) hj
        simpa using this
      have HHK : Hid (hasK L e.k = false) := hnot
      have hil' : ¬ ((i : Int) < (L.length : Int)) := by omega
      clear hnot HNO b0
      have HR4 : Hid (Row 3 ob a L.length cap (L.flatMap entCells) (w1.drewN m)) := HR.out.kept fun k _ => rfl
      have HB4 : Hid (Kept (fun i => ob = some i) w (w1.drewN m)) := HB.out.drewN m
      have HS4 : Hid ((w1.drewN m).heap.size = w.heap.size + 1) := HS.out
      have HBy : Hid ((w1.drewN m).cell? ⟨w.heap.size, 0, none⟩ = some (.int .i64 (e.k : Int)) ∧ (w1.drewN m).cell? ⟨w.heap.size, 1, none⟩ = some (.int .u8 e.t) ∧ (w1.drewN m).cell? ⟨w.heap.size, 2, none⟩ = some (.slice e.a e.len e.cap)) := HBx.out
      clear HR HB HS HBx
      generalize w1.drewN m = w2 at b2 HR4 HB4 HS4 HBy ⊢
      by_cases hbl : bud < (e.len : Int)
      · go_wp2_with fail
        have hput : putL bud e L = L := by unfold putL; rw [HHK.out, if_neg (by simp), if_pos hbl]
        refine bodyPost_ret (results_tmp3 rfl _ _ _) rfl ⟨a, cap, ob, ?_, ?_, HB4.out, fun k hk => .inl hk⟩
        · rw [hput]; unfold wantB; rw [HHK.out]; simp [hbl]
        · rw [hput]; exact HR4.out
      · have HBL : Hid ((e.len : Int) ≤ bud) := by show _ ≤ _; omega
        go_wp2_with fail
        clear b2 hbl
        go_loopg [0, 1] L.length (fun g s0 s1 wr => ∃ L' a' cap' ob', L'.length ≤ g ∧ s0 = .slice a' L'.length cap' ∧ s1 = .int .i64 (total L' : Int) ∧ roomL bud e.len L' = roomL bud e.len L ∧ (∃ p, L = p ++ L') ∧ Row 3 ob' a' L'.length cap' (L'.flatMap entCells) w2 ∧ (ob' = ob ∨ ob' = none) ∧ wr = w2)
        case atStart => exact ⟨L, a, cap, ob, Nat.le_refl _, rfl, rfl, rfl, ⟨[], rfl⟩, HR4.out, .inl rfl, rfl⟩
        case round =>
          obtain ⟨L', a', cap', ob', hLg, rfl, rfl, hroom, hpre, hR', hob', rfl⟩ := hrel
          have HI : Hid (roomL bud e.len L' = roomL bud e.len L ∧ (∃ p, L = p ++ L') ∧ Row 3 ob' a' L'.length cap' (L'.flatMap entCells) wr ∧ (ob' = ob ∨ ob' = none)) := ⟨hroom, hpre, hR', hob'⟩
          have htl : total L' ≤ total L := by obtain ⟨p, hp⟩ := hpre; rw [hp]; simp [total]
          obtain ⟨n1, n2, n3, n4⟩ := HN.out
          have hw1 : wrap64 ((total L' : Int) + (e.len : Int)) = (total L' : Int) + e.len := by unfold wrap64; omega
          have b2 := HBy.out.2.2
          clear hroom hpre hR' hob'
          cases L' with
          | nil =>
            have HJ : Hid (roomL bud e.len L = []) := by show _ = _; rw [← HI.out.1]; rfl
            have hnl : ([] : List E).length ≤ 10000 := by
              obtain ⟨p, hp⟩ := HI.out.2.1
              have := congrArg List.length hp
              rw [List.length_append] at this
              omega
            have hSB : ob' ≠ some w.heap.size := fun hh => by
              rcases HI.out.2.2.2 with h1 | h1
              · have := HLT.out w.heap.size (by rw [← h1]; exact hh); omega
              · rw [h1] at hh; cases hh
            have b0 := HBy.out.1
            have b1 := HBy.out.2.1
            have hR6 : Row 3 ob' a' ([] : List E).length cap' (([] : List E).flatMap entCells) (wr.alloc (.cells #[.int .i64 (e.k : Int), .int .u8 e.t, .slice e.a e.len e.cap] 57)) := HI.out.2.2.1.kept fun k hk => blk_alloc_lt _ _ k (HI.out.2.2.1.lt (by omega) k hk)
            obtain ⟨a5, cap5, ob5, w5, hrun, hR5, hg5, ho5⟩ := append_ent hR6 hnl (N := wr.heap.size) (u := .int .i64 (e.k : Int)) (v := .int .u8 e.t) (x := .slice e.a e.len e.cap) (by simp) (by simp) (by simp) rfl rfl rfl 1 51
            have HRUN : Hid ((Builtin.append_ #[51, 51] 51 #[.slice a' ([] : List E).length cap', .slice (some ⟨wr.heap.size, 0, none⟩) 1 1]).run Yba.prog (wr.alloc (.cells #[.int .i64 (e.k : Int), .int .u8 e.t, .slice e.a e.len e.cap] 57)) = .ok (.slice a5 (([] : List E).length + 1) cap5) w5) := hrun
            have hB5 : w5.heap[w.heap.size]? = wr.heap[w.heap.size]? := (hg5.block w.heap.size (by rw [nblk_alloc]; have := HS4.out; omega) (fun hh => hSB hh.symm)).trans (blk_alloc_lt _ _ _ (by have := HS4.out; omega))
            have c2 : w5.cell? ⟨w.heap.size, 2, none⟩ = some (.slice e.a e.len e.cap) := (cell_of_block hB5 2).trans b2
            have HZ : Hid (Row 3 ob5 a5 (([] : List E).length + 1) cap5 (([] : List E).flatMap entCells ++ [.int .i64 (e.k : Int), .int .u8 e.t, .slice e.a e.len e.cap]) w5 ∧ (wr.alloc (.cells #[.int .i64 (e.k : Int), .int .u8 e.t, .slice e.a e.len e.cap] 57)).grownBy w5 ob' ∧ ∀ k, ob5 = some k → ob' = some k ∨ (wr.alloc (.cells #[.int .i64 (e.k : Int), .int .u8 e.t, .slice e.a e.len e.cap] 57)).heap.size ≤ k) := ⟨hR5, hg5, ho5⟩
            clear hrun hR5 hg5 ho5 hB5 hR6 hSB hnl
            simp only [List.length_nil, List.length_cons] at HRUN
            go_wp2_with (at_builtin; refine wpList_append_run _ rfl (.tmp 56) (.tmp 58) 51 rfl rfl rfl HRUN.out ?_)
            go_quiet (fail)
            go_wp2_with fail
            have hput : putL bud e L = ([] : List E) ++ [e] := by unfold putL; rw [HHK.out, if_neg (by simp), if_neg (Int.not_lt.2 HBL.out), HJ.out]
            have hwant : wantB bud e L = true := by unfold wantB; rw [HHK.out]; simp; exact HBL.out
            have hlen : (putL bud e L).length = ([] : List E).length + 1 := by rw [hput, List.length_append]; rfl
            have htot : total (putL bud e L) = total ([] : List E) + e.len := by rw [hput, total_append]
            refine bodyPost_ret (results_tmp3 rfl _ _ _) rfl ⟨a5, cap5, ob5, ?_, ?_, ?_, ?_⟩
            · rw [hlen, htot, hwant]; simp [total]
            · rw [hlen, hput, List.flatMap_append, List.flatMap_singleton]
              exact HZ.out.1.kept fun k _ => rfl
            · refine ((HB4.out.alloc _).of_grown HZ.out.2.1 ?_).drewN _
              intro k hk
              rcases HI.out.2.2.2 with h1 | h1
              · exact .inl (by rw [← h1]; exact hk)
              · rw [h1] at hk; cases hk
            · intro k hk
              rcases HZ.out.2.2 k hk with h2 | h2
              · rcases HI.out.2.2.2 with h1 | h1
                · exact .inl (by rw [← h1]; exact h2)
                · rw [h1] at h2; cases h2
              · rw [nblk_alloc] at h2
                have := HS4.out
                exact .inr (by omega)
          | cons x r =>
            have hi1 : (0 : Int) < (((x :: r).length : Nat) : Int) := by simp only [List.length_cons]; omega
            by_cases hfit : bud < (total (x :: r) : Int) + e.len
            · obtain ⟨b, off, rfl, hob, hcs⟩ := HI.out.2.2.1.addr (by simp)
              have y2 := hcs 2 (by simp; omega)
              simp only [List.flatMap_cons, entCells, List.cons_append, List.getElem?_cons_zero, List.getElem?_cons_succ] at y2
              have hw2 : wrap64 ((total (x :: r) : Int) - (x.len : Int)) = (total r : Int) := by
                rw [total_cons] at htl ⊢; unfold wrap64; omega
              have hi2 : (1 : Int) ≤ (((x :: r).length : Nat) : Int) := by simp only [List.length_cons]; omega
              clear hcs n1 n2 n3 n4
              have HPR : Hid ((∃ p, L = p ++ r) ∧ roomL bud e.len r = roomL bud e.len L) := ⟨by obtain ⟨p, hp⟩ := HI.out.2.1; exact ⟨p ++ [x], by simp [hp]⟩, by rw [← HI.out.1]; conv => rhs; unfold roomL; rw [if_pos hfit]⟩
              obtain ⟨ob2, hRt, hot⟩ := HI.out.2.2.1.tail
              have HRT : Hid (Row 3 ob2 (if cap' = 1 then some ⟨b, off, none⟩ else (some (⟨b, off, none⟩ : Addr)).map (·.add 3)) r.length (cap' - 1) (r.flatMap entCells) wr) := hRt
              have HOT : Hid (ob2 = ob ∨ ob2 = none) := by
                rcases hot with h1 | h1
                · rw [h1]; exact HI.out.2.2.2
                · exact .inr h1
              clear hRt hot
              go_wp2_with fail
              all_goals go_roundg r.length
              all_goals try (case measure => simp at hLg; omega)
              all_goals (
                case rel =>
                  refine ⟨r, _, _, ob2, Nat.le_refl _, rfl, rfl, HPR.out.2, HPR.out.1, ?_, HOT.out, by trivial⟩
                  simpa [h, Addr.add] using HRT.out)
            · have hL' : roomL bud e.len L = x :: r := by rw [← HI.out.1]; unfold roomL; rw [if_neg hfit]
              have HJ : Hid (roomL bud e.len L = x :: r) := hL'
              clear hL'
              have hfit' : ¬ (bud < (total (x :: r) : Int) + (e.len : Int)) := hfit
              have hnl : (x :: r).length ≤ 10000 := by
                obtain ⟨p, hp⟩ := HI.out.2.1
                have := congrArg List.length hp
                rw [List.length_append] at this
                omega
              have hSB : ob' ≠ some w.heap.size := fun hh => by
                rcases HI.out.2.2.2 with h1 | h1
                · have := HLT.out w.heap.size (by rw [← h1]; exact hh); omega
                · rw [h1] at hh; cases hh
              have b0 := HBy.out.1
              have b1 := HBy.out.2.1
              have hR6 : Row 3 ob' a' (x :: r).length cap' ((x :: r).flatMap entCells) (wr.alloc (.cells #[.int .i64 (e.k : Int), .int .u8 e.t, .slice e.a e.len e.cap] 57)) := HI.out.2.2.1.kept fun k hk => blk_alloc_lt _ _ k (HI.out.2.2.1.lt (by omega) k hk)
              obtain ⟨a5, cap5, ob5, w5, hrun, hR5, hg5, ho5⟩ := append_ent hR6 hnl (N := wr.heap.size) (u := .int .i64 (e.k : Int)) (v := .int .u8 e.t) (x := .slice e.a e.len e.cap) (by simp) (by simp) (by simp) rfl rfl rfl 1 51
              have HRUN : Hid ((Builtin.append_ #[51, 51] 51 #[.slice a' (x :: r).length cap', .slice (some ⟨wr.heap.size, 0, none⟩) 1 1]).run Yba.prog (wr.alloc (.cells #[.int .i64 (e.k : Int), .int .u8 e.t, .slice e.a e.len e.cap] 57)) = .ok (.slice a5 ((x :: r).length + 1) cap5) w5) := hrun
              have hB5 : w5.heap[w.heap.size]? = wr.heap[w.heap.size]? := (hg5.block w.heap.size (by rw [nblk_alloc]; have := HS4.out; omega) (fun hh => hSB hh.symm)).trans (blk_alloc_lt _ _ _ (by have := HS4.out; omega))
              have c2 : w5.cell? ⟨w.heap.size, 2, none⟩ = some (.slice e.a e.len e.cap) := (cell_of_block hB5 2).trans b2
              have HZ : Hid (Row 3 ob5 a5 ((x :: r).length + 1) cap5 ((x :: r).flatMap entCells ++ [.int .i64 (e.k : Int), .int .u8 e.t, .slice e.a e.len e.cap]) w5 ∧ (wr.alloc (.cells #[.int .i64 (e.k : Int), .int .u8 e.t, .slice e.a e.len e.cap] 57)).grownBy w5 ob' ∧ ∀ k, ob5 = some k → ob' = some k ∨ (wr.alloc (.cells #[.int .i64 (e.k : Int), .int .u8 e.t, .slice e.a e.len e.cap] 57)).heap.size ≤ k) := ⟨hR5, hg5, ho5⟩
              clear hrun hR5 hg5 ho5 hB5 hR6 hSB hnl
              simp only [List.length_nil, List.length_cons] at HRUN
              go_wp2_with (at_builtin; refine wpList_append_run _ rfl (.tmp 56) (.tmp 58) 51 rfl rfl rfl HRUN.out ?_)
              go_quiet (fail)
              go_wp2_with fail
              have hput : putL bud e L = (x :: r) ++ [e] := by unfold putL; rw [HHK.out, if_neg (by simp), if_neg (Int.not_lt.2 HBL.out), HJ.out]
              have hwant : wantB bud e L = true := by unfold wantB; rw [HHK.out]; simp; exact HBL.out
              have hlen : (putL bud e L).length = (x :: r).length + 1 := by rw [hput, List.length_append]; rfl
              have htot : total (putL bud e L) = total (x :: r) + e.len := by rw [hput, total_append]
              refine bodyPost_ret (results_tmp3 rfl _ _ _) rfl ⟨a5, cap5, ob5, ?_, ?_, ?_, ?_⟩
              · rw [hlen, htot, hwant]; simp [total]
              · rw [hlen, hput, List.flatMap_append, List.flatMap_singleton]
                exact HZ.out.1.kept fun k _ => rfl
              · refine ((HB4.out.alloc _).of_grown HZ.out.2.1 ?_).drewN _
                intro k hk
                rcases HI.out.2.2.2 with h1 | h1
                · exact .inl (by rw [← h1]; exact hk)
                · rw [h1] at hk; cases hk
              · intro k hk
                rcases HZ.out.2.2 k hk with h2 | h2
                · rcases HI.out.2.2.2 with h1 | h1
                  · exact .inl (by rw [← h1]; exact h2)
                  · rw [h1] at h2; cases h2
                · rw [nblk_alloc] at h2
                  have := HS4.out
                  exact .inr (by omega)
end Go.Proofs.Ybulkeila

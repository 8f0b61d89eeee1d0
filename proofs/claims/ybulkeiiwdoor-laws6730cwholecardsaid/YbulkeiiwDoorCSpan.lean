import Derived.Test.YbulkeiiwDoorCFunc
import Derived.Shelf.Small.Wraps
namespace Go.Proofs
open Go.Shelf
shelf_lay Lays.n104 Nm 104 at Ybad as Ybad.laysCut
end Go.Proofs
namespace Go.Proofs.YbulkeiiwDoor
open Go.RowKit Go.Shelf

theorem cnt_bound (f : Nat → Bool) : ∀ n, (∀ i j, i ≤ j → j < n → f j = true → f i = true) → ∀ t, t < n → (f t = true ↔ t < cnt f n)
  | 0, _, t, ht => by omega
  | n + 1, h, t, ht => by
    have hle := cnt_le f n
    rw [cnt_succ]
    by_cases hf : f n = true
    · have := cnt_all f n (fun s hs => h s n (by omega) (by omega) hf)
      rw [if_pos hf, this]
      exact ⟨fun _ => ht, fun _ => h t n (by omega) (by omega) hf⟩
    · rw [if_neg hf]
      by_cases e : t = n
      · subst e; exact ⟨fun h' => absurd h' hf, fun h' => by omega⟩
      · exact cnt_bound f n (fun i j hij hj => h i j hij (by omega)) t (by omega)

theorem lo_iff {S : Nat → ByteArray} {n : Nat} (h : Asc S n) (p : ByteArray) {t : Nat} (ht : t < n) : ltB (S t) p = true ↔ t < lo S p n :=
  cnt_bound (fun i => ltB (S i) p) n (fun _ _ hij hj hf => lt_mono h p hij hj hf) t ht
theorem lo_le (S : Nat → ByteArray) (p : ByteArray) (n : Nat) : lo S p n ≤ n := cnt_le _ _

/-- The names from the first that is not less than p: those that begin with p come first. -/
theorem hp_anti {S : Nat → ByteArray} {n : Nat} (h : Asc S n) (p : ByteArray) (i j : Nat) (hij : i ≤ j) (hj : j < n - lo S p n) (hp : hpB p (S (lo S p n + j)) = true) : hpB p (S (lo S p n + i)) = true := by
  have h1 : ltB (S (lo S p n + i)) p = false := by
    cases hq : ltB (S (lo S p n + i)) p with
    | false => rfl
    | true => have := (lo_iff h p (t := lo S p n + i) (by omega)).1 hq; omega
  rw [ltB_eq, decide_eq_false_iff_not] at h1
  exact pre_between _ _ _ (List.not_lt.1 h1) (h _ _ (by omega) (by omega)) hp

theorem pre_shift {S : Nat → ByteArray} {n : Nat} (h : Asc S n) (p : ByteArray) : pre (fun i => S (lo S p n + i)) p (n - lo S p n) = pre S p n := by
  have hb := cnt_bound (fun i => hpB p (S (lo S p n + i))) (n - lo S p n) (fun i j hij hj hf => hp_anti h p i j hij hj hf)
  have hle : pre (fun i => S (lo S p n + i)) p (n - lo S p n) ≤ n - lo S p n := cnt_le _ _
  have hll := lo_le S p n
  have := cnt_run (fun i => hpB p (S i)) (lo S p n) (lo S p n + pre (fun i => S (lo S p n + i)) p (n - lo S p n)) (by omega) n (by omega)
    (fun t ht => by
      cases hq : hpB p (S t) with
      | false => rfl
      | true =>
        have h1 := (lo_iff h p (t := t) (by omega)).2 ht
        rw [ltB_eq, decide_eq_true_eq] at h1
        exact absurd h1 (pre_not_lt _ _ hq))
    (fun t h1 h2 => by
      have := (hb (t - lo S p n) (by omega)).2 (by show _ < pre _ _ _; omega)
      rwa [show lo S p n + (t - lo S p n) = t by omega] at this)
    (fun t h1 h2 => by
      cases hq : hpB p (S t) with
      | false => rfl
      | true =>
        have := (hb (t - lo S p n) (by omega)).1 (by rw [show lo S p n + (t - lo S p n) = t by omega]; exact hq)
        have : t - lo S p n < pre (fun i => S (lo S p n + i)) p (n - lo S p n) := this
        omega)
  show _ = cnt (fun i => hpB p (S i)) n
  rw [this]; omega
theorem pre_le {S : Nat → ByteArray} {n : Nat} (h : Asc S n) (p : ByteArray) : lo S p n + pre S p n ≤ n := by
  have : pre (fun i => S (lo S p n + i)) p (n - lo S p n) ≤ n - lo S p n := cnt_le _ _
  rw [pre_shift h p] at this
  have := lo_le S p n
  omega

/-- The suffix '+'. -/
def isP (name : ByteArray) : Bool := Lib.hasSuffix name.data.toList [43]
def pf (name : ByteArray) : ByteArray := ⟨(Lib.trimSuffix name.data.toList [43]).toArray⟩
theorem cut_any (s : ByteArray) (w : World) (hs : s.size ≤ 9223372036854775807) : Calls Ybad.prog 17 #[.string s, .string ⟨#[43]⟩] w fun e w' => e = .returned (.tuple #[.string (pf s), .bool (isP s)]) ∧ w' = w :=
  Any.strings_CutSuffix Ybad.laysCut s ⟨#[43]⟩ w hs

/-- Where the block of the names that match ends. -/
def endN (S : Nat → ByteArray) (n : Nat) (name : ByteArray) : Nat :=
  if isP name = true then lo S (pf name) n + pre S (pf name) n else if fnd S (pf name) n = true then lo S (pf name) n + 1 else lo S (pf name) n
def spanA (S : Nat → ByteArray) (n : Nat) (name : ByteArray) : Int × Int × Bool :=
  if lo S (pf name) n = endN S n name then (0, 0, false) else if endN S n name = n then ((lo S (pf name) n : Nat), 4294967295, true) else ((lo S (pf name) n : Nat), ((endN S n name : Nat) : Int) - 1, true)
theorem spanA_of (S : Nat → ByteArray) (n : Nat) (name : ByteArray) :
    (isP name = false → fnd S (pf name) n = false → spanA S n name = (0, 0, false)) ∧
    (isP name = false → fnd S (pf name) n = true → lo S (pf name) n + 1 = n → spanA S n name = (((lo S (pf name) n : Nat) : Int), 4294967295, true)) ∧
    (isP name = false → fnd S (pf name) n = true → ¬ lo S (pf name) n + 1 = n → spanA S n name = (((lo S (pf name) n : Nat) : Int), ((lo S (pf name) n : Nat) : Int), true)) ∧
    (isP name = true → pre S (pf name) n = 0 → spanA S n name = (0, 0, false)) ∧
    (isP name = true → ¬ pre S (pf name) n = 0 → lo S (pf name) n + pre S (pf name) n = n → spanA S n name = (((lo S (pf name) n : Nat) : Int), 4294967295, true)) ∧
    (isP name = true → ¬ pre S (pf name) n = 0 → ¬ lo S (pf name) n + pre S (pf name) n = n → spanA S n name = (((lo S (pf name) n : Nat) : Int), ((lo S (pf name) n + pre S (pf name) n : Nat) : Int) - 1, true)) := by
  refine ⟨fun h1 h2 => ?_, fun h1 h2 h3 => ?_, fun h1 h2 h3 => ?_, fun h1 h2 => ?_, fun h1 h2 h3 => ?_, fun h1 h2 h3 => ?_⟩
  · unfold spanA endN; simp [h1, h2]
  · unfold spanA endN; simp [h1, h2, h3]; omega
  · unfold spanA endN; simp [h1, h2, h3]
  · unfold spanA endN; simp [h1, h2]
  · unfold spanA endN; simp [h1, h3]; omega
  · unfold spanA endN; simp [h1, h2, h3]
theorem last_any (w : World) : Calls Ybad.prog 11 #[.int .i8 0] w fun e w' => e = .returned (.int .u32 4294967295) ∧ w' = w := by
  go_enter Ybad.func11, Ybad.ntmps11
  go_wp2
  go_ret
  exact ⟨rfl, rfl⟩

theorem al1 (w : World) (o1 : Obj) : Below w.heap.size w (w.alloc o1) := (Below.refl _ _).alloc (Nat.le_refl _) _
theorem al2 (w : World) (o1 o2 : Obj) : Below w.heap.size w ((w.alloc o1).alloc o2) := (al1 w o1).alloc (by simp) _
theorem al3 (w : World) (o1 o2 o3 : Obj) : Below w.heap.size w (((w.alloc o1).alloc o2).alloc o3) := (al2 w o1 o2).alloc (by simp; omega) _

set_option maxHeartbeats 8000000 in
set_option maxRecDepth 100000 in
theorem span_any (S : Nat → ByteArray) (n c : Nat) (ro : Option Addr) (r0 r1 : Option Addr) (n0 c0 n1 c1 : Nat) (mo : Bool) (name : ByteArray) (w : World) (hn : n ≤ 65536) (hnc : n ≤ c) (hS : Strs S n ro w) (hA : Asc S n) (hname : name.size ≤ 9223372036854775807)
    (hmo : (mo = false ∧ ro = r0 ∧ n = n0 ∧ c = c0) ∨ (mo = true ∧ ro = r1 ∧ n = n1 ∧ c = c1)) :
    Calls Ybad.prog 10 #[.agg #[.slice r0 n0 c0, .slice r1 n1 c1], .agg #[.bool mo, .string name]] w fun e w' => e = .returned (.tuple #[.agg #[.int .u32 (spanA S n name).1, .int .u32 (spanA S n name).2.1], .bool (spanA S n name).2.2]) ∧ Below w.heap.size w w' := by
  have hC17 : Hid _ := fun W => cut_any name W hname
  have hS' : Hid (∀ W, Below w.heap.size w W → Strs S n ro W) := fun W hb => hS.later hb
  have hA' : Hid _ := hA
  clear hS hA
  rcases hmo with ⟨rfl, rfl, rfl, rfl⟩ | ⟨rfl, rfl, rfl, rfl⟩
  all_goals
    go_enter Ybad.func10, Ybad.ntmps10
    go_wp2_with fail
    refine (hC17.out _).mono ?_
    rintro e w' ⟨rfl, rfl⟩
    generalize hpn : pf name = p
    have hpn' : Hid _ := hpn
    clear hC17 hpn
    have hlo := lo_le S p n
    have hpl := pre_le hA'.out p
    have hsp := spanA_of S n name
    rw [hpn'.out] at hsp
    have hsp' : Hid _ := hsp
    clear hsp
    cases hP : isP name with
    | false =>
      go_wp2_with fail
      refine (search_any S n c ro p _ hn (hS'.out _ (al3 _ _ _ _)) hA'.out).mono ?_
      rintro e w' ⟨rfl, rfl⟩
      cases hF : fnd S p n with
      | false =>
        have hX : Hid _ := hsp'.out.1 hP hF
        clear hsp'
        generalize lo S p n = L at hlo hpl hX ⊢
        go_wp2
        rw [hX.out]
        exact bodyPost_ret (v := .tuple #[.agg #[.int .u32 0, .int .u32 0], .bool false]) (by simp [results, Ybad.results10, go_sem]) rfl ⟨rfl, al3 _ _ _ _⟩
      | true =>
        have hfl : lo S p n < n := by unfold fnd at hF; simp at hF; exact hF.1
        by_cases hend : lo S p n + 1 = n
        · have hX : Hid _ := hsp'.out.2.1 hP hF hend
          clear hsp'
          generalize lo S p n = L at hlo hpl hfl hend hX ⊢
          go_wp2
          rw [hX.out]
          exact bodyPost_ret (v := .tuple #[.agg #[.int .u32 (L : Int), .int .u32 4294967295], .bool true]) (by simp [results, Ybad.results10, go_sem]) rfl ⟨rfl, al3 _ _ _ _⟩
        · have hX : Hid _ := hsp'.out.2.2.1 hP hF hend
          clear hsp'
          generalize lo S p n = L at hlo hpl hfl hend hX ⊢
          go_wp2
          rw [hX.out]
          exact bodyPost_ret (v := .tuple #[.agg #[.int .u32 (L : Int), .int .u32 (L : Int)], .bool true]) (by simp [results, Ybad.results10, go_sem]) rfl ⟨rfl, al3 _ _ _ _⟩
    | true =>
      go_wp2_with fail
      refine (search_any S n c ro p _ hn (hS'.out _ (al3 _ _ _ _)) hA'.out).mono ?_
      rintro e w' ⟨rfl, rfl⟩
      by_cases hfl : lo S p n < n
      · obtain ⟨b, o, rfl, hb, hc⟩ := hS'.out w (Below.refl _ _) (by omega)
        have hSS : Hid (∀ W, Below w.heap.size w W → Strs (fun i => S (lo S p n + i)) (n - lo S p n) (some ⟨b, o + lo S p n, none⟩) W) := fun W hbW _ =>
          ⟨b, o + lo S p n, rfl, Nat.lt_of_lt_of_le hb hbW.size, fun i hi => by rw [hbW.cell (p := ⟨b, o + lo S p n + i, none⟩) hb, Nat.add_assoc]; exact hc _ (by omega)⟩
        clear hc
        go_wp2_with fail
        refine (searchFunc_any (fun i => S (lo S p n + i)) (n - lo S p n) (c - lo S p n) _ p _ (by omega) (hSS.out _ (al3 _ _ _ _)) (fun i j hij hj hp => hp_anti hA'.out p i j hij hj hp)).mono ?_
        rintro e w' ⟨rfl, rfl⟩
        rw [pre_shift hA'.out p]
        clear hSS
        by_cases h0 : pre S p n = 0
        · have hX : Hid _ := hsp'.out.2.2.2.1 hP h0
          clear hsp'
          rw [h0]
          generalize lo S p n = L at hlo hpl hfl hX ⊢
          go_wp2
          rw [hX.out]
          exact bodyPost_ret (v := .tuple #[.agg #[.int .u32 0, .int .u32 0], .bool false]) (by simp [results, Ybad.results10, go_sem]) rfl ⟨rfl, al3 _ _ _ _⟩
        · by_cases hend : lo S p n + pre S p n = n
          · have hX : Hid _ := hsp'.out.2.2.2.2.1 hP h0 hend
            clear hsp'
            generalize lo S p n = L at hlo hpl hfl hend hX ⊢
            generalize pre S p n = Q at h0 hpl hend hX ⊢
            have e1 : ((Q : Int) + (L : Int)) = (n : Int) := by omega
            go_wp2
            rw [hX.out]
            exact bodyPost_ret (v := .tuple #[.agg #[.int .u32 (L : Int), .int .u32 4294967295], .bool true]) (by simp [results, Ybad.results10, go_sem]) rfl ⟨rfl, al3 _ _ _ _⟩
          · have hX : Hid _ := hsp'.out.2.2.2.2.2 hP h0 hend
            clear hsp'
            generalize lo S p n = L at hlo hpl hfl hend hX ⊢
            generalize pre S p n = Q at h0 hpl hend hX ⊢
            go_wp2
            rw [hX.out]
            exact bodyPost_ret (v := .tuple #[.agg #[.int .u32 (L : Int), .int .u32 (((L + Q : Nat) : Int) - 1)], .bool true]) (by simp [results, Ybad.results10, go_sem]; omega) rfl ⟨rfl, al3 _ _ _ _⟩
      · cases ro with
        | none =>
          go_wp2_with fail
          all_goals
            have hle : n - lo S p n = 0 := by omega
            refine (searchFunc_any (fun i => S (lo S p n + i)) (n - lo S p n) _ _ p _ (by omega) (fun h => by omega) (fun i j hij hj hp => by omega)).mono ?_
            rintro e w' ⟨rfl, rfl⟩
            rw [pre_shift hA'.out p]
            have h0 : pre S p n = 0 := by omega
            clear hle
            have hX : Hid _ := hsp'.out.2.2.2.1 hP h0
            clear hsp'
            rw [h0]
            generalize lo S p n = L at hlo hpl hfl hX ⊢
            go_wp2
            rw [hX.out]
            exact bodyPost_ret (v := .tuple #[.agg #[.int .u32 0, .int .u32 0], .bool false]) (by simp [results, Ybad.results10, go_sem]) rfl ⟨rfl, al3 _ _ _ _⟩
        | some a =>
          go_wp2_with fail
          all_goals
            have hle : n - lo S p n = 0 := by omega
            refine (searchFunc_any (fun i => S (lo S p n + i)) (n - lo S p n) _ _ p _ (by omega) (fun h => by omega) (fun i j hij hj hp => by omega)).mono ?_
            rintro e w' ⟨rfl, rfl⟩
            rw [pre_shift hA'.out p]
            have h0 : pre S p n = 0 := by omega
            clear hle
            have hX : Hid _ := hsp'.out.2.2.2.1 hP h0
            clear hsp'
            rw [h0]
            generalize lo S p n = L at hlo hpl hfl hX ⊢
            go_wp2
            rw [hX.out]
            exact bodyPost_ret (v := .tuple #[.agg #[.int .u32 0, .int .u32 0], .bool false]) (by simp [results, Ybad.results10, go_sem]) rfl ⟨rfl, al3 _ _ _ _⟩
end Go.Proofs.YbulkeiiwDoor

/-
  The law's comparisons.
-/
import Derived.Test.YbulkeinsCBase
import Derived.LaidEqlPtr
namespace Go.Proofs.Ybulkeins
open Go Go.RowKit Go.Deep

theorem run_neq_ptr_same {P : Program} (w : World) {tp te : TypeId} {j : TypeInfo} (a : Addr) (hp : P.underlying tp = some (.pointer te)) (hte : P.info? te = some j) :
    (binOp .neq tp (.pointer (some a)) (.pointer (some a))).run P w = .ok (.bool false) w := by
  have h : ∀ d : Nat, (Op.equalIn (d + 1) tp (.pointer (some a)) (.pointer (some a))).run P w = .ok true w := fun d => by
    simp [Op.equalIn, run_underlying hp, sizeOf, typeInfo, hte, run_sameAddr_same]
  simp only [binOp]
  simp [Op.equal, Op.maxDepth, h 9999]

theorem is40 : (Yba.prog.info? 40).isSome = true := by kernel_rfl
theorem is44 : (Yba.prog.info? 44).isSome = true := by kernel_rfl
theorem is46 : (Yba.prog.info? 46).isSome = true := by kernel_rfl

theorem neq31 (p : Option Addr) (w : World) : (binOp .neq 31 (.pointer p) (.pointer p)).run Yba.prog w = .ok (.bool false) w := by
  cases p with
  | none => kernel_rfl
  | some a =>
    obtain ⟨j, hj⟩ := Option.isSome_iff_exists.1 is40
    exact run_neq_ptr_same w a Yba.underlying31 hj
theorem neq55 (p : Option Addr) (w : World) : (binOp .neq 55 (.pointer p) (.pointer p)).run Yba.prog w = .ok (.bool false) w := by
  cases p with
  | none => kernel_rfl
  | some a =>
    obtain ⟨j, hj⟩ := Option.isSome_iff_exists.1 is46
    exact run_neq_ptr_same w a Yba.underlying55 hj
theorem neq56 (p : Option Addr) (w : World) : (binOp .neq 56 (.pointer p) (.pointer p)).run Yba.prog w = .ok (.bool false) w := by
  cases p with
  | none => kernel_rfl
  | some a =>
    obtain ⟨j, hj⟩ := Option.isSome_iff_exists.1 is44
    exact run_neq_ptr_same w a Yba.underlying56 hj
theorem neq37 (w : World) : (binOp .neq 37 (.agg #[.int .i64 0, .pointer none, .int .i64 0]) (.agg #[.int .i64 0, .pointer none, .int .i64 0])).run Yba.prog w = .ok (.bool false) w := by kernel_rfl
theorem neq4 (b : Bool) (w : World) : (binOp .neq 4 (.bool b) (.bool b)).run Yba.prog w = .ok (.bool false) w := by cases b <;> kernel_rfl
theorem eql4 (b : Bool) (w : World) : (binOp .eql 4 (.bool (!b)) (.bool b)).run Yba.prog w = .ok (.bool false) w := by cases b <;> kernel_rfl
theorem eql52 (w : World) (c : Nat) : (binOp .eql 52 (.slice none 0 c) (.slice none 0 0)).run Yba.prog w = .ok (.bool true) w := by kernel_rfl

theorem WsAt.below {s e : Int} {k : Nat} {p : Option Addr} {w w' : World} (h : WsAt s e k p w) (hb : Below w.heap.size w w') : WsAt s e k p w' := by
  rcases h with h | ⟨h1, V, m, h2, h3, h4⟩
  · exact .inl h
  · exact .inr ⟨h1, V, m, h2, (hb.block V (blk_lt h3)).trans h3, (hb.block m (blk_lt h4)).trans h4⟩

/-- What holds behind the call, and on. -/
structure All (s e : Int) (id col : ByteArray) (sel : Nat) (tu : Bool) (cm ba : Option Addr) (k D n : Nat) (K : Nat → Nat) (A : Option Addr) (C O : Nat) (qo : Option Addr) (P : Nat → Nat) (Ab : Option Addr) (obb : Option Nat) (cap Z Ch : Nat) (w W : World) : Prop where
  below : Below w.heap.size w W
  atC : W.heap[C]? = some (.cells (cpCells id col cm ba n O Ab n cap) 54)
  atO : W.heap[O]? = some (.cells (partCells none cm qo) 59)
  ws : WsAt s e k qo W
  cmF : CmFull sel col tu cm k W
  bs : 0 < n → BsAt tu D n K n W
  rowIn : RowIn A n K W
  row : Row 1 obb Ab n cap (ptrs P n) W
  parts : ∀ j, j < n → ∃ q, W.heap[P j]? = some (.cells (partCells (some ⟨D, j * 15, none⟩) (some ⟨D, j * 15 + 5, none⟩) q) 59) ∧ WsAt s e (K j) q W
  atZ : W.heap[Z]? = some (.cells #[.int .i64 0, .pointer none, .int .i64 0] 37)
  atCh : W.heap[Ch]? = some (.cells #[.string id, .string col, .int .i64 0, .pointer none, .int .i64 0, .pointer cm, .slice ba n n] 48)

theorem All.on {s e : Int} {id col : ByteArray} {sel : Nat} {tu : Bool} {cm ba : Option Addr} {k D n : Nat} {K : Nat → Nat} {A : Option Addr} {C O : Nat} {qo : Option Addr} {P : Nat → Nat} {Ab : Option Addr} {obb : Option Nat} {cap Z Ch : Nat} {w W W' : World}
    (h : All s e id col sel tu cm ba k D n K A C O qo P Ab obb cap Z Ch w W) (hb : Below W.heap.size W W') : All s e id col sel tu cm ba k D n K A C O qo P Ab obb cap Z Ch w W' where
  below := h.below.trans (hb.mono h.below.size)
  atC := (hb.block C (blk_lt h.atC)).trans h.atC
  atO := (hb.block O (blk_lt h.atO)).trans h.atO
  ws := h.ws.below hb
  cmF := h.cmF.below hb
  bs := fun hn => (h.bs hn).kept (hb.block D ((h.bs hn).lt hn))
  rowIn := h.rowIn.below hb
  row := h.row.kept fun b e => hb.block b (h.row.lt (by omega) b e)
  parts := fun j hj => by
    obtain ⟨q, h1, h2⟩ := h.parts j hj
    exact ⟨q, (hb.block _ (blk_lt h1)).trans h1, h2.below hb⟩
  atZ := (hb.block Z (blk_lt h.atZ)).trans h.atZ
  atCh := (hb.block Ch (blk_lt h.atCh)).trans h.atCh

theorem ptrs_at (P : Nat → Nat) {n j : Nat} (h : j < n) : (ptrs P n)[j]? = some (.pointer (some ⟨P j, 0, none⟩)) := by
  unfold ptrs
  simp [h]
end Go.Proofs.Ybulkeins

import Derived.Test.YbulkeiiwFmtBStr
import Derived.Test.YbulkeiiwFmtBFmt
namespace Go.Proofs.YbulkeiiwFmt
open Go.RowKit Go.Sort Go.Extern.Stop Go.Stop Go.Extern

set_option maxHeartbeats 1000000 in
theorem errorf_any (A : Int) (z : Addr) (V : Nat) (w : World) (g : G z w) (hV : w.cell? ⟨V, 0, none⟩ = some (.iface 34 (adV A z))) :
    Calls Ybaf.prog 17 #[.string ⟨#[110, 111, 32, 114, 111, 117, 116, 101, 32, 116, 111, 32, 37, 118, 32, 105, 115, 32, 107, 110, 111, 119, 110]⟩, .slice (some ⟨V, 0, none⟩) 1 1] w fun e w' =>
      ∃ a, e = .returned (.iface 72 (.pointer (some a))) ∧ Below w.heap.size w w' := by
  have hVb : V < w.heap.size := World.block_lt_of_cell? _ _ hV
  go_enter Ybaf.func17, Ybaf.ntmps17
  go_wp2
  apply rows_call Ybaf.nextTurns
  case hr => go_simp; exact ⟨⟨rfl, rfl, rfl⟩, rfl⟩
  case hi => exact Ybaf.invokeString34 _ _
  case hc =>
    refine (string_any A z _ g).mono fun e w3 ⟨st, he, hx⟩ => ?_
    subst he
    have hV3 := kc hx hV
    apply rows_value Ybaf.nextReturned
    case hr => go_simp; exact ⟨rfl, rfl⟩
    case h =>
      go_wp2
      go_ret
      exact ⟨_, rfl, (hx.alloc hx.size _).drew⟩
end Go.Proofs.YbulkeiiwFmt

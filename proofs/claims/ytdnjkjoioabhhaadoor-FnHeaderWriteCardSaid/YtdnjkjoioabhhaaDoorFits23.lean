/- Contract of zzFits23. -/
import Derived.Test.YtdnjkjoioabhhaaDoorHdr
namespace Go.Proofs.YtdnjkjoioabhhaaDoor
open Go.RowKit
set_option maxRecDepth 100000

theorem fits23_yes (w : World) (h : Hdr) (h1 : h.cid.length ≤ 2147483647) :
    Calls Tryd.prog 20 #[.agg h.cells] w fun e w' => e = .returned (.bool true) ∧ Below w.heap.size w w' := by
  unfold Hdr.cells
  go_enter Tryd.func20, Tryd.ntmps20
  go_wp2
  go_ret
  exact ⟨rfl, by repeat (first | with_reducible exact Below.refl _ _ | with_reducible refine Below.drew ?_ | with_reducible refine Below.drewN ?_ _ | with_reducible refine Below.alloc ?_ (by (try simp only [Lib.bytesWorld_size, World.size_drew, drewN_size, World.size_alloc, World.size_setCell] at *); first | done | omega) _ | with_reducible refine Below.bytes ?_ (by (try simp only [Lib.bytesWorld_size, World.size_drew, drewN_size, World.size_alloc, World.size_setCell] at *); first | done | omega) _ _ | with_reducible refine Below.setCell ?_ (by (try simp only [Lib.bytesWorld_size, World.size_drew, drewN_size, World.size_alloc, World.size_setCell] at *); first | done | omega) _)⟩
theorem fits23_no (w : World) (h : Hdr) (h1 : 2147483647 < h.cid.length) :
    Calls Tryd.prog 20 #[.agg h.cells] w fun e w' => e = .returned (.bool false) ∧ Below w.heap.size w w' := by
  unfold Hdr.cells
  go_enter Tryd.func20, Tryd.ntmps20
  go_wp2
  go_ret
  exact ⟨rfl, by repeat (first | with_reducible exact Below.refl _ _ | with_reducible refine Below.drew ?_ | with_reducible refine Below.drewN ?_ _ | with_reducible refine Below.alloc ?_ (by (try simp only [Lib.bytesWorld_size, World.size_drew, drewN_size, World.size_alloc, World.size_setCell] at *); first | done | omega) _ | with_reducible refine Below.bytes ?_ (by (try simp only [Lib.bytesWorld_size, World.size_drew, drewN_size, World.size_alloc, World.size_setCell] at *); first | done | omega) _ _ | with_reducible refine Below.setCell ?_ (by (try simp only [Lib.bytesWorld_size, World.size_drew, drewN_size, World.size_alloc, World.size_setCell] at *); first | done | omega) _)⟩
end Go.Proofs.YtdnjkjoioabhhaaDoor

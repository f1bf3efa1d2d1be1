/- Two equal handshake headers are equal to the program. -/
import Derived.Test.YtdnjkjoioabhhaaDoorHandR
import Derived.Laws.StructEq
namespace Go.Proofs.YtdnjkjoioabhhaaDoor
open Go.RowKit
set_option maxRecDepth 100000

theorem hh_eq (m : HH) (w : World) : (Op.equalIn 10000 71 (.agg m.cells) (.agg m.cells)).run Tryd.prog w = .ok true w := by
  rw [run_equalIn_struct w 9999 _ _ _ (by kernel_rfl) (by kernel_rfl)]
  unfold HH.cells
  simp [go_sem, Tryd.underlying71]
end Go.Proofs.YtdnjkjoioabhhaaDoor

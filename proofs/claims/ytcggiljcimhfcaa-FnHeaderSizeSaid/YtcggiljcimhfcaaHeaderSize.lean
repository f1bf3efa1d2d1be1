/- A header has 13 bytes and those of its connection ID: the law's walk. -/
import Derived.Test.YtcggiljcimhfcaaBase
import Derived.Test.YtcggiljcimhfcaaChecked
namespace Go.Proofs.Ytcggiljcimhfcaa
open Go.RowKit
set_option maxRecDepth 100000

theorem fnHeaderSize.walk (a0 : ByteArray) (_w0 : a0.size ≤ maxLen) (w : World) :
    Calls Try.prog 3 #[.string a0] w fun e w' => e = .returned (.bool true) ∧ Below w.heap.size w w' := by
  have kc := fun (w : World) (s : ByteArray) => run_to_bytes (P := Try.prog) 9 34 5 Try.underlying9 Try.underlying34 Try.underlying5 w s
  by_cases h : (a0.size : Int) ≤ 2147483647
  · go_enter Try.func3, Try.ntmps3
    go_wp2
    go_ret
    exact ⟨rfl, by repeat (first | exact Below.refl _ _ | refine Below.drew ?_ | refine Below.drewN ?_ _ | refine Below.alloc ?_ (by (try simp only [Lib.bytesWorld_size, World.size_drew, drewN_size, World.size_alloc, World.size_setCell] at *); first | done | omega) _ | refine Below.bytes ?_ (by (try simp only [Lib.bytesWorld_size, World.size_drew, drewN_size, World.size_alloc, World.size_setCell] at *); first | done | omega) _ _ | refine Below.setCell ?_ (by (try simp only [Lib.bytesWorld_size, World.size_drew, drewN_size, World.size_alloc, World.size_setCell] at *); first | done | omega) _)⟩
  · have h' : (2147483647 : Int) < a0.size := by omega
    go_enter Try.func3, Try.ntmps3
    go_wp2
    go_ret
    exact ⟨rfl, Below.refl _ _⟩
end Go.Proofs.Ytcggiljcimhfcaa

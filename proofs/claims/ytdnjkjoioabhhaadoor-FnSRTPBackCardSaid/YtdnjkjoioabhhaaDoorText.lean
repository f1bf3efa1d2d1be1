/- Contracts of impl.text: a string and whether there was no error. -/
import Derived.Test.YtdnjkjoioabhhaaDoorBase
import Derived.Test.YtdnjkjoioabhhaaDoorChecked
namespace Go.Proofs.YtdnjkjoioabhhaaDoor
open Go.RowKit
set_option maxRecDepth 100000

theorem text_ok {w : World} {v : Value} {l : List UInt8} (hv : By w v l) :
    Calls Tryd.prog 54 #[v, .nilIface] w fun e w' => e = .returned (.tuple #[.string (bs l), .bool true]) ∧ w = w' := by
  go_enter Tryd.func54, Tryd.ntmps54
  go_wp2_with (refine wpList_to_string rfl _ 25 9 5 rfl Tryd.underlying25 Tryd.underlying5 Tryd.underlying9 _ rfl l hv ?_)
  go_ret2
  exact ⟨rfl, rfl⟩
theorem text_err (w : World) (v x : Value) (T : TypeId) :
    Calls Tryd.prog 54 #[v, .iface T x] w fun e w' => e = .returned (.tuple #[.string (bs []), .bool false]) ∧ w = w' := by
  go_enter Tryd.func54, Tryd.ntmps54
  go_wp2
  go_ret2
  exact ⟨rfl, rfl⟩
end Go.Proofs.YtdnjkjoioabhhaaDoor

/- How a writer ends: bytes and no error, or an error. -/
import Derived.Test.YtdnjkjoioabhhaaDoorBase
namespace Go.Proofs.YtdnjkjoioabhhaaDoor
open Go.RowKit

/-- Bytes and no error. -/
def BytesOk (w : World) (l : List UInt8) (e : Ending) (w' : World) : Prop := ∃ v, e = .returned (.tuple #[v, .nilIface]) ∧ By w' v l ∧ Below w.heap.size w w'
/-- An error. -/
def BytesErr (w : World) (e : Ending) (w' : World) : Prop := ∃ v T x, e = .returned (.tuple #[v, .iface T x]) ∧ Below w.heap.size w w'
end Go.Proofs.YtdnjkjoioabhhaaDoor

/- A record's header as plain data. -/
import Derived.Test.YtdnjkjoioabhhaaDoorNum
import Derived.Test.YtdnjkjoioabhhaaDoorChecked
namespace Go.Proofs.YtdnjkjoioabhhaaDoor
open Go.RowKit
set_option maxRecDepth 100000

/-- A record's header as plain data. -/
structure Hdr where
  t : UInt8
  ma : UInt8
  mi : UInt8
  ep : Nat
  sq : Nat
  ln : Nat
  cid : List UInt8
/-- Its cells. -/
def Hdr.cells (h : Hdr) : Array Value := #[.int .u8 (h.t.toNat : Int), .int .u8 (h.ma.toNat : Int), .int .u8 (h.mi.toNat : Int), .int .u16 (h.ep : Int), .int .u64 (h.sq : Int), .int .u16 (h.ln : Int), .string (bs h.cid)]
/-- The library's header's cells. -/
def Hdr.lib (h : Hdr) (v : Value) : Array Value := #[.int .u8 (h.t.toNat : Int), .int .u16 (h.ln : Int), .int .u8 (h.ma.toNat : Int), .int .u8 (h.mi.toNat : Int), .int .u16 (h.ep : Int), .int .u64 (h.sq : Int), v]
end Go.Proofs.YtdnjkjoioabhhaaDoor

/- A record's header as bytes. -/
import Derived.Test.YtcggiljcimhfcaaDoorHdrData
namespace Go.Proofs.YtcggiljcimhfcaaDoor
open Go.RowKit
set_option maxRecDepth 100000
def headL (h : Hdr) : List UInt8 := [h.t, h.ma, h.mi] ++ be 2 h.ep ++ be 6 h.sq ++ h.cid ++ be 2 h.ln
end Go.Proofs.YtcggiljcimhfcaaDoor

/- A record's header as plain data and as the library has it. -/
import Derived.Test.YtdnjkjoioabhhaaDoorNum
import Derived.Test.YtdnjkjoioabhhaaDoorChecked
namespace Go.Proofs.YtdnjkjoioabhhaaDoor
open Go.RowKit
set_option maxRecDepth 100000

/-- A record's header as plain data. -/
structure Hdr where
  t : UInt8
  ma : UInt8
  mi : UInt8
  ep : Nat
  sq : Nat
  ln : Nat
  cid : List UInt8
/-- Its cells. -/
def Hdr.cells (h : Hdr) : Array Value := #[.int .u8 (h.t.toNat : Int), .int .u8 (h.ma.toNat : Int), .int .u8 (h.mi.toNat : Int), .int .u16 (h.ep : Int), .int .u64 (h.sq : Int), .int .u16 (h.ln : Int), .string (bs h.cid)]
/-- The library's header's cells. -/
def Hdr.lib (h : Hdr) (v : Value) : Array Value := #[.int .u8 (h.t.toNat : Int), .int .u16 (h.ln : Int), .int .u8 (h.ma.toNat : Int), .int .u8 (h.mi.toNat : Int), .int .u16 (h.ep : Int), .int .u64 (h.sq : Int), v]
def HdrPost (w : World) (h : Hdr) (e : Ending) (w' : World) : Prop := ∃ v, e = .returned (.agg (h.lib v)) ∧ By w' v h.cid ∧ Below w.heap.size w w'
theorem header_any (w : World) (h : Hdr) : Calls Tryd.prog 59 #[.agg h.cells] w (HdrPost w h) := by
  unfold Hdr.cells
  have kc := fun (w : World) (s : ByteArray) => run_to_bytes (P := Tryd.prog) 9 25 5 Tryd.underlying9 Tryd.underlying25 Tryd.underlying5 w s
  go_enter Tryd.func59, Tryd.ntmps59
  go_wp2
  refine bodyPost_ret (v := .agg (h.lib _)) (by simp [results, Tryd.results59, go_sem, Hdr.lib]; rfl) rfl ⟨_, rfl, ?_, ?_⟩
  · repeat (first | with_reducible exact By.to_bytes' _ _ _ _ _ (by (try simp only [Lib.bytesWorld_size, World.size_drew, drewN_size, World.size_alloc, World.size_setCell] at *); first | done | omega) (grownCap_ge _ _ _ _) | with_reducible refine By.alloc ?_ _ | with_reducible refine By.drew ?_ | with_reducible refine By.far ?_ (by simp [Value.ownBlock]) _)
  · repeat (first | with_reducible exact Below.refl _ _ | with_reducible refine Below.drew ?_ | with_reducible refine Below.drewN ?_ _ | with_reducible refine Below.alloc ?_ (by (try simp only [Lib.bytesWorld_size, World.size_drew, drewN_size, World.size_alloc, World.size_setCell] at *); first | done | omega) _ | with_reducible refine Below.bytes ?_ (by (try simp only [Lib.bytesWorld_size, World.size_drew, drewN_size, World.size_alloc, World.size_setCell] at *); first | done | omega) _ _ | with_reducible refine Below.setCell ?_ (by (try simp only [Lib.bytesWorld_size, World.size_drew, drewN_size, World.size_alloc, World.size_setCell] at *); first | done | omega) _)
end Go.Proofs.YtdnjkjoioabhhaaDoor

/- Contract of the laws' framed: a record. -/
import Derived.Test.YtcggiljcimhfcaaDoorHeaded
import Derived.Laws.Bits64b
namespace Go.Proofs.YtcggiljcimhfcaaDoor
open Go.RowKit
set_option maxRecDepth 100000

def frameHdr (k : UInt8) (ep sq : Nat) (cid c : List UInt8) : Hdr := ⟨k, 254, 253, ep, sq, c.length, cid⟩
def frameL (k : UInt8) (ep sq : Nat) (cid c : List UInt8) : List UInt8 := headL (frameHdr k ep sq cid c) ++ c
theorem frameL_length (k : UInt8) (ep sq : Nat) (cid c : List UInt8) : (frameL k ep sq cid c).length = 13 + cid.length + c.length := by
  simp [frameL, headL, frameHdr, be_length]; omega
theorem headL_length (h : Hdr) : (headL h).length = 13 + h.cid.length := by simp [headL, be_length]; omega
theorem mask48 (n : Nat) (h : n ≤ 281474976710655) : bits .and .u64 (n : Int) 281474976710655 = (n : Int) := by
  have e : n &&& 281474976710655 = n := by
    rw [show 281474976710655 = 2 ^ 48 - 1 by decide, Nat.and_two_pow_sub_one_eq_mod]; omega
  have := bits_and_u64_nat n 281474976710655 (by omega) (by omega)
  rw [e] at this
  exact this
theorem framed_any (w : World) (k : UInt8) (ep sq : Nat) (cid c : List UInt8) (hep : ep < 65536) (hsq : sq ≤ 281474976710655) (hcid : cid.length ≤ 2147483647) (hc : c.length ≤ 65535) :
    Calls Tryd.prog 11 #[.int .u8 (k.toNat : Int), .int .u16 (ep : Int), .int .u64 (sq : Int), .string (bs cid), .string (bs c)] w fun e w' => e = .returned (.string (bs (frameL k ep sq cid c))) ∧ Below w.heap.size w w' := by
  have m1 := mask48 sq hsq
  have m2 : IntKind.u16.wrap (c.length : Int) = c.length := by simp [IntKind.wrap, IntKind.bits, IntKind.signed]; omega
  have hl := headL_length (frameHdr k ep sq cid c)
  have hl1 : (headL (frameHdr k ep sq cid c)).length ≤ 2147483660 := by rw [hl]; simp only [frameHdr]; omega
  have ec : (frameHdr k ep sq cid c).cells = #[.int .u8 (k.toNat : Int), .int .u8 254, .int .u8 253, .int .u16 (ep : Int), .int .u64 (sq : Int), .int .u16 (c.length : Int), .string (bs cid)] := rfl
  have hh := fun w' : World => headed_any w' (frameHdr k ep sq cid c) hep (by simp only [frameHdr]; omega) (by simp only [frameHdr]; omega)
  rw [ec] at hh
  have HH := Lib.hid hh
  have HS := Lib.hid hsq
  clear hl hsq hh ec
  go_enter Tryd.func11, Tryd.ntmps11
  go_wp2_with (go_at_call 20; refine (HH.out _).mono ?_; rintro e w1 ⟨rfl, hb1⟩)
  go_ret
  exact ⟨rfl, hb1⟩
end Go.Proofs.YtcggiljcimhfcaaDoor

/- Contract of the laws' framedExt. -/
import Derived.Test.YtdnjkjoioabhhaaDoorLaws1
namespace Go.Proofs.YtdnjkjoioabhhaaDoor
open Go.RowKit
set_option maxRecDepth 100000

/-- An extension as the standard lays it out: its type, its body behind its length. -/
def extL (kind : Nat) (body : List UInt8) : List UInt8 := be 2 kind ++ vecL 2 body
@[go_sem] theorem extL_length (kind : Nat) (body : List UInt8) : (extL kind body).length = 4 + body.length := by rw [extL, List.length_append, be_length, vecL_length]; omega
theorem framedExt_any (w : World) (kind : Nat) (body : List UInt8) (hk : kind < 65536) (hl : body.length ≤ 4294967296) :
    Calls Tryd.prog 25 #[.int .u16 (kind : Int), .string (bs body)] w fun e w' => e = .returned (.string (bs (extL kind body))) ∧ Below w.heap.size w w' := by
  have x1 : IntKind.u64.wrap (kind : Int) = (kind : Int) := by simp [IntKind.wrap, IntKind.bits, IntKind.signed]; omega
  go_enter Tryd.func25, Tryd.ntmps25
  go_wp2_with (first
    | (go_at_call 39; refine (big_any kind 2 (by omega) _).mono ?_; rintro e w1 ⟨rfl, hb1⟩)
    | (go_at_call 15; refine (vec_any body 2 hl (by omega) _).mono ?_; rintro e w2 ⟨rfl, hb2⟩))
  go_ret
  exact ⟨rfl, hb1.trans (hb2.mono hb1.size)⟩
end Go.Proofs.YtdnjkjoioabhhaaDoor

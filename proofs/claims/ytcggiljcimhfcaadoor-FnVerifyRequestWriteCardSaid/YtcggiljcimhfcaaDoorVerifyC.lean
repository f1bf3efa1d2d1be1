/- A hello verify request is written as the standard lays it out: the law's walk. -/
import Derived.Test.YtcggiljcimhfcaaDoorVerifyB
import Derived.Test.YtcggiljcimhfcaaDoorRows
namespace Go.Proofs.YtcggiljcimhfcaaDoor
open Go.RowKit
set_option maxRecDepth 100000

theorem vr_write (w : World) (cs : Array Value) (a b : UInt8) (l : List UInt8) (h2 : cs[2]? = some (.int .u8 (a.toNat : Int))) (h3 : cs[3]? = some (.int .u8 (b.toNat : Int))) (h6 : cs[6]? = some (.string (bs l)))
    (hs : (Tryd.prog.info? 33).map (·.size) = some cs.size) (hl : l.length ≤ 255) :
    Calls Tryd.prog 6 #[.agg cs] w fun e w' => e = .returned (.tuple #[.string (bs (a :: b :: UInt8.ofNat l.length :: l)), .bool true]) ∧ Below w.heap.size w w' := by
  have hOK := rowOK_mk Tryd.underlying33 rfl hs 33 (0, 0)
  go_enter Tryd.func6, Tryd.ntmps6
  go_wp2_with (first
    | (go_at_call 15; refine (makeVR_any _ cs _ _ l h2 h3 h6 hs).mono ?_; rintro e w1 ⟨g, v, rfl, hB, hv, hb1, hg⟩)
    | (go_at_call 16; refine (vr_marshal _ g a b v l hB hv hl).mono ?_; rintro e w2 ⟨v2, rfl, hv2, hb2⟩)
    | (go_at_call 14; refine (text_ok hv2).mono ?_; rintro e w3 ⟨rfl, rfl⟩))
  go_ret2
  refine ⟨rfl, ?_⟩
  exact (((Below.refl _ _).alloc (Nat.le_refl _) _).trans (hb1.mono (by (try simp only [Lib.bytesWorld_size, World.size_drew, World.size_alloc, World.size_setCell] at *); first | done | omega))).trans (hb2.mono (by have := hb1.size; (try simp only [Lib.bytesWorld_size, World.size_drew, World.size_alloc, World.size_setCell] at *); first | done | omega))

theorem fnVerifyRequestWrite.walk (a0 : ByteArray) (_w0 : a0.size ≤ maxLen) (w : World) (_hL : laidMetH Tryd.prog Rows.fnVerifyRequestWriteRow.laid w) :
    Calls Tryd.prog 3 #[.string a0] w fun e w' => e = .returned (.bool true) ∧ Below w.heap.size w w' := by
  obtain ⟨l, rfl⟩ := bs_ex a0
  by_cases h1 : 2147483647 < l.length
  · go_enter Tryd.func3, Tryd.ntmps3
    go_wp2_with fail
    go_ret
    exact ⟨rfl, Below.refl _ _⟩
  by_cases h2 : l.length < 256
  · have d1 : decide ((l.length : Int) < 256) = true := by simp; omega
    go_enter Tryd.func3, Tryd.ntmps3
    go_wp2_with (first
      | (go_at_call 6; refine (vr_write _ _ 254 253 l rfl rfl rfl (by kernel_rfl) (by omega)).mono ?_; rintro e w1 ⟨rfl, hb1⟩)
      | (go_at_call 7; refine (vec_any l 1 (by omega) (by omega) _).mono ?_; rintro e w2 ⟨rfl, hb2⟩))
    go_ret
    refine ⟨?_, hb1.trans (hb2.mono hb1.size)⟩
    rw [show (ByteArray.mk #[254, 253]) = bs [254, 253] from rfl, bs_append, bs_toList]
    simp [vecL, be, Nat.mod_eq_of_lt h2]
  · have d1 : decide ((l.length : Int) < 256) = false := by simp; omega
    go_enter Tryd.func3, Tryd.ntmps3
    go_wp2_with fail
    go_ret
    exact ⟨rfl, Below.refl _ _⟩
end Go.Proofs.YtcggiljcimhfcaaDoor

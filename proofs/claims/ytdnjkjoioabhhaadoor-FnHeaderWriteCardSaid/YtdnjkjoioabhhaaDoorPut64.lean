/- Contract of binary.BigEndian.PutUint64. -/
import Derived.Test.YtdnjkjoioabhhaaDoorPut16
import Derived.Test.YtdnjkjoioabhhaaDoorChecked
namespace Go.Proofs.YtdnjkjoioabhhaaDoor
open Go.RowKit
set_option maxRecDepth 100000

theorem put64 (w : World) (g e o n c v : Nat) (l : List UInt8) (hB : Blk w g e (l.map bv)) (hn : 8 ≤ n) (ho : o + 8 ≤ l.length) (hv : v < 18446744073709551616) :
    Calls Tryd.prog 109 #[.agg #[], .slice (some ⟨g, o, none⟩) n c, .int .u64 (v : Int)] w (Laid w g e (lay l o (be 8 v))) := by
  obtain ⟨u0, c0⟩ := hB.cell_lt o (by simp; omega)
  obtain ⟨u1, c1⟩ := hB.cell_lt (o + 1) (by simp; omega)
  obtain ⟨u2, c2⟩ := hB.cell_lt (o + 2) (by simp; omega)
  obtain ⟨u3, c3⟩ := hB.cell_lt (o + 3) (by simp; omega)
  obtain ⟨u4, c4⟩ := hB.cell_lt (o + 4) (by simp; omega)
  obtain ⟨u5, c5⟩ := hB.cell_lt (o + 5) (by simp; omega)
  obtain ⟨u6, c6⟩ := hB.cell_lt (o + 6) (by simp; omega)
  obtain ⟨u7, c7⟩ := hB.cell_lt (o + 7) (by simp; omega)
  have hf := hB.frozen
  have hg := hB.lt
  have HB := Lib.hid hB
  have HV := Lib.hid hv
  clear hB hv
  go_enter Tryd.func109, Tryd.ntmps109
  go_wp2
  go_end0
  refine ⟨rfl, ?_, ?_⟩
  · have e0 := nat_u8d v 72057594037927936
    have e1 := nat_u8d v 281474976710656
    have e2 := nat_u8d v 1099511627776
    have e3 := nat_u8d v 4294967296
    have e4 := nat_u8d v 16777216
    have e5 := nat_u8d v 65536
    have e6 := nat_u8d v 256
    have e7 := nat_u8 v
    simp only [Int.cast_ofNat_Int] at e0 e1 e2 e3 e4 e5 e6
    rw [e0, e1, e2, e3, e4, e5, e6, ← e7, be8, lay_cons _ _ _ _ (by omega)]
    iterate 7 rw [lay_cons _ _ _ _ (by simp; omega)]
    rw [lay_nil]
    exact ((((((((HB.out.setb o _).setb (o + 1) _).setb (o + 2) _).setb (o + 3) _).setb (o + 4) _).setb (o + 5) _).setb (o + 6) _).setb (o + 7) _).alloc _
  · exact grown_alloc (grown_set (grown_set (grown_set (grown_set (grown_set (grown_set (grown_set (grown_set (World.grownBy.refl _ _) _ _) _ _) _ _) _ _) _ _) _ _) _ _) _ _) _
end Go.Proofs.YtdnjkjoioabhhaaDoor

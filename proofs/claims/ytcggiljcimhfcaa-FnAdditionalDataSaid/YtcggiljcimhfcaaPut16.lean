/- Contract of binary.BigEndian.PutUint16. -/
import Derived.Test.YtcggiljcimhfcaaNum
import Derived.Test.YtcggiljcimhfcaaChecked
namespace Go.Proofs.Ytcggiljcimhfcaa
open Go.RowKit
set_option maxRecDepth 100000

/-- A call that lays bytes into a buffer and hands nothing back. -/
def Laid (w : World) (g e : Nat) (l : List UInt8) (en : Ending) (w' : World) : Prop := en = .returned (.tuple #[]) ∧ Blk w' g e (l.map bv) ∧ w.grownBy w' (some g)
theorem put16 (w : World) (g e o n c v : Nat) (l : List UInt8) (hB : Blk w g e (l.map bv)) (hn : 2 ≤ n) (ho : o + 2 ≤ l.length) (hv : v < 65536) :
    Calls Try.prog 22 #[.agg #[], .slice (some ⟨g, o, none⟩) n c, .int .u16 (v : Int)] w (Laid w g e (lay l o (be 2 v))) := by
  obtain ⟨u0, c0⟩ := hB.cell_lt o (by simp; omega)
  obtain ⟨u1, c1⟩ := hB.cell_lt (o + 1) (by simp; omega)
  have hf := hB.frozen
  have hg := hB.lt
  have HB := Lib.hid hB
  clear hB
  go_enter Try.func22, Try.ntmps22
  go_wp2
  go_end0
  refine ⟨rfl, ?_, ?_⟩
  · have e0 : (.int .u8 ((v : Int) / 256) : Value) = bv (UInt8.ofNat (v / 256 % 256)) := by
      rw [nat_u8]; congr 1; simp; omega
    have e1 : (.int .u8 ((v : Int) % 256) : Value) = bv (UInt8.ofNat (v % 256)) := by rw [nat_u8]
    rw [e0, e1, show be 2 v = [UInt8.ofNat (v / 256 % 256), UInt8.ofNat (v % 256)] from by simp [be], lay_cons _ _ _ _ (by omega), lay_cons _ _ _ _ (by simp; omega), lay_nil]
    exact ((HB.out.setb o _).setb (o + 1) _).alloc _
  · exact grown_alloc (grown_set (grown_set (World.grownBy.refl _ _) _ _) _ _) _
end Go.Proofs.Ytcggiljcimhfcaa

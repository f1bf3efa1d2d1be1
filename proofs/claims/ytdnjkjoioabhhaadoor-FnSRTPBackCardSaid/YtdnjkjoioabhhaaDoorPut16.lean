/- Contract of binary.BigEndian.PutUint16. -/
import Derived.Test.YtdnjkjoioabhhaaDoorNum
import Derived.Test.YtdnjkjoioabhhaaDoorChecked
namespace Go.Proofs.YtdnjkjoioabhhaaDoor
open Go.RowKit
set_option maxRecDepth 100000

/-- A call that lays bytes into a buffer and hands nothing back. -/
def Laid (w : World) (g e : Nat) (l : List UInt8) (en : Ending) (w' : World) : Prop := en = .returned (.tuple #[]) ∧ Blk w' g e (l.map bv) ∧ w.grownBy w' (some g)
/-- Since the call's world w: the buffer g, made since, holds l, and nothing of w is changed. -/
structure Buf (w : World) (g e : Nat) (l : List UInt8) (W : World) : Prop where
  blk : Blk W g e (l.map bv)
  below : Below w.heap.size w W
  new : w.heap.size ≤ g
theorem Buf.lay {w : World} {g e : Nat} {l l' : List UInt8} {W W' : World} {en : Ending} (h : Buf w g e l W) (hl : Laid W g e l' en W') : Buf w g e l' W' :=
  ⟨hl.2.1, h.below.grown hl.2.2 h.below.size (fun k hk => by cases hk; exact h.new), h.new⟩
theorem Buf.grow {w : World} {g e : Nat} {l l' : List UInt8} {W W' : World} (h : Buf w g e l W) (hb : Blk W' g e (l'.map bv)) (hg : W.grownBy W' (some g)) : Buf w g e l' W' :=
  ⟨hb, h.below.grown hg h.below.size (fun k hk => by cases hk; exact h.new), h.new⟩
theorem Buf.drew {w : World} {g e : Nat} {l : List UInt8} {W : World} (h : Buf w g e l W) : Buf w g e l W.drew := ⟨h.blk.drew, h.below.drew, h.new⟩
theorem Buf.setb {w : World} {g e : Nat} {l : List UInt8} {W : World} (h : Buf w g e l W) (i : Nat) (b : UInt8) : Buf w g e (l.set i b) (W.setCell ⟨g, i, none⟩ (bv b)) := ⟨h.blk.setb i b, h.below.setCell h.new _, h.new⟩
theorem Buf.step {w : World} {g e : Nat} {l : List UInt8} {W W' : World} (h : Buf w g e l W) (hb : Below W.heap.size W W') : Buf w g e l W' :=
  ⟨h.blk.below hb h.blk.lt, h.below.trans (hb.mono h.below.size), h.new⟩
theorem Buf.cell {w : World} {g e : Nat} {l : List UInt8} {W : World} (h : Buf w g e l W) {b : Nat} (hb : b < w.heap.size) (k : Nat) : W.cell? ⟨b, k, none⟩ = w.cell? ⟨b, k, none⟩ := h.below.cell hb
theorem Buf.at_ {w : World} {g e : Nat} {l : List UInt8} {W : World} (h : Buf w g e l W) (i : Nat) (hi : i < l.length) : ∃ u, W.cell? ⟨g, i, none⟩ = some u := h.blk.cell_lt i (by simpa using hi)
theorem Buf.by {w : World} {g e : Nat} {l : List UInt8} {W : World} (h : Buf w g e l W) (c : Nat) (hc : l.length ≤ c) : By W (.slice (some ⟨g, 0, none⟩) l.length c) l := h.blk.by c hc
theorem put16 (w : World) (g e o n c v : Nat) (l : List UInt8) (hB : Blk w g e (l.map bv)) (hn : 2 ≤ n) (ho : o + 2 ≤ l.length) (hv : v < 65536) :
    Calls Tryd.prog 94 #[.agg #[], .slice (some ⟨g, o, none⟩) n c, .int .u16 (v : Int)] w (Laid w g e (lay l o (be 2 v))) := by
  obtain ⟨u0, c0⟩ := hB.cell_lt o (by simp; omega)
  obtain ⟨u1, c1⟩ := hB.cell_lt (o + 1) (by simp; omega)
  have hf := hB.frozen
  have hg := hB.lt
  have HB := Lib.hid hB
  clear hB
  go_enter Tryd.func94, Tryd.ntmps94
  go_wp2
  go_end0
  refine ⟨rfl, ?_, ?_⟩
  · have e0 : (.int .u8 ((v : Int) / 256) : Value) = bv (UInt8.ofNat (v / 256 % 256)) := by
      rw [nat_u8]; congr 1; simp; omega
    have e1 : (.int .u8 ((v : Int) % 256) : Value) = bv (UInt8.ofNat (v % 256)) := by rw [nat_u8]
    rw [e0, e1, show be 2 v = [UInt8.ofNat (v / 256 % 256), UInt8.ofNat (v % 256)] from by simp [be], lay_cons _ _ _ _ (by omega), lay_cons _ _ _ _ (by simp; omega), lay_nil]
    exact ((HB.out.setb o _).setb (o + 1) _).alloc _
  · exact grown_alloc (grown_set (grown_set (World.grownBy.refl _ _) _ _) _ _) _
end Go.Proofs.YtdnjkjoioabhhaaDoor

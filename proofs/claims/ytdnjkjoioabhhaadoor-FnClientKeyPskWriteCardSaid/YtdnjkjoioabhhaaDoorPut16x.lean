/- binary.BigEndian.PutUint16 into a buffer that was grown by append. -/
import Derived.Test.YtdnjkjoioabhhaaDoorGrow
import Derived.Test.YtdnjkjoioabhhaaDoorChecked
namespace Go.Proofs.YtdnjkjoioabhhaaDoor
open Go.RowKit
set_option maxRecDepth 100000

theorem Blk.setbx {w : World} {g : Nat} {e : TypeId} {l : List UInt8} {cs : List Value} (h : Blk w g e (l.map bv ++ cs)) (i : Nat) (hi : i < l.length) (b : UInt8) : Blk (w.setCell ⟨g, i, none⟩ (bv b)) g e ((l.set i b).map bv ++ cs) := by
  have := h.set i (bv b)
  rw [List.set_append_left _ _ (by simpa using hi)] at this
  rw [List.map_set]; exact this
theorem put16x (w : World) (g e o n c v : Nat) (l : List UInt8) (cs : List Value) (hB : Blk w g e (l.map bv ++ cs)) (hn : 2 ≤ n) (ho : o + 2 ≤ l.length) (hv : v < 65536) :
    Calls Tryd.prog 94 #[.agg #[], .slice (some ⟨g, o, none⟩) n c, .int .u16 (v : Int)] w fun en w' =>
      en = .returned (.tuple #[]) ∧ Blk w' g e ((lay l o (be 2 v)).map bv ++ cs) ∧ w.grownBy w' (some g) := by
  obtain ⟨u0, c0⟩ := hB.cell_lt o (by simp; omega)
  obtain ⟨u1, c1⟩ := hB.cell_lt (o + 1) (by simp; omega)
  have hf := hB.frozen
  have hg := hB.lt
  have HB := Lib.hid hB
  clear hB
  go_enter Tryd.func94, Tryd.ntmps94
  go_wp2
  go_end0
  refine ⟨rfl, ?_, ?_⟩
  · have e0 : (.int .u8 ((v : Int) / 256) : Value) = bv (UInt8.ofNat (v / 256 % 256)) := by
      rw [nat_u8]; congr 1; simp; omega
    have e1 : (.int .u8 ((v : Int) % 256) : Value) = bv (UInt8.ofNat (v % 256)) := by rw [nat_u8]
    rw [e0, e1, show be 2 v = [UInt8.ofNat (v / 256 % 256), UInt8.ofNat (v % 256)] from by simp [be], lay_cons _ _ _ _ (by omega), lay_cons _ _ _ _ (by simp; omega), lay_nil]
    exact ((HB.out.setbx o (by omega) _).setbx (o + 1) (by simp; omega) _).alloc _
  · exact grown_alloc (grown_set (grown_set (World.grownBy.refl _ _) _ _) _ _) _
theorem Blk.byx {w : World} {g : Nat} {e : TypeId} {l : List UInt8} {cs : List Value} (h : Blk w g e (l.map bv ++ cs)) (n c : Nat) (hn : n = l.length) (hc : n ≤ c) : By w (.slice (some ⟨g, 0, none⟩) n c) l := by
  subst hn
  refine By.mk hc fun _ => ⟨g, 0, rfl, fun j hj => ?_⟩
  rw [Nat.zero_add, h.cell, List.getElem?_append_left (by simpa using hj), List.getElem?_map, List.getElem?_eq_getElem hj]; rfl
/-- The buffer again, when bytes were laid into it. -/
theorem Grow.put {w W W' : World} {e : TypeId} {g c : Nat} {l l' : List UInt8} {cs : List Value} (h : Grow w e (.slice (some ⟨g, 0, none⟩) l.length c) l W) (hB : Blk W' g e (l'.map bv ++ cs)) (hcs : l'.length + cs.length = c)
    (hl : l'.length = l.length) (hg : W.grownBy W' (some g)) : Grow w e (.slice (some ⟨g, 0, none⟩) l'.length c) l' W' := by
  rcases h.own.2 with ⟨h0, _⟩ | ⟨g', c', cur, hv, hg', hc, hn, hm, hs, ht⟩
  · cases h0
  · simp only [Value.slice.injEq, Option.some.injEq, Addr.mk.injEq, and_true, true_and] at hv
    obtain ⟨rfl, rfl⟩ := hv
    refine ⟨⟨by simp, .inr ⟨g, c, _, rfl, hg', hB, by omega, hm, by simp; omega, ?_⟩⟩, h.below.grown hg h.below.size (fun k hk => by cases hk; exact hg')⟩
    rw [Nat.mul_one]
    have : l'.length = (l'.map bv).length := by simp
    rw [this]
    simp
end Go.Proofs.YtdnjkjoioabhhaaDoor

/- Contracts of binary.BigEndian.PutUint32 and util.PutBigEndianUint24. -/
import Derived.Test.YtdnjkjoioabhhaaDoorPut16
import Derived.Test.YtdnjkjoioabhhaaDoorBig
namespace Go.Proofs.YtdnjkjoioabhhaaDoor
open Go.RowKit
set_option maxRecDepth 100000

theorem put32 (w : World) (g e o n c v : Nat) (l : List UInt8) (hB : Blk w g e (l.map bv)) (hn : 4 ≤ n) (ho : o + 4 ≤ l.length) (hv : v < 4294967296) :
    Calls Tryd.prog 113 #[.agg #[], .slice (some ⟨g, o, none⟩) n c, .int .u32 (v : Int)] w (Laid w g e (lay l o (be 4 v))) := by
  obtain ⟨u0, c0⟩ := hB.cell_lt o (by simp; omega)
  obtain ⟨u1, c1⟩ := hB.cell_lt (o + 1) (by simp; omega)
  obtain ⟨u2, c2⟩ := hB.cell_lt (o + 2) (by simp; omega)
  obtain ⟨u3, c3⟩ := hB.cell_lt (o + 3) (by simp; omega)
  have hf := hB.frozen
  have hg := hB.lt
  have HB := Lib.hid hB
  have HV := Lib.hid hv
  clear hB hv
  go_enter Tryd.func113, Tryd.ntmps113
  go_wp2
  go_end0
  refine ⟨rfl, ?_, ?_⟩
  · have e4 := nat_u8d v 16777216
    have e5 := nat_u8d v 65536
    have e6 := nat_u8d v 256
    have e7 := nat_u8 v
    simp only [Int.cast_ofNat_Int] at e4 e5 e6
    rw [e4, e5, e6, ← e7, be4, lay_cons _ _ _ _ (by omega)]
    iterate 3 rw [lay_cons _ _ _ _ (by simp; omega)]
    rw [lay_nil]
    exact ((((HB.out.setb o _).setb (o + 1) _).setb (o + 2) _).setb (o + 3) _).alloc _
  · exact grown_alloc (grown_set (grown_set (grown_set (grown_set (World.grownBy.refl _ _) _ _) _ _) _ _) _ _) _
theorem be4_cut (v : Nat) : (be 4 v).drop 1 = be 3 v := by
  rw [be_cons]; rfl
theorem cut24 (v : Nat) : ((lay (List.replicate 4 (0 : UInt8)) 0 (be 4 v)).drop 1).take 3 = be 3 v := by
  have : lay (List.replicate 4 (0 : UInt8)) 0 (be 4 v) = be 4 v := by simp [lay, be_length]
  rw [this, be4_cut, List.take_of_length_le (by simp [be_length])]
set_option maxHeartbeats 800000 in
theorem put24 (w : World) (g e o n c v : Nat) (l : List UInt8) (hB : Blk w g e (l.map bv)) (hn : 3 ≤ n) (ho : o + 3 ≤ l.length) (hv : v < 4294967296) :
    Calls Tryd.prog 108 #[.slice (some ⟨g, o, none⟩) n c, .int .u32 (v : Int)] w (Laid w g e (lay l o (be 3 v))) := by
  have hg := hB.lt
  have HB := Lib.hid hB
  have HV := Lib.hid hv
  clear hB hv
  go_enter Tryd.func108, Tryd.ntmps108
  go_wp2_with (first
    | (at_make; refine wpList_make_bytes _ rfl _ _ 25 rfl 5 Tryd.underlying25 Tryd.infoByte .i64 .i64 4 4 4 rfl rfl rfl rfl (by omega) ?_; intro w1 hB hb hz; have b1 : Buf w w.heap.size 5 (List.replicate 4 0) w1 := ⟨hB, hb, Nat.le_refl _⟩; clear hB hb hz)
    | (go_at_call 113; refine (put32 _ w.heap.size 5 0 4 4 v _ b1.blk (by omega) (by simp) HV.out).mono ?_; rintro e w2 h2; have b2 := b1.lay h2; obtain ⟨rfl, _⟩ := h2; have y2 : By w2 (.slice (some ⟨w.heap.size, 1, none⟩) 3 3) (be 3 v) := (by have := b2.blk.by_part 1 3 3 (by simp [lay, be_length]) (by omega); rwa [cut24] at this))
    | (refine wpList_copy_bytes rfl (.tmp 10) (.tmp 12) 25 25 rfl 5 Tryd.underlying25 (by kernel_rfl) _ _ _ rfl _ (be 3 v) rfl y2 g o e l (HB.out.below b2.below hg) (fun _ => rfl) (by simp [be_length]; omega) (by simp [be_length]; omega) ?_; intro w3 h3 g3))
  go_end0
  exact ⟨rfl, h3, grown_trans (grown_below b2.below) g3⟩
end Go.Proofs.YtdnjkjoioabhhaaDoor

/- Contract of util.PutBigEndianUint48. -/
import Derived.Test.YtdnjkjoioabhhaaDoorPut64
import Derived.Test.YtdnjkjoioabhhaaDoorBig
namespace Go.Proofs.YtdnjkjoioabhhaaDoor
open Go.RowKit
set_option maxRecDepth 100000

theorem be8_cut (v : Nat) : (be 8 v).drop 2 = be 6 v := by
  rw [be_cons, be_cons]; rfl
theorem cut48 (v : Nat) : ((lay (List.replicate 8 (0 : UInt8)) 0 (be 8 v)).drop 2).take 6 = be 6 v := by
  have : lay (List.replicate 8 (0 : UInt8)) 0 (be 8 v) = be 8 v := by simp [lay, be_length]
  rw [this, be8_cut, List.take_of_length_le (by simp [be_length])]
set_option maxHeartbeats 800000 in
theorem put48 (w : World) (g e o n c v : Nat) (l : List UInt8) (hB : Blk w g e (l.map bv)) (hn : 6 ≤ n) (ho : o + 6 ≤ l.length) (hv : v < 18446744073709551616) :
    Calls Tryd.prog 96 #[.slice (some ⟨g, o, none⟩) n c, .int .u64 (v : Int)] w (Laid w g e (lay l o (be 6 v))) := by
  have hg := hB.lt
  have HB := Lib.hid hB
  have HV := Lib.hid hv
  clear hB hv
  go_enter Tryd.func96, Tryd.ntmps96
  go_wp2_with (first
    | (at_make; refine wpList_make_bytes _ rfl _ _ 25 rfl 5 Tryd.underlying25 Tryd.infoByte .i64 .i64 8 8 8 rfl rfl rfl rfl (by omega) ?_; intro w1 hB hb hz; have b1 : Buf w w.heap.size 5 (List.replicate 8 0) w1 := ⟨hB, hb, Nat.le_refl _⟩; clear hB hb hz)
    | (go_at_call 109; refine (put64 _ w.heap.size 5 0 8 8 v _ b1.blk (by omega) (by simp) HV.out).mono ?_; rintro e w2 h2; have b2 := b1.lay h2; obtain ⟨rfl, _⟩ := h2; have y2 : By w2 (.slice (some ⟨w.heap.size, 2, none⟩) 6 6) (be 6 v) := (by have := b2.blk.by_part 2 6 6 (by simp [lay, be_length]) (by omega); rwa [cut48] at this))
    | (refine wpList_copy_bytes rfl (.tmp 10) (.tmp 12) 25 25 rfl 5 Tryd.underlying25 (by kernel_rfl) _ _ _ rfl _ (be 6 v) rfl y2 g o e l (HB.out.below b2.below hg) (fun _ => rfl) (by simp [be_length]; omega) (by simp [be_length]; omega) ?_; intro w3 h3 g3))
  go_end0
  exact ⟨rfl, h3, grown_trans (grown_below b2.below) g3⟩
end Go.Proofs.YtdnjkjoioabhhaaDoor

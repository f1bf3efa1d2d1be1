/- Contracts on the road of a hello verify request: how it is written. -/
import Derived.Test.YtcggiljcimhfcaaDoorVerifyA
namespace Go.Proofs.YtcggiljcimhfcaaDoor
open Go.RowKit
set_option maxRecDepth 100000

theorem vr_lay (a b c : UInt8) (l : List UInt8) : lay ((((List.replicate (3 + l.length) (0 : UInt8)).set 0 a).set 1 b).set 2 c) 3 l = a :: b :: c :: l := by
  rw [Nat.add_comm]; simp [lay, List.replicate_succ]; omega
def VRBytes (w : World) (l : List UInt8) (e : Ending) (w' : World) : Prop :=
  ∃ v, e = .returned (.tuple #[v, .nilIface]) ∧ By w' v l ∧ Below w.heap.size w w'
theorem vr_marshal (w : World) (g : Nat) (a b : UInt8) (v : Value) (l : List UInt8) (hm : Blk w g 71 [bv a, bv b, v]) (hv : By w v l) (hl : l.length ≤ 255) :
    Calls Tryd.prog 16 #[.pointer (some ⟨g, 0, none⟩)] w (VRBytes w (a :: b :: UInt8.ofNat l.length :: l)) := by
  obtain ⟨A, c, rfl, hlc, hr⟩ := hv.parts
  have m0 : w.cell? ⟨g, 0, none⟩ = some (.int .u8 (a.toNat : Int)) := hm.cell 0
  have m1 : w.cell? ⟨g, 1, none⟩ = some (.int .u8 (b.toNat : Int)) := hm.cell 1
  have m2 : w.cell? ⟨g, 2, none⟩ = some (.slice A l.length c) := hm.cell 2
  have hg := hm.lt
  clear hr
  go_enter Tryd.func16, Tryd.ntmps16
  go_wp2_with (at_make; refine wpList_make_bytes _ rfl _ _ 26 rfl 5 Tryd.underlying26 Tryd.infoByte .i64 .i64 _ _ (3 + l.length) rfl rfl (by omega) (by omega) (by omega) ?_; intro w1 hB hb hz; have HB := Lib.hid hB; have HBB := Lib.hid hb; obtain ⟨u0, c0⟩ := hB.cell_lt 0 (by simp; omega); obtain ⟨u1, c1⟩ := hB.cell_lt 1 (by simp; omega); obtain ⟨u2, c2⟩ := hB.cell_lt 2 (by simp; omega); have hf := hB.frozen; have n0 := (hb.cell (p := ⟨g, 0, none⟩) hg).trans m0; have n1 := (hb.cell (p := ⟨g, 1, none⟩) hg).trans m1; have n2 := (hb.cell (p := ⟨g, 2, none⟩) hg).trans m2; clear hB hb hz m0 m1 m2)
  refine wp_abs (fun w' => Hid (Blk w' w.heap.size 5 (((((List.replicate (3 + l.length) (0 : UInt8)).set 0 a).set 1 b).set 2 (UInt8.ofNat l.length)).map bv)) ∧ w'.cell? ⟨g, 2, none⟩ = some (.slice A l.length c) ∧ Hid (Below w.heap.size w w'))
    ⟨?_, ?_, ?_⟩ ?_
  · have e : (Value.int .u8 (l.length : Int)) = .int .u8 ((UInt8.ofNat l.length).toNat : Int) := by congr 1; simp; omega
    rw [e]; exact HB.out.set3 a b _
  · have hne : w.heap.size ≠ g := by omega
    simp [go_sem, n2, hne]
  · exact ((HBB.out.setCell (Nat.le_refl _) _).setCell (Nat.le_refl _) _).setCell (Nat.le_refl _) _
  rintro w2 ⟨HB2, k2, hb2⟩
  clear c0 c1 c2 hf n0 n1 n2 HB HBB
  have i1 : (3 : Int) ≤ 3 + (l.length : Int) := by omega
  go_still_tail 6, (by kernel_rfl)
  refine wpList_copy_bytes rfl (.tmp 42) (.tmp 46) 26 26 rfl 5 Tryd.underlying26 (by kernel_rfl) _ _ _ rfl _ l rfl ((hv.below hb2.out).drew) w.heap.size 3 5 _ HB2.out.drew ?_ ?_ ?_ ?_
  · intro h; rw [if_neg (by rintro rfl; simp at h)]
  · omega
  · simp
  intro w3 HB3 hg3
  rw [vr_lay] at HB3
  have H3 := Lib.hid HB3
  have H4 := Lib.hid (hb2.out.drew.grown hg3 hb2.out.size (fun k hk => by cases hk; exact Nat.le_refl _))
  clear HB3 hg3
  go_wp2
  all_goals
    go_ret2
    refine ⟨_, rfl, ?_, H4.out⟩
  · subst_vars; exact H3.out.by 3 (by simp)
  · have := H3.out.by (3 + l.length) (by simp; omega)
    rwa [show (a :: b :: UInt8.ofNat l.length :: l).length = 3 + l.length from (by simp; omega)] at this
end Go.Proofs.YtcggiljcimhfcaaDoor

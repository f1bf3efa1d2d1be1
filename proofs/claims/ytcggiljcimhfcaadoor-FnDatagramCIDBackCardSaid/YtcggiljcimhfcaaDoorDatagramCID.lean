/- impl.DatagramCID of whole records. -/
import Derived.Test.YtcggiljcimhfcaaDoorUnpackCID
namespace Go.Proofs.YtcggiljcimhfcaaDoor
open Go.RowKit
set_option maxRecDepth 100000

def TextsPost (w : World) (R : List (List UInt8)) (e : Ending) (w' : World) : Prop :=
  ∃ v, e = .returned (.tuple #[v, .bool true]) ∧ Sl w' v (strs R) ∧ Below w.heap.size w w'
theorem texts_ok (w : World) (v0 : Value) (vs : List Value) (R : List (List UInt8)) (hv : Sl w v0 vs) (hb : Bys w vs R) (hl : vs.length ≤ 2147483647) :
    Calls Tryd.prog 21 #[v0, .nilIface] w (TextsPost w R) := by
  have HV := Lib.hid hv
  have HB := Lib.hid hb
  clear hv hb
  go_enter Tryd.func21, Tryd.ntmps21
  go_wp2_with (go_at_call 24; refine (plain_any _ _ vs R HV.out HB.out hl).mono ?_; rintro e w1 ⟨v1, rfl, hs1, hb1⟩)
  go_ret2
  exact ⟨_, rfl, hs1, hb1⟩
theorem datagramCID_ok (w : World) (R : List (List UInt8)) (cl : Nat) (hcl : 0 < R.length → cl ≤ 255) (hR : ∀ r ∈ R, Rec cl r) (hl : R.flatten.length ≤ 2147483647) (hRl : R.length ≤ 2147483647) :
    Calls Tryd.prog 12 #[.string (bs R.flatten), .int .i64 (cl : Int)] w (TextsPost w R) := by
  obtain ⟨l, hL⟩ : ∃ l, l = R.flatten := ⟨_, rfl⟩
  rw [← hL]
  have HL := Lib.hid hL
  clear hL
  have kc := fun (w : World) (s : ByteArray) => run_to_bytes (P := Tryd.prog) 9 26 5 Tryd.underlying9 Tryd.underlying26 Tryd.underlying5 w s
  go_enter Tryd.func12, Tryd.ntmps12
  go_wp2_with (first
    | (go_at_call 22; refine (unpackCID _ _ R cl (by rw [← HL.out]; exact By.to_bytes' _ _ l _ _ (by (try simp only [Lib.bytesWorld_size, World.size_drew, drewN_size, World.size_alloc, World.size_setCell] at *); first | done | omega) (grownCap_ge _ _ _ _)) hcl hR hl hRl).mono ?_; rintro e w1 ⟨v, vs, rfl, hsl, hbys, hb⟩; have HSL := Lib.hid hsl; have HBY := Lib.hid hbys; clear hsl hbys)
    | (go_at_call 21; refine (texts_ok _ _ vs R HSL.out HBY.out (by rw [← HBY.out.1]; exact hRl)).mono ?_; rintro e w2 ⟨v2, rfl, hs2, hb2⟩))
  go_ret2
  exact ⟨_, rfl, hs2, ((below_bytes w _ _).trans (hb.mono (by (try simp only [Lib.bytesWorld_size, World.size_drew, drewN_size, World.size_alloc, World.size_setCell] at *); first | done | omega))).trans (hb2.mono (by have := hb.size; (try simp only [Lib.bytesWorld_size, World.size_drew, drewN_size, World.size_alloc, World.size_setCell] at *); first | done | omega))⟩
end Go.Proofs.YtcggiljcimhfcaaDoor

/- Contracts on the road of a hello verify request. -/
import Derived.Test.YtcggiljcimhfcaaDoorText
import Derived.Test.YtcggiljcimhfcaaDoorLaws1
import Derived.Deep.RegionWith
namespace Go.Proofs.YtcggiljcimhfcaaDoor
open Go.RowKit
set_option maxRecDepth 100000

theorem version_any (w : World) (cs : Array Value) (a b : Int) (h2 : cs[2]? = some (.int .u8 a)) (h3 : cs[3]? = some (.int .u8 b)) :
    Calls Tryd.prog 23 #[.agg cs] w fun e w' => e = .returned (.agg #[.int .u8 a, .int .u8 b]) ∧ Below w.heap.size w w' := by
  go_enter Tryd.func23, Tryd.ntmps23
  go_wp2
  refine bodyPost_ret (v := .agg #[.int .u8 a, .int .u8 b]) (by simp [results, Tryd.results23, go_sem]) rfl ⟨rfl, ?_⟩
  exact (((Below.refl _ _).alloc (Nat.le_refl _) _).alloc (by simp) _)

def VRMade (w : World) (l : List UInt8) (a b : Int) (e : Ending) (w' : World) : Prop :=
  ∃ g v, e = .returned (.pointer (some ⟨g, 0, none⟩)) ∧ Blk w' g 71 [.int .u8 a, .int .u8 b, v] ∧ By w' v l ∧ Below w.heap.size w w' ∧ w.heap.size ≤ g
set_option maxHeartbeats 1000000 in
theorem makeVR_any (w : World) (cs : Array Value) (a b : Int) (l : List UInt8) (h2 : cs[2]? = some (.int .u8 a)) (h3 : cs[3]? = some (.int .u8 b)) (h6 : cs[6]? = some (.string (bs l))) (hs : (Tryd.prog.info? 33).map (·.size) = some cs.size) :
    Calls Tryd.prog 15 #[.agg cs] w (VRMade w l a b) := by
  have kc := fun (w : World) (s : ByteArray) => run_to_bytes (P := Tryd.prog) 9 26 5 Tryd.underlying9 Tryd.underlying26 Tryd.underlying5 w s
  go_enter Tryd.func15, Tryd.ntmps15
  go_wp2_with fail
  have hOK := rowOK_mk Tryd.underlying33 rfl hs 33 (0, 0)
  go_region_with (go_at_call 23; refine (version_any _ cs a b h2 h3).mono ?_; rintro e w1 ⟨rfl, hb⟩; obtain ⟨hc, hf⟩ := bcell hb; have ho := objAt_below hb; have hz := hb.size)
  all_goals
    go_wp2
    go_ret
    refine ⟨_, _, rfl, Blk.new' _ _ [_, _, _] _ ?_, By.alloc ?_ _, Below.alloc ?_ ?_ _, ?_⟩
  all_goals first | ((try simp only [Lib.bytesWorld_size, World.size_drew, World.size_alloc, World.size_setCell] at *); first | done | omega) | exact By.to_bytes _ _ _ | exact (By.to_bytes' _ _ _ _ _ (by (try simp only [Lib.bytesWorld_size, World.size_drew, World.size_alloc, World.size_setCell] at *); first | done | omega) (grownCap_ge _ _ _ _)).below hb | (first | (exact Below.trans (by repeat (first | exact Below.refl _ _ | refine Below.drew ?_ | refine Below.alloc ?_ (by (try simp only [Lib.bytesWorld_size, World.size_drew, World.size_alloc, World.size_setCell] at *); first | done | omega) _ | refine Below.bytes ?_ (by (try simp only [Lib.bytesWorld_size, World.size_drew, World.size_alloc, World.size_setCell] at *); first | done | omega) _ _ | refine Below.setCell ?_ (by (try simp only [Lib.bytesWorld_size, World.size_drew, World.size_alloc, World.size_setCell] at *); first | done | omega) _)) (hb.mono (by (try simp only [Lib.bytesWorld_size, World.size_drew, World.size_alloc, World.size_setCell] at *); first | done | omega))) | (repeat (first | exact Below.refl _ _ | refine Below.drew ?_ | refine Below.alloc ?_ (by (try simp only [Lib.bytesWorld_size, World.size_drew, World.size_alloc, World.size_setCell] at *); first | done | omega) _ | refine Below.bytes ?_ (by (try simp only [Lib.bytesWorld_size, World.size_drew, World.size_alloc, World.size_setCell] at *); first | done | omega) _ _ | refine Below.setCell ?_ (by (try simp only [Lib.bytesWorld_size, World.size_drew, World.size_alloc, World.size_setCell] at *); first | done | omega) _); exact Below.trans (by repeat (first | exact Below.refl _ _ | refine Below.drew ?_ | refine Below.alloc ?_ (by (try simp only [Lib.bytesWorld_size, World.size_drew, World.size_alloc, World.size_setCell] at *); first | done | omega) _ | refine Below.bytes ?_ (by (try simp only [Lib.bytesWorld_size, World.size_drew, World.size_alloc, World.size_setCell] at *); first | done | omega) _ _ | refine Below.setCell ?_ (by (try simp only [Lib.bytesWorld_size, World.size_drew, World.size_alloc, World.size_setCell] at *); first | done | omega) _)) (hb.mono (by (try simp only [Lib.bytesWorld_size, World.size_drew, World.size_alloc, World.size_setCell] at *); first | done | omega))))
end Go.Proofs.YtcggiljcimhfcaaDoor

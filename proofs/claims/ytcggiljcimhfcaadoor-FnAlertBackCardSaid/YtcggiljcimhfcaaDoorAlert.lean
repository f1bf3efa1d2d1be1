/- An alert is two bytes and is read back: contracts and the law's walk. -/
import Derived.Test.YtcggiljcimhfcaaDoorText
import Derived.Test.YtcggiljcimhfcaaDoorRows
import Derived.Deep.RegionWith
namespace Go.Proofs.YtcggiljcimhfcaaDoor
open Go.RowKit
set_option maxRecDepth 100000

def AlBytes (w : World) (l : List UInt8) (e : Ending) (w' : World) : Prop :=
  ∃ v, e = .returned (.tuple #[v, .nilIface]) ∧ By w' v l ∧ Below w.heap.size w w'
theorem al_marshal (w : World) (g : Nat) (a b : UInt8) (h0 : w.cell? ⟨g, 0, none⟩ = some (.int .u8 (a.toNat : Int))) (h1 : w.cell? ⟨g, 1, none⟩ = some (.int .u8 (b.toNat : Int))) :
    Calls Tryd.prog 18 #[.pointer (some ⟨g, 0, none⟩)] w (AlBytes w [a, b]) := by
  go_enter Tryd.func18, Tryd.ntmps18
  go_wp2_with fail
  go_region_with (fail)
  all_goals
    go_wp2
    go_ret2
    refine ⟨_, rfl, Blk.by (g := w.heap.size) (e := 5) (l := [a, b]) (by exact Blk.new' _ _ [bv a, bv b] _ rfl) 2 (by simp), by repeat (first | exact Below.refl _ _ | refine Below.drew ?_ | refine Below.drewN ?_ _ | refine Below.alloc ?_ (by (try simp only [Lib.bytesWorld_size, World.size_drew, drewN_size, World.size_alloc, World.size_setCell] at *); first | done | omega) _ | refine Below.bytes ?_ (by (try simp only [Lib.bytesWorld_size, World.size_drew, drewN_size, World.size_alloc, World.size_setCell] at *); first | done | omega) _ _ | refine Below.setCell ?_ (by (try simp only [Lib.bytesWorld_size, World.size_drew, drewN_size, World.size_alloc, World.size_setCell] at *); first | done | omega) _)⟩
theorem al_unmarshal (w : World) (g : Nat) (a b : UInt8) (v u0 u1 : Value) (hv : By w v [a, b]) (hne : v.ownBlock ≠ some g)
    (h0 : w.cell? ⟨g, 0, none⟩ = some u0) (h1 : w.cell? ⟨g, 1, none⟩ = some u1) (f0 : w.frozen? ⟨g, 0, none⟩ = false) (f1 : w.frozen? ⟨g, 1, none⟩ = false) :
    Calls Tryd.prog 19 #[.pointer (some ⟨g, 0, none⟩), v] w fun e w' => e = .returned .nilIface ∧ (w.setCell ⟨g, 0, none⟩ (.int .u8 (a.toNat : Int))).setCell ⟨g, 1, none⟩ (.int .u8 (b.toNat : Int)) = w' := by
  obtain ⟨A, c, rfl, hlc, hr⟩ := hv.parts
  obtain ⟨g', o, rfl, hg', hr0⟩ := hr (by simp)
  have c0 : w.cell? ⟨g', o, none⟩ = some (.int .u8 (a.toNat : Int)) := hr0 0 (by simp)
  have c1 : w.cell? ⟨g', o + 1, none⟩ = some (.int .u8 (b.toNat : Int)) := hr0 1 (by simp)
  have hn : ¬ g = g' := fun e => hne (by rw [e]; rfl)
  clear hr hr0 hv hne
  go_enter Tryd.func19, Tryd.ntmps19
  go_wp2_with fail
  go_ret
  exact ⟨rfl, rfl⟩
theorem al_write (w : World) (a b : UInt8) :
    Calls Tryd.prog 8 #[.int .u8 (a.toNat : Int), .int .u8 (b.toNat : Int)] w fun e w' => e = .returned (.tuple #[.string (bs [a, b]), .bool true]) ∧ Below w.heap.size w w' := by
  go_enter Tryd.func8, Tryd.ntmps8
  go_wp2_with (first
    | (go_at_call 18; refine (al_marshal _ _ a b (by simp [go_sem]) (by simp [go_sem])).mono ?_; rintro e w1 ⟨v, rfl, hv, hb⟩)
    | (go_at_call 14; refine (text_ok hv).mono ?_; rintro e w3 ⟨rfl, rfl⟩))
  go_ret2
  exact ⟨rfl, ((Below.refl _ _).alloc (Nat.le_refl _) _).trans (hb.mono (by (try simp only [Lib.bytesWorld_size, World.size_drew, drewN_size, World.size_alloc, World.size_setCell] at *); first | done | omega))⟩
theorem al_read (w : World) (a b : UInt8) :
    Calls Tryd.prog 9 #[.string (bs [a, b])] w fun e w' => e = .returned (.tuple #[.int .u8 (a.toNat : Int), .int .u8 (b.toNat : Int), .bool true]) ∧ Below w.heap.size w w' := by
  have kc := fun (w : World) (s : ByteArray) => run_to_bytes (P := Tryd.prog) 9 26 5 Tryd.underlying9 Tryd.underlying26 Tryd.underlying5 w s
  go_enter Tryd.func9, Tryd.ntmps9
  go_wp2_with (first
    | (go_at_call 19; go_loud (refine (al_unmarshal _ _ a b _ (.int .u8 0) (.int .u8 0) (By.to_bytes' _ _ [a, b] _ _ (by simp) (grownCap_ge _ _ _ _)) (by simp [Value.ownBlock]) (by simp [go_sem]) (by simp [go_sem]) (by simp [go_sem]) (by simp [go_sem])).mono ?_); rintro e w1 ⟨rfl, rfl⟩))
  go_quiet (fail)
  go_wp2
  go_ret3
  exact ⟨rfl, by repeat (first | exact Below.refl _ _ | refine Below.drew ?_ | refine Below.drewN ?_ _ | refine Below.alloc ?_ (by (try simp only [Lib.bytesWorld_size, World.size_drew, drewN_size, World.size_alloc, World.size_setCell] at *); first | done | omega) _ | refine Below.bytes ?_ (by (try simp only [Lib.bytesWorld_size, World.size_drew, drewN_size, World.size_alloc, World.size_setCell] at *); first | done | omega) _ _ | refine Below.setCell ?_ (by (try simp only [Lib.bytesWorld_size, World.size_drew, drewN_size, World.size_alloc, World.size_setCell] at *); first | done | omega) _)⟩
theorem fnAlertBack.walk (a0 : Int) (w0 : (Lit.int .u8 a0).wf = true) (a1 : Int) (w1 : (Lit.int .u8 a1).wf = true) (w : World) (_hL : laidMetH Tryd.prog Rows.fnAlertBackRow.laid w) :
    Calls Tryd.prog 4 #[.int .u8 a0, .int .u8 a1] w fun e w' => e = .returned (.bool true) ∧ Below w.heap.size w w' := by
  obtain ⟨a, rfl⟩ := byte_ex w0
  obtain ⟨b, rfl⟩ := byte_ex w1
  clear w0 w1
  go_enter Tryd.func4, Tryd.ntmps4
  go_wp2_with fail
  refine (al_write _ a b).mono ?_
  rintro e w1 ⟨rfl, hb1⟩
  have hB2 : By (w1.alloc (.cells #[.int .u8 (a.toNat : Int), .int .u8 (b.toNat : Int)] 5)) (.slice (some ⟨w1.heap.size, 0, none⟩) 2 2) [a, b] :=
    Blk.by (g := w1.heap.size) (e := 5) (l := [a, b]) (Blk.new' w1 5 [bv a, bv b] _ rfl) 2 (by simp)
  have hcv := run_to_string (P := Tryd.prog) hB2 26 9 5 Tryd.underlying26 Tryd.underlying5 Tryd.underlying9
  go_wp2_with (first
    | (go_at_call 9; refine (al_read _ a b).mono ?_; rintro e w2 ⟨rfl, hb2⟩))
  go_ret
  refine ⟨by simp, ?_⟩
  exact (hb1.alloc hb1.size _).trans (hb2.mono (by have := hb1.size; (try simp only [Lib.bytesWorld_size, World.size_drew, drewN_size, World.size_alloc, World.size_setCell] at *); first | done | omega))
end Go.Proofs.YtcggiljcimhfcaaDoor

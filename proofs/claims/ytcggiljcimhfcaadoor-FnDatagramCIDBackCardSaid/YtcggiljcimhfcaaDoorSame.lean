/- Contract of the laws' same, where both lists are one. -/
import Derived.Test.YtcggiljcimhfcaaDoorStrs
import Derived.Test.YtcggiljcimhfcaaDoorChecked
namespace Go.Proofs.YtcggiljcimhfcaaDoor
open Go.RowKit
set_option maxRecDepth 100000

theorem same_yes (w : World) (v u : Value) (ls : List (List UInt8)) (hv : Sl w v (strs ls)) (hu : Sl w u (strs ls)) (hl : ls.length ≤ 2147483647) :
    Calls Tryd.prog 13 #[v, u] w fun e w' => e = .returned (.bool true) ∧ Below w.heap.size w w' := by
  obtain ⟨A, c, rfl, hlc, hr⟩ := hv.str
  obtain ⟨A', c', rfl, hlc', hr'⟩ := hu.str
  have HR := Lib.hid hr
  have HR' := Lib.hid hr'
  have d0 : ((ls.length : Int) != (ls.length : Int)) = false := by simp
  clear hr hv hr' hu
  go_enter Tryd.func13, Tryd.ntmps13
  go_wp2_with fail
  go_loopg [5, 13] ls.length (fun m _ x wr => ∃ k : Nat, k ≤ ls.length ∧ m = ls.length - k ∧ x = .int .i64 (k : Int) ∧ Hid (∀ p : Addr, wr.cell? p = w.cell? p) ∧ Hid (Below w.heap.size w wr))
  case atStart => exact ⟨0, Nat.zero_le _, rfl, rfl, fun _ => rfl, Below.refl _ _⟩
  case round =>
    obtain ⟨k, hk, rfl, rfl, HK, Hb⟩ := hrel
    by_cases hlt : k < ls.length
    · obtain ⟨g, o, rfl, hg, hc⟩ := HR.out (by omega)
      obtain ⟨g', o', rfl, hg', hc'⟩ := HR'.out (by omega)
      have c0 := (HK.out _).trans (hc k hlt)
      have c1 := (HK.out _).trans (hc' k hlt)
      generalize ls[k] = x at c0 c1
      have i1 : (k : Int) < (ls.length : Int) := by omega
      have i0 : (0 : Int) ≤ (k : Int) := by omega
      clear hc hc'
      go_wp2_with fail
      go_quiet (fail)
      go_wp2_with fail
      go_roundg (ls.length - (k + 1))
      case measure => omega
      case rel => exact ⟨k + 1, by omega, rfl, by go_num, HK, Below.drewN Hb.out _⟩
    · obtain rfl : k = ls.length := by omega
      go_wp2
      go_ret
      exact ⟨rfl, Hb.out⟩
end Go.Proofs.YtcggiljcimhfcaaDoor

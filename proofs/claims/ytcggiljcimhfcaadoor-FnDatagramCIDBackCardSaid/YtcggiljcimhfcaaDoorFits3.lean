/- Contract of the laws' zzFits3. -/
import Derived.Test.YtcggiljcimhfcaaDoorStrs
import Derived.Test.YtcggiljcimhfcaaDoorChecked
namespace Go.Proofs.YtcggiljcimhfcaaDoor
open Go.RowKit
set_option maxRecDepth 100000

theorem bool_false {b : Bool} {p : Prop} (h : b = true ↔ p) (hn : ¬p) : b = false := by
  cases b with | false => rfl | true => exact absurd (h.1 rfl) hn
def Fits3Post (w : World) (ls : List (List UInt8)) (e : Ending) (w' : World) : Prop :=
  ∃ b, e = .returned (.bool b) ∧ (b = true ↔ ls.length ≤ 2147483647 ∧ ∀ l ∈ ls, l.length ≤ 2147483647) ∧ Below w.heap.size w w'
theorem fits3_any (w : World) (v : Value) (ls : List (List UInt8)) (hv : Sl w v (strs ls)) :
    Calls Tryd.prog 10 #[v] w (Fits3Post w ls) := by
  obtain ⟨A, c, rfl, hlc, hr⟩ := hv.str
  have HR := Lib.hid hr
  clear hr hv
  by_cases h1 : (2147483647 : Int) < ls.length
  · have d1 : decide ((2147483647 : Int) < (ls.length : Int)) = true := by simpa using h1
    go_enter Tryd.func10, Tryd.ntmps10
    go_wp2_with fail
    go_ret
    exact ⟨_, rfl, ⟨(fun h => by cases h), fun h => by omega⟩, Below.refl _ _⟩
  have d1 : decide ((2147483647 : Int) < (ls.length : Int)) = false := by simpa using h1
  have h31 : ls.length ≤ 2147483647 := by omega
  clear h1
  go_enter Tryd.func10, Tryd.ntmps10
  go_wp2_with fail
  go_loopg [4, 10] ls.length (fun m _ x wr => ∃ k : Nat, k ≤ ls.length ∧ m = ls.length - k ∧ x = .int .i64 (k : Int) ∧ Hid (∀ j (h : j < ls.length), j < k → ls[j].length ≤ 2147483647) ∧ wr = w)
  case atStart => exact ⟨0, Nat.zero_le _, rfl, rfl, fun j _ h => absurd h (by omega), rfl⟩
  case round =>
    obtain ⟨k, hk, rfl, rfl, HK, rfl⟩ := hrel
    by_cases hlt : k < ls.length
    · obtain ⟨g, o, rfl, hg, hc⟩ := HR.out (by omega)
      have c0 := hc k hlt
      obtain ⟨x, hx⟩ : ∃ x, x = ls[k] := ⟨_, rfl⟩
      rw [← hx] at c0
      have HX := Lib.hid hx
      clear hc hx
      by_cases h2 : (2147483647 : Int) < x.length
      · have d2 : decide ((2147483647 : Int) < (x.length : Int)) = true := by simpa using h2
        go_wp2_with fail
        go_ret
        exact ⟨_, rfl, ⟨(fun h => by cases h), fun h => by have := h.2 ls[k] (List.getElem_mem hlt); rw [← HX.out] at this; omega⟩, Below.refl _ _⟩
      · have d2 : decide ((2147483647 : Int) < (x.length : Int)) = false := by simpa using h2
        go_wp2_with fail
        go_roundg (ls.length - (k + 1))
        case measure => omega
        case rel =>
          refine ⟨k + 1, by omega, rfl, by go_num, fun j h hj => ?_, rfl⟩
          rcases Nat.lt_or_ge j k with h' | h'
          · exact HK.out j h h'
          · obtain rfl : j = k := by omega
            rw [← HX.out]; omega
    · obtain rfl : k = ls.length := by omega
      go_wp2
      go_ret
      refine ⟨_, rfl, ⟨fun _ => ⟨h31, fun l hl => ?_⟩, fun _ => rfl⟩, Below.refl _ _⟩
      obtain ⟨j, hj, rfl⟩ := List.getElem_of_mem hl
      exact HK.out j hj hj
end Go.Proofs.YtcggiljcimhfcaaDoor

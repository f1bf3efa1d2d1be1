/- Lists of texts as values. -/
import Derived.Test.YtcggiljcimhfcaaDoorBase
namespace Go.Proofs.YtcggiljcimhfcaaDoor
open Go.RowKit

/-- Texts as values. -/
def strs (ls : List (List UInt8)) : List Value := ls.map fun l => .string (bs l)
@[go_sem] theorem strs_length (ls : List (List UInt8)) : (strs ls).length = ls.length := by simp [strs]
theorem Sl.str {w : World} {v : Value} {ls : List (List UInt8)} (h : Sl w v (strs ls)) : ∃ A c, v = .slice A ls.length c ∧ ls.length ≤ c ∧
    (0 < ls.length → ∃ g o, A = some ⟨g, o, none⟩ ∧ g < w.heap.size ∧ ∀ j (h : j < ls.length), w.cell? ⟨g, o + j, none⟩ = some (.string (bs ls[j]))) := by
  obtain ⟨A, c, hv, hc, hr⟩ := h
  rw [strs_length] at hv hc
  refine ⟨A, c, hv, hc, fun h0 => ?_⟩
  obtain ⟨g, o, hA, hj⟩ := hr (by rw [strs_length]; exact h0)
  have hj' : ∀ j (h : j < ls.length), w.cell? ⟨g, o + j, none⟩ = some (.string (bs ls[j])) := fun j h => by
    rw [hj j (by rw [strs_length]; exact h)]; simp [strs]
  exact ⟨g, o, hA, World.block_lt_of_cell? w _ (hj' 0 h0), hj'⟩
end Go.Proofs.YtcggiljcimhfcaaDoor

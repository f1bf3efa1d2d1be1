/- What the row's list of laid sentinels gives a walk: the variable's cell holds an interface value that is not nil. -/
import Derived.Test.YtdnjkjoioabhhaaDoorBase
import Derived.Stop.LaidErr
import Derived.LaidMore
namespace Go.Proofs.YtdnjkjoioabhhaaDoor
open Go.RowKit Go.ChangeShapes

/-- The cell of the variable g holds an interface value that is not nil. -/
def Sent (W : World) (g : Nat) : Prop := ∃ T x, W.cell? ⟨g, 0, none⟩ = some (.iface T x)
theorem sent_of {P : Program} {n nm : String} {d : DataW Unit} {r : List (String × DataW Unit)} {W : World} {g : Nat} {ti : TypeId} {ms : Array (String × TypeId)}
    (h : laidMet P ((n, .iface nm d) :: r) W) (hg : P.globalNamed n = some g) (ht : (P.globals[g]?).map (·.type) = some ti) (hi : P.underlying ti = some (.interface ms)) : Sent W g := by
  obtain ⟨ps, ⟨g0, t0, cs0, f0, p0, q0, hg0, ht0, hv0, hd0, _, _⟩, _, _⟩ := h
  obtain rfl := Option.some.inj (hg.symm.trans hg0)
  obtain rfl := Option.some.inj (ht.symm.trans ht0)
  obtain ⟨_, u, v, hl, _, _⟩ := iface_of_trod hi hd0
  refine ⟨u, v, ?_⟩
  rw [World.var?_cell hg0 hv0 0]
  have := congrArg (·[0]?) hl
  simpa using this
theorem Sent.lt {W : World} {g : Nat} (h : Sent W g) : g < W.heap.size := by
  obtain ⟨T, x, h⟩ := h
  rcases Nat.lt_or_ge g W.heap.size with h' | h'
  · exact h'
  · simp [World.cell?, Array.getElem?_eq_none h'] at h
theorem Sent.below {W W' : World} {g : Nat} (h : Sent W g) (hb : Below W.heap.size W W') : Sent W' g := by
  have hl := h.lt
  obtain ⟨T, x, h⟩ := h
  exact ⟨T, x, (hb.cell (p := ⟨g, 0, none⟩) hl).trans h⟩
theorem Sent.alloc {W : World} {g : Nat} (h : Sent W g) (o : Obj) : Sent (W.alloc o) g := h.below ((Below.refl _ _).alloc (Nat.le_refl _) _)
end Go.Proofs.YtdnjkjoioabhhaaDoor

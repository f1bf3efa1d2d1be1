/- A map of small numbers that a call makes: what lies in it is found. -/
import Derived.Test.YtdnjkjoioabhhaaDoorBase
import Derived.MapKept
import Derived.Carry
namespace Go.Proofs.YtdnjkjoioabhhaaDoor
open Go.RowKit Go.MapKept
set_option maxRecDepth 100000

theorem insert_new {P : Program} {w : World} {t kt e : TypeId} {q : IntKind} (ht : P.underlying t = some (.map kt e)) (hk : P.underlying kt = some (.int q)) {r : Nat} {es : Array MapEntry} {clock : Nat} (hr : w.heap[r]? = some (.map es clock))
    (z : Int) (v : Value) (hf : Instr.findNow (.int q) (.int q z) es.toList 0 = some none) {B : Nat} {w0 : World} (hb : Below B w0 w) (hB : B ≤ r) :
    ∃ w', (Instr.mapUpdate t (.map (some r)) (.int q z) v).run P w = .ok () w' ∧ w'.heap[r]? = some (.map (es.push { key := .int q z, val := v, born := clock }) (clock + 1)) ∧ Below B w0 w' := by
  refine ⟨{ w with heap := w.heap.setIfInBounds r (.map (es.push { key := .int q z, val := v, born := clock }) (clock + 1)) }, ?_, (heap_set hr).1, ?_⟩
  · simp only [Instr.mapUpdate, Sem.run_bind, run_underlying ht, Result.andThen_ok, Go.MapKept.run_getObj_map hr, run_checkKey hk (k := .int q z) (by simp [IsKey]), run_findKey hk hf]
    exact run_setObj_map _ hr
  · exact hb.trans ⟨rfl, rfl, rfl, by simp, fun k hk => (heap_set hr).2 k (by omega)⟩
theorem lookup_there {P : Program} {w : World} {t kt e : TypeId} {q : IntKind} (ht : P.underlying t = some (.map kt e)) (hk : P.underlying kt = some (.int q)) {r : Nat} {es : Array MapEntry} {clock : Nat} (hr : w.heap[r]? = some (.map es clock))
    (z : Int) (i : Nat) (v : Value) (hf : Instr.findNow (.int q) (.int q z) es.toList 0 = some (some (i, v))) :
    (Instr.lookup t (.map (some r)) (.int q z) true).run P w = .ok (.tuple #[v, .bool true]) w := by
  simp only [Instr.lookup, Sem.run_bind, run_underlying ht, Result.andThen_ok, Go.MapKept.run_getObj_map hr, Sem.run_pure, run_checkKey hk (k := .int q z) (by simp [IsKey]), run_findKey hk hf, if_true]
end Go.Proofs.YtdnjkjoioabhhaaDoor

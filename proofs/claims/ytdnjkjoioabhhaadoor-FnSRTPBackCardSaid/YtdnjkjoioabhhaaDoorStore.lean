/- A struct stored whole. -/
import Derived.Test.YtdnjkjoioabhhaaDoorBase
import Derived.Laws.Tables
namespace Go.Proofs.YtdnjkjoioabhhaaDoor
open Go.RowKit
set_option maxRecDepth 100000

theorem wpList_store_whole {P : Program} {w : World} {ops : Array Oper} {rest : List Oper} {o : Oper} {a : Act} {Q : Exit → Act → World → Prop} (hgd : o.guard = none) (ty : TypeId) (x y : Operand) (ho : o.op = .store ty x y)
    (g : Nat) (cells : Array Value) (hx : a.eval x = .pointer (some ⟨g, 0, none⟩)) (hy : a.eval y = .agg cells) (t : TypeId) (old : Array Value) (hg : objAt w g = some (.cells old t (0, 0)))
    (hi : (P.info? ty).map (·.size) = some cells.size) (hold : old.size = cells.size) (h1 : cells.all (·.oneCell') = true)
    (h : ∀ w', objAt w' g = some (.cells cells t (0, 0)) → w.grownBy w' (some g) → wpList P ops Q rest (a.put o.dst undef) w') : wpList P ops Q (o :: rest) a w :=
  wpList_plain hgd fun _ hK => wp_store_row ty x y ho g cells hx hy t old hg hi hold h1 (hK _ _ (h _ (setRow_heap w g old cells t (0, 0) hg) (setRow_grown w g cells)))
theorem objAt_grown {w w' : World} {r : Option Nat} (h : w.grownBy w' r) (k : Nat) (hk : k < w.heap.size) (hne : some k ≠ r) : objAt w' k = objAt w k := h.block k hk hne
theorem alloc2 (w : World) (o1 o2 : Obj) : objAt ((w.alloc o1).alloc o2) w.heap.size = some o1 ∧ objAt ((w.alloc o1).alloc o2) (w.heap.size + 1) = some o2 ∧
    w.heap.size + 2 ≤ ((w.alloc o1).alloc o2).heap.size ∧ Below w.heap.size w ((w.alloc o1).alloc o2) := by
  have z : (w.alloc o1).heap.size = w.heap.size + 1 := by simp
  have h2 : objAt ((w.alloc o1).alloc o2) (w.heap.size + 1) = some o2 := by have := heap_alloc_new (w.alloc o1) o2; rw [z] at this; exact this
  have h1 : objAt ((w.alloc o1).alloc o2) w.heap.size = some o1 := (Below.heap_alloc (w.alloc o1) o2 _ (by simp)).trans (heap_alloc_new w o1)
  exact ⟨h1, h2, by simp, ((Below.refl _ _).alloc (Nat.le_refl _) _).alloc (by simp) _⟩
theorem made2 (w : World) (o1 o2 : Obj) (e : TypeId) (s : ByteArray) : objAt (Lib.bytesWorld ((w.alloc o1).alloc o2) e s) w.heap.size = some o1 ∧ objAt (Lib.bytesWorld ((w.alloc o1).alloc o2) e s) (w.heap.size + 1) = some o2 ∧
    w.heap.size + 3 = (Lib.bytesWorld ((w.alloc o1).alloc o2) e s).heap.size ∧ Below w.heap.size w (Lib.bytesWorld ((w.alloc o1).alloc o2) e s) := by
  have hb := below_bytes ((w.alloc o1).alloc o2) e s
  have z : (w.alloc o1).heap.size = w.heap.size + 1 := by simp
  have h2 : objAt ((w.alloc o1).alloc o2) (w.heap.size + 1) = some o2 := by have := heap_alloc_new (w.alloc o1) o2; rw [z] at this; exact this
  have h1 : objAt ((w.alloc o1).alloc o2) w.heap.size = some o1 := (Below.heap_alloc (w.alloc o1) o2 _ (by simp)).trans (heap_alloc_new w o1)
  refine ⟨(objAt_below hb _ (by simp; omega)).trans h1, (objAt_below hb _ (by simp)).trans h2, by simp [Lib.bytesWorld_size], ?_⟩
  exact ((((Below.refl _ _).alloc (Nat.le_refl _) _).alloc (by simp) _).trans (hb.mono (by simp; omega)))
theorem after2 {w w1 : World} {o1 o2 : Obj} {e : TypeId} {s : ByteArray} (hb : Below (Lib.bytesWorld ((w.alloc o1).alloc o2) e s).heap.size (Lib.bytesWorld ((w.alloc o1).alloc o2) e s) w1) :
    objAt w1 w.heap.size = some o1 ∧ objAt w1 (w.heap.size + 1) = some o2 ∧ w.heap.size + 3 ≤ w1.heap.size ∧ Below w.heap.size w w1 := by
  obtain ⟨m1, m2, m3, m4⟩ := made2 w o1 o2 e s
  have := hb.size
  exact ⟨(objAt_below hb _ (by omega)).trans m1, (objAt_below hb _ (by omega)).trans m2, by omega, m4.trans (hb.mono (by omega))⟩
/-- What a function hands back that holds its first result in a cell. -/
theorem ret_cell2 {P : Program} {fn : Func} {t u : Tmp} {ty : TypeId} (hr : fn.results = #[.cell t ty, .tmp u]) (tmps : Array Value) (w : World) (g : Nat) (cells : Array Value) (b : Value) {d : TypeDesc}
    (hu : P.underlying ty = some d) (hd : (match d with | .struct _ | .array _ _ => true | _ => false) = true) (hs : (P.info? ty).map (·.size) = some cells.size) {T : TypeId} {fr : Nat × Nat} (ho : objAt w g = some (.cells cells T fr))
    (ht : tmps.getD t undef = .pointer (some ⟨g, 0, none⟩)) (hb : tmps.getD u undef = b) : (results fn tmps).run P w = .ok (.tuple #[.agg cells, b]) w := by
  have hOK : rowOK P ty (objAt w g) = true := by rw [ho]; exact rowOK_mk hu hd hs _ _
  have hl := load_whole (P := P) w g ty hOK
  rw [ho] at hl
  have hl' : (loadVar ty ⟨g, 0, none⟩).run P w = .ok (.agg cells) w := hl
  simp only [Array.getD_eq_getD_getElem?] at ht hb
  simp [results, hr, asAddr, hl', ht, hb]
theorem ret_cell1 {P : Program} {fn : Func} {t : Tmp} {ty : TypeId} (hr : fn.results = #[.cell t ty]) (tmps : Array Value) (w : World) (g : Nat) (cells : Array Value) {d : TypeDesc}
    (hu : P.underlying ty = some d) (hd : (match d with | .struct _ | .array _ _ => true | _ => false) = true) (hs : (P.info? ty).map (·.size) = some cells.size) {T : TypeId} {fr : Nat × Nat} (ho : objAt w g = some (.cells cells T fr))
    (ht : tmps.getD t undef = .pointer (some ⟨g, 0, none⟩)) : (results fn tmps).run P w = .ok (.agg cells) w := by
  have hOK : rowOK P ty (objAt w g) = true := by rw [ho]; exact rowOK_mk hu hd hs _ _
  have hl := load_whole (P := P) w g ty hOK
  rw [ho] at hl
  have hl' : (loadVar ty ⟨g, 0, none⟩).run P w = .ok (.agg cells) w := hl
  simp only [Array.getD_eq_getD_getElem?] at ht
  simp [results, hr, asAddr, hl', ht]
end Go.Proofs.YtdnjkjoioabhhaaDoor

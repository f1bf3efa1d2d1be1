/- Extensions as plain data: their cells. -/
import Derived.Test.YtdnjkjoioabhhaaDoorStore
import Derived.Test.YtdnjkjoioabhhaaDoorChecked
namespace Go.Proofs.YtdnjkjoioabhhaaDoor
open Go.RowKit
set_option maxRecDepth 100000

/-- An extension's cells. -/
structure Ext where
  ty : Int
  s : List UInt8
  l2 : Value
  l3 : Value
  l4 : Value
  fl : Bool
  n : Int
  hs : Bool
  l8 : Value
  l9 : Value
  l10 : Value
  l11 : Value
  l12 : Value
def Ext.cells (e : Ext) : Array Value := #[.int .u16 e.ty, .string (bs e.s), e.l2, e.l3, e.l4, .bool e.fl, .int .u32 e.n, .bool e.hs, e.l8, e.l9, e.l10, e.l11, e.l12]
/-- Nothing in it. -/
def Ext.zero : Ext := ⟨0, [], .slice none 0 0, .slice none 0 0, .slice none 0 0, false, 0, false, .slice none 0 0, .slice none 0 0, .slice none 0 0, .slice none 0 0, .slice none 0 0⟩
def Ext.isOne (e : Ext) : Prop := e.l2.oneCell' = true ∧ e.l3.oneCell' = true ∧ e.l4.oneCell' = true ∧ e.l8.oneCell' = true ∧ e.l9.oneCell' = true ∧ e.l10.oneCell' = true ∧ e.l11.oneCell' = true ∧ e.l12.oneCell' = true
theorem Ext.size (e : Ext) : (Tryd.prog.info? 45).map (·.size) = some e.cells.size := by kernel_rfl
theorem Ext.ok (e : Ext) : rowOK Tryd.prog 45 (some (.cells e.cells 45 (0, 0))) = true := rowOK_mk Tryd.underlying45 rfl e.size 45 (0, 0)
theorem Ext.one (e : Ext) (h : e.isOne) : e.cells.all (·.oneCell') = true := by
  obtain ⟨h2, h3, h4, h8, h9, h10, h11, h12⟩ := h
  unfold Value.oneCell' at *
  simp only [Ext.cells, Value.oneCell', List.all_toArray, List.all_cons, List.all_nil, Bool.and_true, Bool.true_and]
  simp [*]
theorem Ext.same (e f : Ext) (h : f.cells = e.cells) : e.cells.size = f.cells.size := by rw [h]
end Go.Proofs.YtdnjkjoioabhhaaDoor

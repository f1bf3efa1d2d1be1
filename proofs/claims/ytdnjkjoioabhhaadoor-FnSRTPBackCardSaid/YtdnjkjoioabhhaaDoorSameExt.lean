/- sameExt: two extensions of equal numbers and texts, whose lists are told equal, are told equal. -/
import Derived.Test.YtdnjkjoioabhhaaDoorExtBase
namespace Go.Proofs.YtdnjkjoioabhhaaDoor
open Go.RowKit
set_option maxRecDepth 100000

/-- Two lists are told equal. -/
def TellsSame (w : World) (f : FuncId) (v u g : Value) : Prop := ∀ W : World, Below w.heap.size w W → Calls Tryd.prog f #[v, u, g] W fun e w' => e = .returned (.bool true) ∧ Below W.heap.size W w'
theorem listString_nil (w : World) (A A' : Option Addr) (c c' : Nat) (g : Value) : TellsSame w 48 (.slice A 0 c) (.slice A' 0 c') g := by
  intro W _
  go_enter Tryd.func48, Tryd.ntmps48
  go_wp2
  go_loopg [7, 15] 0 (fun m _ x wr => m = 0 ∧ x = .int .i64 0 ∧ wr = W)
  case atStart => exact ⟨rfl, rfl, rfl⟩
  case round =>
    obtain ⟨rfl, rfl, rfl⟩ := hrel
    go_wp2
    go_ret
    exact ⟨rfl, Below.refl _ _⟩
theorem listU16_nil (w : World) (A A' : Option Addr) (c c' : Nat) (g : Value) : TellsSame w 43 (.slice A 0 c) (.slice A' 0 c') g := by
  intro W _
  go_enter Tryd.func43, Tryd.ntmps43
  go_wp2
  go_loopg [7, 15] 0 (fun m _ x wr => m = 0 ∧ x = .int .i64 0 ∧ wr = W)
  case atStart => exact ⟨rfl, rfl, rfl⟩
  case round =>
    obtain ⟨rfl, rfl, rfl⟩ := hrel
    go_wp2
    go_ret
    exact ⟨rfl, Below.refl _ _⟩
theorem listPair_nil (w : World) (A A' : Option Addr) (c c' : Nat) (g : Value) : TellsSame w 50 (.slice A 0 c) (.slice A' 0 c') g := by
  intro W _
  go_enter Tryd.func50, Tryd.ntmps50
  go_wp2
  go_loopg [7, 15] 0 (fun m _ x wr => m = 0 ∧ x = .int .i64 0 ∧ wr = W)
  case atStart => exact ⟨rfl, rfl, rfl⟩
  case round =>
    obtain ⟨rfl, rfl, rfl⟩ := hrel
    go_wp2
    go_ret
    exact ⟨rfl, Below.refl _ _⟩
theorem listShare_nil (w : World) (A A' : Option Addr) (c c' : Nat) (g : Value) : TellsSame w 64 (.slice A 0 c) (.slice A' 0 c') g := by
  intro W _
  go_enter Tryd.func64, Tryd.ntmps64
  go_wp2
  go_loopg [7, 15] 0 (fun m _ x wr => m = 0 ∧ x = .int .i64 0 ∧ wr = W)
  case atStart => exact ⟨rfl, rfl, rfl⟩
  case round =>
    obtain ⟨rfl, rfl, rfl⟩ := hrel
    go_wp2
    go_ret
    exact ⟨rfl, Below.refl _ _⟩
theorem listIdentity_nil (w : World) (A A' : Option Addr) (c c' : Nat) (g : Value) : TellsSame w 66 (.slice A 0 c) (.slice A' 0 c') g := by
  intro W _
  go_enter Tryd.func66, Tryd.ntmps66
  go_wp2
  go_loopg [7, 15] 0 (fun m _ x wr => m = 0 ∧ x = .int .i64 0 ∧ wr = W)
  case atStart => exact ⟨rfl, rfl, rfl⟩
  case round =>
    obtain ⟨rfl, rfl, rfl⟩ := hrel
    go_wp2
    go_ret
    exact ⟨rfl, Below.refl _ _⟩
theorem listFilter_nil (w : World) (A A' : Option Addr) (c c' : Nat) (g : Value) : TellsSame w 68 (.slice A 0 c) (.slice A' 0 c') g := by
  intro W _
  go_enter Tryd.func68, Tryd.ntmps68
  go_wp2
  go_loopg [7, 15] 0 (fun m _ x wr => m = 0 ∧ x = .int .i64 0 ∧ wr = W)
  case atStart => exact ⟨rfl, rfl, rfl⟩
  case round =>
    obtain ⟨rfl, rfl, rfl⟩ := hrel
    go_wp2
    go_ret
    exact ⟨rfl, Below.refl _ _⟩
/-- Both boxes stand. -/
structure TwoExt (w : World) (a b : Ext) (W : World) : Prop where
  ca : ∀ i, W.cell? ⟨w.heap.size, i, none⟩ = [.int .u16 a.ty, .string (bs a.s), a.l2, a.l3, a.l4, .bool a.fl, .int .u32 a.n, .bool a.hs, a.l8, a.l9, a.l10, a.l11, a.l12][i]?
  cb : ∀ i, W.cell? ⟨w.heap.size + 1, i, none⟩ = [.int .u16 b.ty, .string (bs b.s), b.l2, b.l3, b.l4, .bool b.fl, .int .u32 b.n, .bool b.hs, b.l8, b.l9, b.l10, b.l11, b.l12][i]?
  below : Below w.heap.size w W
  size : w.heap.size + 2 ≤ W.heap.size
theorem TwoExt.step {w W W' : World} {a b : Ext} (h : TwoExt w a b W) (hb : Below W.heap.size W W') : TwoExt w a b W' :=
  ⟨fun i => (hb.cell (p := ⟨w.heap.size, i, none⟩) (by have := h.size; show w.heap.size < _; omega)).trans (h.ca i), fun i => (hb.cell (p := ⟨w.heap.size + 1, i, none⟩) (by have := h.size; show w.heap.size + 1 < _; omega)).trans (h.cb i),
    h.below.trans (hb.mono (by have := h.below.size; omega)), by have := h.size; have := hb.size; omega⟩
theorem TwoExt.new (w : World) (a b : Ext) : TwoExt w a b ((w.alloc (.cells a.cells 45)).alloc (.cells b.cells 45)) := by
  obtain ⟨h1, h2, h3, h4⟩ := alloc2 w (.cells a.cells 45) (.cells b.cells 45)
  exact ⟨fun i => (cell_of_obj h1 i).trans (by simp [Ext.cells]), fun i => (cell_of_obj h2 i).trans (by simp [Ext.cells]), h4, h3⟩
set_option maxHeartbeats 3200000 in
theorem sameExt_yes (w : World) (a b : Ext) (e0 : a.ty = b.ty) (e1 : a.s = b.s) (e5 : a.fl = b.fl) (e6 : a.n = b.n) (e7 : a.hs = b.hs) (h2 : TellsSame w 48 a.l2 b.l2 (.func (.func 49) #[] #[])) (h3 : TellsSame w 43 a.l3 b.l3 (.func (.func 44) #[] #[])) (h4 : TellsSame w 50 a.l4 b.l4 (.func (.func 51) #[] #[])) (h8 : TellsSame w 64 a.l8 b.l8 (.func (.func 65) #[] #[])) (h9 : TellsSame w 64 a.l9 b.l9 (.func (.func 65) #[] #[])) (h10 : TellsSame w 43 a.l10 b.l10 (.func (.func 44) #[] #[])) (h11 : TellsSame w 66 a.l11 b.l11 (.func (.func 67) #[] #[])) (h12 : TellsSame w 68 a.l12 b.l12 (.func (.func 69) #[] #[])) :
    Calls Tryd.prog 27 #[.agg a.cells, .agg b.cells] w fun e w' => e = .returned (.bool true) ∧ Below w.heap.size w w' := by
  have H2 := Lib.hid h2
  have H3 := Lib.hid h3
  have H4 := Lib.hid h4
  have H8 := Lib.hid h8
  have H9 := Lib.hid h9
  have H10 := Lib.hid h10
  have H11 := Lib.hid h11
  have H12 := Lib.hid h12
  have E0 := TwoExt.new w a b
  have ca := E0.ca
  have cb := E0.cb
  have q0 : (a.ty == b.ty) = true := by simp [e0]
  have q1 : (a.s == b.s) = true := by simp [e1]
  have q5 : (a.fl == b.fl) = true := by simp [e5]
  have q6 : (a.n == b.n) = true := by simp [e6]
  have q7 : (a.hs == b.hs) = true := by simp [e7]
  clear h2 h3 h4 h8 h9 h10 h11 h12 e0 e1 e5 e6 e7
  go_enter Tryd.func27, Tryd.ntmps27
  go_wp2_with (first
    | (go_at_call 48; have hE := E0; refine (H2.out _ E0.below).mono ?_; rintro e w1 ⟨rfl, hb1⟩; have E1 := E0.step hb1; have ca := E1.ca; have cb := E1.cb; clear hE E0 H2 hb1)
    | (go_at_call 43; have hE := E1; refine (H3.out _ E1.below).mono ?_; rintro e w1 ⟨rfl, hb1⟩; have E2 := E1.step hb1; have ca := E2.ca; have cb := E2.cb; clear hE E1 H3 hb1)
    | (go_at_call 50; have hE := E2; refine (H4.out _ E2.below).mono ?_; rintro e w1 ⟨rfl, hb1⟩; have E3 := E2.step hb1; have ca := E3.ca; have cb := E3.cb; clear hE E2 H4 hb1)
    | (go_at_call 64; have hE := E3; refine (H8.out _ E3.below).mono ?_; rintro e w1 ⟨rfl, hb1⟩; have E4 := E3.step hb1; have ca := E4.ca; have cb := E4.cb; clear hE E3 H8 hb1)
    | (go_at_call 64; have hE := E4; refine (H9.out _ E4.below).mono ?_; rintro e w1 ⟨rfl, hb1⟩; have E5 := E4.step hb1; have ca := E5.ca; have cb := E5.cb; clear hE E4 H9 hb1)
    | (go_at_call 43; have hE := E5; refine (H10.out _ E5.below).mono ?_; rintro e w1 ⟨rfl, hb1⟩; have E6 := E5.step hb1; have ca := E6.ca; have cb := E6.cb; clear hE E5 H10 hb1)
    | (go_at_call 66; have hE := E6; refine (H11.out _ E6.below).mono ?_; rintro e w1 ⟨rfl, hb1⟩; have E7 := E6.step hb1; have ca := E7.ca; have cb := E7.cb; clear hE E6 H11 hb1)
    | (go_at_call 68; have hE := E7; refine (H12.out _ E7.below).mono ?_; rintro e w1 ⟨rfl, hb1⟩; have E8 := E7.step hb1; have ca := E8.ca; have cb := E8.cb; clear hE E7 H12 hb1))
  go_ret
  exact ⟨rfl, E8.below⟩
end Go.Proofs.YtdnjkjoioabhhaaDoor

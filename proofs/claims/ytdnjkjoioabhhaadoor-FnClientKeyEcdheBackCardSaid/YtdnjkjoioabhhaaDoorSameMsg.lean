/- sameMessage: two messages of a type, a hint, a public key, a key exchange's number and certificates are told equal. -/
import Derived.Test.YtdnjkjoioabhhaaDoorSameExt
namespace Go.Proofs.YtdnjkjoioabhhaaDoor
open Go.RowKit
set_option maxRecDepth 100000

/-- A message's cells. -/
def msgOf (ty : Int) (h p : List UInt8) (kx : Int) (c : Value) : List Value := [.int .u8 ty, .bool false, .int .u8 0, .int .u8 0, .int .u32 0, .string (bs []), .string (bs []), .string (bs []), .slice none 0 0, .slice none 0 0, .slice none 0 0, c, .slice none 0 0, .slice none 0 0,
  .int .u16 0, .int .u16 0, .string (bs []), .string (bs h), .string (bs p), .int .i64 kx, .int .u8 0, .int .u16 0, .string (bs []), .string (bs []), .slice none 0 0]
theorem listU8_nil (w : World) (A A' : Option Addr) (c c' : Nat) (g : Value) : TellsSame w 45 (.slice A 0 c) (.slice A' 0 c') g := by
  intro W _
  go_enter Tryd.func45, Tryd.ntmps45
  go_wp2
  go_loopg [7, 15] 0 (fun m _ x wr => m = 0 ∧ x = .int .i64 0 ∧ wr = W)
  case atStart => exact ⟨rfl, rfl, rfl⟩
  case round =>
    obtain ⟨rfl, rfl, rfl⟩ := hrel
    go_wp2
    go_ret
    exact ⟨rfl, Below.refl _ _⟩
theorem listEntry_nil (w : World) (A A' : Option Addr) (c c' : Nat) (g : Value) : TellsSame w 52 (.slice A 0 c) (.slice A' 0 c') g := by
  intro W _
  go_enter Tryd.func52, Tryd.ntmps52
  go_wp2
  go_loopg [7, 15] 0 (fun m _ x wr => m = 0 ∧ x = .int .i64 0 ∧ wr = W)
  case atStart => exact ⟨rfl, rfl, rfl⟩
  case round =>
    obtain ⟨rfl, rfl, rfl⟩ := hrel
    go_wp2
    go_ret
    exact ⟨rfl, Below.refl _ _⟩
theorem listExtension_nil (w : World) (A A' : Option Addr) (c c' : Nat) (g : Value) : TellsSame w 90 (.slice A 0 c) (.slice A' 0 c') g := by
  intro W _
  go_enter Tryd.func90, Tryd.ntmps90
  go_wp2
  go_loopg [7, 15] 0 (fun m _ x wr => m = 0 ∧ x = .int .i64 0 ∧ wr = W)
  case atStart => exact ⟨rfl, rfl, rfl⟩
  case round =>
    obtain ⟨rfl, rfl, rfl⟩ := hrel
    go_wp2
    go_ret
    exact ⟨rfl, Below.refl _ _⟩
theorem sameExts_nil (W : World) : Calls Tryd.prog 47 #[.slice none 0 0, .slice none 0 0] W fun e w' => e = .returned (.bool true) ∧ Below W.heap.size W w' := by
  have H := Lib.hid (listExtension_nil W none none 0 0 (.func (.func 27) #[] #[]))
  go_enter Tryd.func47, Tryd.ntmps47
  go_wp2_with (go_at_call 90; refine (H.out _ (Below.refl _ _)).mono ?_; rintro e w1 ⟨rfl, hb1⟩)
  go_ret
  exact ⟨rfl, hb1⟩
/-- Both boxes stand. -/
structure TwoMsg (w : World) (a b : List Value) (W : World) : Prop where
  ca : ∀ i, W.cell? ⟨w.heap.size, i, none⟩ = a[i]?
  cb : ∀ i, W.cell? ⟨w.heap.size + 1, i, none⟩ = b[i]?
  below : Below w.heap.size w W
  size : w.heap.size + 2 ≤ W.heap.size
theorem TwoMsg.step {w W W' : World} {a b : List Value} (h : TwoMsg w a b W) (hb : Below W.heap.size W W') : TwoMsg w a b W' :=
  ⟨fun i => (hb.cell (p := ⟨w.heap.size, i, none⟩) (by have := h.size; show w.heap.size < _; omega)).trans (h.ca i), fun i => (hb.cell (p := ⟨w.heap.size + 1, i, none⟩) (by have := h.size; show w.heap.size + 1 < _; omega)).trans (h.cb i),
    h.below.trans (hb.mono (by have := h.below.size; omega)), by have := h.size; have := hb.size; omega⟩
theorem TwoMsg.new (w : World) (a b : List Value) : TwoMsg w a b ((w.alloc (.cells a.toArray 32)).alloc (.cells b.toArray 32)) := by
  obtain ⟨h1, h2, h3, h4⟩ := alloc2 w (.cells a.toArray 32) (.cells b.toArray 32)
  exact ⟨fun i => (cell_of_obj h1 i).trans (by simp), fun i => (cell_of_obj h2 i).trans (by simp), h4, h3⟩
set_option maxHeartbeats 6400000 in
theorem sameMsg_yes (w : World) (ty : Int) (h p : List UInt8) (kx : Int) (c c' : Value) (h11 : TellsSame w 48 c c' (.func (.func 49) #[] #[])) :
    Calls Tryd.prog 17 #[.agg (msgOf ty h p kx c).toArray, .agg (msgOf ty h p kx c').toArray] w fun e w' => e = .returned (.bool true) ∧ Below w.heap.size w w' := by
  have H11 := Lib.hid h11
  have H10 : Hid (∀ W : World, Below w.heap.size w W → Calls Tryd.prog 47 #[.slice none 0 0, .slice none 0 0] W fun e w' => e = .returned (.bool true) ∧ Below W.heap.size W w') := fun W _ => sameExts_nil W
  have H8 := Lib.hid (listU16_nil w none none 0 0 (.func (.func 44) #[] #[]))
  have H9 := Lib.hid (listU8_nil w none none 0 0 (.func (.func 46) #[] #[]))
  have H12 := Lib.hid (listU8_nil w none none 0 0 (.func (.func 46) #[] #[]))
  have H13 := Lib.hid (listPair_nil w none none 0 0 (.func (.func 51) #[] #[]))
  have H24 := Lib.hid (listEntry_nil w none none 0 0 (.func (.func 53) #[] #[]))
  have E0 := TwoMsg.new w (msgOf ty h p kx c) (msgOf ty h p kx c')
  have ca : ∀ i, _ = [Value.int .u8 ty, .bool false, .int .u8 0, .int .u8 0, .int .u32 0, .string (bs []), .string (bs []), .string (bs []), .slice none 0 0, .slice none 0 0, .slice none 0 0, c, .slice none 0 0, .slice none 0 0, .int .u16 0, .int .u16 0, .string (bs []), .string (bs h), .string (bs p), .int .i64 kx, .int .u8 0, .int .u16 0, .string (bs []), .string (bs []), .slice none 0 0][i]? := E0.ca
  have cb : ∀ i, _ = [Value.int .u8 ty, .bool false, .int .u8 0, .int .u8 0, .int .u32 0, .string (bs []), .string (bs []), .string (bs []), .slice none 0 0, .slice none 0 0, .slice none 0 0, c', .slice none 0 0, .slice none 0 0, .int .u16 0, .int .u16 0, .string (bs []), .string (bs h), .string (bs p), .int .i64 kx, .int .u8 0, .int .u16 0, .string (bs []), .string (bs []), .slice none 0 0][i]? := E0.cb
  clear h11
  go_enter Tryd.func17, Tryd.ntmps17
  go_wp2_with (first
    | (go_at_call 43; have hE := E0; refine (H8.out _ E0.below).mono ?_; rintro e w1 ⟨rfl, hb1⟩; have E1 := E0.step hb1; have ca : ∀ i, _ = [Value.int .u8 ty, .bool false, .int .u8 0, .int .u8 0, .int .u32 0, .string (bs []), .string (bs []), .string (bs []), .slice none 0 0, .slice none 0 0, .slice none 0 0, c, .slice none 0 0, .slice none 0 0, .int .u16 0, .int .u16 0, .string (bs []), .string (bs h), .string (bs p), .int .i64 kx, .int .u8 0, .int .u16 0, .string (bs []), .string (bs []), .slice none 0 0][i]? := E1.ca; have cb : ∀ i, _ = [Value.int .u8 ty, .bool false, .int .u8 0, .int .u8 0, .int .u32 0, .string (bs []), .string (bs []), .string (bs []), .slice none 0 0, .slice none 0 0, .slice none 0 0, c', .slice none 0 0, .slice none 0 0, .int .u16 0, .int .u16 0, .string (bs []), .string (bs h), .string (bs p), .int .i64 kx, .int .u8 0, .int .u16 0, .string (bs []), .string (bs []), .slice none 0 0][i]? := E1.cb; clear hE E0 H8 hb1)
    | (go_at_call 45; have hE := E1; refine (H9.out _ E1.below).mono ?_; rintro e w1 ⟨rfl, hb1⟩; have E2 := E1.step hb1; have ca : ∀ i, _ = [Value.int .u8 ty, .bool false, .int .u8 0, .int .u8 0, .int .u32 0, .string (bs []), .string (bs []), .string (bs []), .slice none 0 0, .slice none 0 0, .slice none 0 0, c, .slice none 0 0, .slice none 0 0, .int .u16 0, .int .u16 0, .string (bs []), .string (bs h), .string (bs p), .int .i64 kx, .int .u8 0, .int .u16 0, .string (bs []), .string (bs []), .slice none 0 0][i]? := E2.ca; have cb : ∀ i, _ = [Value.int .u8 ty, .bool false, .int .u8 0, .int .u8 0, .int .u32 0, .string (bs []), .string (bs []), .string (bs []), .slice none 0 0, .slice none 0 0, .slice none 0 0, c', .slice none 0 0, .slice none 0 0, .int .u16 0, .int .u16 0, .string (bs []), .string (bs h), .string (bs p), .int .i64 kx, .int .u8 0, .int .u16 0, .string (bs []), .string (bs []), .slice none 0 0][i]? := E2.cb; clear hE E1 H9 hb1)
    | (go_at_call 47; have hE := E2; refine (H10.out _ E2.below).mono ?_; rintro e w1 ⟨rfl, hb1⟩; have E3 := E2.step hb1; have ca : ∀ i, _ = [Value.int .u8 ty, .bool false, .int .u8 0, .int .u8 0, .int .u32 0, .string (bs []), .string (bs []), .string (bs []), .slice none 0 0, .slice none 0 0, .slice none 0 0, c, .slice none 0 0, .slice none 0 0, .int .u16 0, .int .u16 0, .string (bs []), .string (bs h), .string (bs p), .int .i64 kx, .int .u8 0, .int .u16 0, .string (bs []), .string (bs []), .slice none 0 0][i]? := E3.ca; have cb : ∀ i, _ = [Value.int .u8 ty, .bool false, .int .u8 0, .int .u8 0, .int .u32 0, .string (bs []), .string (bs []), .string (bs []), .slice none 0 0, .slice none 0 0, .slice none 0 0, c', .slice none 0 0, .slice none 0 0, .int .u16 0, .int .u16 0, .string (bs []), .string (bs h), .string (bs p), .int .i64 kx, .int .u8 0, .int .u16 0, .string (bs []), .string (bs []), .slice none 0 0][i]? := E3.cb; clear hE E2 H10 hb1)
    | (go_at_call 48; have hE := E3; refine (H11.out _ E3.below).mono ?_; rintro e w1 ⟨rfl, hb1⟩; have E4 := E3.step hb1; have ca : ∀ i, _ = [Value.int .u8 ty, .bool false, .int .u8 0, .int .u8 0, .int .u32 0, .string (bs []), .string (bs []), .string (bs []), .slice none 0 0, .slice none 0 0, .slice none 0 0, c, .slice none 0 0, .slice none 0 0, .int .u16 0, .int .u16 0, .string (bs []), .string (bs h), .string (bs p), .int .i64 kx, .int .u8 0, .int .u16 0, .string (bs []), .string (bs []), .slice none 0 0][i]? := E4.ca; have cb : ∀ i, _ = [Value.int .u8 ty, .bool false, .int .u8 0, .int .u8 0, .int .u32 0, .string (bs []), .string (bs []), .string (bs []), .slice none 0 0, .slice none 0 0, .slice none 0 0, c', .slice none 0 0, .slice none 0 0, .int .u16 0, .int .u16 0, .string (bs []), .string (bs h), .string (bs p), .int .i64 kx, .int .u8 0, .int .u16 0, .string (bs []), .string (bs []), .slice none 0 0][i]? := E4.cb; clear hE E3 H11 hb1)
    | (go_at_call 45; have hE := E4; refine (H12.out _ E4.below).mono ?_; rintro e w1 ⟨rfl, hb1⟩; have E5 := E4.step hb1; have ca : ∀ i, _ = [Value.int .u8 ty, .bool false, .int .u8 0, .int .u8 0, .int .u32 0, .string (bs []), .string (bs []), .string (bs []), .slice none 0 0, .slice none 0 0, .slice none 0 0, c, .slice none 0 0, .slice none 0 0, .int .u16 0, .int .u16 0, .string (bs []), .string (bs h), .string (bs p), .int .i64 kx, .int .u8 0, .int .u16 0, .string (bs []), .string (bs []), .slice none 0 0][i]? := E5.ca; have cb : ∀ i, _ = [Value.int .u8 ty, .bool false, .int .u8 0, .int .u8 0, .int .u32 0, .string (bs []), .string (bs []), .string (bs []), .slice none 0 0, .slice none 0 0, .slice none 0 0, c', .slice none 0 0, .slice none 0 0, .int .u16 0, .int .u16 0, .string (bs []), .string (bs h), .string (bs p), .int .i64 kx, .int .u8 0, .int .u16 0, .string (bs []), .string (bs []), .slice none 0 0][i]? := E5.cb; clear hE E4 H12 hb1)
    | (go_at_call 50; have hE := E5; refine (H13.out _ E5.below).mono ?_; rintro e w1 ⟨rfl, hb1⟩; have E6 := E5.step hb1; have ca : ∀ i, _ = [Value.int .u8 ty, .bool false, .int .u8 0, .int .u8 0, .int .u32 0, .string (bs []), .string (bs []), .string (bs []), .slice none 0 0, .slice none 0 0, .slice none 0 0, c, .slice none 0 0, .slice none 0 0, .int .u16 0, .int .u16 0, .string (bs []), .string (bs h), .string (bs p), .int .i64 kx, .int .u8 0, .int .u16 0, .string (bs []), .string (bs []), .slice none 0 0][i]? := E6.ca; have cb : ∀ i, _ = [Value.int .u8 ty, .bool false, .int .u8 0, .int .u8 0, .int .u32 0, .string (bs []), .string (bs []), .string (bs []), .slice none 0 0, .slice none 0 0, .slice none 0 0, c', .slice none 0 0, .slice none 0 0, .int .u16 0, .int .u16 0, .string (bs []), .string (bs h), .string (bs p), .int .i64 kx, .int .u8 0, .int .u16 0, .string (bs []), .string (bs []), .slice none 0 0][i]? := E6.cb; clear hE E5 H13 hb1)
    | (go_at_call 52; have hE := E6; refine (H24.out _ E6.below).mono ?_; rintro e w1 ⟨rfl, hb1⟩; have E7 := E6.step hb1; have ca : ∀ i, _ = [Value.int .u8 ty, .bool false, .int .u8 0, .int .u8 0, .int .u32 0, .string (bs []), .string (bs []), .string (bs []), .slice none 0 0, .slice none 0 0, .slice none 0 0, c, .slice none 0 0, .slice none 0 0, .int .u16 0, .int .u16 0, .string (bs []), .string (bs h), .string (bs p), .int .i64 kx, .int .u8 0, .int .u16 0, .string (bs []), .string (bs []), .slice none 0 0][i]? := E7.ca; have cb : ∀ i, _ = [Value.int .u8 ty, .bool false, .int .u8 0, .int .u8 0, .int .u32 0, .string (bs []), .string (bs []), .string (bs []), .slice none 0 0, .slice none 0 0, .slice none 0 0, c', .slice none 0 0, .slice none 0 0, .int .u16 0, .int .u16 0, .string (bs []), .string (bs h), .string (bs p), .int .i64 kx, .int .u8 0, .int .u16 0, .string (bs []), .string (bs []), .slice none 0 0][i]? := E7.cb; clear hE E6 H24 hb1))
  go_ret
  exact ⟨rfl, E7.below⟩
end Go.Proofs.YtdnjkjoioabhhaaDoor

/- Post-handshake authentication: how it is written, read and taken as plain data. -/
import Derived.Test.YtdnjkjoioabhhaaDoorExtBase
import Derived.Test.YtdnjkjoioabhhaaDoorPut16
import Derived.Test.YtdnjkjoioabhhaaDoorBig
import Derived.Test.YtdnjkjoioabhhaaDoorGet16
import Derived.Test.YtdnjkjoioabhhaaDoorRegion
import Derived.Test.YtdnjkjoioabhhaaDoorEnds
import Derived.Test.YtdnjkjoioabhhaaDoorText
import Derived.Test.YtdnjkjoioabhhaaDoorSent
namespace Go.Proofs.YtdnjkjoioabhhaaDoor
open Go.RowKit
set_option maxRecDepth 100000

def phL : List UInt8 := [0, 49, 0, 0]
def extPH : Ext := { Ext.zero with ty := 49, fl := true }
theorem typePH (w : World) (b : Bool) : Calls Tryd.prog 100 #[.agg #[.bool b]] w fun e w' => e = .returned (.int .u16 49) ∧ Below w.heap.size w w' := by
  go_enter Tryd.func100, Tryd.ntmps100
  go_wp2
  go_ret
  exact ⟨rfl, (Below.refl _ _).alloc (Nat.le_refl _) _⟩
set_option maxHeartbeats 1600000 in
theorem post_marshal (w : World) (g : Nat) (hB : Blk w g 138 [.bool true]) :
    Calls Tryd.prog 75 #[.pointer (some ⟨g, 0, none⟩)] w (BytesOk w phL) := by
  have m0 : w.cell? ⟨g, 0, none⟩ = some (.bool true) := hB.cell 0
  have hg := hB.lt
  have HB := Lib.hid hB
  have hOK := rowOK_mk Tryd.underlying138 rfl (cs := #[.bool true]) (by kernel_rfl) 138 (0, 0)
  clear hB
  go_enter Tryd.func75, Tryd.ntmps75
  go_wp2_with (at_make; refine wpList_make_bytes _ rfl _ _ 25 rfl 5 Tryd.underlying25 Tryd.infoByte .i64 .i64 4 4 4 rfl rfl rfl rfl (by omega) ?_; intro w1 hB hb hz; have b1 : Buf w w.heap.size 5 [0, 0, 0, 0] w1 := ⟨hB, hb, Nat.le_refl _⟩; clear hB hb hz)
  refine wp_region_inv (by kernel_rfl) [12, 13, 14, 15, 16, 17, 18] (fun i v W => match i with
    | 0 => v = .agg #[]
    | 1 => v = .slice (some ⟨w.heap.size, 0, none⟩) 4 4
    | 2 => v = .pointer (some ⟨g, 0, none⟩)
    | 3 => v = .pointer (some ⟨g, 0, none⟩)
    | 4 => v = .agg #[.bool true]
    | 5 => v = .int .u16 49
    | 6 => v = .tuple #[] ∧ Blk W w.heap.size 5 (phL.map bv)
    | _ => True) (fun W => ∃ x y : UInt8, Buf w w.heap.size 5 [x, y, 0, 0] W) ?hinv0 (by kernel_rfl) (by kernel_rfl) (by kernel_rfl) (by kernel_rfl) ?hsteps ?hfin
  case hinv0 => exact ⟨_, _, b1.drew⟩
  case hsteps =>
    clear b1
    refine ⟨?_, ?_, ?_, ?_, ?_, ?_, ?_, trivial⟩
    · intro A W hI hb hp K hK; (repeat (obtain ⟨hq, hp⟩ := hp; first | (obtain ⟨_, hv, rfl⟩ := hq rfl _ _ rfl rfl; clear hq) | (obtain ⟨_, hv, hg⟩ := hq rfl _ _ rfl rfl; clear hq) | clear hq)); clear hp; clear hb; go_simp; exact hK _ _ rfl hI (fun _ _ h => h)
    · intro A W hI hb hp K hK; (repeat (obtain ⟨hq, hp⟩ := hp; first | (obtain ⟨_, hv, rfl⟩ := hq rfl _ _ rfl rfl; clear hq) | (obtain ⟨_, hv, hg⟩ := hq rfl _ _ rfl rfl; clear hq) | clear hq)); clear hp; have b1 := hb 4 (by decide); clear hb; go_simp; exact hK _ _ rfl hI (fun _ _ h => h)
    · intro A W hI hb hp K hK; (repeat (obtain ⟨hq, hp⟩ := hp; first | (obtain ⟨_, hv, rfl⟩ := hq rfl _ _ rfl rfl; clear hq) | (obtain ⟨_, hv, hg⟩ := hq rfl _ _ rfl rfl; clear hq) | clear hq)); clear hp; have b1 := hb 0 (by decide); clear hb; go_simp; exact hK _ _ rfl hI (fun _ _ h => h)
    · intro A W hI hb hp K hK; (repeat (obtain ⟨hq, hp⟩ := hp; first | (obtain ⟨_, hv, rfl⟩ := hq rfl _ _ rfl rfl; clear hq) | (obtain ⟨_, hv, hg⟩ := hq rfl _ _ rfl rfl; clear hq) | clear hq)); clear hp; clear hb; go_simp; exact hK _ _ rfl hI (fun _ _ h => h)
    · intro A W hI hb hp K hK; (repeat (obtain ⟨hq, hp⟩ := hp; first | (obtain ⟨_, hv, rfl⟩ := hq rfl _ _ rfl rfl; clear hq) | (obtain ⟨_, hv, hg⟩ := hq rfl _ _ rfl rfl; clear hq) | clear hq)); clear hp; clear hb; obtain ⟨x, y, hW⟩ := hI; have i1 : objAt W g = some (.cells #[.bool true] 138 (0, 0)) := (hW.below.block g hg).trans HB.out; go_simp; exact hK _ _ rfl ⟨x, y, hW⟩ (fun _ _ h => h)
    · intro A W hI hb hp K hK; (repeat (obtain ⟨hq, hp⟩ := hp; first | (obtain ⟨_, hv, rfl⟩ := hq rfl _ _ rfl rfl; clear hq) | (obtain ⟨_, hv, hg⟩ := hq rfl _ _ rfl rfl; clear hq) | clear hq)); clear hp; clear hb; obtain ⟨x, y, hW⟩ := hI; go_simp; refine (typePH _ true).mono ?_; rintro e w1 ⟨rfl, hb1⟩; exact hK _ _ rfl ⟨x, y, hW.step hb1⟩ (fun j u hg => by revert hg; dsimp only; split <;> first | exact id | exact fun h => ⟨h.1, h.2.below hb1 h.2.lt⟩)
    · intro A W hI hb hp K hK; (repeat (obtain ⟨hq, hp⟩ := hp; first | (obtain ⟨_, hv, rfl⟩ := hq rfl _ _ rfl rfl; clear hq) | (obtain ⟨_, hv, hg⟩ := hq rfl _ _ rfl rfl; clear hq) | clear hq)); clear hp; clear hb; obtain ⟨x, y, hW⟩ := hI; go_simp; refine (put16 _ w.heap.size 5 0 4 4 49 [x, y, 0, 0] hW.blk (by omega) (by simp) (by omega)).mono ?_; rintro e w1 h1; have b2 := hW.lay h1; obtain ⟨rfl, hB1, _⟩ := h1; exact hK _ _ ⟨rfl, hB1⟩ ⟨_, _, b2⟩ (fun j u hg => by revert hg; dsimp only; split <;> first | exact id | exact fun h => ⟨h.1, hB1⟩)
  case hfin =>
    intro vf W hgd hI
    have e18 : _ ∧ _ := hgd.2.2.2.2.2.2.1 18 rfl
    obtain ⟨x, y, hW⟩ := hI
    have b2 : Buf w w.heap.size 5 phL W := ⟨e18.2, hW.below, Nat.le_refl _⟩
    clear hgd e18 hW
    simp only [fillAct, List.foldl_cons, List.foldl_nil, List.setIfInBounds_toArray, List.set_cons_zero, List.set_cons_succ]
    go_wp2_with fail
    go_still_tail 3, (by kernel_rfl)
    go_wp2_with (go_at_call 94; refine (put16 _ w.heap.size 5 2 _ _ 0 phL b2.drew.blk (by omega) (by simp [phL]) (by omega)).mono ?_; rintro e w3 h3; have b3 := b2.drew.lay h3; obtain ⟨rfl, _⟩ := h3; clear b2)
    go_ret2
    exact ⟨_, rfl, b3.by 4 (by simp [phL]; decide), b3.below⟩
def ErrPost (w : World) (e : Ending) (w' : World) : Prop := ∃ T x, e = .returned (.iface T x) ∧ Below w.heap.size w w'
theorem post_short (w : World) (g : Nat) (v1 : Value) (d : List UInt8) (hv : By w v1 d) (hd : d.length < 4) (hs : Sent w 8) :
    Calls Tryd.prog 76 #[.pointer (some ⟨g, 0, none⟩), v1] w (ErrPost w) := by
  obtain ⟨A, c, rfl⟩ := hv.len
  obtain ⟨T, x, hs⟩ := hs
  have d1 : decide ((d.length : Int) < 4) = true := by simp; omega
  go_enter Tryd.func76, Tryd.ntmps76
  go_wp2
  go_ret
  exact ⟨_, _, rfl, Below.refl _ _⟩
set_option maxHeartbeats 1600000 in
theorem post_whole (w : World) (g : Nat) (v1 : Value) (b0 : Bool) (hB : Blk w g 138 [.bool b0]) (hv : By w v1 phL) :
    Calls Tryd.prog 76 #[.pointer (some ⟨g, 0, none⟩), v1] w fun e w' => e = .returned .nilIface ∧ Blk w' g 138 [.bool true] ∧ w.grownBy w' (some g) := by
  obtain ⟨A, c, rfl, hlc, hr⟩ := hv.parts
  obtain ⟨g1, o1, rfl, hg1, hcell⟩ := hr (by simp [phL])
  have c2 : w.cell? ⟨g1, o1 + 2, none⟩ = some (.int .u8 0) := hcell 2 (by simp [phL])
  have c3 : w.cell? ⟨g1, o1 + 3, none⟩ = some (.int .u8 0) := hcell 3 (by simp [phL])
  have hg := hB.lt
  have HB := Lib.hid hB
  have HV : Hid (By w (.slice (some ⟨g1, o1, none⟩) 4 c) phL) := hv
  have hOK := rowOK_mk Tryd.underlying138 rfl (cs := #[.bool b0]) (by kernel_rfl) 138 (0, 0)
  rw [show phL.length = 4 from rfl] at *
  clear hB hv hr hcell
  go_enter Tryd.func76, Tryd.ntmps76
  go_wp2
  refine wp_region_inv (by kernel_rfl) [23, 24, 25, 26, 27, 28, 29, 30, 22] (fun i v W => match i with
    | 0 => v = .agg #[]
    | 1 => v = .slice (some ⟨g1, o1, none⟩) 4 c
    | 2 => v = .int .u16 49
    | 3 => v = .pointer (some ⟨g, 0, none⟩)
    | 4 => v = .pointer (some ⟨g, 0, none⟩)
    | 5 => v = .agg #[.bool b0]
    | 6 => v = .int .u16 49
    | 7 => v = .bool false
    | 8 => v = .bool false
    | _ => True) (Kept w) ?hinv0 (by kernel_rfl) (by kernel_rfl) (by kernel_rfl) (by kernel_rfl) ?hsteps ?hfin
  case hinv0 => exact ⟨(Below.refl _ _).drew⟩
  case hsteps =>
    refine ⟨?_, ?_, ?_, ?_, ?_, ?_, ?_, ?_, ?_, trivial⟩
    · intro A W hI hb hp K hK; (repeat (obtain ⟨hq, hp⟩ := hp; first | (obtain ⟨_, hv, rfl⟩ := hq rfl _ _ rfl rfl; clear hq) | (obtain ⟨_, hv, hg⟩ := hq rfl _ _ rfl rfl; clear hq) | clear hq)); clear hp; clear hb; go_simp; exact hK _ _ rfl hI (fun _ _ h => h)
    · intro A W hI hb hp K hK; (repeat (obtain ⟨hq, hp⟩ := hp; first | (obtain ⟨_, hv, rfl⟩ := hq rfl _ _ rfl rfl; clear hq) | (obtain ⟨_, hv, hg⟩ := hq rfl _ _ rfl rfl; clear hq) | clear hq)); clear hp; have b1 := hb 1 (by decide); clear hb; go_simp; exact hK _ _ rfl hI (fun _ _ h => h)
    · intro A W hI hb hp K hK; (repeat (obtain ⟨hq, hp⟩ := hp; first | (obtain ⟨_, hv, rfl⟩ := hq rfl _ _ rfl rfl; clear hq) | (obtain ⟨_, hv, hg⟩ := hq rfl _ _ rfl rfl; clear hq) | clear hq)); clear hp; clear hb; go_simp; refine (get16 _ _ _ (HV.out.below hI.below) (by simp [phL])).mono ?_; rintro e w1 ⟨rfl, hb1⟩; exact hK _ _ rfl (hI.step hb1) (fun _ _ h => h)
    · intro A W hI hb hp K hK; (repeat (obtain ⟨hq, hp⟩ := hp; first | (obtain ⟨_, hv, rfl⟩ := hq rfl _ _ rfl rfl; clear hq) | (obtain ⟨_, hv, hg⟩ := hq rfl _ _ rfl rfl; clear hq) | clear hq)); clear hp; have b1 := hb 0 (by decide); clear hb; go_simp; exact hK _ _ rfl hI (fun _ _ h => h)
    · intro A W hI hb hp K hK; (repeat (obtain ⟨hq, hp⟩ := hp; first | (obtain ⟨_, hv, rfl⟩ := hq rfl _ _ rfl rfl; clear hq) | (obtain ⟨_, hv, hg⟩ := hq rfl _ _ rfl rfl; clear hq) | clear hq)); clear hp; clear hb; go_simp; exact hK _ _ rfl hI (fun _ _ h => h)
    · intro A W hI hb hp K hK; (repeat (obtain ⟨hq, hp⟩ := hp; first | (obtain ⟨_, hv, rfl⟩ := hq rfl _ _ rfl rfl; clear hq) | (obtain ⟨_, hv, hg⟩ := hq rfl _ _ rfl rfl; clear hq) | clear hq)); clear hp; clear hb; have i1 : objAt W g = some (.cells #[.bool b0] 138 (0, 0)) := (hI.below.block g hg).trans HB.out; go_simp; exact hK _ _ rfl hI (fun _ _ h => h)
    · intro A W hI hb hp K hK; (repeat (obtain ⟨hq, hp⟩ := hp; first | (obtain ⟨_, hv, rfl⟩ := hq rfl _ _ rfl rfl; clear hq) | (obtain ⟨_, hv, hg⟩ := hq rfl _ _ rfl rfl; clear hq) | clear hq)); clear hp; clear hb; go_simp; refine (typePH _ _).mono ?_; rintro e w1 ⟨rfl, hb1⟩; exact hK _ _ rfl (hI.step hb1) (fun _ _ h => h)
    · intro A W hI hb hp K hK; (repeat (obtain ⟨hq, hp⟩ := hp; first | (obtain ⟨_, hv, rfl⟩ := hq rfl _ _ rfl rfl; clear hq) | (obtain ⟨_, hv, hg⟩ := hq rfl _ _ rfl rfl; clear hq) | clear hq)); clear hp; clear hb; go_simp; exact hK _ _ rfl hI (fun _ _ h => h)
    · intro A W hI hb hp K hK; (repeat (obtain ⟨hq, hp⟩ := hp; first | (obtain ⟨_, hv, rfl⟩ := hq rfl _ _ rfl rfl; clear hq) | (obtain ⟨_, hv, hg⟩ := hq rfl _ _ rfl rfl; clear hq) | clear hq)); clear hp; clear hb; go_simp; exact hK _ _ rfl hI (fun _ _ h => h)
  case hfin =>
    intro vf W hgd hI
    have e22 : vf 22 = _ := hgd.2.2.2.2.2.2.2.2.1 22 rfl
    simp only [fillAct, List.foldl_cons, List.foldl_nil, List.setIfInBounds_toArray, List.set_cons_zero, List.set_cons_succ]
    rw [e22]
    clear hgd e22
    have B2 := HB.out.below hI.below hg
    have e0 := B2.cell 0
    have f0 := B2.frozen 0
    have HB2 := Lib.hid B2
    clear B2
    go_wp2
    go_ret
    exact ⟨rfl, HB2.out.set 0 _, grown_set (grown_below hI.below) _ _⟩
theorem extPH_cells : extPH.cells = #[.int .u16 49, .string (bs []), .slice none 0 0, .slice none 0 0, .slice none 0 0, .bool true, .int .u32 0, .bool false, .slice none 0 0, .slice none 0 0, .slice none 0 0, .slice none 0 0, .slice none 0 0] := rfl
set_option maxHeartbeats 1600000 in
theorem dataPost (w : World) (g : Nat) (hB : Blk w g 138 [.bool true]) :
    Calls Tryd.prog 77 #[.pointer (some ⟨g, 0, none⟩)] w fun e w' => e = .returned (.agg extPH.cells) ∧ Below w.heap.size w w' := by
  have m0 : w.cell? ⟨g, 0, none⟩ = some (.bool true) := hB.cell 0
  have hg := hB.lt
  have hOK := extPH.ok
  clear hB
  go_enter Tryd.func77, Tryd.ntmps77
  go_wp2_with (first
    | (refine wpList_store_whole ?hgd 45 (.tmp 3) (.tmp 4) ?ho (w.heap.size + 1) ({ Ext.zero with ty := 49 } : Ext).cells ?hx ?hy 45 Ext.zero.cells (alloc2 w _ _).2.1 (Ext.size _) rfl (Ext.one _ ⟨rfl, rfl, rfl, rfl, rfl, rfl, rfl, rfl⟩) ?hh; case ho => exact rfl))
  case hgd => rfl
  case hx => rfl
  case hy => rfl
  case hh =>
    intro w1 io1 g1
    have hE : Blk w1 (w.heap.size + 1) 45 ({ Ext.zero with ty := 49 } : Ext).cells.toList := io1
    have hR : objAt w1 w.heap.size = some (.cells Ext.zero.cells 45 (0, 0)) := (objAt_grown g1 _ (by simp; omega) (by simp)).trans (alloc2 w _ _).1
    have hb1 : Below w.heap.size w w1 := (alloc2 w _ _).2.2.2.grown g1 (by simp; omega) (fun k hk => by cases hk; exact Nat.le_succ _)
    have e5 := hE.cell 5
    have f5 := hE.frozen 5
    have n0 := (hb1.cell (p := ⟨g, 0, none⟩) hg).trans m0
    have ioE : objAt (w1.setCell ⟨w.heap.size + 1, 5, none⟩ (.bool true)) (w.heap.size + 1) = some (.cells extPH.cells 45 (0, 0)) := hE.set 5 (.bool true)
    have hR2 : objAt (w1.setCell ⟨w.heap.size + 1, 5, none⟩ (.bool true)) w.heap.size = some (.cells Ext.zero.cells 45 (0, 0)) := (Below.heap_setCell _ _ _ _ (by simp)).trans hR
    have HR := Lib.hid hR2
    have HB := Lib.hid hb1
    have G1 := Lib.hid g1
    clear io1 hE hR hR2 hb1 g1
    go_wp2_with (first
      | (have h := HR.out; refine wpList_store_whole ?hgd 45 (.tmp 2) (.tmp 10) ?ho w.heap.size extPH.cells ?hx ?hy 45 Ext.zero.cells h extPH.size rfl (Ext.one _ ⟨rfl, rfl, rfl, rfl, rfl, rfl, rfl, rfl⟩) ?hh; case ho => exact rfl))
    case hgd => rfl
    case hx => rfl
    case hy => rfl
    case hh =>
      intro w2 io2 g2
      go_wp2
      refine bodyPost_ret (ret_cell1 Tryd.results77 _ w2 w.heap.size _ Tryd.underlying45 rfl extPH.size io2 rfl) rfl ⟨rfl, ?_⟩
      exact (HB.out.setCell (Nat.le_succ _) _).grown g2 (HB.out.setCell (Nat.le_succ _) _).size (fun k hk => by cases hk; exact Nat.le_refl _)
end Go.Proofs.YtdnjkjoioabhhaaDoor

/- A handshake header: as plain data, and how it is written. -/
import Derived.Test.YtdnjkjoioabhhaaDoorPut24
import Derived.Test.YtdnjkjoioabhhaaDoorEnds
import Derived.Test.YtdnjkjoioabhhaaDoorText
import Derived.Test.YtdnjkjoioabhhaaDoorStore
namespace Go.Proofs.YtdnjkjoioabhhaaDoor
open Go.RowKit
set_option maxRecDepth 100000

/-- A handshake header as plain data. -/
structure HH where
  t : UInt8
  ln : Nat
  sq : Nat
  off : Nat
  fl : Nat
def HH.cells (h : HH) : Array Value := #[.int .u8 (h.t.toNat : Int), .int .u32 (h.ln : Int), .int .u16 (h.sq : Int), .int .u32 (h.off : Int), .int .u32 (h.fl : Int)]
def HH.fit (h : HH) : Prop := h.ln < 16777216 ∧ h.sq < 65536 ∧ h.off < 16777216 ∧ h.fl < 16777216
def handL (h : HH) : List UInt8 := [h.t] ++ be 3 h.ln ++ be 2 h.sq ++ be 3 h.off ++ be 3 h.fl
theorem lay_zeros (a x : List UInt8) (n k : Nat) (o : Nat) (ho : o = a.length) (hn : n = x.length + k) : lay (a ++ List.replicate n 0) o x = (a ++ x) ++ List.replicate k 0 := by
  subst ho hn
  simp [lay, List.drop_append]
set_option maxHeartbeats 1600000 in
theorem hand_marshal (w : World) (gh : Nat) (h : HH) (hB : Blk w gh 155 h.cells.toList) (hf : h.fit) :
    Calls Tryd.prog 85 #[.pointer (some ⟨gh, 0, none⟩)] w (BytesOk w (handL h)) := by
  obtain ⟨f1, f2, f3, f4⟩ := hf
  have m0 : w.cell? ⟨gh, 0, none⟩ = some (.int .u8 (h.t.toNat : Int)) := hB.cell 0
  have m1 : w.cell? ⟨gh, 1, none⟩ = some (.int .u32 (h.ln : Int)) := hB.cell 1
  have m2 : w.cell? ⟨gh, 2, none⟩ = some (.int .u16 (h.sq : Int)) := hB.cell 2
  have m3 : w.cell? ⟨gh, 3, none⟩ = some (.int .u32 (h.off : Int)) := hB.cell 3
  have m4 : w.cell? ⟨gh, 4, none⟩ = some (.int .u32 (h.fl : Int)) := hB.cell 4
  have hg := hB.lt
  clear hB
  go_enter Tryd.func85, Tryd.ntmps85
  go_wp2_with (at_make; refine wpList_make_bytes _ rfl _ _ 25 rfl 5 Tryd.underlying25 Tryd.infoByte .i64 .i64 12 12 12 rfl rfl rfl rfl (by omega) ?_; intro w1 hB hb hz; have b1 : Buf w w.heap.size 5 (List.replicate 12 0) w1 := ⟨hB, hb, Nat.le_refl _⟩; obtain ⟨u0, c0⟩ := b1.at_ 0 (by simp); have hf := hB.frozen; have n0 := (b1.cell hg 0).trans m0; clear hB hb hz)
  refine wp_abs (fun w' => Buf w w.heap.size 5 ([h.t] ++ List.replicate 11 0) w') (b1.setb 0 h.t) ?_
  intro w2 b2
  clear c0 hf n0 b1
  have n1 := (b2.cell hg 1).trans m1
  go_still_tail 6, (by kernel_rfl)
  go_wp2_with (go_at_call 108; refine (put24 _ w.heap.size 5 1 _ _ h.ln _ b2.drew.blk (by omega) (by simp) (by omega)).mono ?_; rintro e w3 h3; have b3 := b2.drew.lay h3; rw [lay_zeros [h.t] (be 3 h.ln) _ 8 1 rfl (by simp [be_length])] at b3; obtain ⟨rfl, _⟩ := h3; clear b2)
  have n2 := (b3.cell hg 2).trans m2
  go_still_tail 7, (by kernel_rfl)
  go_wp2_with (go_at_call 94; refine (put16 _ w.heap.size 5 4 _ _ h.sq _ b3.drew.blk (by omega) (by simp [be_length]) f2).mono ?_; rintro e w4 h4; have b4 := b3.drew.lay h4; rw [lay_zeros ([h.t] ++ be 3 h.ln) (be 2 h.sq) _ 6 4 (by simp [be_length]) (by simp [be_length])] at b4; obtain ⟨rfl, _⟩ := h4; clear b3)
  have n3 := (b4.cell hg 3).trans m3
  go_still_tail 6, (by kernel_rfl)
  go_wp2_with (go_at_call 108; refine (put24 _ w.heap.size 5 6 _ _ h.off _ b4.drew.blk (by omega) (by simp [be_length]) (by omega)).mono ?_; rintro e w5 h5; have b5 := b4.drew.lay h5; rw [lay_zeros ([h.t] ++ be 3 h.ln ++ be 2 h.sq) (be 3 h.off) _ 3 6 (by simp [be_length]) (by simp [be_length])] at b5; obtain ⟨rfl, _⟩ := h5; clear b4)
  have n4 := (b5.cell hg 4).trans m4
  go_still_tail 6, (by kernel_rfl)
  go_wp2_with (go_at_call 108; refine (put24 _ w.heap.size 5 9 _ _ h.fl _ b5.drew.blk (by omega) (by simp [be_length]) (by omega)).mono ?_; rintro e w6 h6; have b6 := b5.drew.lay h6; rw [lay_zeros ([h.t] ++ be 3 h.ln ++ be 2 h.sq ++ be 3 h.off) (be 3 h.fl) _ 0 9 (by simp [be_length]) (by simp [be_length])] at b6; obtain ⟨rfl, _⟩ := h6; clear b5)
  go_ret2
  have e6 : [h.t] ++ be 3 h.ln ++ be 2 h.sq ++ be 3 h.off ++ be 3 h.fl ++ List.replicate 0 0 = handL h := by simp [handL]
  have l6 : (handL h).length = 12 := by simp [handL, be_length]
  rw [e6] at b6
  exact ⟨_, rfl, by have := b6.by 12 (by omega); rwa [l6] at this, b6.below⟩
theorem handHeader_any (w : World) (h : HH) : Calls Tryd.prog 84 #[.agg h.cells] w fun e w' => e = .returned (.agg h.cells) ∧ Below w.heap.size w w' := by
  unfold HH.cells
  go_enter Tryd.func84, Tryd.ntmps84
  go_wp2
  refine bodyPost_ret (v := .agg h.cells) (by simp [results, Tryd.results84, go_sem]; rfl) rfl ⟨rfl, ?_⟩
  repeat (first | with_reducible exact Below.refl _ _ | with_reducible refine Below.drew ?_ | with_reducible refine Below.drewN ?_ _ | with_reducible refine Below.alloc ?_ (by (try simp only [Lib.bytesWorld_size, World.size_drew, drewN_size, World.size_alloc, World.size_setCell] at *); first | done | omega) _ | with_reducible refine Below.bytes ?_ (by (try simp only [Lib.bytesWorld_size, World.size_drew, drewN_size, World.size_alloc, World.size_setCell] at *); first | done | omega) _ _ | with_reducible refine Below.setCell ?_ (by (try simp only [Lib.bytesWorld_size, World.size_drew, drewN_size, World.size_alloc, World.size_setCell] at *); first | done | omega) _)
theorem handHeaderData_any (w : World) (h : HH) : Calls Tryd.prog 87 #[.agg h.cells] w fun e w' => e = .returned (.agg h.cells) ∧ Below w.heap.size w w' := by
  unfold HH.cells
  go_enter Tryd.func87, Tryd.ntmps87
  go_wp2
  refine bodyPost_ret (v := .agg h.cells) (by simp [results, Tryd.results87, go_sem]; rfl) rfl ⟨rfl, ?_⟩
  repeat (first | with_reducible exact Below.refl _ _ | with_reducible refine Below.drew ?_ | with_reducible refine Below.drewN ?_ _ | with_reducible refine Below.alloc ?_ (by (try simp only [Lib.bytesWorld_size, World.size_drew, drewN_size, World.size_alloc, World.size_setCell] at *); first | done | omega) _ | with_reducible refine Below.bytes ?_ (by (try simp only [Lib.bytesWorld_size, World.size_drew, drewN_size, World.size_alloc, World.size_setCell] at *); first | done | omega) _ _ | with_reducible refine Below.setCell ?_ (by (try simp only [Lib.bytesWorld_size, World.size_drew, drewN_size, World.size_alloc, World.size_setCell] at *); first | done | omega) _)
set_option maxHeartbeats 800000 in
theorem handWrite_any (w : World) (h : HH) (hf : h.fit) :
    Calls Tryd.prog 38 #[.agg h.cells] w fun e w' => e = .returned (.tuple #[.string (bs (handL h)), .bool true]) ∧ Below w.heap.size w w' := by
  have hOK := rowOK_mk Tryd.underlying71 rfl (cs := h.cells) (by kernel_rfl) 71 (0, 0)
  go_enter Tryd.func38, Tryd.ntmps38
  go_wp2_with (first
    | (go_at_call 84; refine (handHeader_any _ h).mono ?_; rintro e w1 ⟨rfl, hb1⟩; unfold HH.cells)
    | (go_at_call 85; go_loud (refine (hand_marshal _ w1.heap.size h (by exact Blk.new' _ _ h.cells.toList _ rfl) hf).mono ?_); rintro e w2 ⟨v2, rfl, hv2, hb2⟩)
    | (go_at_call 54; refine (text_ok hv2).mono ?_; rintro e w3 ⟨rfl, rfl⟩))
  go_ret2
  exact ⟨rfl, (((Below.refl _ _).alloc (Nat.le_refl _) _).trans (hb1.mono (by (try simp only [Lib.bytesWorld_size, World.size_drew, drewN_size, World.size_alloc, World.size_setCell] at *); first | done | omega))).trans (((Below.refl _ _).alloc (Nat.le_refl _) _).trans (hb2.mono (by (try simp only [Lib.bytesWorld_size, World.size_drew, drewN_size, World.size_alloc, World.size_setCell] at *); first | done | omega)) |>.mono (by have := hb1.size; (try simp only [Lib.bytesWorld_size, World.size_drew, drewN_size, World.size_alloc, World.size_setCell] at *); first | done | omega))⟩
end Go.Proofs.YtdnjkjoioabhhaaDoor

/- Contracts of recordlayer's (*Header).Marshal. -/
import Derived.Test.YtdnjkjoioabhhaaDoorPut48
import Derived.Test.YtdnjkjoioabhhaaDoorHdr
import Derived.Test.YtdnjkjoioabhhaaDoorHeadL
import Derived.Test.YtdnjkjoioabhhaaDoorSent
namespace Go.Proofs.YtdnjkjoioabhhaaDoor
open Go.RowKit
set_option maxRecDepth 100000

theorem lay_fill (a x : List UInt8) (n k : Nat) (o : Nat) (ho : o = a.length) (hn : n = x.length + k) : lay (a ++ List.replicate n 0) o x = (a ++ x) ++ List.replicate k 0 := by
  subst ho hn
  simp [lay, List.drop_append]
theorem set3_fill (a b c : UInt8) (n : Nat) : (((List.replicate (3 + n) (0 : UInt8)).set 0 a).set 1 b).set 2 c = [a, b, c] ++ List.replicate n 0 := by
  rw [Nat.add_comm]; simp [List.replicate_succ]
/-- Bytes and no error. -/
def BytesOk (w : World) (l : List UInt8) (e : Ending) (w' : World) : Prop := ∃ v, e = .returned (.tuple #[v, .nilIface]) ∧ By w' v l ∧ Below w.heap.size w w'
/-- An error. -/
def BytesErr (w : World) (e : Ending) (w' : World) : Prop := ∃ v T x, e = .returned (.tuple #[v, .iface T x]) ∧ Below w.heap.size w w'

theorem hdr_marshal_err (w : World) (gh : Nat) (h : Hdr) (v0 : Value) (hB : Blk w gh 110 (h.lib v0).toList) (hs : Sent w 7) (hsq : 281474976710655 < h.sq) :
    Calls Tryd.prog 60 #[.pointer (some ⟨gh, 0, none⟩)] w (BytesErr w) := by
  have m5 : w.cell? ⟨gh, 5, none⟩ = some (.int .u64 (h.sq : Int)) := hB.cell 5
  have d1 : decide ((281474976710655 : Int) < (h.sq : Int)) = true := by simp; omega
  obtain ⟨T, x, hs⟩ := hs
  clear hB
  go_enter Tryd.func60, Tryd.ntmps60
  go_wp2_with fail
  go_quiet (fail)
  go_wp2
  go_ret2
  exact ⟨_, _, _, rfl, Below.drewN (Below.refl _ _) _⟩
set_option maxHeartbeats 1600000 in
theorem hdr_marshal (w : World) (gh : Nat) (h : Hdr) (v0 : Value) (hB : Blk w gh 110 (h.lib v0).toList) (hv : By w v0 h.cid) (hsq : h.sq ≤ 281474976710655) (hep : h.ep < 65536) (hln : h.ln < 65536) (hcid : h.cid.length ≤ 2147483647) :
    Calls Tryd.prog 60 #[.pointer (some ⟨gh, 0, none⟩)] w (BytesOk w (headL h)) := by
  obtain ⟨A, c, rfl⟩ := hv.len
  have m0 : w.cell? ⟨gh, 0, none⟩ = some (.int .u8 (h.t.toNat : Int)) := hB.cell 0
  have m1 : w.cell? ⟨gh, 1, none⟩ = some (.int .u16 (h.ln : Int)) := hB.cell 1
  have m2 : w.cell? ⟨gh, 2, none⟩ = some (.int .u8 (h.ma.toNat : Int)) := hB.cell 2
  have m3 : w.cell? ⟨gh, 3, none⟩ = some (.int .u8 (h.mi.toNat : Int)) := hB.cell 3
  have m4 : w.cell? ⟨gh, 4, none⟩ = some (.int .u16 (h.ep : Int)) := hB.cell 4
  have m5 : w.cell? ⟨gh, 5, none⟩ = some (.int .u64 (h.sq : Int)) := hB.cell 5
  have m6 : w.cell? ⟨gh, 6, none⟩ = some (.slice A h.cid.length c) := hB.cell 6
  have d1 : decide ((281474976710655 : Int) < (h.sq : Int)) = false := by simp; omega
  have ne3 : ¬ 13 + h.cid.length = 3 := by omega
  have ne5 : ¬ 13 + h.cid.length = 5 := by omega
  have ne11 : ¬ 13 + h.cid.length = 11 := by omega
  have hg := hB.lt
  have HS := Lib.hid hsq
  clear hB hsq
  go_enter Tryd.func60, Tryd.ntmps60
  go_wp2_with (at_make; refine wpList_make_bytes _ rfl _ _ 25 rfl 5 Tryd.underlying25 Tryd.infoByte .i64 .i64 _ _ (13 + h.cid.length) rfl rfl (by omega) (by omega) (by omega) ?_; intro w1 hB hb hz; have b1 : Buf w w.heap.size 5 (List.replicate (13 + h.cid.length) 0) w1 := ⟨hB, hb, Nat.le_refl _⟩; obtain ⟨u0, c0⟩ := b1.at_ 0 (by simp; omega); obtain ⟨u1, c1⟩ := b1.at_ 1 (by simp; omega); obtain ⟨u2, c2⟩ := b1.at_ 2 (by simp; omega); have hf := hB.frozen; have n0 := (b1.cell hg 0).trans m0; have n2 := (b1.cell hg 2).trans m2; have n3 := (b1.cell hg 3).trans m3; clear hB hb hz)
  refine wp_abs (fun w' => Buf w w.heap.size 5 ([h.t, h.ma, h.mi] ++ List.replicate (10 + h.cid.length) 0) w') (by have := ((b1.setb 0 h.t).setb 1 h.ma).setb 2 h.mi; rwa [show 13 + h.cid.length = 3 + (10 + h.cid.length) by omega, set3_fill] at this) ?_
  intro w2 b2
  clear c0 c1 c2 hf n0 n2 n3 b1
  have n4 := (b2.cell hg 4).trans m4
  have i1 : (3 : Int) ≤ 13 + (h.cid.length : Int) := by omega
  go_still_tail 7, (by kernel_rfl)
  go_wp2_with (go_at_call 94; refine (put16 _ w.heap.size 5 3 _ _ h.ep _ b2.drew.blk (by omega) (by simp; omega) hep).mono ?_; rintro e w3 h3; have b3 := b2.drew.lay h3; rw [lay_fill [h.t, h.ma, h.mi] (be 2 h.ep) _ (8 + h.cid.length) 3 rfl (by simp [be_length]; omega)] at b3; obtain ⟨rfl, _⟩ := h3; clear b2)
  have n5 := (b3.cell hg 5).trans m5
  have i2 : (5 : Int) ≤ 13 + (h.cid.length : Int) := by omega
  go_still_tail 6, (by kernel_rfl)
  go_wp2_with (go_at_call 96; refine (put48 _ w.heap.size 5 5 _ _ h.sq _ b3.drew.blk (by omega) (by simp [be_length]; omega) (by have := HS.out; omega)).mono ?_; rintro e w4 h4; have b4 := b3.drew.lay h4; rw [lay_fill ([h.t, h.ma, h.mi] ++ be 2 h.ep) (be 6 h.sq) _ (2 + h.cid.length) 5 (by simp [be_length]) (by simp [be_length]; omega)] at b4; obtain ⟨rfl, _⟩ := h4; clear b3)
  have n6 := (b4.cell hg 6).trans m6
  have i3 : IntKind.i64.wrap (11 + (h.cid.length : Int)) = 11 + (h.cid.length : Int) := by simp [IntKind.wrap, IntKind.bits, IntKind.signed]; omega
  have i4 : (0 : Int) ≤ 11 + (h.cid.length : Int) := by omega
  have i5 : (11 : Int) + (h.cid.length : Int) ≤ 13 + (h.cid.length : Int) := by omega
  have i6 : (11 : Int) ≤ max (11 + (h.cid.length : Int)) 0 := by omega
  go_still_tail 12, (by kernel_rfl)
  have v4 : By w4 (.slice A h.cid.length c) h.cid := hv.below b4.below
  refine wpList_copy_bytes rfl (.tmp 62) (.tmp 66) 25 25 rfl 5 Tryd.underlying25 (by kernel_rfl) _ _ _ rfl _ h.cid rfl v4 w.heap.size 11 5 _ b4.drew.blk ?_ ?_ ?_ ?_
  · intro _; rfl
  · omega
  · simp [be_length]; omega
  intro w5 h5 g5
  have b5 := b4.drew.grow h5 g5
  rw [lay_fill ([h.t, h.ma, h.mi] ++ be 2 h.ep ++ be 6 h.sq) h.cid _ 2 11 (by simp [be_length]) (by omega)] at b5
  clear h5 g5 b4 n6 v4
  have n1 := (b5.cell hg 1).trans m1
  have j1 : IntKind.i64.wrap (13 + (h.cid.length : Int) - 2) = 11 + (h.cid.length : Int) := by simp [IntKind.wrap, IntKind.bits, IntKind.signed]; omega
  have j2 : (0 : Int) ≤ 11 + (h.cid.length : Int) := by omega
  have j3 : ¬ 13 + h.cid.length = (11 + (h.cid.length : Int)).toNat := by omega
  go_wp2
  go_still_tail 9, (by kernel_rfl)
  go_wp2_with (go_at_call 94; refine (put16 _ w.heap.size 5 (11 + h.cid.length) _ _ h.ln _ b5.drew.blk (by omega) (by simp [be_length]; omega) hln).mono ?_; rintro e w6 h6; have b6 := b5.drew.lay h6; rw [lay_fill ([h.t, h.ma, h.mi] ++ be 2 h.ep ++ be 6 h.sq ++ h.cid) (be 2 h.ln) 2 0 (11 + h.cid.length) (by simp [be_length]; omega) (by simp [be_length])] at b6; obtain ⟨rfl, _⟩ := h6; clear b5)
  go_ret2
  have e6 : [h.t, h.ma, h.mi] ++ be 2 h.ep ++ be 6 h.sq ++ h.cid ++ be 2 h.ln ++ List.replicate 0 0 = headL h := by simp [headL]
  have l6 : (headL h).length = 13 + h.cid.length := by simp [headL, be_length]; omega
  rw [e6] at b6
  exact ⟨_, rfl, by have := b6.by (13 + h.cid.length) (by omega); rwa [l6] at this, b6.below⟩
end Go.Proofs.YtdnjkjoioabhhaaDoor

/- impl.HeaderWrite and the law FnHeaderWrite. -/
import Derived.Test.YtdnjkjoioabhhaaDoorHdrMarshal
import Derived.Test.YtdnjkjoioabhhaaDoorText
import Derived.Test.YtdnjkjoioabhhaaDoorHeaded
import Derived.Test.YtdnjkjoioabhhaaDoorFits23
import Derived.Test.YtdnjkjoioabhhaaDoorOpenHdr
import Derived.Test.YtdnjkjoioabhhaaDoorRows
namespace Go.Proofs.YtdnjkjoioabhhaaDoor
open Go.RowKit
set_option maxRecDepth 100000

set_option maxHeartbeats 800000 in
theorem hdrWrite_ok (w : World) (h : Hdr) (hsq : h.sq ≤ 281474976710655) (hep : h.ep < 65536) (hln : h.ln < 65536) (hcid : h.cid.length ≤ 2147483647) :
    Calls Tryd.prog 21 #[.agg h.cells] w fun e w' => e = .returned (.tuple #[.string (bs (headL h)), .bool true]) ∧ Below w.heap.size w w' := by
  have hOK := rowOK_mk Tryd.underlying48 rfl (cs := h.cells) (by kernel_rfl) 48 (0, 0)
  have HS := Lib.hid hsq
  clear hsq
  go_enter Tryd.func21, Tryd.ntmps21
  go_wp2_with (first
    | (go_at_call 59; refine (header_any _ h).mono ?_; rintro e w1 ⟨v, rfl, hv1, hb1⟩; obtain ⟨A0, c0, rfl⟩ := hv1.len; unfold Hdr.lib)
    | (go_at_call 60; go_loud (refine (hdr_marshal _ w1.heap.size h (.slice A0 h.cid.length c0) (by exact Blk.new' _ _ (h.lib _).toList _ rfl) (hv1.alloc _) HS.out hep hln hcid).mono ?_); rintro e w2 ⟨v2, rfl, hv2, hb2⟩)
    | (go_at_call 54; refine (text_ok hv2).mono ?_; rintro e w3 ⟨rfl, rfl⟩))
  go_ret2
  exact ⟨rfl, (((Below.refl _ _).alloc (Nat.le_refl _) _).trans (hb1.mono (by (try simp only [Lib.bytesWorld_size, World.size_drew, drewN_size, World.size_alloc, World.size_setCell] at *); first | done | omega))).trans (((Below.refl _ _).alloc (Nat.le_refl _) _).trans (hb2.mono (by (try simp only [Lib.bytesWorld_size, World.size_drew, drewN_size, World.size_alloc, World.size_setCell] at *); first | done | omega)) |>.mono (by have := hb1.size; (try simp only [Lib.bytesWorld_size, World.size_drew, drewN_size, World.size_alloc, World.size_setCell] at *); first | done | omega))⟩
set_option maxHeartbeats 800000 in
theorem hdrWrite_err (w : World) (h : Hdr) (hsq : 281474976710655 < h.sq) (hs : Sent w 7) :
    Calls Tryd.prog 21 #[.agg h.cells] w fun e w' => e = .returned (.tuple #[.string (bs []), .bool false]) ∧ Below w.heap.size w w' := by
  have hOK := rowOK_mk Tryd.underlying48 rfl (cs := h.cells) (by kernel_rfl) 48 (0, 0)
  have HS := Lib.hid hsq
  clear hsq
  go_enter Tryd.func21, Tryd.ntmps21
  go_wp2_with (first
    | (go_at_call 59; refine (header_any _ h).mono ?_; rintro e w1 ⟨v, rfl, hv1, hb1⟩; obtain ⟨A0, c0, rfl⟩ := hv1.len; unfold Hdr.lib)
    | (go_at_call 60; go_loud (refine (hdr_marshal_err _ w1.heap.size h (.slice A0 h.cid.length c0) (by exact Blk.new' _ _ (h.lib _).toList _ rfl) (((hs.alloc _).below hb1).alloc _) HS.out).mono ?_); rintro e w2 ⟨v2, T2, x2, rfl, hb2⟩)
    | (go_at_call 54; refine (text_err _ _ _ _).mono ?_; rintro e w3 ⟨rfl, rfl⟩))
  go_ret2
  exact ⟨rfl, (((Below.refl _ _).alloc (Nat.le_refl _) _).trans (hb1.mono (by (try simp only [Lib.bytesWorld_size, World.size_drew, drewN_size, World.size_alloc, World.size_setCell] at *); first | done | omega))).trans (((Below.refl _ _).alloc (Nat.le_refl _) _).trans (hb2.mono (by (try simp only [Lib.bytesWorld_size, World.size_drew, drewN_size, World.size_alloc, World.size_setCell] at *); first | done | omega)) |>.mono (by have := hb1.size; (try simp only [Lib.bytesWorld_size, World.size_drew, drewN_size, World.size_alloc, World.size_setCell] at *); first | done | omega))⟩

theorem fnHeaderWrite.walk (h : Hdr) (hok : h.ok) (w : World) (_hL : laidMetH Tryd.prog Rows.fnHeaderWriteRow.laid w) :
    Calls Tryd.prog 7 #[.agg h.cells] w fun e w' => e = .returned (.bool true) ∧ Below w.heap.size w w' := by
  have hs : Sent w 7 := sent_of _hL (by kernel_rfl) (by kernel_rfl) Tryd.underlying82
  clear _hL
  obtain ⟨hsq, hep, hln, _⟩ := hok
  have hOK := rowOK_mk Tryd.underlying48 rfl (cs := h.cells) (by kernel_rfl) 48 (0, 0)
  clear hsq
  by_cases h1 : h.cid.length ≤ 2147483647
  rotate_left
  · go_enter Tryd.func7, Tryd.ntmps7
    go_wp2_with (go_at_call 20; refine (fits23_no _ h (by omega)).mono ?_; rintro e w1 ⟨rfl, hb1⟩)
    go_ret
    exact ⟨rfl, ((Below.refl _ _).alloc (Nat.le_refl _) _).trans (hb1.mono (by (try simp only [Lib.bytesWorld_size, World.size_drew, drewN_size, World.size_alloc, World.size_setCell] at *); first | done | omega))⟩
  have own : ∀ {w1 w2 : World}, Below (w.alloc (.cells h.cells 48)).heap.size (w.alloc (.cells h.cells 48)) w1 → Below w1.heap.size w1 w2 → objAt w2 w.heap.size = some (.cells h.cells 48 (0, 0)) := by
    intro w1 w2 hb1 hb2
    rw [objAt_below hb2 _ (Nat.lt_of_lt_of_le (by simp) hb1.size), objAt_below hb1 _ (by simp)]; simp [go_sem]
  have cell4 : ∀ w1 : World, objAt w1 w.heap.size = some (.cells h.cells 48 (0, 0)) → w1.cell? ⟨w.heap.size, 4, none⟩ = some (.int .u64 (h.sq : Int)) := fun w1 hb => cell_of_obj hb 4
  by_cases h4 : 281474976710655 < h.sq
  · have d3 : decide ((281474976710655 : Int) < (h.sq : Int)) = true := by simp; omega
    go_enter Tryd.func7, Tryd.ntmps7
    go_wp2_with (first
      | (go_at_call 20; refine (fits23_yes _ h h1).mono ?_; rintro e w1 ⟨rfl, hb1⟩; have io := own hb1 (Below.refl _ _))
      | (go_at_call 21; refine (hdrWrite_err _ h h4 ((hs.alloc _).below hb1)).mono ?_; rintro e w2 ⟨rfl, hb2⟩; have c4 := cell4 _ (own hb1 hb2)))
    go_ret
    exact ⟨rfl, (((Below.refl _ _).alloc (Nat.le_refl _) _).trans (hb1.mono (by (try simp only [Lib.bytesWorld_size, World.size_drew, drewN_size, World.size_alloc, World.size_setCell] at *); first | done | omega))).trans (hb2.mono (by have := hb1.size; (try simp only [Lib.bytesWorld_size, World.size_drew, drewN_size, World.size_alloc, World.size_setCell] at *); first | done | omega))⟩
  have d3 : decide ((281474976710655 : Int) < (h.sq : Int)) = false := by simp; omega
  go_enter Tryd.func7, Tryd.ntmps7
  go_wp2_with (first
    | (go_at_call 20; refine (fits23_yes _ h h1).mono ?_; rintro e w1 ⟨rfl, hb1⟩; have io := own hb1 (Below.refl _ _))
    | (go_at_call 21; refine (hdrWrite_ok _ h (by omega) hep hln h1).mono ?_; rintro e w2 ⟨rfl, hb2⟩; have io2 := own hb1 hb2; have c4 := cell4 _ io2)
    | (go_at_call 22; refine (headed_any _ h hep hln (by omega)).mono ?_; rintro e w3 ⟨rfl, hb3⟩))
  go_ret
  exact ⟨rfl, ((((Below.refl _ _).alloc (Nat.le_refl _) _).trans (hb1.mono (by (try simp only [Lib.bytesWorld_size, World.size_drew, drewN_size, World.size_alloc, World.size_setCell] at *); first | done | omega))).trans (hb2.mono (by have := hb1.size; (try simp only [Lib.bytesWorld_size, World.size_drew, drewN_size, World.size_alloc, World.size_setCell] at *); first | done | omega))).trans (hb3.mono (by have := hb1.size; have := hb2.size; (try simp only [Lib.bytesWorld_size, World.size_drew, drewN_size, World.size_alloc, World.size_setCell] at *); first | done | omega))⟩
end Go.Proofs.YtdnjkjoioabhhaaDoor

/- FnAdditionalData: the law's walk. -/
import Derived.Test.YtcggiljcimhfcaaAddData
import Derived.Test.YtcggiljcimhfcaaOpenHdr
import Derived.Test.YtcggiljcimhfcaaSuiteSeq
import Derived.Test.YtcggiljcimhfcaaFits23
import Derived.Test.YtcggiljcimhfcaaRows
namespace Go.Proofs.Ytcggiljcimhfcaa
open Go.RowKit
set_option maxRecDepth 100000

set_option maxHeartbeats 800000 in
theorem addImpl_any (w : World) (h : Hdr) (n : Nat) (hn : n ≤ 65535) (hsq : h.sq < 18446744073709551616) (hep : h.ep < 65536) :
    Calls Try.prog 9 #[.agg h.cells, .int .i64 (n : Int)] w fun e w' => e = .returned (.string (bs (addL h n))) ∧ Below w.heap.size w w' := by
  have hOK := rowOK_mk Try.underlying30 rfl (cs := h.cells) (by kernel_rfl) 30 (0, 0)
  have HS := Lib.hid hsq
  clear hsq
  go_enter Try.func9, Try.ntmps9
  go_wp2_with (first
    | (go_at_call 14; refine (header_any _ h).mono ?_; rintro e w1 ⟨v, rfl, hv1, hb1⟩; obtain ⟨A0, c0, rfl⟩ := hv1.len; unfold Hdr.lib)
    | (go_at_call 15; go_in)
    | (go_at_call 19; refine (add_any _ h w1.heap.size n (.slice A0 h.cid.length c0) (by exact Blk.new' _ _ (h.lib _).toList _ rfl) hn HS.out hep).mono ?_; rintro e w2 ⟨v2, rfl, hv2, hb2⟩)
    | (refine wpList_to_string rfl _ 34 9 5 rfl Try.underlying34 Try.underlying5 Try.underlying9 _ rfl _ hv2 ?_))
  go_ret
  exact ⟨rfl, (((Below.refl _ _).alloc (Nat.le_refl _) _).trans (hb1.mono (by (try simp only [Lib.bytesWorld_size, World.size_drew, drewN_size, World.size_alloc, World.size_setCell] at *); first | done | omega))).trans (((Below.refl _ _).alloc (Nat.le_refl _) _).trans (hb2.mono (by (try simp only [Lib.bytesWorld_size, World.size_drew, drewN_size, World.size_alloc, World.size_setCell] at *); first | done | omega)) |>.mono (by have := hb1.size; (try simp only [Lib.bytesWorld_size, World.size_drew, drewN_size, World.size_alloc, World.size_setCell] at *); first | done | omega))⟩

set_option maxHeartbeats 800000 in
theorem fnAdditionalData.walk (h : Hdr) (hok : h.ok) (a1 : Int) (_w1 : (Lit.int .i64 a1).wf = true) (w : World) :
    Calls Try.prog 5 #[.agg h.cells, .int .i64 a1] w fun e w' => e = .returned (.bool true) ∧ Below w.heap.size w w' := by
  have hOK := rowOK_mk Try.underlying30 rfl (cs := h.cells) (by kernel_rfl) 30 (0, 0)
  obtain ⟨hsq, hep, _, _⟩ := hok
  have HS := Lib.hid hsq
  clear hsq
  by_cases h1 : h.cid.length ≤ 2147483647
  rotate_left
  · go_enter Try.func5, Try.ntmps5
    go_wp2_with (go_at_call 8; refine (fits23_no _ h (by omega)).mono ?_; rintro e w1 ⟨rfl, hb1⟩)
    go_ret
    exact ⟨rfl, ((Below.refl _ _).alloc (Nat.le_refl _) _).trans (hb1.mono (by (try simp only [Lib.bytesWorld_size, World.size_drew, drewN_size, World.size_alloc, World.size_setCell] at *); first | done | omega))⟩
  by_cases h2 : a1 < 0
  · have d1 : decide (a1 < 0) = true := by simpa using h2
    go_enter Try.func5, Try.ntmps5
    go_wp2_with (go_at_call 8; refine (fits23_yes _ h h1).mono ?_; rintro e w1 ⟨rfl, hb1⟩)
    go_ret
    exact ⟨rfl, ((Below.refl _ _).alloc (Nat.le_refl _) _).trans (hb1.mono (by (try simp only [Lib.bytesWorld_size, World.size_drew, drewN_size, World.size_alloc, World.size_setCell] at *); first | done | omega))⟩
  have d1 : decide (a1 < 0) = false := by simpa using h2
  obtain ⟨n, rfl⟩ := nat_ex (x := a1) (by omega)
  clear h2
  by_cases h3 : 65535 < n
  · have d2 : decide ((65535 : Int) < (n : Int)) = true := by simp; omega
    go_enter Try.func5, Try.ntmps5
    go_wp2_with (go_at_call 8; refine (fits23_yes _ h h1).mono ?_; rintro e w1 ⟨rfl, hb1⟩)
    go_ret
    exact ⟨rfl, ((Below.refl _ _).alloc (Nat.le_refl _) _).trans (hb1.mono (by (try simp only [Lib.bytesWorld_size, World.size_drew, drewN_size, World.size_alloc, World.size_setCell] at *); first | done | omega))⟩
  have d2 : decide ((65535 : Int) < (n : Int)) = false := by simp; omega
  have cell4 : ∀ w1 : World, Below (w.alloc (.cells h.cells 30)).heap.size (w.alloc (.cells h.cells 30)) w1 → w1.cell? ⟨w.heap.size, 4, none⟩ = some (.int .u64 (h.sq : Int)) := fun w1 hb => by
    rw [hb.cell (p := ⟨w.heap.size, 4, none⟩) (by simp)]; simp [Hdr.cells]
  by_cases h4 : 281474976710655 < h.sq
  · have d3 : decide ((281474976710655 : Int) < (h.sq : Int)) = true := by simp; omega
    go_enter Try.func5, Try.ntmps5
    go_wp2_with (go_at_call 8; refine (fits23_yes _ h h1).mono ?_; rintro e w1 ⟨rfl, hb1⟩; have c4 := cell4 _ hb1)
    go_ret
    exact ⟨rfl, ((Below.refl _ _).alloc (Nat.le_refl _) _).trans (hb1.mono (by (try simp only [Lib.bytesWorld_size, World.size_drew, drewN_size, World.size_alloc, World.size_setCell] at *); first | done | omega))⟩
  have d3 : decide ((281474976710655 : Int) < (h.sq : Int)) = false := by simp; omega
  go_enter Try.func5, Try.ntmps5
  go_wp2_with (go_at_call 8; refine (fits23_yes _ h h1).mono ?_; rintro e w1 ⟨rfl, hb1⟩; have c4 := cell4 _ hb1)
  have hn : n ≤ 65535 := by omega
  have io : objAt w1 w.heap.size = some (.cells h.cells 30 (0, 0)) := by
    rw [objAt_below hb1 _ (by simp)]; simp [go_sem]
  have is : w.heap.size < w1.heap.size := Nat.lt_of_lt_of_le (by simp) hb1.size
  have ib : Below w.heap.size w w1 := ((Below.refl _ _).alloc (Nat.le_refl _) _).trans (hb1.mono (by (try simp only [Lib.bytesWorld_size, World.size_drew, drewN_size, World.size_alloc, World.size_setCell] at *); first | done | omega))
  have hst := Lib.hid (And.intro io (And.intro is ib))
  clear hb1 c4 cell4 io ib is
  refine wp_region_inv (by kernel_rfl) [19, 20, 21, 22, 23, 24, 25, 4] (fun i v _ => match i with
    | 0 => v = .agg h.cells
    | 1 => v = .int .i64 (n : Int)
    | 2 => v = .string (bs (addL h n))
    | 3 => v = .agg h.cells
    | 4 => v = .int .i64 (n : Int)
    | 5 => v = .string (bs (addL h n))
    | 6 => v = .bool true
    | 7 => v = .bool true
    | _ => True) (fun W => objAt W w.heap.size = some (.cells h.cells 30 (0, 0)) ∧ w.heap.size < W.heap.size ∧ Hid (Below w.heap.size w W)) ?hinv0 (by kernel_rfl) (by kernel_rfl) (by kernel_rfl) (by kernel_rfl) ?hsteps ?hfin
  case hinv0 => obtain ⟨io, is, ib⟩ := hst.out; exact ⟨io, is, ib.drew⟩
  case hsteps =>
    refine ⟨?_, ?_, ?_, ?_, ?_, ?_, ?_, ?_, trivial⟩
    · intro A W hI hb hp K hK; have b2 : A.tmps[2]? = some (.pointer (some ⟨w.heap.size, 0, none⟩)) := hb 2 (by decide)
      have i1 := hI.1; clear hp hb; go_simp; exact hK _ _ rfl hI (fun _ _ h => h)
    · intro A W hI hb hp K hK; have b1 : A.tmps[1]? = some (.int .i64 (n : Int)) := hb 1 (by decide)
      clear hp hb; go_simp; exact hK _ _ rfl hI (fun _ _ h => h)
    · intro A W hI hb hp K hK; obtain ⟨_, hv1, rfl⟩ := hp.1 rfl _ _ rfl rfl; obtain ⟨_, hv2, rfl⟩ := hp.2.1 rfl _ _ rfl rfl; clear hp; go_simp
      refine (addImpl_any _ h n hn HS.out hep).mono ?_; rintro e w1 ⟨rfl, hb1⟩
      exact hK _ _ rfl ⟨(objAt_below hb1 _ hI.2.1).trans hI.1, Nat.lt_of_lt_of_le hI.2.1 hb1.size, hI.2.2.out.trans (hb1.mono (Nat.le_of_lt hI.2.1))⟩ (fun _ _ h => h)
    · intro A W hI hb hp K hK; have b2 : A.tmps[2]? = some (.pointer (some ⟨w.heap.size, 0, none⟩)) := hb 2 (by decide)
      have i1 := hI.1; clear hp hb; go_simp; exact hK _ _ rfl hI (fun _ _ h => h)
    · intro A W hI hb hp K hK; have b1 : A.tmps[1]? = some (.int .i64 (n : Int)) := hb 1 (by decide)
      clear hp hb; go_simp; exact hK _ _ rfl hI (fun _ _ h => h)
    · intro A W hI hb hp K hK; obtain ⟨_, hv1, rfl⟩ := hp.1 rfl _ _ rfl rfl; obtain ⟨_, hv2, rfl⟩ := hp.2.1 rfl _ _ rfl rfl; clear hp; go_simp
      refine (addSpec_any _ h n hn hep).mono ?_; rintro e w1 ⟨rfl, hb1⟩
      exact hK _ _ rfl ⟨(objAt_below hb1 _ hI.2.1).trans hI.1, Nat.lt_of_lt_of_le hI.2.1 hb1.size, hI.2.2.out.trans (hb1.mono (Nat.le_of_lt hI.2.1))⟩ (fun _ _ h => h)
    · intro A W hI hb hp K hK; obtain ⟨_, hv1, rfl⟩ := hp.1 rfl _ _ rfl rfl; obtain ⟨_, hv2, rfl⟩ := hp.2.1 rfl _ _ rfl rfl; clear hp; go_simp; exact hK _ _ rfl hI (fun _ _ h => h)
    · intro A W hI hb hp K hK; obtain ⟨_, hv1, rfl⟩ := hp.1 rfl _ _ rfl rfl; clear hp; go_simp; exact hK _ _ rfl hI (fun _ _ h => h)
  case hfin =>
    intro vf W hg hI
    obtain ⟨_, _, _, _, _, _, _, g7, _⟩ := hg
    have e7 : vf 4 = _ := g7 4 rfl
    simp only [fillAct, List.foldl_cons, List.foldl_nil, List.setIfInBounds_toArray, List.set_cons_zero, List.set_cons_succ]
    rw [e7]
    go_wp2
    go_ret
    exact ⟨rfl, hI.2.2.out⟩
end Go.Proofs.Ytcggiljcimhfcaa

/- Contract of the references' suiteSeq and AdditionalData. -/
import Derived.Test.YtcggiljcimhfcaaSuiteNum
import Derived.Test.YtcggiljcimhfcaaHdr
import Derived.Test.YtcggiljcimhfcaaRegion
namespace Go.Proofs.Ytcggiljcimhfcaa
open Go.RowKit
set_option maxRecDepth 100000

set_option maxHeartbeats 400000 in
theorem suiteSeq_any (w : World) (h : Hdr) (hep : h.ep < 65536) : Calls Try.prog 16 #[.agg h.cells] w fun e w' => e = .returned (.string (bs (be 2 h.ep ++ be 6 h.sq))) ∧ Below w.heap.size w w' := by
  unfold Hdr.cells
  have hwr : IntKind.u64.wrap (h.ep : Int) = h.ep := by simp [IntKind.wrap, IntKind.bits, IntKind.signed]; omega
  go_enter Try.func16, Try.ntmps16
  go_wp2_with fail
  refine wp_region_inv (by kernel_rfl) [3, 4, 5, 6, 7, 8, 9, 10, 2] (fun i v _ => match i with
    | 0 => v = .pointer (some ⟨w.heap.size, 3, none⟩)
    | 1 => v = .int .u16 (h.ep : Int)
    | 2 => v = .int .u64 (h.ep : Int)
    | 3 => v = .string (bs (be 2 h.ep))
    | 4 => v = .pointer (some ⟨w.heap.size, 4, none⟩)
    | 5 => v = .int .u64 (h.sq : Int)
    | 6 => v = .string (bs (be 6 h.sq))
    | 7 => v = .string (bs (be 2 h.ep ++ be 6 h.sq))
    | 8 => v = .string (bs (be 2 h.ep ++ be 6 h.sq))
    | _ => True) (fun W => W.cell? ⟨w.heap.size, 3, none⟩ = some (.int .u16 (h.ep : Int)) ∧ W.cell? ⟨w.heap.size, 4, none⟩ = some (.int .u64 (h.sq : Int)) ∧ w.heap.size < W.heap.size ∧ Hid (Below w.heap.size w W)) ?hinv0 (by kernel_rfl) (by kernel_rfl) (by kernel_rfl) (by kernel_rfl) ?hsteps ?hfin
  case hinv0 => exact ⟨by simp [go_sem], by simp [go_sem], by simp, ((Below.refl _ _).alloc (Nat.le_refl _) _).drew⟩
  case hsteps =>
    refine ⟨?_, ?_, ?_, ?_, ?_, ?_, ?_, ?_, ?_, trivial⟩
    · intro A W hI hb hp K hK; obtain ⟨i3, i4, is, ib⟩ := hI; have hI := And.intro i3 (And.intro i4 (And.intro is ib)); clear hp; go_simp; exact hK _ _ rfl hI (fun _ _ h => h)
    · intro A W hI hb hp K hK; obtain ⟨_, hv1, rfl⟩ := hp.1 rfl _ _ rfl rfl; obtain ⟨i3, i4, is, ib⟩ := id hI; clear hp; go_simp; exact hK _ _ rfl hI (fun _ _ h => h)
    · intro A W hI hb hp K hK; obtain ⟨_, hv1, rfl⟩ := hp.1 rfl _ _ rfl rfl; clear hp; go_simp; exact hK _ _ rfl hI (fun _ _ h => h)
    · intro A W hI hb hp K hK; obtain ⟨_, hv1, rfl⟩ := hp.1 rfl _ _ rfl rfl; clear hp; go_simp
      refine (suiteNumber_any h.ep 2 (by omega) _).mono ?_; rintro e w1 ⟨rfl, hb1⟩
      exact hK _ _ rfl ⟨(hb1.cell hI.2.2.1).trans hI.1, (hb1.cell hI.2.2.1).trans hI.2.1, Nat.lt_of_lt_of_le hI.2.2.1 hb1.size, hI.2.2.2.out.trans (hb1.mono (Nat.le_of_lt hI.2.2.1))⟩ (fun _ _ h => h)
    · intro A W hI hb hp K hK; clear hp; go_simp; exact hK _ _ rfl hI (fun _ _ h => h)
    · intro A W hI hb hp K hK; obtain ⟨_, hv1, rfl⟩ := hp.1 rfl _ _ rfl rfl; clear hp; go_simp; exact hK _ _ rfl hI (fun _ _ h => h)
    · intro A W hI hb hp K hK; obtain ⟨_, hv1, rfl⟩ := hp.1 rfl _ _ rfl rfl; clear hp; go_simp
      refine (suiteNumber_any h.sq 6 (by omega) _).mono ?_; rintro e w1 ⟨rfl, hb1⟩
      exact hK _ _ rfl ⟨(hb1.cell hI.2.2.1).trans hI.1, (hb1.cell hI.2.2.1).trans hI.2.1, Nat.lt_of_lt_of_le hI.2.2.1 hb1.size, hI.2.2.2.out.trans (hb1.mono (Nat.le_of_lt hI.2.2.1))⟩ (fun _ _ h => h)
    · intro A W hI hb hp K hK; obtain ⟨_, hv1, rfl⟩ := hp.1 rfl _ _ rfl rfl; obtain ⟨_, hv2, rfl⟩ := hp.2.1 rfl _ _ rfl rfl; clear hp; go_simp; exact hK _ _ rfl hI (fun _ _ h => h)
    · intro A W hI hb hp K hK; obtain ⟨_, hv1, rfl⟩ := hp.1 rfl _ _ rfl rfl; clear hp; go_simp; exact hK _ _ rfl hI (fun _ _ h => h)
  case hfin =>
    intro vf W hg hI
    obtain ⟨_, _, _, _, _, _, _, _, g8, _⟩ := hg
    have e8 : vf 2 = _ := g8 2 rfl
    simp only [fillAct, List.foldl_cons, List.foldl_nil, List.setIfInBounds_toArray, List.set_cons_zero, List.set_cons_succ]
    rw [e8]
    go_wp2
    go_ret
    exact ⟨rfl, hI.2.2.2.out⟩

set_option maxHeartbeats 800000 in
theorem addSpec_any (w : World) (h : Hdr) (n : Nat) (hn : n ≤ 65535) (hep : h.ep < 65536) :
    Calls Try.prog 10 #[.agg h.cells, .int .i64 (n : Int)] w fun e w' => e = .returned (.string (bs (be 2 h.ep ++ be 6 h.sq ++ [h.t, h.ma, h.mi] ++ be 2 n))) ∧ Below w.heap.size w w' := by
  have hOK := rowOK_mk Try.underlying30 rfl (cs := h.cells) (by kernel_rfl) 30 (0, 0)
  unfold Hdr.cells
  go_enter Try.func10, Try.ntmps10
  go_wp2_with fail
  refine wp_region_inv (by kernel_rfl) [5, 6, 7, 8, 9, 10, 11, 12, 13, 14, 15, 16, 17, 18, 4] (fun i v W => match i with
    | 0 => v = .agg h.cells
    | 1 => v = .string (bs (be 2 h.ep ++ be 6 h.sq))
    | 2 => v = .pointer (some ⟨w.heap.size, 0, none⟩)
    | 3 => v = .int .u8 (h.t.toNat : Int)
    | 4 => v = .pointer (some ⟨w.heap.size, 1, none⟩)
    | 5 => v = .int .u8 (h.ma.toNat : Int)
    | 6 => v = .pointer (some ⟨w.heap.size, 2, none⟩)
    | 7 => v = .int .u8 (h.mi.toNat : Int)
    | 8 => By W v [h.t, h.ma, h.mi]
    | 9 => v = .string (bs [h.t, h.ma, h.mi])
    | 10 => v = .string (bs (be 2 h.ep ++ be 6 h.sq ++ [h.t, h.ma, h.mi]))
    | 11 => v = .int .i64 (n : Int)
    | 12 => v = .string (bs (be 2 n))
    | 13 => v = .string (bs (be 2 h.ep ++ be 6 h.sq ++ [h.t, h.ma, h.mi] ++ be 2 n))
    | 14 => v = .string (bs (be 2 h.ep ++ be 6 h.sq ++ [h.t, h.ma, h.mi] ++ be 2 n))
    | _ => True) (fun W => objAt W w.heap.size = some (.cells h.cells 30 (0, 0)) ∧ w.heap.size < W.heap.size ∧ Hid (Below w.heap.size w W)) ?hinv0 (by kernel_rfl) (by kernel_rfl) (by kernel_rfl) (by kernel_rfl) ?hsteps ?hfin
  case hinv0 => exact ⟨by simp [go_sem, Hdr.cells], by simp, ((Below.refl _ _).alloc (Nat.le_refl _) _).drew⟩
  case hsteps =>
    refine ⟨?_, ?_, ?_, ?_, ?_, ?_, ?_, ?_, ?_, ?_, ?_, ?_, ?_, ?_, ?_, trivial⟩
    · intro A W hI hb hp K hK; have b2 : A.tmps[2]? = some (.pointer (some ⟨w.heap.size, 0, none⟩)) := hb 2 (by decide)
      have i1 := hI.1; clear hp hb; go_simp; exact hK _ _ rfl hI (fun _ _ h => h)
    · intro A W hI hb hp K hK; obtain ⟨_, hv1, rfl⟩ := hp.1 rfl _ _ rfl rfl; clear hp; go_simp
      refine (suiteSeq_any _ h hep).mono ?_; rintro e w1 ⟨rfl, hb1⟩
      exact hK _ _ rfl ⟨(objAt_below hb1 _ hI.2.1).trans hI.1, Nat.lt_of_lt_of_le hI.2.1 hb1.size, hI.2.2.out.trans (hb1.mono (Nat.le_of_lt hI.2.1))⟩ (fun j u hg => by revert hg; dsimp only; split <;> first | exact id | exact fun h => By.below h hb1)
    · intro A W hI hb hp K hK; clear hp; go_simp; exact hK _ _ rfl hI (fun _ _ h => h)
    · intro A W hI hb hp K hK; obtain ⟨_, hv1, rfl⟩ := hp.1 rfl _ _ rfl rfl; have c := cell_of_obj hI.1 0; clear hp; go_simp; exact hK _ _ rfl hI (fun _ _ h => h)
    · intro A W hI hb hp K hK; clear hp; go_simp; exact hK _ _ rfl hI (fun _ _ h => h)
    · intro A W hI hb hp K hK; obtain ⟨_, hv1, rfl⟩ := hp.1 rfl _ _ rfl rfl; have c := cell_of_obj hI.1 1; clear hp; go_simp; exact hK _ _ rfl hI (fun _ _ h => h)
    · intro A W hI hb hp K hK; clear hp; go_simp; exact hK _ _ rfl hI (fun _ _ h => h)
    · intro A W hI hb hp K hK; obtain ⟨_, hv1, rfl⟩ := hp.1 rfl _ _ rfl rfl; have c := cell_of_obj hI.1 2; clear hp; go_simp; exact hK _ _ rfl hI (fun _ _ h => h)
    · intro A W hI hb hp K hK; obtain ⟨_, hv1, rfl⟩ := hp.1 rfl _ _ rfl rfl; obtain ⟨_, hv2, rfl⟩ := hp.2.1 rfl _ _ rfl rfl; obtain ⟨_, hv3, rfl⟩ := hp.2.2.1 rfl _ _ rfl rfl; clear hp; go_simp
      have hb1 : Below W.heap.size W (W.alloc (.cells #[bv h.t, bv h.ma, bv h.mi] 5)) := (Below.refl _ _).alloc (Nat.le_refl _) _
      exact hK _ _ (Blk.by (g := W.heap.size) (e := 5) (l := [h.t, h.ma, h.mi]) (Blk.new' W 5 [bv h.t, bv h.ma, bv h.mi] _ rfl) 3 (by simp)) ⟨(objAt_below hb1 _ hI.2.1).trans hI.1, Nat.lt_of_lt_of_le hI.2.1 hb1.size, hI.2.2.out.trans (hb1.mono (Nat.le_of_lt hI.2.1))⟩ (fun j u hg => by revert hg; dsimp only; split <;> first | exact id | exact fun h => By.below h hb1)
    · intro A W hI hb hp K hK; obtain ⟨v, hv1, hg1⟩ := hp.1 rfl _ _ rfl rfl
      have hcv := run_to_string (P := Try.prog) hg1 34 9 5 Try.underlying34 Try.underlying5 Try.underlying9
      clear hp; go_simp; exact hK _ _ rfl hI (fun _ _ h => h)
    · intro A W hI hb hp K hK; obtain ⟨_, hv1, rfl⟩ := hp.1 rfl _ _ rfl rfl; obtain ⟨_, hv2, rfl⟩ := hp.2.1 rfl _ _ rfl rfl; clear hp; go_simp; exact hK _ _ rfl hI (fun _ _ h => h)
    · intro A W hI hb hp K hK; clear hp; go_simp; exact hK _ _ rfl hI (fun _ _ h => h)
    · intro A W hI hb hp K hK; obtain ⟨_, hv1, rfl⟩ := hp.1 rfl _ _ rfl rfl; clear hp; go_simp
      refine (keyTwo_any n hn _).mono ?_; rintro e w1 ⟨rfl, hb1⟩
      exact hK _ _ rfl ⟨(objAt_below hb1 _ hI.2.1).trans hI.1, Nat.lt_of_lt_of_le hI.2.1 hb1.size, hI.2.2.out.trans (hb1.mono (Nat.le_of_lt hI.2.1))⟩ (fun j u hg => by revert hg; dsimp only; split <;> first | exact id | exact fun h => By.below h hb1)
    · intro A W hI hb hp K hK; obtain ⟨_, hv1, rfl⟩ := hp.1 rfl _ _ rfl rfl; obtain ⟨_, hv2, rfl⟩ := hp.2.1 rfl _ _ rfl rfl; clear hp; go_simp; exact hK _ _ rfl hI (fun _ _ h => h)
    · intro A W hI hb hp K hK; obtain ⟨_, hv1, rfl⟩ := hp.1 rfl _ _ rfl rfl; clear hp; go_simp; exact hK _ _ rfl hI (fun _ _ h => h)
  case hfin =>
    intro vf W hg hI
    obtain ⟨_, _, _, _, _, _, _, _, _, _, _, _, _, _, g14, _⟩ := hg
    have e14 : vf 4 = _ := g14 4 rfl
    simp only [fillAct, List.foldl_cons, List.foldl_nil, List.setIfInBounds_toArray, List.set_cons_zero, List.set_cons_succ]
    rw [e14]
    go_wp2
    go_ret
    exact ⟨rfl, hI.2.2.out⟩
end Go.Proofs.Ytcggiljcimhfcaa

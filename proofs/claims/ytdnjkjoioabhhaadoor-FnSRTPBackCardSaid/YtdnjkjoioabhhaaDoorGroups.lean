/- The curves' map, and that two equal lists of numbers are told equal. -/
import Derived.Test.YtdnjkjoioabhhaaDoorMaps
import Derived.Test.YtdnjkjoioabhhaaDoorNums
import Derived.WalkKit
namespace Go.Proofs.YtdnjkjoioabhhaaDoor
open Go.RowKit
set_option maxRecDepth 100000

theorem und_u16 : Tryd.prog.underlying 171 = some (.int .u16) := Tryd.underlying171
def curveRow : Array MapEntry := #[{ key := .int .u16 29, val := .bool true, born := 0 }, { key := .int .u16 23, val := .bool true, born := 1 }, { key := .int .u16 24, val := .bool true, born := 2 }]
def CurvesPost (w : World) (e : Ending) (w' : World) : Prop := ∃ r, e = .returned (.map (some r)) ∧ w'.heap[r]? = some (.map curveRow 3) ∧ Below w.heap.size w w'
theorem curves_any (w : World) : Calls Tryd.prog 98 #[] w (CurvesPost w) := by
  have hmm := @run_makeMap Tryd.prog
  have h0 : (w.alloc (.map #[] 0)).heap[w.heap.size]? = some (.map #[] 0) := heap_alloc_new w _
  obtain ⟨w1, r1, h1, b1⟩ := insert_new (P := Tryd.prog) Tryd.underlying173 und_u16 h0 29 (.bool true) rfl ((Below.refl w.heap.size w).alloc (Nat.le_refl _) _) (Nat.le_refl _)
  obtain ⟨w2, r2, h2, b2⟩ := insert_new (P := Tryd.prog) Tryd.underlying173 und_u16 h1 23 (.bool true) rfl b1 (Nat.le_refl _)
  obtain ⟨w3, r3, h3, b3⟩ := insert_new (P := Tryd.prog) Tryd.underlying173 und_u16 h2 24 (.bool true) rfl b2 (Nat.le_refl _)
  have H3 := Lib.hid h3
  have B3 := Lib.hid b3
  clear h0 h1 h2 h3 b1 b2 b3
  go_enter Tryd.func98, Tryd.ntmps98
  go_wp2
  go_ret
  exact ⟨_, rfl, H3.out, B3.out⟩
theorem curve_there {w : World} {r : Nat} (h : w.heap[r]? = some (.map curveRow 3)) (x : Nat) (hx : [23, 24, 29].contains x = true) : (Instr.lookup 173 (.map (some r)) (.int .u16 (x : Int)) true).run Tryd.prog w = .ok (.tuple #[.bool true, .bool true]) w := by
  have hx' : x = 23 ∨ x = 24 ∨ x = 29 := by simpa using hx
  rcases hx' with rfl | rfl | rfl
  · exact lookup_there Tryd.underlying173 und_u16 h 23 1 (.bool true) rfl
  · exact lookup_there Tryd.underlying173 und_u16 h 24 2 (.bool true) rfl
  · exact lookup_there Tryd.underlying173 und_u16 h 29 0 (.bool true) rfl
theorem equal_u16 (w : World) (a b : Int) : Calls Tryd.prog 44 #[.int .u16 a, .int .u16 b] w fun e w' => e = .returned (.bool (a == b)) ∧ w = w' := by
  go_enter Tryd.func44, Tryd.ntmps44
  go_wp2
  go_ret
  exact ⟨rfl, rfl⟩
set_option maxHeartbeats 1600000 in
theorem listU16_yes (w : World) (v u : Value) (ns : List Nat) (hv : Sl w v (u16s ns)) (hu : Sl w u (u16s ns)) (hl : ns.length ≤ 2147483647) : TellsSame w 43 v u (.func (.func 44) #[] #[]) := by
  obtain ⟨A1, c1, rfl, hlc1, hr1⟩ := hv.nums
  obtain ⟨A2, c2, rfl, hlc2, hr2⟩ := hu.nums
  have HR1 := Lib.hid hr1
  have HR2 := Lib.hid hr2
  clear hr1 hr2 hv hu
  intro W hbW
  have HBW := Lib.hid hbW
  clear hbW
  go_enter Tryd.func43, Tryd.ntmps43
  go_wp2_with fail
  go_loopg [7, 15] ns.length (fun m _ x wr => ∃ k : Nat, k ≤ ns.length ∧ m = ns.length - k ∧ x = .int .i64 (k : Int) ∧ Hid (Below W.heap.size W wr))
  case atStart => exact ⟨0, Nat.zero_le _, rfl, rfl, Below.refl _ _⟩
  case round =>
    obtain ⟨k, hk, rfl, rfl, HB⟩ := hrel
    by_cases hlt : k < ns.length
    · obtain ⟨g1, o1, rfl, hg1, hc1⟩ := HR1.out (by omega)
      obtain ⟨g2, o2, rfl, hg2, hc2⟩ := HR2.out (by omega)
      have hb0 : Below w.heap.size w wr := HBW.out.trans (HB.out.mono HBW.out.size)
      have k1 := (hb0.cell (p := ⟨g1, o1 + k, none⟩) hg1).trans (hc1 k hlt)
      have k2 := (hb0.cell (p := ⟨g2, o2 + k, none⟩) hg2).trans (hc2 k hlt)
      have l1 : g1 < wr.heap.size := World.block_lt_of_cell? wr _ k1
      have l2 : g2 < wr.heap.size := World.block_lt_of_cell? wr _ k2
      obtain ⟨x, hx⟩ : ∃ x, x = ns[k] := ⟨_, rfl⟩
      rw [← hx] at k1 k2
      have K1 := Lib.hid k1
      have K2 := Lib.hid k2
      clear hc1 hc2 hx hb0 k1 k2
      have hkl : (k : Int) < (ns.length : Int) := by omega
      go_wp2_with fail
      refine wp_region_inv (by kernel_rfl) [18, 19, 20, 21, 22, 23, 24, 25, 26, 27, 28] (fun i v W => match i with
    | 0 => v = .func (.func 44) #[] #[]
    | 1 => v = .slice (some ⟨g1, o1, none⟩) ns.length c1
    | 2 => v = .int .i64 (k : Int)
    | 3 => v = .pointer (some ⟨g1, o1 + k, none⟩)
    | 4 => v = .int .u16 (x : Int)
    | 5 => v = .slice (some ⟨g2, o2, none⟩) ns.length c2
    | 6 => v = .int .i64 (k : Int)
    | 7 => v = .pointer (some ⟨g2, o2 + k, none⟩)
    | 8 => v = .int .u16 (x : Int)
    | 9 => v = .bool true
    | 10 => v = .bool false
    | _ => True) (Kept wr) ?hinv0 (by kernel_rfl) (by kernel_rfl) (by kernel_rfl) (by kernel_rfl) ?hsteps ?hfin
      case hinv0 => exact ⟨(Below.refl _ _).drew⟩
      case hsteps =>
        refine ⟨?_, ?_, ?_, ?_, ?_, ?_, ?_, ?_, ?_, ?_, ?_, trivial⟩
        · intro A W hI hb hp K hK; (repeat (obtain ⟨hq, hp⟩ := hp; first | (obtain ⟨_, hv, rfl⟩ := hq rfl _ _ rfl rfl; clear hq) | (obtain ⟨_, hv, hg⟩ := hq rfl _ _ rfl rfl; clear hq) | clear hq)); clear hp; have b1 := hb 2 (by decide); clear hb; go_simp; exact hK _ _ rfl hI (fun _ _ h => h)
        · intro A W hI hb hp K hK; (repeat (obtain ⟨hq, hp⟩ := hp; first | (obtain ⟨_, hv, rfl⟩ := hq rfl _ _ rfl rfl; clear hq) | (obtain ⟨_, hv, hg⟩ := hq rfl _ _ rfl rfl; clear hq) | clear hq)); clear hp; have b1 := hb 0 (by decide); clear hb; go_simp; exact hK _ _ rfl hI (fun _ _ h => h)
        · intro A W hI hb hp K hK; (repeat (obtain ⟨hq, hp⟩ := hp; first | (obtain ⟨_, hv, rfl⟩ := hq rfl _ _ rfl rfl; clear hq) | (obtain ⟨_, hv, hg⟩ := hq rfl _ _ rfl rfl; clear hq) | clear hq)); clear hp; have b1 := hb 7 (by decide); clear hb; go_simp; exact hK _ _ rfl hI (fun _ _ h => h)
        · intro A W hI hb hp K hK; (repeat (obtain ⟨hq, hp⟩ := hp; first | (obtain ⟨_, hv, rfl⟩ := hq rfl _ _ rfl rfl; clear hq) | (obtain ⟨_, hv, hg⟩ := hq rfl _ _ rfl rfl; clear hq) | clear hq)); clear hp; clear hb; go_simp; exact hK _ _ rfl hI (fun _ _ h => h)
        · intro A W hI hb hp K hK; (repeat (obtain ⟨hq, hp⟩ := hp; first | (obtain ⟨_, hv, rfl⟩ := hq rfl _ _ rfl rfl; clear hq) | (obtain ⟨_, hv, hg⟩ := hq rfl _ _ rfl rfl; clear hq) | clear hq)); clear hp; clear hb; have c0 := (hI.below.cell (p := ⟨g1, o1 + k, none⟩) l1).trans K1.out; go_simp; exact hK _ _ rfl hI (fun _ _ h => h)
        · intro A W hI hb hp K hK; (repeat (obtain ⟨hq, hp⟩ := hp; first | (obtain ⟨_, hv, rfl⟩ := hq rfl _ _ rfl rfl; clear hq) | (obtain ⟨_, hv, hg⟩ := hq rfl _ _ rfl rfl; clear hq) | clear hq)); clear hp; have b1 := hb 1 (by decide); clear hb; go_simp; exact hK _ _ rfl hI (fun _ _ h => h)
        · intro A W hI hb hp K hK; (repeat (obtain ⟨hq, hp⟩ := hp; first | (obtain ⟨_, hv, rfl⟩ := hq rfl _ _ rfl rfl; clear hq) | (obtain ⟨_, hv, hg⟩ := hq rfl _ _ rfl rfl; clear hq) | clear hq)); clear hp; have b1 := hb 7 (by decide); clear hb; go_simp; exact hK _ _ rfl hI (fun _ _ h => h)
        · intro A W hI hb hp K hK; (repeat (obtain ⟨hq, hp⟩ := hp; first | (obtain ⟨_, hv, rfl⟩ := hq rfl _ _ rfl rfl; clear hq) | (obtain ⟨_, hv, hg⟩ := hq rfl _ _ rfl rfl; clear hq) | clear hq)); clear hp; clear hb; go_simp; exact hK _ _ rfl hI (fun _ _ h => h)
        · intro A W hI hb hp K hK; (repeat (obtain ⟨hq, hp⟩ := hp; first | (obtain ⟨_, hv, rfl⟩ := hq rfl _ _ rfl rfl; clear hq) | (obtain ⟨_, hv, hg⟩ := hq rfl _ _ rfl rfl; clear hq) | clear hq)); clear hp; clear hb; have c0 := (hI.below.cell (p := ⟨g2, o2 + k, none⟩) l2).trans K2.out; go_simp; exact hK _ _ rfl hI (fun _ _ h => h)
        · intro A W hI hb hp K hK; (repeat (obtain ⟨hq, hp⟩ := hp; first | (obtain ⟨_, hv, rfl⟩ := hq rfl _ _ rfl rfl; clear hq) | (obtain ⟨_, hv, hg⟩ := hq rfl _ _ rfl rfl; clear hq) | clear hq)); clear hp; clear hb; go_simp; refine (equal_u16 _ _ _).mono ?_; rintro e w1 ⟨rfl, rfl⟩; exact hK _ _ (by simp) hI (fun _ _ h => h)
        · intro A W hI hb hp K hK; (repeat (obtain ⟨hq, hp⟩ := hp; first | (obtain ⟨_, hv, rfl⟩ := hq rfl _ _ rfl rfl; clear hq) | (obtain ⟨_, hv, hg⟩ := hq rfl _ _ rfl rfl; clear hq) | clear hq)); clear hp; clear hb; go_simp; exact hK _ _ rfl hI (fun _ _ h => h)
      case hfin =>
        intro vf W2 hgd hI
        have e28 : vf 28 = _ := hgd.2.2.2.2.2.2.2.2.2.2.1 28 rfl
        simp only [fillAct, List.foldl_cons, List.foldl_nil, List.setIfInBounds_toArray, List.set_cons_zero, List.set_cons_succ]
        rw [e28]
        clear hgd e28
        have HI := Lib.hid (HB.out.trans (hI.below.mono HB.out.size))
        clear hI
        go_wp2_with fail
        go_roundg (ns.length - (k + 1))
        case measure => omega
        case rel => exact ⟨k + 1, by omega, rfl, by go_num, HI.out⟩
    · obtain rfl : k = ns.length := by omega
      go_wp2_with fail
      go_ret
      exact ⟨rfl, HB.out⟩
end Go.Proofs.YtdnjkjoioabhhaaDoor

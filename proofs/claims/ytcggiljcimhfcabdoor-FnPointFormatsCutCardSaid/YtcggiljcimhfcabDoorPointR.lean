/- impl.PointFormatsRead and the law FnPointFormatsCut. -/
import Derived.Test.YtcggiljcimhfcabDoorPointD
import Derived.Test.YtcggiljcimhfcabDoorFramedExt
import Derived.Test.YtcggiljcimhfcabDoorRows
import Derived.WalkSpells
import Derived.Test.YtcggiljcimhfcabDoorStore
namespace Go.Proofs.YtcggiljcimhfcabDoor
open Go.RowKit
set_option maxRecDepth 100000

def ReadPost (w : World) (ok : Bool) (e : Ending) (w' : World) : Prop := (∃ cs : Array Value, e = .returned (.tuple #[.agg cs, .bool ok]) ∧ cs.size = 13 ∧ cs.all (·.oneCell') = true) ∧ Below w.heap.size w w'
theorem pfRead_short (w : World) (l : List UInt8) (hl : l.length < 5) (hs : Sent w 0) :
    Calls Tryd.prog 6 #[.string (bs l)] w (ReadPost w false) := by
  have kc := fun (w : World) (s : ByteArray) => run_to_bytes (P := Tryd.prog) 9 25 5 Tryd.underlying9 Tryd.underlying25 Tryd.underlying5 w s
  go_enter Tryd.func6, Tryd.ntmps6
  go_wp2_with (first
    | (go_at_call 8; (refine (pf_short _ _ _ l (By.to_bytes' _ _ l _ _ (by (try simp only [Lib.bytesWorld_size, World.size_drew, drewN_size, World.size_alloc, World.size_setCell] at *); first | done | omega) (grownCap_ge _ _ _ _)) hl (((hs.alloc _).alloc _).below (below_bytes _ _ _))).mono ?_); rintro e w1 ⟨T, x, rfl, hb1⟩; (have io1 : objAt w1 w.heap.size = some (.cells extZero 34 (0, 0)) := (after2 hb1).1); have Hb1 := Lib.hid (after2 hb1).2.2.2; clear hb1)
    | ((refine wpList_store_whole rfl 34 (.tmp 2) (.tmp 14) rfl w.heap.size extZero rfl rfl 34 _ io1 (by kernel_rfl) rfl (by kernel_rfl) ?_); intro w2 io2 g2; have G2 := Lib.hid g2; clear g2))
  refine bodyPost_ret (ret_cell2 Tryd.results6 _ w2 w.heap.size extZero (.bool false) Tryd.underlying34 rfl (by kernel_rfl) io2 rfl rfl) rfl ⟨⟨_, rfl, rfl, by kernel_rfl⟩, ?_⟩
  exact Hb1.out.grown G2.out Hb1.out.size (fun k hk => by cases hk; exact Nat.le_refl _)
theorem pfRead_cut (w : World) (l : List UInt8) (n dl : Nat) (u : UInt8) (hd : 5 ≤ l.length) (hd' : l.length ≤ 2147483647) (hn : n ≤ 255) (h0 : nat (l.take 2) = 11) (h2 : nat ((l.drop 2).take 2) = dl) (hdl : dl = n + 1) (h4 : l[4]? = some u) (hu : u.toNat = n)
    (hs : Sent w 3) (hc : l.length < n + 5) :
    Calls Tryd.prog 6 #[.string (bs l)] w (ReadPost w false) := by
  have H0 := Lib.hid h0
  have H2 := Lib.hid h2
  have HD := Lib.hid hdl
  have H4 := Lib.hid h4
  have HU := Lib.hid hu
  clear h0 h2 hdl h4 hu
  have kc := fun (w : World) (s : ByteArray) => run_to_bytes (P := Tryd.prog) 9 25 5 Tryd.underlying9 Tryd.underlying25 Tryd.underlying5 w s
  go_enter Tryd.func6, Tryd.ntmps6
  go_wp2_with (first
    | (go_at_call 8; (refine (pf_cut _ _ _ l n dl u (show Blk _ _ _ _ from (made2 w _ _ _ _).2.1) (By.to_bytes' _ _ l _ _ (by (try simp only [Lib.bytesWorld_size, World.size_drew, drewN_size, World.size_alloc, World.size_setCell] at *); first | done | omega) (grownCap_ge _ _ _ _)) hd hd' hn H0.out H2.out HD.out H4.out HU.out (((hs.alloc _).alloc _  ).below (below_bytes _ _ _)) hc).mono ?_); rintro e w1 ⟨T, x, rfl, hb1⟩; (have io1 : objAt w1 w.heap.size = some (.cells extZero 34 (0, 0)) := (after2 hb1).1); have Hb1 := Lib.hid (after2 hb1).2.2.2; clear hb1)
    | ((refine wpList_store_whole rfl 34 (.tmp 2) (.tmp 14) rfl w.heap.size extZero rfl rfl 34 _ io1 (by kernel_rfl) rfl (by kernel_rfl) ?_); intro w2 io2 g2; have G2 := Lib.hid g2; clear g2))
  refine bodyPost_ret (ret_cell2 Tryd.results6 _ w2 w.heap.size extZero (.bool false) Tryd.underlying34 rfl (by kernel_rfl) io2 rfl rfl) rfl ⟨⟨_, rfl, rfl, by kernel_rfl⟩, ?_⟩
  exact Hb1.out.grown G2.out Hb1.out.size (fun k hk => by cases hk; exact Nat.le_refl _)
theorem pfRead_whole (w : World) (l : List UInt8) (n dl : Nat) (u : UInt8) (hd : l.length = n + 5) (hn : n ≤ 255) (h0 : nat (l.take 2) = 11) (h2 : nat ((l.drop 2).take 2) = dl) (hdl : dl = n + 1) (h4 : l[4]? = some u) (hu : u.toNat = n)
    (hz : ∀ k, k < n → l[5 + k]? = some 0) :
    Calls Tryd.prog 6 #[.string (bs l)] w (ReadPost w true) := by
  have H0 := Lib.hid h0
  have H2 := Lib.hid h2
  have HD := Lib.hid hdl
  have H4 := Lib.hid h4
  have HU := Lib.hid hu
  have HZ := Lib.hid hz
  have HL := Lib.hid hd
  clear h0 h2 hdl h4 hu hz hd
  have kc := fun (w : World) (s : ByteArray) => run_to_bytes (P := Tryd.prog) 9 25 5 Tryd.underlying9 Tryd.underlying25 Tryd.underlying5 w s
  go_enter Tryd.func6, Tryd.ntmps6
  go_wp2_with (first
    | (go_at_call 8; refine (pf_whole _ _ _ l n dl u (show Blk _ _ _ _ from (made2 w _ _ _ _).2.1) (By.to_bytes' _ _ l _ _ (by (try simp only [Lib.bytesWorld_size, World.size_drew, drewN_size, World.size_alloc, World.size_setCell] at *); first | done | omega) (grownCap_ge _ _ _ _)) (by simp [Value.ownBlock]) HL.out hn H0.out H2.out HD.out H4.out HU.out HZ.out).mono ?_; rintro e w1 ⟨rfl, v, hB1, hS1, hG1⟩; have io1 : objAt w1 w.heap.size = some (.cells extZero 34 (0, 0)) := (objAt_grown hG1 _ (by have := (made2 w (.cells extZero 34) (.cells #[.slice none 0 0] 43) 5 (bs l)).2.2.1; exact Nat.lt_of_lt_of_le (by omega) (Nat.le_of_eq this)) (by simp)).trans (made2 w _ _ _ _).1; have Hb1 := Lib.hid ((made2 w _ _ _ _).2.2.2.grown hG1 (made2 w _ _ _ _).2.2.2.size (fun k hk => by cases hk; exact Nat.le_succ _)); clear hG1)
    | (go_at_call 9; refine (dataPF _ _ _ n hB1 hS1 hn).mono ?_; rintro e w2 ⟨⟨cs, rfl, hcs, hone⟩, hb2⟩; have HCS := Lib.hid hcs; have HONE := Lib.hid hone; have io2 : objAt w2 w.heap.size = some (.cells extZero 34 (0, 0)) := (objAt_below hb2 _ (by exact Nat.lt_of_le_of_lt (Nat.le_succ _) hB1.lt)).trans io1; have Hb2 := Lib.hid (Hb1.out.trans (hb2.mono Hb1.out.size)); clear hcs hone hb2 io1 Hb1 hB1 hS1)
    | (refine wpList_store_whole rfl 34 (.tmp 2) (.tmp 16) rfl w.heap.size cs rfl rfl 34 _ io2 (by rw [HCS.out]; kernel_rfl) (by rw [HCS.out]; rfl) HONE.out ?_; intro w3 io3 g3; have G3 := Lib.hid g3; clear g3))
  refine bodyPost_ret (ret_cell2 Tryd.results6 _ w3 w.heap.size cs (.bool true) Tryd.underlying34 rfl (by rw [HCS.out]; kernel_rfl) io3 rfl rfl) rfl ⟨⟨_, rfl, HCS.out, HONE.out⟩, ?_⟩
  exact Hb2.out.grown G3.out Hb2.out.size (fun k hk => by cases hk; exact Nat.le_refl _)
end Go.Proofs.YtcggiljcimhfcabDoor

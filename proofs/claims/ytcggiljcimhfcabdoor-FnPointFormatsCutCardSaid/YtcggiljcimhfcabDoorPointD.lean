/- impl.dataPointFormats. -/
import Derived.Test.YtcggiljcimhfcabDoorPointU
import Derived.Test.YtcggiljcimhfcabDoorStore
namespace Go.Proofs.YtcggiljcimhfcabDoor
open Go.RowKit
set_option maxRecDepth 100000

/-- An extension of a type and a list of numbers, the rest empty. -/
def extNum (ty : Int) (v : Value) : Array Value := #[.int .u16 ty, .string (bs []), .slice none 0 0, v, .slice none 0 0, .bool false, .int .u32 0, .bool false, .slice none 0 0, .slice none 0 0, .slice none 0 0, .slice none 0 0, .slice none 0 0]
/-- An extension without anything in it. -/
def extZero : Array Value := #[.int .u16 0, .string (bs []), .slice none 0 0, .slice none 0 0, .slice none 0 0, .bool false, .int .u32 0, .bool false, .slice none 0 0, .slice none 0 0, .slice none 0 0, .slice none 0 0, .slice none 0 0]
theorem Tryd.infoU16 : (Tryd.prog.info? 23).map (fun i => (i.zero, i.size, i.bytes)) = some (some (.int .u16 0), 1, 2) := by kernel_rfl
theorem extNum_size (ty : Int) (v : Value) : (Tryd.prog.info? 34).map (·.size) = some (extNum ty v).size := by kernel_rfl
theorem Sl.reps {w : World} {v u : Value} {n : Nat} (h : Sl w v (List.replicate n u)) : ∃ A c, v = .slice A n c ∧ n ≤ c ∧ (0 < n → ∃ g o, A = some ⟨g, o, none⟩ ∧ g < w.heap.size ∧ ∀ j, j < n → w.cell? ⟨g, o + j, none⟩ = some u) := by
  obtain ⟨A, c, hv, hc, hr⟩ := h
  refine ⟨A, c, by simpa using hv, by simpa using hc, fun h0 => ?_⟩
  obtain ⟨g, o, hA, hj⟩ := hr (by simpa using h0)
  have hj' : ∀ j, j < n → w.cell? ⟨g, o + j, none⟩ = some u := fun j h => by rw [hj j (by simpa using h)]; simp
  exact ⟨g, o, hA, World.block_lt_of_cell? w _ (hj' 0 h0), hj'⟩
def DataPost (w : World) (e : Ending) (w' : World) : Prop := (∃ cs : Array Value, e = .returned (.agg cs) ∧ cs.size = 13 ∧ cs.all (·.oneCell') = true) ∧ Below w.heap.size w w'
set_option maxHeartbeats 1600000 in
theorem dataPF (w : World) (g : Nat) (v : Value) (n : Nat) (hB : Blk w g 43 [v]) (hv : Sl w v (List.replicate n (.int .u8 0))) (hn : n ≤ 255) :
    Calls Tryd.prog 9 #[.pointer (some ⟨g, 0, none⟩)] w (DataPost w) := by
  obtain ⟨A, c, rfl, hlc, hr⟩ := hv.reps
  have m0 : w.cell? ⟨g, 0, none⟩ = some (.slice A n c) := hB.cell 0
  have hg := hB.lt
  obtain ⟨i0, hi0, hz0, hz1, hz2⟩ := info_parts Tryd.infoU16
  have HR := Lib.hid hr
  clear hr hB hv
  go_enter Tryd.func9, Tryd.ntmps9
  go_wp2_with fail
  refine wp_abs (fun W => Hid (Blk W (w.heap.size + 1) 34 (extNum 11 (.slice none 0 0)).toList) ∧ Hid (objAt W w.heap.size = some (.cells extZero 34 (0, 0))) ∧ Hid (Below w.heap.size w W) ∧ w.heap.size + 2 ≤ W.heap.size) ⟨(alloc2 w _ _).2.1, (alloc2 w _ _).1, (alloc2 w _ _).2.2.2, (alloc2 w _ _).2.2.1⟩ ?_
  rintro w1 ⟨hE, hRz, hb1, hsz⟩
  go_loopg [5, 12] n (fun m _ x wr => ∃ (k : Nat) (v : Value) (xs : List Value), k ≤ n ∧ m = n - k ∧ x = .int .i64 (k : Int) ∧ Hid (Blk wr (w.heap.size + 1) 34 (extNum 11 v).toList) ∧ Hid (objAt wr w.heap.size = some (.cells extZero 34 (0, 0))) ∧
    Hid (wr.ownsRow (w.heap.size + 2) 23 1 v k xs) ∧ Hid (Below w.heap.size w wr) ∧ w.heap.size + 2 ≤ wr.heap.size ∧ v.oneCell' = true)
  case atStart => exact ⟨0, .slice none 0 0, [], Nat.zero_le _, rfl, rfl, hE, hRz, World.ownsRow_nil _ _ _ _, hb1, hsz, rfl⟩
  case round =>
    clear hE hRz hb1 hsz
    obtain ⟨k, v, xs, hk, rfl, rfl, hE, hRz, Hown, hbr, hsz, hv1⟩ := hrel
    by_cases hlt : k < n
    rotate_left
    · obtain rfl : k = n := by omega
      have ioE : objAt wr (w.heap.size + 1) = some (.cells (extNum 11 v) 34 (0, 0)) := hE.out
      have hOK := rowOK_mk Tryd.underlying34 rfl (extNum_size 11 v) 34 (0, 0)
      have hone : (extNum 11 v).all (·.oneCell') = true := by unfold Value.oneCell' at hv1; simp [extNum, Value.oneCell']; exact hv1
      have Hone := Lib.hid hone
      clear hone hv1
      go_wp2_with (refine wpList_store_whole rfl 34 (.tmp 2) (.tmp 24) rfl w.heap.size (extNum 11 v) rfl rfl 34 _ hRz.out (extNum_size 11 v) rfl Hone.out ?_; intro w2 io2 g2; have G2 := Lib.hid g2; clear g2)
      refine bodyPost_ret (ret_cell1 Tryd.results9 _ w2 w.heap.size (extNum 11 v) Tryd.underlying34 rfl (extNum_size 11 v) io2 rfl) rfl ⟨⟨_, rfl, rfl, Hone.out⟩, ?_⟩
      exact hbr.out.grown G2.out hbr.out.size (fun k hk => by cases hk; exact Nat.le_refl _)
    obtain ⟨g1, o1, rfl, hg1, hc⟩ := HR.out (by omega)
    have c0 : wr.cell? ⟨g1, o1 + k, none⟩ = some (.int .u8 0) := (hbr.out.cell (p := ⟨g1, o1 + k, none⟩) hg1).trans (hc k hlt)
    clear hc
    have b0 : wr.cell? ⟨w.heap.size + 1, 3, none⟩ = some v := hE.out.cell 3
    have hob : v.ownBlock ≠ some (w.heap.size + 1) := fun h => by have := (Hown.out.lt _ h).1; omega
    have hob0 : v.ownBlock ≠ some w.heap.size := fun h => by have := (Hown.out.lt _ h).1; omega
    go_wp2_with (at_builtin; refine wpList_append_one rfl _ _ 27 rfl (w.heap.size + 2) 23 i0 _ 2 Tryd.underlying27 hi0 hz0 hz1 hz2 rfl v k xs rfl (Hown.out.alloc _) wr.heap.size _ _ rfl (by simp [go_sem]; rfl) rfl (by simp only [maxLen]; omega) (by omega) (by (try simp only [Lib.bytesWorld_size, World.size_drew, drewN_size, World.size_alloc, World.size_setCell] at *); first | done | omega) ?_; intro v' w2 hown2 hg2; obtain ⟨g3, c3, rfl, hg3⟩ := own_form hown2 (by omega); have B2 : Blk w2 (w.heap.size + 1) 34 (extNum 11 v).toList := (hg2.block _ (by simp; omega) (fun e => hob e.symm)).trans (hE.out.alloc _); have R2 : objAt w2 w.heap.size = some (.cells extZero 34 (0, 0)) := (hg2.block _ (by simp; omega) (fun e => hob0 e.symm)).trans ((Below.heap_alloc wr _ _ (by omega)).trans hRz.out); have b2 := B2.cell 3; have f2 := B2.frozen 3; have HB2 := Lib.hid B2; have HR2 := Lib.hid R2; have HO2 := Lib.hid hown2; have HS2 := Lib.hid hg2.size; have HD2 := Lib.hid ((hbr.out.alloc hbr.out.size _).grown hg2 (by simp; omega) (fun k hk => by have := (Hown.out.lt k hk).1; omega)); clear hown2 hg2 B2 R2)
    go_roundg (n - (k + 1))
    case measure => omega
    case rel =>
      have hs2 := HS2.out
      refine ⟨k + 1, _, _, by omega, rfl, by go_num, HB2.out.set 3 _, (Below.heap_setCell _ _ _ _ (by simp)).trans HR2.out, HO2.out.kept (row := some (w.heap.size + 1)) (grown_set (World.grownBy.refl _ _) 3 _) (.inr (fun e => by have e' : g3 = w.heap.size + 1 := Option.some.inj e; omega)), HD2.out.setCell (Nat.le_succ _) _, by (try simp only [Lib.bytesWorld_size, World.size_drew, drewN_size, World.size_alloc, World.size_setCell] at *); first | done | omega, rfl⟩
end Go.Proofs.YtcggiljcimhfcabDoor

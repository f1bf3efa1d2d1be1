/- impl.dataClientKey: a client's key exchange message as plain data. -/
import Derived.Test.YtdnjkjoioabhhaaDoorKey
import Derived.Test.YtdnjkjoioabhhaaDoorStore
namespace Go.Proofs.YtdnjkjoioabhhaaDoor
open Go.RowKit
set_option maxRecDepth 100000

/-- A message of a type, an identity hint, a public key and a key exchange's number, the rest empty. -/
def msgKey (h p k : Value) : List Value := [.int .u8 16, .bool false, .int .u8 0, .int .u8 0, .int .u32 0, .string (bs []), .string (bs []), .string (bs []), .slice none 0 0, .slice none 0 0, .slice none 0 0, .slice none 0 0, .slice none 0 0, .slice none 0 0,
  .int .u16 0, .int .u16 0, .string (bs []), h, p, k, .int .u8 0, .int .u16 0, .string (bs []), .string (bs []), .slice none 0 0]
def msgZero : Array Value := #[.int .u8 0, .bool false, .int .u8 0, .int .u8 0, .int .u32 0, .string (bs []), .string (bs []), .string (bs []), .slice none 0 0, .slice none 0 0, .slice none 0 0, .slice none 0 0, .slice none 0 0, .slice none 0 0,
  .int .u16 0, .int .u16 0, .string (bs []), .string (bs []), .string (bs []), .int .i64 0, .int .u8 0, .int .u16 0, .string (bs []), .string (bs []), .slice none 0 0]
theorem msgKey_size (h p k : Value) : (Tryd.prog.info? 32).map (·.size) = some (msgKey h p k).toArray.size := by kernel_rfl
set_option maxHeartbeats 3200000 in
theorem dataKey (w : World) (g : Nat) (kx : Int) (vh vp : Value) (h p : List UInt8) (hB : Blk w g 80 [vh, vp, .int .i64 kx]) (hh : By w vh h) (hp : By w vp p) (hhl : h.length ≤ 2147483647) (hpl : p.length ≤ 2147483647) :
    Calls Tryd.prog 42 #[.pointer (some ⟨g, 0, none⟩)] w fun e w' => e = .returned (.agg (msgKey (.string (bs h)) (.string (bs p)) (.int .i64 kx)).toArray) ∧ Below w.heap.size w w' := by
  have m0 : w.cell? ⟨g, 0, none⟩ = some vh := hB.cell 0
  have m1 : w.cell? ⟨g, 1, none⟩ = some vp := hB.cell 1
  have m2 : w.cell? ⟨g, 2, none⟩ = some (.int .i64 kx) := hB.cell 2
  have hg := hB.lt
  have HH := Lib.hid hh
  have HP := Lib.hid hp
  obtain ⟨Ah, ch, rfl⟩ := hh.len
  obtain ⟨Ap, cp, rfl⟩ := hp.len
  clear hh hp hB
  go_enter Tryd.func42, Tryd.ntmps42
  go_wp2_with (go_loud (refine wpList_store_whole rfl 32 (.tmp 3) (.tmp 4) rfl (w.heap.size + 1) (msgKey (.string (bs [])) (.string (bs [])) (.int .i64 0)).toArray rfl rfl 32 msgZero (alloc2 w _ _).2.1 (msgKey_size _ _ _) rfl (by kernel_rfl) ?_); intro w1 io1 g1; have hE : Hid (Blk w1 (w.heap.size + 1) 32 (msgKey (.string (bs [])) (.string (bs [])) (.int .i64 0))) := io1; have hR : Hid (objAt w1 w.heap.size = some (.cells msgZero 32 (0, 0))) := (objAt_grown g1 _ (by simp; omega) (by simp)).trans (alloc2 w _ _).1; have hb1 : Hid (Below w.heap.size w w1) := (alloc2 w _ _).2.2.2.grown g1 (by simp; omega) (fun k hk => by cases hk; exact Nat.le_succ _); have hsz : w.heap.size + 2 ≤ w1.heap.size := (by have := g1.size; simp at this; omega); clear io1 g1)
  refine wp_region_inv2 (by kernel_rfl) [5, 6, 7, 8, 9, 10, 11, 12, 13, 14, 15, 16, 17, 18, 19, 20, 21] (fun i v W => match i with
    | 0 => v = .pointer (some ⟨g, 0, none⟩)
    | 1 => v = .pointer (some ⟨g, 0, none⟩)
    | 2 => v = .pointer (some ⟨g, 0, none⟩)
    | 3 => v = .slice Ah h.length ch
    | 4 => v = .string (bs (h))
    | 5 => v = .pointer (some ⟨g, 0, none⟩)
    | 6 => v = .pointer (some ⟨g, 0, none⟩)
    | 7 => v = .pointer (some ⟨g, 1, none⟩)
    | 8 => v = .slice Ap p.length cp
    | 9 => v = .string (bs (p))
    | 10 => v = .pointer (some ⟨g, 0, none⟩)
    | 11 => v = .pointer (some ⟨g, 0, none⟩)
    | 12 => v = .pointer (some ⟨g, 2, none⟩)
    | 13 => v = .int .i64 (kx : Int)
    | 14 => v = .pointer (some ⟨(w.heap.size + 1), 17, none⟩)
    | 15 => W.cell? ⟨w.heap.size + 1, 17, none⟩ = some (.string (bs h))
    | 16 => v = .pointer (some ⟨(w.heap.size + 1), 18, none⟩)
    | 17 => W.cell? ⟨w.heap.size + 1, 18, none⟩ = some (.string (bs p))
    | 18 => v = .pointer (some ⟨(w.heap.size + 1), 19, none⟩)
    | 19 => W.cell? ⟨w.heap.size + 1, 19, none⟩ = some (.int .i64 kx)
    | _ => True) (fun W => Hid (∃ a b c, Blk W (w.heap.size + 1) 32 (msgKey a b c)) ∧ Hid (objAt W w.heap.size = some (.cells msgZero 32 (0, 0))) ∧ Hid (Below w.heap.size w W)) ?hinv0 (by kernel_rfl) (by kernel_rfl) (by kernel_rfl) (by kernel_rfl) ?hsteps ?hfin
  case hinv0 => exact ⟨⟨_, _, _, hE.out.drew⟩, hR.out, hb1.out.drew⟩
  case hsteps =>
    clear hE hR hb1 hsz
    refine ⟨?_, ?_, ?_, ?_, ?_, ?_, ?_, ?_, ?_, ?_, ?_, ?_, ?_, ?_, ?_, ?_, ?_, ?_, ?_, ?_, trivial⟩
    · intro A W hI hb hp K hK; (repeat (obtain ⟨hq, hp⟩ := hp; first | (obtain ⟨_, hv, rfl⟩ := hq rfl _ _ rfl rfl; clear hq) | (obtain ⟨_, hv, hg⟩ := hq rfl _ _ rfl rfl; clear hq) | clear hq)); clear hp; have b1 := hb 0 (by decide); clear hb; go_simp; exact hK _ _ rfl hI (fun _ _ h => h)
    · intro A W hI hb hp K hK; (repeat (obtain ⟨hq, hp⟩ := hp; first | (obtain ⟨_, hv, rfl⟩ := hq rfl _ _ rfl rfl; clear hq) | (obtain ⟨_, hv, hg⟩ := hq rfl _ _ rfl rfl; clear hq) | clear hq)); clear hp; clear hb; go_simp; exact hK _ _ rfl hI (fun _ _ h => h)
    · intro A W hI hb hp K hK; (repeat (obtain ⟨hq, hp⟩ := hp; first | (obtain ⟨_, hv, rfl⟩ := hq rfl _ _ rfl rfl; clear hq) | (obtain ⟨_, hv, hg⟩ := hq rfl _ _ rfl rfl; clear hq) | clear hq)); clear hp; clear hb; go_simp; exact hK _ _ rfl hI (fun _ _ h => h)
    · intro A W hI hb hp K hK; (repeat (obtain ⟨hq, hp⟩ := hp; first | (obtain ⟨_, hv, rfl⟩ := hq rfl _ _ rfl rfl; clear hq) | (obtain ⟨_, hv, hg⟩ := hq rfl _ _ rfl rfl; clear hq) | clear hq)); clear hp; clear hb; have c1 := (hI.2.2.out.cell (p := ⟨g, 0, none⟩) hg).trans m0; go_simp; exact hK _ _ rfl hI (fun _ _ h => h)
    · intro A W hI hb hp K hK; (repeat (obtain ⟨hq, hp⟩ := hp; first | (obtain ⟨_, hv, rfl⟩ := hq rfl _ _ rfl rfl; clear hq) | (obtain ⟨_, hv, hg⟩ := hq rfl _ _ rfl rfl; clear hq) | clear hq)); clear hp; clear hb; have hcv := run_to_string (P := Tryd.prog) (HH.out.below hI.2.2.out) 25 9 5 Tryd.underlying25 Tryd.underlying5 Tryd.underlying9; go_simp; exact hK _ _ rfl hI (fun _ _ h => h)
    · intro A W hI hb hp K hK; (repeat (obtain ⟨hq, hp⟩ := hp; first | (obtain ⟨_, hv, rfl⟩ := hq rfl _ _ rfl rfl; clear hq) | (obtain ⟨_, hv, hg⟩ := hq rfl _ _ rfl rfl; clear hq) | clear hq)); clear hp; have b1 := hb 0 (by decide); clear hb; go_simp; exact hK _ _ rfl hI (fun _ _ h => h)
    · intro A W hI hb hp K hK; (repeat (obtain ⟨hq, hp⟩ := hp; first | (obtain ⟨_, hv, rfl⟩ := hq rfl _ _ rfl rfl; clear hq) | (obtain ⟨_, hv, hg⟩ := hq rfl _ _ rfl rfl; clear hq) | clear hq)); clear hp; clear hb; go_simp; exact hK _ _ rfl hI (fun _ _ h => h)
    · intro A W hI hb hp K hK; (repeat (obtain ⟨hq, hp⟩ := hp; first | (obtain ⟨_, hv, rfl⟩ := hq rfl _ _ rfl rfl; clear hq) | (obtain ⟨_, hv, hg⟩ := hq rfl _ _ rfl rfl; clear hq) | clear hq)); clear hp; clear hb; go_simp; exact hK _ _ rfl hI (fun _ _ h => h)
    · intro A W hI hb hp K hK; (repeat (obtain ⟨hq, hp⟩ := hp; first | (obtain ⟨_, hv, rfl⟩ := hq rfl _ _ rfl rfl; clear hq) | (obtain ⟨_, hv, hg⟩ := hq rfl _ _ rfl rfl; clear hq) | clear hq)); clear hp; clear hb; have c1 := (hI.2.2.out.cell (p := ⟨g, 1, none⟩) hg).trans m1; go_simp; exact hK _ _ rfl hI (fun _ _ h => h)
    · intro A W hI hb hp K hK; (repeat (obtain ⟨hq, hp⟩ := hp; first | (obtain ⟨_, hv, rfl⟩ := hq rfl _ _ rfl rfl; clear hq) | (obtain ⟨_, hv, hg⟩ := hq rfl _ _ rfl rfl; clear hq) | clear hq)); clear hp; clear hb; have hcv := run_to_string (P := Tryd.prog) (HP.out.below hI.2.2.out) 25 9 5 Tryd.underlying25 Tryd.underlying5 Tryd.underlying9; go_simp; exact hK _ _ rfl hI (fun _ _ h => h)
    · intro A W hI hb hp K hK; (repeat (obtain ⟨hq, hp⟩ := hp; first | (obtain ⟨_, hv, rfl⟩ := hq rfl _ _ rfl rfl; clear hq) | (obtain ⟨_, hv, hg⟩ := hq rfl _ _ rfl rfl; clear hq) | clear hq)); clear hp; have b1 := hb 0 (by decide); clear hb; go_simp; exact hK _ _ rfl hI (fun _ _ h => h)
    · intro A W hI hb hp K hK; (repeat (obtain ⟨hq, hp⟩ := hp; first | (obtain ⟨_, hv, rfl⟩ := hq rfl _ _ rfl rfl; clear hq) | (obtain ⟨_, hv, hg⟩ := hq rfl _ _ rfl rfl; clear hq) | clear hq)); clear hp; clear hb; go_simp; exact hK _ _ rfl hI (fun _ _ h => h)
    · intro A W hI hb hp K hK; (repeat (obtain ⟨hq, hp⟩ := hp; first | (obtain ⟨_, hv, rfl⟩ := hq rfl _ _ rfl rfl; clear hq) | (obtain ⟨_, hv, hg⟩ := hq rfl _ _ rfl rfl; clear hq) | clear hq)); clear hp; clear hb; go_simp; exact hK _ _ rfl hI (fun _ _ h => h)
    · intro A W hI hb hp K hK; (repeat (obtain ⟨hq, hp⟩ := hp; first | (obtain ⟨_, hv, rfl⟩ := hq rfl _ _ rfl rfl; clear hq) | (obtain ⟨_, hv, hg⟩ := hq rfl _ _ rfl rfl; clear hq) | clear hq)); clear hp; clear hb; have c1 := (hI.2.2.out.cell (p := ⟨g, 2, none⟩) hg).trans m2; go_simp; exact hK _ _ rfl hI (fun _ _ h => h)
    · intro A W hI hb hp K hK; (repeat (obtain ⟨hq, hp⟩ := hp; first | (obtain ⟨_, hv, rfl⟩ := hq rfl _ _ rfl rfl; clear hq) | (obtain ⟨_, hv, hg⟩ := hq rfl _ _ rfl rfl; clear hq) | clear hq)); clear hp; have b1 := hb 3 (by decide); clear hb; go_simp; exact hK _ _ rfl hI (fun _ _ h => h)
    · intro A W hI hb hp K hK; (repeat (obtain ⟨hq, hp⟩ := hp; first | (obtain ⟨_, hv, rfl⟩ := hq rfl _ _ rfl rfl; clear hq) | (obtain ⟨_, hv, hg⟩ := hq rfl _ _ rfl rfl; clear hq) | clear hq)); clear hp; clear hb; obtain ⟨a, b, c, hE⟩ := hI.1.out; have c1 : W.cell? ⟨w.heap.size + 1, 17, none⟩ = some a := hE.cell 17; have f1 := hE.frozen 17; go_simp; refine hK undef _ ?_ ⟨⟨_, b, c, hE.set 17 _⟩, (Below.heap_setCell _ _ _ _ (by simp)).trans hI.2.1.out, hI.2.2.out.setCell (Nat.le_succ _) _⟩ (fun j u hg => by revert hg; dsimp only; split <;> first | exact id | exact fun _ => (hE.set 17 (.string (bs h))).cell 17 | (intro h; simpa [go_sem] using h)); exact (hE.set 17 (.string (bs h))).cell 17
    · intro A W hI hb hp K hK; (repeat (obtain ⟨hq, hp⟩ := hp; first | (obtain ⟨_, hv, rfl⟩ := hq rfl _ _ rfl rfl; clear hq) | (obtain ⟨_, hv, hg⟩ := hq rfl _ _ rfl rfl; clear hq) | clear hq)); clear hp; have b1 := hb 3 (by decide); clear hb; go_simp; exact hK _ _ rfl hI (fun _ _ h => h)
    · intro A W hI hb hp K hK; (repeat (obtain ⟨hq, hp⟩ := hp; first | (obtain ⟨_, hv, rfl⟩ := hq rfl _ _ rfl rfl; clear hq) | (obtain ⟨_, hv, hg⟩ := hq rfl _ _ rfl rfl; clear hq) | clear hq)); clear hp; clear hb; obtain ⟨a, b, c, hE⟩ := hI.1.out; have c1 : W.cell? ⟨w.heap.size + 1, 18, none⟩ = some b := hE.cell 18; have f1 := hE.frozen 18; go_simp; refine hK undef _ ?_ ⟨⟨a, _, c, hE.set 18 _⟩, (Below.heap_setCell _ _ _ _ (by simp)).trans hI.2.1.out, hI.2.2.out.setCell (Nat.le_succ _) _⟩ (fun j u hg => by revert hg; dsimp only; split <;> first | exact id | exact fun _ => (hE.set 18 (.string (bs p))).cell 18 | (intro h; simpa [go_sem] using h)); exact (hE.set 18 (.string (bs p))).cell 18
    · intro A W hI hb hp K hK; (repeat (obtain ⟨hq, hp⟩ := hp; first | (obtain ⟨_, hv, rfl⟩ := hq rfl _ _ rfl rfl; clear hq) | (obtain ⟨_, hv, hg⟩ := hq rfl _ _ rfl rfl; clear hq) | clear hq)); clear hp; have b1 := hb 3 (by decide); clear hb; go_simp; exact hK _ _ rfl hI (fun _ _ h => h)
    · intro A W hI hb hp K hK; (repeat (obtain ⟨hq, hp⟩ := hp; first | (obtain ⟨_, hv, rfl⟩ := hq rfl _ _ rfl rfl; clear hq) | (obtain ⟨_, hv, hg⟩ := hq rfl _ _ rfl rfl; clear hq) | clear hq)); clear hp; clear hb; obtain ⟨a, b, c, hE⟩ := hI.1.out; have c1 : W.cell? ⟨w.heap.size + 1, 19, none⟩ = some c := hE.cell 19; have f1 := hE.frozen 19; go_simp; refine hK undef _ ?_ ⟨⟨a, b, _, hE.set 19 _⟩, (Below.heap_setCell _ _ _ _ (by simp)).trans hI.2.1.out, hI.2.2.out.setCell (Nat.le_succ _) _⟩ (fun j u hg => by revert hg; dsimp only; split <;> first | exact id | exact fun _ => (hE.set 19 (.int .i64 kx)).cell 19 | (intro h; simpa [go_sem] using h)); exact (hE.set 19 (.int .i64 kx)).cell 19
  case hfin =>
    intro vf W hgd hI hno
    obtain ⟨_, f17⟩ := hno 15 _ rfl rfl
    obtain ⟨_, f18⟩ := hno 17 _ rfl rfl
    obtain ⟨_, f19⟩ := hno 19 _ rfl rfl
    obtain ⟨a, b, c, hE⟩ := hI.1.out
    obtain rfl : a = .string (bs h) := Option.some.inj ((hE.cell 17).symm.trans f17)
    obtain rfl : b = .string (bs p) := Option.some.inj ((hE.cell 18).symm.trans f18)
    obtain rfl : c = .int .i64 kx := Option.some.inj ((hE.cell 19).symm.trans f19)
    clear hgd hno f17 f18 f19
    simp only [fillAct, List.foldl_cons, List.foldl_nil, List.setIfInBounds_toArray, List.set_cons_zero, List.set_cons_succ]
    obtain ⟨cs, hcs⟩ : ∃ cs, cs = (msgKey (.string (bs h)) (.string (bs p)) (.int .i64 kx)).toArray := ⟨_, rfl⟩
    have ioE : objAt W (w.heap.size + 1) = some (.cells cs 32 (0, 0)) := by rw [hcs]; exact hE
    have hsz : (Tryd.prog.info? 32).map (·.size) = some cs.size := by rw [hcs]; exact msgKey_size _ _ _
    have hzs : msgZero.size = cs.size := by rw [hcs]; rfl
    have hone : cs.all (·.oneCell') = true := by rw [hcs]; kernel_rfl
    have hOK := rowOK_mk Tryd.underlying32 rfl hsz 32 (0, 0)
    have HI := Lib.hid hI
    have HSZ := Lib.hid hsz
    have HZS := Lib.hid hzs
    have HONE := Lib.hid hone
    have HCS := Lib.hid hcs
    clear hI hE hsz hzs hone hcs
    go_wp2_with (refine wpList_store_whole ?hgd 32 (.tmp 2) (.tmp 22) ?ho w.heap.size cs ?hx ?hy 32 msgZero HI.out.2.1.out HSZ.out HZS.out HONE.out ?hh; case ho => exact rfl)
    case hgd => rfl
    case hx => rfl
    case hy => rfl
    case hh =>
      intro w2 io2 g2
      have G2 := Lib.hid g2
      clear g2
      go_wp2
      refine bodyPost_ret (ret_cell1 Tryd.results42 _ w2 w.heap.size _ Tryd.underlying32 rfl HSZ.out io2 rfl) rfl ⟨by rw [HCS.out], ?_⟩
      exact HI.out.2.2.out.grown G2.out HI.out.2.2.out.size (fun k hk => by cases hk; exact Nat.le_refl _)
end Go.Proofs.YtdnjkjoioabhhaaDoor

/- impl.dataSRTP. -/
import Derived.Test.YtdnjkjoioabhhaaDoorSrtpU
import Derived.Test.YtdnjkjoioabhhaaDoorGroupsD
namespace Go.Proofs.YtdnjkjoioabhhaaDoor
open Go.RowKit
set_option maxRecDepth 100000

def extSr (v : Value) (m : List UInt8) : Ext := { Ext.zero with ty := 14, s := m, l3 := v }
theorem extSr_one (v : Value) (m : List UInt8) (h : v.oneCell' = true) : (extSr v m).cells.all (·.oneCell') = true := Ext.one _ ⟨rfl, h, rfl, rfl, rfl, rfl, rfl, rfl⟩
def SrPost (w : World) (ns : List Nat) (m : List UInt8) (e : Ending) (w' : World) : Prop := ∃ v, e = .returned (.agg (extSr v m).cells) ∧ Sl w' v (u16s ns) ∧ v.oneCell' = true ∧ (∀ b, b < w.heap.size → v.ownBlock ≠ some b) ∧ Below w.heap.size w w'
set_option maxHeartbeats 3200000 in
theorem dataSrtp (w : World) (g : Nat) (v vm : Value) (ns : List Nat) (m : List UInt8) (hB : Blk w g 147 [v, vm]) (hv : Sl w v (u16s ns)) (hy : By w vm m) (hn : ns.length < 1000) (hm : m.length < 256) :
    Calls Tryd.prog 81 #[.pointer (some ⟨g, 0, none⟩)] w (SrPost w ns m) := by
  obtain ⟨A, c, rfl, hlc, hr⟩ := hv.nums
  obtain ⟨Am, cm, rfl⟩ := hy.len
  obtain ⟨n, hnn⟩ : ∃ n, n = ns.length := ⟨_, rfl⟩
  rw [← hnn] at hB hn hlc
  have m0 : w.cell? ⟨g, 0, none⟩ = some (.slice A n c) := hB.cell 0
  have m1 : w.cell? ⟨g, 1, none⟩ = some (.slice Am m.length cm) := hB.cell 1
  have HY := Lib.hid hy
  have hg := hB.lt
  obtain ⟨i0, hi0, hz0, hz1, hz2⟩ := info_parts Tryd.infoU16
  have HR : Hid (0 < n → ∃ g o, A = some ⟨g, o, none⟩ ∧ g < w.heap.size ∧ ∀ j (h : j < ns.length), w.cell? ⟨g, o + j, none⟩ = some (.int .u16 (ns[j] : Int))) := fun h => hr (by omega)
  have HNN := Lib.hid hnn
  clear hr hB hv hnn hy
  go_enter Tryd.func81, Tryd.ntmps81
  go_wp2_with (first
    | (refine wpList_store_whole ?hgd 45 (.tmp 3) (.tmp 6) ?ho (w.heap.size + 1) (extSr (.slice none 0 0) []).cells ?hx ?hy 45 Ext.zero.cells (alloc2 w _ _).2.1 (Ext.size _) rfl (extSr_one _ _ rfl) ?hh; case ho => exact rfl))
  case hgd => rfl
  case hx => rfl
  case hy => rfl
  case hh =>
  intro w1 io1 g1
  have hE : Blk w1 (w.heap.size + 1) 45 (extSr (.slice none 0 0) []).cells.toList := io1
  have hR : objAt w1 w.heap.size = some (.cells Ext.zero.cells 45 (0, 0)) := (objAt_grown g1 _ (by simp; omega) (by simp)).trans (alloc2 w _ _).1
  have hb1 : Below w.heap.size w w1 := (alloc2 w _ _).2.2.2.grown g1 (by simp; omega) (fun k hk => by cases hk; exact Nat.le_succ _)
  have hsz : w.heap.size + 2 ≤ w1.heap.size := by have := g1.size; simp at this; omega
  have n0 := (hb1.cell (p := ⟨g, 0, none⟩) hg).trans m0
  clear io1 g1
  go_wp2_with fail
  go_loopg [5, 12] n (fun m _ x wr => ∃ (k : Nat) (v : Value), k ≤ n ∧ m = n - k ∧ x = .int .i64 (k : Int) ∧ Hid (Blk wr (w.heap.size + 1) 45 (extSr v []).cells.toList) ∧ Hid (objAt wr w.heap.size = some (.cells Ext.zero.cells 45 (0, 0))) ∧
    Hid (wr.ownsRow (w.heap.size + 2) 29 1 v k (u16s (ns.take k))) ∧ Hid (Below w.heap.size w wr) ∧ w.heap.size + 2 ≤ wr.heap.size ∧ Hid (v.oneCell' = true))
  case atStart => exact ⟨0, .slice none 0 0, Nat.zero_le _, rfl, rfl, hE, hR, World.ownsRow_nil _ _ _ _, hb1, hsz, rfl⟩
  case round =>
    clear hE hR hb1 hsz n0
    obtain ⟨k, v, hk, rfl, rfl, hE, hRz, Hown, hbr, hsz, hv1⟩ := hrel
    by_cases hlt : k < n
    rotate_left
    · have hkn : k = n := by omega
      have n1 := (hbr.out.cell (p := ⟨g, 1, none⟩) hg).trans m1
      have e1 : wr.cell? ⟨w.heap.size + 1, 1, none⟩ = some (.string (bs [])) := hE.out.cell 1
      have f1 : wr.frozen? ⟨w.heap.size + 1, 1, none⟩ = false := hE.out.frozen 1
      have ioE : objAt (wr.setCell ⟨w.heap.size + 1, 1, none⟩ (.string (bs m))) (w.heap.size + 1) = some (.cells (extSr v m).cells 45 (0, 0)) := hE.out.set 1 (.string (bs m))
      have hRz2 : objAt (wr.setCell ⟨w.heap.size + 1, 1, none⟩ (.string (bs m))) w.heap.size = some (.cells Ext.zero.cells 45 (0, 0)) := (Below.heap_setCell _ _ _ _ (by simp)).trans hRz.out
      have hOK := (extSr v m).ok
      have hob : ∀ b, b < w.heap.size + 2 → v.ownBlock ≠ some b := fun b hb e => by have := (Hown.out.lt b e).1; omega
      have hfin : Sl (wr.setCell ⟨w.heap.size + 1, 1, none⟩ (.string (bs m))) v (u16s ns) := by
        have := Sl.of_own Hown.out
        rw [List.take_of_length_le (by have := HNN.out; omega)] at this
        exact this.far (p := ⟨w.heap.size + 1, 1, none⟩) (hob _ (by show w.heap.size + 1 < w.heap.size + 2; omega)) _
      have hbr2 : Below w.heap.size w (wr.setCell ⟨w.heap.size + 1, 1, none⟩ (.string (bs m))) := hbr.out.setCell (Nat.le_succ _) _
      have hy2 := HY.out.below hbr.out
      have HBR2 := Lib.hid hbr2
      have HF := Lib.hid hfin
      have HO := Lib.hid hob
      have HR2 := Lib.hid hRz2
      clear hfin hob Hown hbr2 hRz2 hE
      subst hkn
      go_wp2_with (first
        | (refine wpList_to_string rfl _ 25 9 5 rfl Tryd.underlying25 Tryd.underlying5 Tryd.underlying9 _ rfl (m) hy2 ?_)
        | (have hr2 := HR2.out; refine wpList_store_whole ?hgd 45 (.tmp 2) (.tmp 29) ?ho w.heap.size (extSr v m).cells ?hx ?hy 45 Ext.zero.cells hr2 (Ext.size _) rfl (extSr_one v m hv1.out) ?hh; case ho => exact rfl))
      case hgd => rfl
      case hx => rfl
      case hy => rfl
      case hh =>
        intro w2 io2 g2
        go_wp2
        refine bodyPost_ret (ret_cell1 Tryd.results81 _ w2 w.heap.size _ Tryd.underlying45 rfl (Ext.size _) io2 rfl) rfl ⟨v, rfl, HF.out.grown g2 (HO.out _ (by omega)), hv1.out, fun b hb => HO.out b (by omega), ?_⟩
        exact HBR2.out.grown g2 HBR2.out.size (fun k hk => by cases hk; exact Nat.le_refl _)
    have hkl : k < ns.length := by have := HNN.out; omega
    obtain ⟨g1, o1, rfl, hg1, hc⟩ := HR.out (by omega)
    have c0 : wr.cell? ⟨g1, o1 + k, none⟩ = some (.int .u16 (ns[k] : Int)) := (hbr.out.cell (p := ⟨g1, o1 + k, none⟩) hg1).trans (hc k hkl)
    obtain ⟨x, hx⟩ : ∃ x, x = ns[k] := ⟨_, rfl⟩
    rw [← hx] at c0
    have HX := Lib.hid hx
    clear hc hx
    have b0 : wr.cell? ⟨w.heap.size + 1, 3, none⟩ = some v := hE.out.cell 3
    have hob : v.ownBlock ≠ some (w.heap.size + 1) := fun h => by have := (Hown.out.lt _ h).1; omega
    have hob0 : v.ownBlock ≠ some w.heap.size := fun h => by have := (Hown.out.lt _ h).1; omega
    go_wp2_with (at_builtin; refine wpList_append_one rfl _ _ 24 rfl (w.heap.size + 2) 29 i0 _ 2 Tryd.underlying24 hi0 hz0 hz1 hz2 rfl v k (u16s (ns.take k)) rfl (Hown.out.alloc _) wr.heap.size (.int .u16 (x : Int)) _ rfl (by simp [go_sem] <;> rfl) rfl (by simp only [maxLen]; omega) (by omega) (by (try simp only [Lib.bytesWorld_size, World.size_drew, drewN_size, World.size_alloc, World.size_setCell] at *); first | done | omega) ?_
                 intro v' w2 hown2 hg2
                 obtain ⟨g3, c3, rfl, hg3⟩ := own_place hown2 (by omega)
                 have B2 : Blk w2 (w.heap.size + 1) 45 (extSr v []).cells.toList := (hg2.block _ (by simp; omega) (fun e => hob e.symm)).trans (hE.out.alloc _)
                 have R2 : objAt w2 w.heap.size = some (.cells Ext.zero.cells 45 (0, 0)) := (hg2.block _ (by simp; omega) (fun e => hob0 e.symm)).trans ((Below.heap_alloc wr _ _ (by omega)).trans hRz.out)
                 have b2 := B2.cell 3
                 have f2 := B2.frozen 3
                 have HB2 := Lib.hid B2
                 have HR2 := Lib.hid R2
                 have HO2 := Lib.hid hown2
                 have HS2 := Lib.hid hg2.size
                 have HD2 := Lib.hid ((hbr.out.alloc hbr.out.size _).grown hg2 (by simp; omega) (fun k hk => by have := (Hown.out.lt k hk).1; omega))
                 clear hown2 hg2 B2 R2)
    go_roundg (n - (k + 1))
    case measure => omega
    case rel =>
      have hs2 := HS2.out
      have e1 : u16s (ns.take (k + 1)) = u16s (ns.take k) ++ [.int .u16 (x : Int)] := by
        rw [List.take_add_one, List.getElem?_eq_getElem hkl, ← HX.out]; simp [u16s]
      refine ⟨k + 1, .slice (some ⟨g3, 0, none⟩) (k + 1) c3, by omega, rfl, by go_num, HB2.out.set 3 _, (Below.heap_setCell _ _ _ _ (by simp)).trans HR2.out, ?_, HD2.out.setCell (Nat.le_succ _) _, by (try simp only [Lib.bytesWorld_size, World.size_drew, drewN_size, World.size_alloc, World.size_setCell] at *); first | done | omega, rfl⟩
      show World.ownsRow _ _ _ _ _ _ _
      rw [e1]
      exact HO2.out.kept (row := some (w.heap.size + 1)) (grown_set (World.grownBy.refl _ _) 3 _) (.inr (fun e => by have e' : g3 = w.heap.size + 1 := Option.some.inj e; omega))
end Go.Proofs.YtdnjkjoioabhhaaDoor

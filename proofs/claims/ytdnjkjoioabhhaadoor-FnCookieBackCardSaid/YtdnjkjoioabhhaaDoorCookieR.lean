/- impl.CookieRead and the law FnCookieBack. -/
import Derived.Test.YtdnjkjoioabhhaaDoorCookie
import Derived.Test.YtdnjkjoioabhhaaDoorSameExt
import Derived.Test.YtdnjkjoioabhhaaDoorRows
import Derived.LaidMore
import Derived.WalkSpells
namespace Go.Proofs.YtdnjkjoioabhhaaDoor
open Go.RowKit
set_option maxRecDepth 100000

def extCk (ck : List UInt8) : Ext := { Ext.zero with ty := 44, s := ck }
theorem extCk_one (ck : List UInt8) : (extCk ck).cells.all (·.oneCell') = true := Ext.one _ ⟨rfl, rfl, rfl, rfl, rfl, rfl, rfl, rfl⟩
set_option maxHeartbeats 1600000 in
theorem dataCookie (w : World) (g : Nat) (v : Value) (ck : List UInt8) (hB : Blk w g 151 [v]) (hy : By w v ck) (hl : ck.length ≤ 2147483647) :
    Calls Tryd.prog 83 #[.pointer (some ⟨g, 0, none⟩)] w fun e w' => e = .returned (.agg (extCk ck).cells) ∧ Below w.heap.size w w' := by
  have m0 : w.cell? ⟨g, 0, none⟩ = some v := hB.cell 0
  have hg := hB.lt
  have hOK := (extCk ck).ok
  obtain ⟨A, c, rfl⟩ := hy.len
  have HY := Lib.hid hy
  clear hB hy
  go_enter Tryd.func83, Tryd.ntmps83
  go_wp2_with (first
    | (refine wpList_store_whole ?hgd 45 (.tmp 3) (.tmp 4) ?ho (w.heap.size + 1) ({ Ext.zero with ty := 44 } : Ext).cells ?hx ?hy 45 Ext.zero.cells (alloc2 w _ _).2.1 (Ext.size _) rfl (Ext.one _ ⟨rfl, rfl, rfl, rfl, rfl, rfl, rfl, rfl⟩) ?hh; case ho => exact rfl))
  case hgd => rfl
  case hx => rfl
  case hy => rfl
  case hh =>
    intro w1 io1 g1
    have hE : Blk w1 (w.heap.size + 1) 45 ({ Ext.zero with ty := 44 } : Ext).cells.toList := io1
    have hR : objAt w1 w.heap.size = some (.cells Ext.zero.cells 45 (0, 0)) := (objAt_grown g1 _ (by simp; omega) (by simp)).trans (alloc2 w _ _).1
    have hb1 : Below w.heap.size w w1 := (alloc2 w _ _).2.2.2.grown g1 (by simp; omega) (fun k hk => by cases hk; exact Nat.le_succ _)
    have e5 := hE.cell 1
    have f5 := hE.frozen 1
    have n0 := (hb1.cell (p := ⟨g, 0, none⟩) hg).trans m0
    have ioE : objAt (w1.setCell ⟨w.heap.size + 1, 1, none⟩ (.string (bs ck))) (w.heap.size + 1) = some (.cells (extCk ck).cells 45 (0, 0)) := hE.set 1 (.string (bs ck))
    have hR2 : objAt (w1.setCell ⟨w.heap.size + 1, 1, none⟩ (.string (bs ck))) w.heap.size = some (.cells Ext.zero.cells 45 (0, 0)) := (Below.heap_setCell _ _ _ _ (by simp)).trans hR
    have hy1 := HY.out.below hb1
    have HR := Lib.hid hR2
    have HB := Lib.hid hb1
    clear io1 hE hR hR2 hb1 g1
    go_wp2_with (first
      | (refine wpList_to_string rfl _ 25 9 5 rfl Tryd.underlying25 Tryd.underlying5 Tryd.underlying9 _ rfl (ck) hy1 ?_)
      | (have h := HR.out; refine wpList_store_whole ?hgd 45 (.tmp 2) (.tmp 11) ?ho w.heap.size (extCk ck).cells ?hx ?hy 45 Ext.zero.cells h (Ext.size _) rfl (extCk_one ck) ?hh; case ho => exact rfl))
    case hgd => rfl
    case hx => rfl
    case hy => rfl
    case hh =>
      intro w2 io2 g2
      go_wp2
      refine bodyPost_ret (ret_cell1 Tryd.results83 _ w2 w.heap.size _ Tryd.underlying45 rfl (Ext.size _) io2 rfl) rfl ⟨rfl, ?_⟩
      exact (HB.out.setCell (Nat.le_succ _) _).grown g2 (HB.out.setCell (Nat.le_succ _) _).size (fun k hk => by cases hk; exact Nat.le_refl _)
def ckL (ck : List UInt8) : List UInt8 := extL 44 (vecL 2 ck)
theorem ckL_eq (ck : List UInt8) : ckL ck = be 2 44 ++ (be 2 (ck.length + 2) ++ vecL 2 ck) := by simp [ckL, extL, vecL, be_length, Nat.add_comm 2]
set_option maxHeartbeats 1600000 in
theorem cookieRead_yes (w : World) (ck : List UInt8) (hl1 : 1 ≤ ck.length) (hl2 : ck.length < 60000) : Calls Tryd.prog 37 #[.string (bs (ckL ck))] w fun e w' => e = .returned (.tuple #[.agg (extCk ck).cells, .bool true]) ∧ Below w.heap.size w w' := by
  have um := fun (W : World) (g : Nat) (v1 v0 : Value) (hB : Blk W g 151 [v0]) (hv : By W v1 (ckL ck)) => cookie_whole W g v1 v0 (ckL ck) ck hB hv hl1 hl2 (by simp [ckL_eq, be_length, vecL_length]; omega)
    (by rw [ckL_eq, List.take_left' (be_length _ _)]; rfl) (by rw [ckL_eq, List.drop_left' (be_length _ _), List.take_left' (be_length _ _), nat_be 2 _ (by omega)])
    (by rw [ckL_eq, List.drop_left' (be_length _ _), List.drop_left' (be_length _ _), List.take_of_length_le (by simp [vecL_length]; omega)])
  obtain ⟨l, hl⟩ : ∃ l, l = ckL ck := ⟨_, rfl⟩
  rw [← hl] at um ⊢
  have UM := Lib.hid um
  clear um hl
  have kc := fun (w : World) (s : ByteArray) => run_to_bytes (P := Tryd.prog) 9 25 5 Tryd.underlying9 Tryd.underlying25 Tryd.underlying5 w s
  go_enter Tryd.func37, Tryd.ntmps37
  go_wp2_with (first
    | (go_at_call 82; go_loud (refine (UM.out _ _ _ _ (show Blk _ _ _ [.slice none 0 0] from (made2 w _ _ _ _).2.1) (By.to_bytes' _ _ l _ _ (by (try simp only [Lib.bytesWorld_size, World.size_drew, drewN_size, World.size_alloc, World.size_setCell] at *); first | done | omega) (grownCap_ge _ _ _ _))).mono ?_); rintro e w1 ⟨rfl, v, hB1, hy1, hG1⟩; have io1 : objAt w1 w.heap.size = some (.cells Ext.zero.cells 45 (0, 0)) := (objAt_grown hG1 _ (by have := (made2 w (.cells Ext.zero.cells 45) (.cells #[.slice none 0 0] 151) 5 (bs l)).2.2.1; exact Nat.lt_of_lt_of_le (by omega) (Nat.le_of_eq this)) (by simp)).trans (made2 w _ _ _ _).1; have Hb1 := Lib.hid ((made2 w _ _ _ _).2.2.2.grown hG1 (made2 w _ _ _ _).2.2.2.size (fun k hk => by cases hk; exact Nat.le_succ _)); have HB1 := Lib.hid hB1; have HY1 := Lib.hid hy1; clear hG1 hB1 hy1)
    | (go_at_call 83; refine (dataCookie _ _ _ ck HB1.out HY1.out (by omega)).mono ?_; rintro e w2 ⟨rfl, hb2⟩; have io2 : objAt w2 w.heap.size = some (.cells Ext.zero.cells 45 (0, 0)) := (objAt_below hb2 _ (by exact Nat.lt_of_le_of_lt (Nat.le_succ _) HB1.out.lt)).trans io1; have Hb2 := Lib.hid (Hb1.out.trans (hb2.mono Hb1.out.size)); clear hb2 io1 Hb1 HB1 HY1)
    | (have io := io2; refine wpList_store_whole ?hgd 45 (.tmp 2) (.tmp 16) ?ho w.heap.size (extCk ck).cells ?hx ?hy 45 Ext.zero.cells io (Ext.size _) rfl (extCk_one ck) ?hh; case ho => exact rfl))
  case hgd => rfl
  case hx => rfl
  case hy => rfl
  case hh =>
    intro w3 io3 g3
    go_wp2
    refine bodyPost_ret (ret_cell2 Tryd.results37 _ w3 w.heap.size (extCk ck).cells (.bool true) Tryd.underlying45 rfl (Ext.size _) io3 rfl rfl) rfl ⟨rfl, ?_⟩
    exact Hb2.out.grown g3 Hb2.out.size (fun k hk => by cases hk; exact Nat.le_refl _)
theorem same_ck (ck : List UInt8) (w : World) : Calls Tryd.prog 27 #[.agg (extCk ck).cells, .agg (extCk ck).cells] w fun e w' => e = .returned (.bool true) ∧ Below w.heap.size w w' :=
  sameExt_yes w (extCk ck) (extCk ck) rfl rfl rfl rfl rfl (listString_nil _ _ _ _ _) (listU16_nil _ _ _ _ _) (listPair_nil _ _ _ _ _) (listShare_nil _ _ _ _ _) (listShare_nil _ _ _ _ _) (listU16_nil _ _ _ _ _) (listIdentity_nil _ _ _ _ _) (listFilter_nil _ _ _ _ _)
set_option maxHeartbeats 1600000 in
theorem fnCookieBack.walk (a0 : ByteArray) (_w0 : a0.size ≤ maxLen) (w : World) (_hL : laidMetH Tryd.prog Rows.fnCookieBackRow.laid w) :
    Calls Tryd.prog 13 #[.string a0] w fun e w' => e = .returned (.bool true) ∧ Below w.heap.size w w' := by
  obtain ⟨l, rfl⟩ := bs_ex a0
  clear _hL _w0
  by_cases h1 : (2147483647 : Int) < l.length
  · go_enter Tryd.func13, Tryd.ntmps13
    go_wp2_with fail
    go_ret
    exact ⟨rfl, Below.refl _ _⟩
  have d1 : decide ((2147483647 : Int) < (l.length : Int)) = false := by simpa using h1
  by_cases h2 : l.length = 0
  · have d2 : decide (0 < l.length) = false := by rw [h2]; rfl
    clear h2
    go_enter Tryd.func13, Tryd.ntmps13
    go_wp2_with fail
    go_ret
    exact ⟨rfl, Below.refl _ _⟩
  have d2 : decide (0 < l.length) = true := decide_eq_true (by omega)
  by_cases h3 : l.length < 60000
  rotate_left
  · have d3 : decide ((l.length : Int) < (60000 : Int)) = false := by simp; omega
    clear h2 h3
    go_enter Tryd.func13, Tryd.ntmps13
    go_wp2_with fail
    go_ret
    exact ⟨rfl, Below.refl _ _⟩
  have d3 : decide ((l.length : Int) < (60000 : Int)) = true := by simp; omega
  have fr := fun W : World => framedExt_any W 44 (vecL 2 l) (by omega) (by rw [vecL_length]; omega)
  have vc := fun W : World => vec_any l 2 (by omega) (by omega) W
  have rd := fun W => cookieRead_yes W l (by omega) h3
  obtain ⟨x, hx⟩ : ∃ x, x = vecL 2 l := ⟨_, rfl⟩
  obtain ⟨s, hs⟩ : ∃ s, s = ckL l := ⟨_, rfl⟩
  rw [show extL 44 (vecL 2 l) = ckL l from rfl, ← hs, ← hx] at fr
  rw [← hx] at vc
  rw [← hs] at rd
  have FR := Lib.hid fr
  have VC := Lib.hid vc
  have RD := Lib.hid rd
  have SM := Lib.hid (same_ck l)
  have hOK := (extCk l).ok
  clear fr vc rd hx hs h1 h2 h3
  go_enter Tryd.func13, Tryd.ntmps13
  go_wp2_with (first
    | (go_at_call 15; refine (VC.out _).mono ?_; rintro e w1 ⟨rfl, hb1⟩; have K1 : Kept w w1 := ⟨hb1⟩; clear hb1 VC)
    | (go_at_call 25; have k := K1; refine (FR.out _).mono ?_; rintro e w2 ⟨rfl, hb2⟩; have K2 := K1.step hb2; clear hb2 FR k K1)
    | (go_at_call 37; have k := K2; refine (RD.out _).mono ?_; rintro e w3 ⟨rfl, hb3⟩; have K3 := K2.step hb3; clear hb3 RD k K2)
    | (have k := K3; refine wpList_store_whole ?hgd 45 (.tmp 3) (.tmp 22) ?ho w3.heap.size (extCk l).cells ?hx ?hy 45 Ext.zero.cells (heap_alloc_new _ _) (Ext.size _) rfl (extCk_one l) ?hh; case ho => exact rfl))
  case hgd => rfl
  case hx => rfl
  case hy => rfl
  case hh =>
    intro w4 io4 g4
    have K4 : Kept w w4 := ⟨(K3.below.alloc K3.below.size _).grown g4 (by have := K3.below.size; (try simp only [Lib.bytesWorld_size, World.size_drew, drewN_size, World.size_alloc, World.size_setCell] at *); first | done | omega) (fun k hk => by cases hk; exact K3.below.size)⟩
    clear g4 K3 d1 d2 d3
    go_wp2_with (go_at_call 27; have k := K4; refine (SM.out _).mono ?_; rintro e w5 ⟨rfl, hb5⟩; have K5 := K4.step hb5; clear hb5 SM k K4)
    go_ret
    exact ⟨rfl, K5.below⟩
end Go.Proofs.YtdnjkjoioabhhaaDoor

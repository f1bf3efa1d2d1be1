/- impl.PostHandshakeWrite, impl.PostHandshakeRead and the law FnPostHandshake. -/
import Derived.Test.YtdnjkjoioabhhaaDoorPost
import Derived.Test.YtdnjkjoioabhhaaDoorSameExt
import Derived.Test.YtdnjkjoioabhhaaDoorFramedExt
import Derived.Test.YtdnjkjoioabhhaaDoorRows
import Derived.LaidMore
import Derived.WalkSpells
namespace Go.Proofs.YtdnjkjoioabhhaaDoor
open Go.RowKit
set_option maxRecDepth 100000

theorem makePost (w : World) (e : Ext) : Calls Tryd.prog 74 #[.agg e.cells] w fun r w' => ∃ g, r = .returned (.pointer (some ⟨g, 0, none⟩)) ∧ Blk w' g 138 [.bool e.fl] ∧ Below w.heap.size w w' := by
  unfold Ext.cells
  go_enter Tryd.func74, Tryd.ntmps74
  go_wp2
  go_ret
  exact ⟨_, rfl, Blk.new' _ _ [_] _ (by (try simp only [Lib.bytesWorld_size, World.size_drew, drewN_size, World.size_alloc, World.size_setCell] at *); first | done | omega), by repeat (first | with_reducible exact Below.refl _ _ | with_reducible refine Below.drew ?_ | with_reducible refine Below.drewN ?_ _ | with_reducible refine Below.alloc ?_ (by (try simp only [Lib.bytesWorld_size, World.size_drew, drewN_size, World.size_alloc, World.size_setCell] at *); first | done | omega) _ | with_reducible refine Below.bytes ?_ (by (try simp only [Lib.bytesWorld_size, World.size_drew, drewN_size, World.size_alloc, World.size_setCell] at *); first | done | omega) _ _ | with_reducible refine Below.setCell ?_ (by (try simp only [Lib.bytesWorld_size, World.size_drew, drewN_size, World.size_alloc, World.size_setCell] at *); first | done | omega) _)⟩
set_option maxHeartbeats 800000 in
theorem postWrite (w : World) (e : Ext) (hfl : e.fl = true) : Calls Tryd.prog 30 #[.agg e.cells] w fun r w' => r = .returned (.tuple #[.string (bs phL), .bool true]) ∧ Below w.heap.size w w' := by
  have hOK := e.ok
  have HF := Lib.hid hfl
  clear hfl
  go_enter Tryd.func30, Tryd.ntmps30
  go_wp2_with (first
    | (go_at_call 74; refine (makePost _ e).mono ?_; rintro e w1 ⟨g1, rfl, hB1, hb1⟩; rw [HF.out] at hB1; have HB1 := Lib.hid hB1; have Hb1 := Lib.hid hb1; clear hB1 hb1)
    | (go_at_call 75; refine (post_marshal _ _ HB1.out).mono ?_; rintro e w2 ⟨v2, rfl, hv2, hb2⟩)
    | (go_at_call 54; refine (text_ok hv2).mono ?_; rintro e w3 ⟨rfl, rfl⟩))
  go_ret2
  exact ⟨rfl, (((Below.refl _ _).alloc (Nat.le_refl _) _).trans (Hb1.out.mono (by (try simp only [Lib.bytesWorld_size, World.size_drew, drewN_size, World.size_alloc, World.size_setCell] at *); first | done | omega))).trans (hb2.mono (by have := Hb1.out.size; (try simp only [Lib.bytesWorld_size, World.size_drew, drewN_size, World.size_alloc, World.size_setCell] at *); first | done | omega))⟩
def PostErr (w : World) (e : Ending) (w' : World) : Prop := e = .returned (.tuple #[.agg Ext.zero.cells, .bool false]) ∧ Below w.heap.size w w'
set_option maxHeartbeats 800000 in
theorem postRead_no (w : World) (l : List UInt8) (hl : l.length < 4) (hs : Sent w 8) :
    Calls Tryd.prog 31 #[.string (bs l)] w (PostErr w) := by
  have kc := fun (w : World) (s : ByteArray) => run_to_bytes (P := Tryd.prog) 9 25 5 Tryd.underlying9 Tryd.underlying25 Tryd.underlying5 w s
  go_enter Tryd.func31, Tryd.ntmps31
  go_wp2_with (first
    | (go_at_call 76; (refine (post_short _ _ _ l (By.to_bytes' _ _ l _ _ (by (try simp only [Lib.bytesWorld_size, World.size_drew, drewN_size, World.size_alloc, World.size_setCell] at *); first | done | omega) (grownCap_ge _ _ _ _)) hl (((hs.alloc _).alloc _).below (below_bytes _ _ _))).mono ?_); rintro e w1 ⟨T, x, rfl, hb1⟩; (have io1 : objAt w1 w.heap.size = some (.cells Ext.zero.cells 45 (0, 0)) := (after2 hb1).1); have Hb1 := Lib.hid (after2 hb1).2.2.2; clear hb1)
    | (have io := io1; refine wpList_store_whole ?hgd 45 (.tmp 2) (.tmp 14) ?ho w.heap.size Ext.zero.cells ?hx ?hy 45 Ext.zero.cells io (Ext.size _) rfl (Ext.one _ ⟨rfl, rfl, rfl, rfl, rfl, rfl, rfl, rfl⟩) ?hh; case ho => exact rfl))
  case hgd => rfl
  case hx => rfl
  case hy => rfl
  case hh =>
    intro w2 io2 g2
    go_wp2
    refine bodyPost_ret (ret_cell2 Tryd.results31 _ w2 w.heap.size Ext.zero.cells (.bool false) Tryd.underlying45 rfl (Ext.size _) io2 rfl rfl) rfl ⟨rfl, ?_⟩
    exact Hb1.out.grown g2 Hb1.out.size (fun k hk => by cases hk; exact Nat.le_refl _)
set_option maxHeartbeats 1600000 in
theorem postRead_yes (w : World) : Calls Tryd.prog 31 #[.string (bs phL)] w fun e w' => e = .returned (.tuple #[.agg extPH.cells, .bool true]) ∧ Below w.heap.size w w' := by
  have kc := fun (w : World) (s : ByteArray) => run_to_bytes (P := Tryd.prog) 9 25 5 Tryd.underlying9 Tryd.underlying25 Tryd.underlying5 w s
  go_enter Tryd.func31, Tryd.ntmps31
  go_wp2_with (first
    | (go_at_call 76; refine (post_whole _ _ _ false (show Blk _ _ _ _ from (made2 w _ _ _ _).2.1) (By.to_bytes' _ _ phL _ _ (by (try simp only [Lib.bytesWorld_size, World.size_drew, drewN_size, World.size_alloc, World.size_setCell] at *); first | done | omega) (grownCap_ge _ _ _ _))).mono ?_; rintro e w1 ⟨rfl, hB1, hG1⟩; have io1 : objAt w1 w.heap.size = some (.cells Ext.zero.cells 45 (0, 0)) := (objAt_grown hG1 _ (by have := (made2 w (.cells Ext.zero.cells 45) (.cells #[.bool false] 138) 5 (bs phL)).2.2.1; exact Nat.lt_of_lt_of_le (by omega) (Nat.le_of_eq this)) (by simp)).trans (made2 w _ _ _ _).1; have Hb1 := Lib.hid ((made2 w _ _ _ _).2.2.2.grown hG1 (made2 w _ _ _ _).2.2.2.size (fun k hk => by cases hk; exact Nat.le_succ _)); have HB1 := Lib.hid hB1; clear hG1 hB1)
    | (go_at_call 77; refine (dataPost _ _ HB1.out).mono ?_; rintro e w2 ⟨rfl, hb2⟩; have io2 : objAt w2 w.heap.size = some (.cells Ext.zero.cells 45 (0, 0)) := (objAt_below hb2 _ (by exact Nat.lt_of_le_of_lt (Nat.le_succ _) HB1.out.lt)).trans io1; have Hb2 := Lib.hid (Hb1.out.trans (hb2.mono Hb1.out.size)); clear hb2 io1 Hb1 HB1)
    | (have io := io2; refine wpList_store_whole ?hgd 45 (.tmp 2) (.tmp 16) ?ho w.heap.size extPH.cells ?hx ?hy 45 Ext.zero.cells io (Ext.size _) rfl (Ext.one _ ⟨rfl, rfl, rfl, rfl, rfl, rfl, rfl, rfl⟩) ?hh; case ho => exact rfl))
  case hgd => rfl
  case hx => rfl
  case hy => rfl
  case hh =>
    intro w3 io3 g3
    go_wp2
    refine bodyPost_ret (ret_cell2 Tryd.results31 _ w3 w.heap.size extPH.cells (.bool true) Tryd.underlying45 rfl (Ext.size _) io3 rfl rfl) rfl ⟨rfl, ?_⟩
    exact Hb2.out.grown g3 Hb2.out.size (fun k hk => by cases hk; exact Nat.le_refl _)
theorem same_ph (w : World) : Calls Tryd.prog 27 #[.agg extPH.cells, .agg extPH.cells] w fun e w' => e = .returned (.bool true) ∧ Below w.heap.size w w' :=
  sameExt_yes w extPH extPH rfl rfl rfl rfl rfl (listString_nil _ _ _ _ _) (listU16_nil _ _ _ _ _) (listPair_nil _ _ _ _ _) (listShare_nil _ _ _ _ _) (listShare_nil _ _ _ _ _) (listU16_nil _ _ _ _ _) (listIdentity_nil _ _ _ _ _) (listFilter_nil _ _ _ _ _)
set_option maxHeartbeats 1600000 in
theorem ph_less (w : World) (a0 : Int) (h : a0 < 1) :
    Calls Tryd.prog 10 #[.int .i64 a0] w fun e w' => e = .returned (.bool true) ∧ Below w.heap.size w w' := by
  have d1 : decide (a0 < 1) = true := by simp; omega
  clear h
  obtain ⟨p, hp⟩ : ∃ p, p = phL := ⟨_, rfl⟩
  have pl : p.length = 4 := by rw [hp]; rfl
  have wr := fun W => postWrite W extPH rfl
  have fr := fun W : World => framedExt_any W 49 [] (by omega) (by simp)
  rw [show extL 49 [] = phL from rfl] at fr
  have rd := fun W => postRead_yes W
  rw [← hp] at wr fr rd
  have WR := Lib.hid wr
  have FR := Lib.hid fr
  have RD := Lib.hid rd
  have SM := Lib.hid same_ph
  have hOK := extPH.ok
  clear wr fr rd hp
  go_enter Tryd.func10, Tryd.ntmps10
  go_wp2_with (first
    | (go_at_call 30; refine (WR.out _).mono ?_; rintro e w1 ⟨rfl, hb1⟩; have K1 : Kept w w1 := ⟨hb1⟩; clear hb1 WR)
    | (go_at_call 25; have k := K1; refine (FR.out _).mono ?_; rintro e w2 ⟨rfl, hb2⟩; have K2 := K1.step hb2; clear hb2 FR k K1)
    | (go_at_call 31; have k := K2; refine (RD.out _).mono ?_; rintro e w3 ⟨rfl, hb3⟩; have K3 := K2.step hb3; clear hb3 RD k K2)
    | (have k := K3; refine wpList_store_whole ?hgd 45 (.tmp 5) (.tmp 21) ?ho w3.heap.size extPH.cells ?hx ?hy 45 Ext.zero.cells (heap_alloc_new _ _) (Ext.size _) rfl (Ext.one _ ⟨rfl, rfl, rfl, rfl, rfl, rfl, rfl, rfl⟩) ?hh; case ho => exact rfl))
  case hgd => rfl
  case hx => rfl
  case hy => rfl
  case hh =>
    intro w4 io4 g4
    have K4 : Kept w w4 := ⟨(K3.below.alloc K3.below.size _).grown g4 (by have := K3.below.size; (try simp only [Lib.bytesWorld_size, World.size_drew, drewN_size, World.size_alloc, World.size_setCell] at *); first | done | omega) (fun k hk => by cases hk; exact K3.below.size)⟩
    clear g4 K3
    go_wp2_with (first
      | (go_at_call 27; have k := K4; refine (SM.out _).mono ?_; rintro e w5 ⟨rfl, hb5⟩; have K5 := K4.step hb5; clear hb5 SM k K4))
    go_ret
    exact ⟨rfl, K5.below⟩
set_option maxHeartbeats 1600000 in
theorem ph_more (w : World) (a0 : Int) (h : 4 < a0) :
    Calls Tryd.prog 10 #[.int .i64 a0] w fun e w' => e = .returned (.bool true) ∧ Below w.heap.size w w' := by
  have d1 : decide (a0 < 1) = false := by simp; omega
  have d2 : decide (4 < a0) = true := by simp; omega
  clear h
  obtain ⟨p, hp⟩ : ∃ p, p = phL := ⟨_, rfl⟩
  have pl : p.length = 4 := by rw [hp]; rfl
  have wr := fun W => postWrite W extPH rfl
  have fr := fun W : World => framedExt_any W 49 [] (by omega) (by simp)
  rw [show extL 49 [] = phL from rfl] at fr
  have rd := fun W => postRead_yes W
  rw [← hp] at wr fr rd
  have WR := Lib.hid wr
  have FR := Lib.hid fr
  have RD := Lib.hid rd
  have SM := Lib.hid same_ph
  have hOK := extPH.ok
  clear wr fr rd hp
  go_enter Tryd.func10, Tryd.ntmps10
  go_wp2_with (first
    | (go_at_call 30; refine (WR.out _).mono ?_; rintro e w1 ⟨rfl, hb1⟩; have K1 : Kept w w1 := ⟨hb1⟩; clear hb1 WR)
    | (go_at_call 25; have k := K1; refine (FR.out _).mono ?_; rintro e w2 ⟨rfl, hb2⟩; have K2 := K1.step hb2; clear hb2 FR k K1)
    | (go_at_call 31; have k := K2; refine (RD.out _).mono ?_; rintro e w3 ⟨rfl, hb3⟩; have K3 := K2.step hb3; clear hb3 RD k K2)
    | (have k := K3; refine wpList_store_whole ?hgd 45 (.tmp 5) (.tmp 21) ?ho w3.heap.size extPH.cells ?hx ?hy 45 Ext.zero.cells (heap_alloc_new _ _) (Ext.size _) rfl (Ext.one _ ⟨rfl, rfl, rfl, rfl, rfl, rfl, rfl, rfl⟩) ?hh; case ho => exact rfl))
  case hgd => rfl
  case hx => rfl
  case hy => rfl
  case hh =>
    intro w4 io4 g4
    have K4 : Kept w w4 := ⟨(K3.below.alloc K3.below.size _).grown g4 (by have := K3.below.size; (try simp only [Lib.bytesWorld_size, World.size_drew, drewN_size, World.size_alloc, World.size_setCell] at *); first | done | omega) (fun k hk => by cases hk; exact K3.below.size)⟩
    clear g4 K3
    go_wp2_with (first
      | (go_at_call 27; have k := K4; refine (SM.out _).mono ?_; rintro e w5 ⟨rfl, hb5⟩; have K5 := K4.step hb5; clear hb5 SM k K4))
    go_ret
    exact ⟨rfl, K5.below⟩
set_option maxHeartbeats 1600000 in
theorem ph_cut (w : World) (a0 : Int) (k : Nat) (hk : a0 = (k : Int)) (h1 : 1 ≤ k) (h2 : k ≤ 4) (hs : Sent w 8) :
    Calls Tryd.prog 10 #[.int .i64 a0] w fun e w' => e = .returned (.bool true) ∧ Below w.heap.size w w' := by
  subst hk
  have d1 : decide ((k : Int) < 1) = false := by simp; omega
  have d2 : decide ((4 : Int) < (k : Int)) = false := by simp; omega
  have d3 : (k : Int) ≤ 4 := by omega
  have d4 : (0 : Int) ≤ 4 - (k : Int) := by omega
  obtain ⟨p, hp⟩ : ∃ p, p = phL := ⟨_, rfl⟩
  have pl : p.length = 4 := by rw [hp]; rfl
  have wr := fun W => postWrite W extPH rfl
  have fr := fun W : World => framedExt_any W 49 [] (by omega) (by simp)
  rw [show extL 49 [] = phL from rfl] at fr
  have rd := fun W => postRead_yes W
  have no := fun (W : World) (hS : Sent W _) => postRead_no W (phL.take (4 - k)) (by simp [phL]; omega) hS
  rw [← hp] at no
  have NO := Lib.hid no
  clear no
  rw [← hp] at wr fr rd
  have WR := Lib.hid wr
  have FR := Lib.hid fr
  have RD := Lib.hid rd
  have SM := Lib.hid same_ph
  have hOK := extPH.ok
  clear wr fr rd hp
  go_enter Tryd.func10, Tryd.ntmps10
  go_wp2_with (first
    | (go_at_call 30; refine (WR.out _).mono ?_; rintro e w1 ⟨rfl, hb1⟩; have K1 : Kept w w1 := ⟨hb1⟩; clear hb1 WR)
    | (go_at_call 25; have k := K1; refine (FR.out _).mono ?_; rintro e w2 ⟨rfl, hb2⟩; have K2 := K1.step hb2; clear hb2 FR k K1)
    | (go_at_call 31; have k := K2; refine (RD.out _).mono ?_; rintro e w3 ⟨rfl, hb3⟩; have K3 := K2.step hb3; clear hb3 RD k K2)
    | (have k := K3; refine wpList_store_whole ?hgd 45 (.tmp 5) (.tmp 21) ?ho w3.heap.size extPH.cells ?hx ?hy 45 Ext.zero.cells (heap_alloc_new _ _) (Ext.size _) rfl (Ext.one _ ⟨rfl, rfl, rfl, rfl, rfl, rfl, rfl, rfl⟩) ?hh; case ho => exact rfl))
  case hgd => rfl
  case hx => rfl
  case hy => rfl
  case hh =>
    intro w4 io4 g4
    have K4 : Kept w w4 := ⟨(K3.below.alloc K3.below.size _).grown g4 (by have := K3.below.size; (try simp only [Lib.bytesWorld_size, World.size_drew, drewN_size, World.size_alloc, World.size_setCell] at *); first | done | omega) (fun k hk => by cases hk; exact K3.below.size)⟩
    clear g4 K3
    go_wp2_with (first
      | (go_at_call 27; have k := K4; refine (SM.out _).mono ?_; rintro e w5 ⟨rfl, hb5⟩; have K5 := K4.step hb5; clear hb5 SM k K4)
      | (go_at_call 31; have k := K5; go_loud (refine (NO.out _ (hs.below K5.below)).mono ?_); rintro e w6 ⟨rfl, hb6⟩; have K6 := K5.step hb6; clear hb6 NO k K5))
    go_ret
    exact ⟨rfl, K6.below⟩
theorem fnPostHandshake.walk (a0 : Int) (_w0 : (Lit.int .i64 a0).wf = true) (w : World) (_hL : laidMetH Tryd.prog Rows.fnPostHandshakeRow.laid w) :
    Calls Tryd.prog 10 #[.int .i64 a0] w fun e w' => e = .returned (.bool true) ∧ Below w.heap.size w w' := by
  have hs : Sent w 8 := sent_of _hL (by kernel_rfl) (by kernel_rfl) Tryd.underlying82
  by_cases h1 : a0 < 1
  · exact ph_less w a0 h1
  by_cases h2 : 4 < a0
  · exact ph_more w a0 h2
  exact ph_cut w a0 a0.toNat (by omega) (by omega) (by omega) hs
end Go.Proofs.YtdnjkjoioabhhaaDoor

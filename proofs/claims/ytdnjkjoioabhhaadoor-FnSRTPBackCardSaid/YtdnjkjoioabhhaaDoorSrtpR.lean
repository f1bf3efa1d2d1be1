/- impl.SRTPWrite and the law FnSRTPRefused. -/
import Derived.Test.YtdnjkjoioabhhaaDoorSrtp
import Derived.Test.YtdnjkjoioabhhaaDoorGrow
import Derived.Test.YtdnjkjoioabhhaaDoorRows
import Derived.LaidMore
import Derived.WalkSpells
namespace Go.Proofs.YtdnjkjoioabhhaaDoor
open Go.RowKit
set_option maxRecDepth 100000

theorem Tryd.infoSP : (Tryd.prog.info? 166).map (fun i => (i.zero, i.size, i.bytes)) = some (some (.int .u16 0), 1, 2) := by kernel_rfl
theorem own_shape {w : World} {B n : Nat} {e : TypeId} {v : Value} {xs : List Value} (h : w.ownsRow B e 1 v n xs) (hn : 0 < n) : ∃ g c, v = .slice (some ⟨g, 0, none⟩) n c ∧ B ≤ g := by
  rcases h.2 with ⟨_, h0⟩ | ⟨g, c, cur, hv, hg, _⟩
  · omega
  · exact ⟨g, c, hv, hg⟩
theorem Sl.far {w : World} {v : Value} {xs : List Value} (h : Sl w v xs) {p : Addr} (hp : v.ownBlock ≠ some p.block) (u : Value) : Sl (w.setCell p u) v xs := by
  obtain ⟨A, c, rfl, hc, hr⟩ := h
  refine ⟨A, c, rfl, hc, fun h0 => ?_⟩
  obtain ⟨g, o, rfl, hr0⟩ := hr h0
  exact ⟨g, o, rfl, fun j hj => (World.cell?_setCell_other _ _ _ _ (fun e => hp (by rw [e]; rfl))).trans (hr0 j hj)⟩
def SrtpMade (w : World) (m : List UInt8) (e : Ending) (w' : World) : Prop := ∃ g vp vm, e = .returned (.pointer (some ⟨g, 0, none⟩)) ∧ Blk w' g 147 [vp, vm] ∧ Sl w' vp [.int .u16 1] ∧ By w' vm m ∧ Below w.heap.size w w'
set_option maxHeartbeats 1600000 in
theorem makeSrtp (w : World) (e : Ext) (hl3 : Sl w e.l3 [.int .u16 1]) (hlen : e.s.length ≤ 2147483647) : Calls Tryd.prog 57 #[.agg e.cells] w (SrtpMade w e.s) := by
  obtain ⟨ty, s, l2, l3, l4, fl, n, hs, l8, l9, l10, l11, l12⟩ := e
  simp only at hl3 hlen
  obtain ⟨Ap, cp, rfl, hcp, hrp⟩ := hl3
  obtain ⟨gp, op, rfl, hjp⟩ := hrp (by simp)
  have c0 : w.cell? ⟨gp, op, none⟩ = some (.int .u16 1) := hjp 0 (by simp)
  have hgp : gp < w.heap.size := World.block_lt_of_cell? w _ c0
  obtain ⟨i0, hi0, hz0, hz1, hz2⟩ := info_parts Tryd.infoSP
  clear hjp hrp
  unfold Ext.cells
  simp only [List.length_cons, List.length_nil, Nat.zero_add]
  have kc := fun (w : World) (s : ByteArray) => run_to_bytes (P := Tryd.prog) 9 25 5 Tryd.underlying9 Tryd.underlying25 Tryd.underlying5 w s
  go_enter Tryd.func57, Tryd.ntmps57
  go_wp2
  refine wp_abs (fun W => ∃ c, Blk W (w.heap.size + 2) 147 [.slice none 0 0, .slice (some ⟨w.heap.size + 1, 0, none⟩) s.length c] ∧ By W (.slice (some ⟨w.heap.size + 1, 0, none⟩) s.length c) s ∧ Below w.heap.size w W ∧ w.heap.size + 3 ≤ W.heap.size) ⟨_, Blk.new' _ _ [_, _] _ (by (try simp only [Lib.bytesWorld_size, World.size_drew, drewN_size, World.size_alloc, World.size_setCell] at *); first | done | omega), By.alloc (By.to_bytes' _ _ s _ _ (by (try simp only [Lib.bytesWorld_size, World.size_drew, drewN_size, World.size_alloc, World.size_setCell] at *); first | done | omega) (grownCap_ge _ _ _ _)) _, by repeat (first | with_reducible exact Below.refl _ _ | with_reducible refine Below.drew ?_ | with_reducible refine Below.drewN ?_ _ | with_reducible refine Below.alloc ?_ (by (try simp only [Lib.bytesWorld_size, World.size_drew, drewN_size, World.size_alloc, World.size_setCell] at *); first | done | omega) _ | with_reducible refine Below.bytes ?_ (by (try simp only [Lib.bytesWorld_size, World.size_drew, drewN_size, World.size_alloc, World.size_setCell] at *); first | done | omega) _ _ | with_reducible refine Below.setCell ?_ (by (try simp only [Lib.bytesWorld_size, World.size_drew, drewN_size, World.size_alloc, World.size_setCell] at *); first | done | omega) _), by (try simp only [Lib.bytesWorld_size, World.size_drew, drewN_size, World.size_alloc, World.size_setCell] at *); first | done | omega⟩ ?_
  rintro W0 ⟨cm, hB0, hy0, hb0, hz0⟩
  obtain ⟨vm, hvm0⟩ : ∃ vm, vm = Value.slice (some ⟨w.heap.size + 1, 0, none⟩) s.length cm := ⟨_, rfl⟩
  have hvm : vm.ownBlock ≠ some (w.heap.size + 2) := by rw [hvm0]; intro e; have e' : w.heap.size + 1 = w.heap.size + 2 := Option.some.inj e; omega
  rw [← hvm0] at hB0 hy0
  clear hvm0
  go_loopg [5, 14] 1 (fun k _ x14 wr => (k = 1 ∧ x14 = .int .i64 0 ∧ Blk wr (w.heap.size + 2) 147 [.slice none 0 0, vm] ∧ By wr vm s ∧ Below w.heap.size w wr ∧ w.heap.size + 3 ≤ wr.heap.size) ∨
    (k = 0 ∧ x14 = .int .i64 1 ∧ ∃ vp, Blk wr (w.heap.size + 2) 147 [vp, vm] ∧ Sl wr vp [.int .u16 1] ∧ By wr vm s ∧ Below w.heap.size w wr))
  case atStart => exact .inl ⟨rfl, rfl, hB0, hy0, hb0, hz0⟩
  case round =>
    clear hB0 hy0 hb0 hz0
    rcases hrel with ⟨rfl, rfl, hB, hy, hb, hz⟩ | ⟨rfl, rfl, vp, hB, hp, hy, hb⟩
    · have k0 := (hb.cell (p := ⟨gp, op, none⟩) hgp).trans c0
      have e0 : wr.cell? ⟨w.heap.size + 2, 0, none⟩ = some (.slice none 0 0) := hB.cell 0
      have HB := Lib.hid hB
      have HY := Lib.hid hy
      have Hb := Lib.hid hb
      clear hB hy hb
      go_wp2_with (at_builtin; refine wpList_append_one rfl _ _ 145 rfl (w.heap.size + 3) 166 i0 _ 2 Tryd.underlying145 hi0 hz0 hz1 hz2 rfl (.slice none 0 0) 0 [] rfl (World.ownsRow_nil _ _ _ _) wr.heap.size _ _ rfl (by simp [go_sem]; rfl) rfl (by simp only [maxLen]; omega) (by omega) (by (try simp only [Lib.bytesWorld_size, World.size_drew, drewN_size, World.size_alloc, World.size_setCell] at *); first | done | omega) ?_; intro v' w2 hown2 hg2; obtain ⟨g3, c3, rfl, hg3⟩ := own_shape hown2 (by omega); have hgn : wr.grownBy w2 none := grown_trans (grown_below ((Below.refl _ _).alloc (Nat.le_refl _) _)) hg2; have hbl : Below wr.heap.size wr w2 := ⟨hgn.os, hgn.tape, hgn.output, hgn.size, fun k hk => hgn.block k hk (by simp)⟩; have B2 := HB.out.below hbl HB.out.lt; have b2 := B2.cell 0; have f2 := B2.frozen 0; have HB2 := Lib.hid B2; have HO2 := Lib.hid (Sl.of_own hown2); have HBL := Lib.hid hbl; clear hown2 hg2 B2 hgn hbl)
      go_roundg 0
      case measure => omega
      case rel =>
        refine .inr ⟨rfl, rfl, _, HB2.out.set 0 _, ?_, (HY.out.below HBL.out).far hvm _, (Hb.out.trans (HBL.out.mono Hb.out.size)).setCell (by show w.heap.size ≤ w.heap.size + 1 + 1; omega) _⟩
        exact HO2.out.far (p := ⟨w.heap.size + 2, 0, none⟩) (by intro e; have e' : g3 = w.heap.size + 2 := Option.some.inj e; omega) _
    · go_wp2
      go_ret
      exact ⟨_, _, _, rfl, hB, hp, hy, hb⟩
def SrtpTold (w : World) (b : Bool) (e : Ending) (w' : World) : Prop := ∃ l : List UInt8, e = .returned (.tuple #[.string (bs l), .bool b]) ∧ Below w.heap.size w w'
set_option maxHeartbeats 800000 in
theorem srtpWrite_yes (w : World) (e : Ext) (hl3 : Sl w e.l3 [.int .u16 1]) (hlen : e.s.length < 256) : Calls Tryd.prog 19 #[.agg e.cells] w (SrtpTold w true) := by
  have hOK := e.ok
  have HL := Lib.hid hl3
  clear hl3
  go_enter Tryd.func19, Tryd.ntmps19
  go_wp2_with (first
    | (go_at_call 57; refine (makeSrtp _ e (HL.out.alloc _) (by omega)).mono ?_; rintro r w1 ⟨g1, vp, vm, rfl, hB1, hp1, hm1, hb1⟩; have HB1 := Lib.hid hB1; have HP1 := Lib.hid hp1; have HM1 := Lib.hid hm1; have Hb1 := Lib.hid hb1; clear hB1 hp1 hm1 hb1)
    | (go_at_call 58; refine (srtp_ok _ _ _ _ e.s HB1.out HP1.out HM1.out hlen).mono ?_; rintro r w2 ⟨v2, l2, rfl, hv2, hb2⟩)
    | (go_at_call 54; refine (text_ok hv2).mono ?_; rintro r w3 ⟨rfl, rfl⟩))
  go_ret2
  exact ⟨l2, rfl, (((Below.refl _ _).alloc (Nat.le_refl _) _).trans (Hb1.out.mono (by (try simp only [Lib.bytesWorld_size, World.size_drew, drewN_size, World.size_alloc, World.size_setCell] at *); first | done | omega))).trans (hb2.mono (by have := Hb1.out.size; (try simp only [Lib.bytesWorld_size, World.size_drew, drewN_size, World.size_alloc, World.size_setCell] at *); first | done | omega))⟩
set_option maxHeartbeats 800000 in
theorem srtpWrite_no (w : World) (e : Ext) (hl3 : Sl w e.l3 [.int .u16 1]) (hlen : 255 < e.s.length) (hlen2 : e.s.length ≤ 2147483647) (hs : Sent w 5) : Calls Tryd.prog 19 #[.agg e.cells] w (SrtpTold w false) := by
  have hOK := e.ok
  have HL := Lib.hid hl3
  clear hl3
  go_enter Tryd.func19, Tryd.ntmps19
  go_wp2_with (first
    | (go_at_call 57; refine (makeSrtp _ e (HL.out.alloc _) hlen2).mono ?_; rintro r w1 ⟨g1, vp, vm, rfl, hB1, hp1, hm1, hb1⟩; have HB1 := Lib.hid hB1; have HM1 := Lib.hid hm1; have Hb1 := Lib.hid hb1; have HS1 := Lib.hid ((hs.alloc _).below hb1); clear hB1 hp1 hm1 hb1)
    | (go_at_call 58; refine (srtp_err _ _ _ _ e.s HB1.out HM1.out hlen HS1.out).mono ?_; rintro r w2 ⟨v2, T2, x2, rfl, hb2⟩)
    | (go_at_call 54; refine (text_err _ _ _ _).mono ?_; rintro r w3 ⟨rfl, rfl⟩))
  go_ret2
  exact ⟨[], rfl, (((Below.refl _ _).alloc (Nat.le_refl _) _).trans (Hb1.out.mono (by (try simp only [Lib.bytesWorld_size, World.size_drew, drewN_size, World.size_alloc, World.size_setCell] at *); first | done | omega))).trans (hb2.mono (by have := Hb1.out.size; (try simp only [Lib.bytesWorld_size, World.size_drew, drewN_size, World.size_alloc, World.size_setCell] at *); first | done | omega))⟩
def extSrtp (v : Value) (m : List UInt8) : Ext := { Ext.zero with ty := 14, s := m, l3 := v }
set_option maxHeartbeats 1600000 in
theorem fnSRTPRefused.walk (a0 : ByteArray) (_w0 : a0.size ≤ maxLen) (w : World) (_hL : laidMetH Tryd.prog Rows.fnSRTPRefusedRow.laid w) :
    Calls Tryd.prog 6 #[.string a0] w fun e w' => e = .returned (.bool true) ∧ Below w.heap.size w w' := by
  have hs : Sent w 5 := sent_of _hL (by kernel_rfl) (by kernel_rfl) Tryd.underlying82
  obtain ⟨l, rfl⟩ := bs_ex a0
  clear _hL _w0
  by_cases h1 : (2147483647 : Int) < l.length
  · go_enter Tryd.func6, Tryd.ntmps6
    go_wp2_with fail
    go_ret
    exact ⟨rfl, Below.refl _ _⟩
  have d1 : decide ((2147483647 : Int) < (l.length : Int)) = false := by simpa using h1
  by_cases h2 : (2000 : Int) < l.length
  · have d2 : decide ((2000 : Int) < (l.length : Int)) = true := by simpa using h2
    go_enter Tryd.func6, Tryd.ntmps6
    go_wp2_with fail
    go_ret
    exact ⟨rfl, Below.refl _ _⟩
  have d2 : decide ((2000 : Int) < (l.length : Int)) = false := by simpa using h2
  have sl : Sl (w.alloc (.cells #[.int .u16 1] 29)) (.slice (some ⟨w.heap.size, 0, none⟩) 1 1) [.int .u16 1] := by
    have hB : Blk (w.alloc (.cells #[.int .u16 1] 29)) w.heap.size 29 [.int .u16 1] := Blk.new w _ [.int .u16 1]
    exact ⟨_, 1, rfl, by simp, fun _ => ⟨w.heap.size, 0, rfl, fun j hj => by obtain rfl : j = 0 := by simpa using hj
                                                                             exact hB.cell 0⟩⟩
  by_cases h3 : l.length < 256
  · have d3 : decide ((l.length : Int) < (256 : Int)) = true := by simp; omega
    have WR := Lib.hid (srtpWrite_yes _ (extSrtp (.slice (some ⟨w.heap.size, 0, none⟩) 1 1) l) sl h3)
    clear h1 h2 h3 sl
    go_enter Tryd.func6, Tryd.ntmps6
    go_wp2_with (go_at_call 19; refine WR.out.mono ?_; rintro e w1 ⟨l1, rfl, hb1⟩)
    go_ret
    exact ⟨rfl, ((Below.refl _ _).alloc (Nat.le_refl _) _).trans (hb1.mono (by (try simp only [Lib.bytesWorld_size, World.size_drew, drewN_size, World.size_alloc, World.size_setCell] at *); first | done | omega))⟩
  · have d3 : decide ((l.length : Int) < (256 : Int)) = false := by simp; omega
    have WR := Lib.hid (srtpWrite_no _ (extSrtp (.slice (some ⟨w.heap.size, 0, none⟩) 1 1) l) sl (by show 255 < l.length; omega) (by show l.length ≤ 2147483647; omega) (hs.alloc _))
    clear h1 h2 h3 sl
    go_enter Tryd.func6, Tryd.ntmps6
    go_wp2_with (go_at_call 19; refine WR.out.mono ?_; rintro e w1 ⟨l1, rfl, hb1⟩)
    go_ret
    exact ⟨rfl, ((Below.refl _ _).alloc (Nat.le_refl _) _).trans (hb1.mono (by (try simp only [Lib.bytesWorld_size, World.size_drew, drewN_size, World.size_alloc, World.size_setCell] at *); first | done | omega))⟩
end Go.Proofs.YtdnjkjoioabhhaaDoor

/- CookieExt.Unmarshal: a whole cookie is read. -/
import Derived.Test.YtdnjkjoioabhhaaDoorStrLP
import Derived.Test.YtdnjkjoioabhhaaDoorRegion4
import Derived.Test.YtdnjkjoioabhhaaDoorGrow2
import Derived.Test.YtdnjkjoioabhhaaDoorBig
import Derived.Test.YtdnjkjoioabhhaaDoorStore
import Derived.Test.YtdnjkjoioabhhaaDoorFramedExt
namespace Go.Proofs.YtdnjkjoioabhhaaDoor
open Go.RowKit
set_option maxRecDepth 100000

theorem typeCookie (w : World) (v : Value) : Calls Tryd.prog 105 #[.agg #[v]] w fun e w' => e = .returned (.int .u16 44) ∧ Below w.heap.size w w' := by
  go_enter Tryd.func105, Tryd.ntmps105
  go_wp2
  go_ret
  exact ⟨rfl, (Below.refl _ _).alloc (Nat.le_refl _) _⟩
/-- The text read so far: the type has been taken. -/
structure CkInv (w : World) (l : List UInt8) (W : World) : Prop where
  str : ∃ v, Blk W w.heap.size 186 [v] ∧ StrV w.heap.size W v l
  num : Blk W (w.heap.size + 1) 29 [.int .u16 44]
  below : Below w.heap.size w W
  size : w.heap.size + 2 ≤ W.heap.size
theorem CkInv.step {w W W' : World} {l : List UInt8} (h : CkInv w l W) (hb : Below W.heap.size W W') : CkInv w l W' := by
  obtain ⟨⟨v, h1, h2⟩, h3, h4, h5⟩ := h
  exact ⟨⟨v, h1.below hb h1.lt, h2.below (hb.mono h4.size)⟩, h3.below hb h3.lt, h4.trans (hb.mono h4.size), Nat.le_trans h5 hb.size⟩
set_option maxHeartbeats 3200000 in
theorem cookie_whole (w : World) (g : Nat) (v1 v0 : Value) (d ck : List UInt8) (hB : Blk w g 151 [v0]) (hv : By w v1 d) (hl1 : 1 ≤ ck.length) (hl2 : ck.length < 60000) (hd : d.length = ck.length + 6)
    (n0 : nat (d.take 2) = 44) (n2 : nat ((d.drop 2).take 2) = ck.length + 2) (hbody : ((d.drop 2).drop 2).take (ck.length + 2) = vecL 2 ck) :
    Calls Tryd.prog 82 #[.pointer (some ⟨g, 0, none⟩), v1] w fun e w' => e = .returned .nilIface ∧ ∃ v', Blk w' g 151 [v'] ∧ By w' v' ck ∧ w.grownBy w' (some g) := by
  have hg := hB.lt
  obtain ⟨A, c, rfl, hlc, hr⟩ := hv.parts
  obtain ⟨g1, o1, rfl, hg1, _⟩ := hr (by omega)
  have hS : StrV w.heap.size w (.slice (some ⟨g1, o1, none⟩) d.length c) d := ⟨g1, o1, c, rfl, hg1, hv⟩
  have hOK := rowOK_mk Tryd.underlying151 rfl (cs := #[v0]) (by kernel_rfl) 151 (0, 0)
  have hb0 : nat ((vecL 2 ck).take 2) = ck.length := by
    have : (vecL 2 ck).take 2 = be 2 ck.length := by simp [vecL, be_length]
    rw [this, nat_be 2 _ (by omega)]
  have hb1 : ((vecL 2 ck).drop 2).take ck.length = ck := by simp [vecL, be_length]
  have hb2 : (vecL 2 ck).length = ck.length + 2 := by simp [vecL, be_length]; omega
  have hb3 : (vecL 2 ck).drop (2 + ck.length) = [] := List.drop_eq_nil_of_le (by omega)
  have HB := Lib.hid hB
  have HS := Lib.hid hS
  have N0 := Lib.hid n0
  have N2 := Lib.hid n2
  have BODY := Lib.hid hbody
  have B0 := Lib.hid hb0
  have B1 := Lib.hid hb1
  have B2 := Lib.hid hb2
  have B3 := Lib.hid hb3
  have HD := Lib.hid hd
  have d1 : decide ((65533 : Int) < (ck.length : Int)) = false := by simp; omega
  have d2 : (((ck.length : Nat) : Int) == 0) = false := by simp; intro h; rw [h] at hl1; simp at hl1
  clear hB hS n0 n2 hbody hb0 hb1 hb2 hb3 hv hr hd
  go_enter Tryd.func82, Tryd.ntmps82
  go_wp2
  refine wp_abs (fun W => Blk W w.heap.size 186 [.slice (some ⟨g1, o1, none⟩) d.length c] ∧ Blk W (w.heap.size + 1) 29 [.int .u16 0] ∧ Below w.heap.size w W ∧ w.heap.size + 2 ≤ W.heap.size) ⟨(alloc2 w _ _).1, (alloc2 w _ _).2.1, (alloc2 w _ _).2.2.2, (alloc2 w _ _).2.2.1⟩ ?_
  rintro W0 ⟨hs0, ht0, hb0, hz0⟩
  refine wp_region_first (by kernel_rfl) [10, 11, 12, 13, 14, 15, 16, 17, 18, 19] (fun i v W => match i with
    | 0 => v = .bool true
    | 1 => v = .bool false
    | 2 => v = .bool false
    | 3 => v = .int .u16 44
    | 4 => v = .pointer (some ⟨g, 0, none⟩)
    | 5 => v = .pointer (some ⟨g, 0, none⟩)
    | 6 => v = .agg #[v0]
    | 7 => v = .int .u16 44
    | 8 => v = .bool false
    | 9 => v = .bool false
    | _ => True) (CkInv w (d.drop 2)) (by kernel_rfl) _ rfl rfl ?hfirst [] ?hguard (by kernel_rfl) (by kernel_rfl) (by kernel_rfl) ?hsteps ?hfin
  case hfirst =>
    intro K hK
    go_simp
    refine (str_u16 w.heap.size _ w.heap.size (w.heap.size + 1) _ _ d hs0.drew (HS.out.below hb0.drew) (Nat.le_refl _) ht0.drew (Nat.le_succ _) (by omega) hb0.drew.size (by have := HD.out; omega) (by have := HD.out; omega)).mono ?_
    rintro e W' ⟨rfl, h1, h2, h3⟩
    rw [N0.out] at h2
    exact hK _ _ rfl ⟨h1, h2, hb0.drew.trans (h3.below hb0.drew.size (fun k _ hk => by rcases hk with rfl | rfl <;> omega)), by have := h3.size; have : w.heap.size + 2 ≤ W0.drew.heap.size := hz0; omega⟩
  case hguard => (repeat (first | exact trivial | refine ⟨guard_none rfl rfl, ?_⟩ | refine ⟨guard_some rfl (by kernel_rfl) rfl (fun v W h => h) rfl rfl, ?_⟩))
  case hsteps =>
    clear hs0 ht0 hb0 hz0
    refine ⟨?_, ?_, ?_, ?_, ?_, ?_, ?_, ?_, ?_, ?_, trivial⟩
    · intro _ h; exact absurd rfl h
    · intro _ _; intro A W hI hb hp K hK; (repeat (obtain ⟨hq, hp⟩ := hp; first | (obtain ⟨_, hv, rfl⟩ := hq rfl _ _ rfl rfl; clear hq) | (obtain ⟨_, hv, hg⟩ := hq rfl _ _ rfl rfl; clear hq) | clear hq)); clear hp; clear hb; go_simp; exact hK _ _ rfl hI (fun _ _ h => h)
    · intro _ _; intro A W hI hb hp K hK; (repeat (obtain ⟨hq, hp⟩ := hp; first | (obtain ⟨_, hv, rfl⟩ := hq rfl _ _ rfl rfl; clear hq) | (obtain ⟨_, hv, hg⟩ := hq rfl _ _ rfl rfl; clear hq) | clear hq)); clear hp; clear hb; go_simp; exact hK _ _ rfl hI (fun _ _ h => h)
    · intro _ _; intro A W hI hb hp K hK; (repeat (obtain ⟨hq, hp⟩ := hp; first | (obtain ⟨_, hv, rfl⟩ := hq rfl _ _ rfl rfl; clear hq) | (obtain ⟨_, hv, hg⟩ := hq rfl _ _ rfl rfl; clear hq) | clear hq)); clear hp; have b1 := hb 6 (by decide); clear hb; have c1 := hI.num.cell 0; go_simp; exact hK _ _ rfl hI (fun _ _ h => h)
    · intro _ _; intro A W hI hb hp K hK; (repeat (obtain ⟨hq, hp⟩ := hp; first | (obtain ⟨_, hv, rfl⟩ := hq rfl _ _ rfl rfl; clear hq) | (obtain ⟨_, hv, hg⟩ := hq rfl _ _ rfl rfl; clear hq) | clear hq)); clear hp; have b1 := hb 0 (by decide); clear hb; go_simp; exact hK _ _ rfl hI (fun _ _ h => h)
    · intro _ _; intro A W hI hb hp K hK; (repeat (obtain ⟨hq, hp⟩ := hp; first | (obtain ⟨_, hv, rfl⟩ := hq rfl _ _ rfl rfl; clear hq) | (obtain ⟨_, hv, hg⟩ := hq rfl _ _ rfl rfl; clear hq) | clear hq)); clear hp; clear hb; go_simp; exact hK _ _ rfl hI (fun _ _ h => h)
    · intro _ _; intro A W hI hb hp K hK; (repeat (obtain ⟨hq, hp⟩ := hp; first | (obtain ⟨_, hv, rfl⟩ := hq rfl _ _ rfl rfl; clear hq) | (obtain ⟨_, hv, hg⟩ := hq rfl _ _ rfl rfl; clear hq) | clear hq)); clear hp; clear hb; have i1 : objAt W g = some (.cells #[v0] 151 (0, 0)) := (hI.below.block g hg).trans HB.out; go_simp; exact hK _ _ rfl hI (fun _ _ h => h)
    · intro _ _; intro A W hI hb hp K hK; (repeat (obtain ⟨hq, hp⟩ := hp; first | (obtain ⟨_, hv, rfl⟩ := hq rfl _ _ rfl rfl; clear hq) | (obtain ⟨_, hv, hg⟩ := hq rfl _ _ rfl rfl; clear hq) | clear hq)); clear hp; clear hb; go_simp; refine (typeCookie _ _).mono ?_; rintro e w1 ⟨rfl, hb1⟩; exact hK _ _ rfl (hI.step hb1) (fun _ _ h => h)
    · intro _ _; intro A W hI hb hp K hK; (repeat (obtain ⟨hq, hp⟩ := hp; first | (obtain ⟨_, hv, rfl⟩ := hq rfl _ _ rfl rfl; clear hq) | (obtain ⟨_, hv, hg⟩ := hq rfl _ _ rfl rfl; clear hq) | clear hq)); clear hp; clear hb; go_simp; exact hK _ _ rfl hI (fun _ _ h => h)
    · intro _ _; intro A W hI hb hp K hK; (repeat (obtain ⟨hq, hp⟩ := hp; first | (obtain ⟨_, hv, rfl⟩ := hq rfl _ _ rfl rfl; clear hq) | (obtain ⟨_, hv, hg⟩ := hq rfl _ _ rfl rfl; clear hq) | clear hq)); clear hp; clear hb; go_simp; exact hK _ _ rfl hI (fun _ _ h => h)
  case hfin =>
    clear hs0 ht0 hb0 hz0
    intro vf W hgd hI _
    have e19 : vf 19 = _ := hgd.2.2.2.2.2.2.2.2.2.1 19 rfl
    simp only [fillAct, List.foldl_cons, List.foldl_nil, List.setIfInBounds_toArray, List.set_cons_zero, List.set_cons_succ]
    rw [e19]
    clear hgd e19
    obtain ⟨⟨v2, hs2, hv2⟩, _, hbW, hzW⟩ := hI
    have HS2 := Lib.hid hs2
    have HV2 := Lib.hid hv2
    have HBW := Lib.hid hbW
    clear hs2 hv2 hbW
    go_wp2_with (first
      | (go_at_call 106; have once := HS2; go_loud (refine (str_lp16 w.heap.size _ w.heap.size W.heap.size v2 (.slice none 0 0) (d.drop 2) (ck.length + 2) (HS2.out.alloc _) (HV2.out.below ((Below.refl _ _).alloc HBW.out.size _)) (Nat.le_refl _) (Blk.new' _ _ [_] _ rfl) HBW.out.size (by omega) (by have := HBW.out.size; (try simp only [Lib.bytesWorld_size, World.size_drew, drewN_size, World.size_alloc, World.size_setCell] at *); first | done | omega) N2.out (by have := HD.out; simp; omega) (by have := HD.out; simp; omega)).mono ?_)
         rintro e w2 ⟨rfl, _, ⟨v4, h4, hv4⟩, hm⟩
         rw [BODY.out] at hv4
         have hz2 : W.heap.size + 1 ≤ w2.heap.size := (by have := hm.size; (try simp only [Lib.bytesWorld_size, World.size_drew, drewN_size, World.size_alloc, World.size_setCell] at *); first | done | omega)
         have hb2 : Below w.heap.size w w2 := (HBW.out.alloc HBW.out.size _).trans (hm.below (by have := HBW.out.size; (try simp only [Lib.bytesWorld_size, World.size_drew, drewN_size, World.size_alloc, World.size_setCell] at *); first | done | omega) (fun k _ hk => by have := HBW.out.size; rcases hk with rfl | rfl <;> omega))
         have H4 := Lib.hid h4
         have HV4 := Lib.hid hv4
         have HB2 := Lib.hid hb2
         clear h4 hv4 hm hb2 once HS2 HV2)
      | (go_at_call 106; have once := H4; go_loud (refine (str_lp16 w.heap.size _ W.heap.size w2.heap.size v4 (.slice none 0 0) (vecL 2 ck) ck.length (H4.out.alloc _) (HV4.out.below ((Below.refl _ _).alloc HB2.out.size _)) HBW.out.size (Blk.new' _ _ [_] _ rfl) HB2.out.size (by omega) (by have := HB2.out.size; (try simp only [Lib.bytesWorld_size, World.size_drew, drewN_size, World.size_alloc, World.size_setCell] at *); first | done | omega) B0.out (by have := B2.out; omega) (by have := B2.out; omega)).mono ?_)
         rintro e w3 ⟨rfl, ⟨v5, h5, hv5⟩, ⟨v6, h6, hv6⟩, hm⟩
         rw [B3.out] at hv5
         rw [B1.out] at hv6
         obtain ⟨g5, o5, c5, rfl, hg5, _⟩ := hv5
         obtain ⟨g6, o6, c6, rfl, hg6, hy6⟩ := hv6
         have hb3 : Below w.heap.size w w3 := (HB2.out.alloc HB2.out.size _).trans (hm.below (by have := HB2.out.size; (try simp only [Lib.bytesWorld_size, World.size_drew, drewN_size, World.size_alloc, World.size_setCell] at *); first | done | omega) (fun k _ hk => by have := HB2.out.size; have := HBW.out.size; rcases hk with rfl | rfl <;> omega))
         have c7 := h5.cell 0
         have c8 := h6.cell 0
         have BG := (HB.out.below hb3 hg)
         have bg := BG.cell 0
         have HY6 := Lib.hid hy6
         have HB3 := Lib.hid hb3
         have HBG := Lib.hid BG
         clear h5 h6 hy6 hm hb3 BG once H4 HV4)
      | (go_at_call 107; refine (str_empty _ _ _ _).mono ?_; rintro e w4 ⟨rfl, rfl⟩)
      | (at_builtin; have y6 := HY6.out; refine wpList_append_by2 (w := w3) rfl (.const (.slice none 0 0)) (.tmp 41) 25 186 rfl 5 Tryd.underlying25 5 Tryd.underlying186 Tryd.infoByte _ [] rfl (Grow.nil _ _) _ ck rfl y6 (by simp; omega) ?_
         intro v' W' hG
         rw [List.nil_append] at hG
         obtain ⟨g9, c9, rfl, hg9, _⟩ := hG.form (by intro h0; have ⟨_, _, e⟩ := hG.len; rw [h0] at e; injection e with _ e2 _; omega)
         have BG2 := HBG.out.below hG.below HBG.out.lt
         have bg2 := BG2.cell 0
         have bf2 := BG2.frozen 0
         have HBG2 := Lib.hid BG2
         have HG := Lib.hid hG
         clear hG BG2 y6 HY6))
    trace_state
    go_ret
    refine ⟨rfl, _, HBG2.out.set 0 _, HG.out.by.far ?_ _, grown_set (grown_below (HB3.out.trans (HG.out.below.mono HB3.out.size))) _ _⟩
    intro e
    have e' : g9 = g := Option.some.inj e
    have := HB3.out.size
    omega
end Go.Proofs.YtdnjkjoioabhhaaDoor

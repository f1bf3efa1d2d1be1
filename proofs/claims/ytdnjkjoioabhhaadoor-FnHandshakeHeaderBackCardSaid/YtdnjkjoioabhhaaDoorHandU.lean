/- A handshake header is read. -/
import Derived.Test.YtdnjkjoioabhhaaDoorGet24
import Derived.Test.YtdnjkjoioabhhaaDoorHandM
import Derived.Test.YtdnjkjoioabhhaaDoorRegion
namespace Go.Proofs.YtdnjkjoioabhhaaDoor
open Go.RowKit
set_option maxRecDepth 100000

/-- The header that 12 bytes spell. -/
def handOf (d : List UInt8) : HH := ⟨d.headD 0, nat ((d.drop 1).take 3), nat ((d.drop 4).take 2), nat ((d.drop 6).take 3), nat ((d.drop 9).take 3)⟩
theorem cut_take (d : List UInt8) (k n : Nat) (h : k + n ≤ d.length) : ((d.drop k).take (d.length - k)).take n = (d.drop k).take n := by
  rw [List.take_take, Nat.min_eq_left (by omega)]
set_option maxHeartbeats 3200000 in
theorem hand_unmarshal (w : World) (g : Nat) (v1 : Value) (d : List UInt8) (z0 z1 z2 z3 z4 : Value) (hB : Blk w g 155 [z0, z1, z2, z3, z4]) (hv : By w v1 d) (hne : v1.ownBlock ≠ some g) (hd : 12 ≤ d.length) (hd' : d.length ≤ 4294967294) :
    Calls Tryd.prog 86 #[.pointer (some ⟨g, 0, none⟩), v1] w fun e w' => e = .returned .nilIface ∧ Blk w' g 155 (handOf d).cells.toList ∧ w.grownBy w' (some g) := by
  obtain ⟨A, c, rfl, hlc, hr⟩ := hv.parts
  obtain ⟨g1, o1, rfl, hg1, hcell⟩ := hr (by omega)
  have hgg : g1 ≠ g := fun h => hne (by rw [h]; rfl)
  obtain ⟨b, r, rfl⟩ : ∃ b r, d = b :: r := by
    match d, hd with | b :: r, _ => exact ⟨b, r, rfl⟩
  have c0 : w.cell? ⟨g1, o1, none⟩ = some (.int .u8 (b.toNat : Int)) := hcell 0 (by simp)
  have hg := hB.lt
  have b0 := hB.cell 0
  have bf := hB.frozen
  have hfar : ∀ (k : Nat), (Value.slice (some ⟨g1, o1, none⟩) (b :: r).length c).ownBlock ≠ some (⟨g, k, none⟩ : Addr).block := fun k e => hgg (Option.some.inj e)
  obtain ⟨d, hd0⟩ : ∃ d, d = b :: r := ⟨_, rfl⟩
  rw [← hd0] at hv hlc hd hd' hfar ⊢
  have HV0 : Hid (By (w.setCell ⟨g, 0, none⟩ (.int .u8 (b.toNat : Int))) (.slice (some ⟨g1, o1, none⟩) d.length c) d) := hv.far (hfar 0) _
  have HB0 : Hid (Blk (w.setCell ⟨g, 0, none⟩ (.int .u8 (b.toNat : Int))) g 155 [.int .u8 (b.toNat : Int), z1, z2, z3, z4]) := hB.set 0 _
  have HG0 : Hid (w.grownBy (w.setCell ⟨g, 0, none⟩ (.int .u8 (b.toNat : Int))) (some g)) := grown_set (World.grownBy.refl _ _) _ _
  obtain ⟨n1, N1⟩ : ∃ n, Hid (n = nat ((d.drop 1).take 3)) := ⟨_, rfl⟩
  obtain ⟨n4, N4⟩ : ∃ n, Hid (n = nat ((d.drop 4).take 2)) := ⟨_, rfl⟩
  obtain ⟨n6, N6⟩ : ∃ n, Hid (n = nat ((d.drop 6).take 3)) := ⟨_, rfl⟩
  obtain ⟨n9, N9⟩ : ∃ n, Hid (n = nat ((d.drop 9).take 3)) := ⟨_, rfl⟩
  have HF := Lib.hid hfar
  have HE := Lib.hid hd0
  have dl0 : 0 < d.length := by omega
  clear hv hB hr hcell hne hfar hd0
  have d1 : decide ((d.length : Int) < 12) = false := by simp; omega
  have i1 : (1 : Int) ≤ (d.length : Int) := by omega
  have i4 : (4 : Int) ≤ (d.length : Int) := by omega
  have i6 : (6 : Int) ≤ (d.length : Int) := by omega
  have i9 : (9 : Int) ≤ (d.length : Int) := by omega
  have j1 : ¬ c = 1 := by omega
  have j4 : ¬ c = 4 := by omega
  have j6 : ¬ c = 6 := by omega
  have j9 : ¬ c = 9 := by omega
  go_enter Tryd.func86, Tryd.ntmps86
  go_wp2_with (go_at_call 101; refine (get24 _ _ _ (By.cut HV0.out (a := 1) (b := d.length) (by omega) (Nat.le_refl _) rfl rfl (fun _ g' o' e => by cases e; rfl)) (by simp; omega)).mono ?_; rw [cut_take _ _ _ (by omega), ← N1.out]; rintro e w1 ⟨rfl, hb1⟩; have B1 := HB0.out.below hb1 HB0.out.lt; have e1 := B1.cell 1; have ef := B1.frozen; have HV1 := Lib.hid ((HV0.out.below hb1).far (p := ⟨g, 1, none⟩) (HF.out 1) (.int .u32 (n1 : Int))); have HB1 := Lib.hid (B1.set 1 (.int .u32 (n1 : Int))); have HG1 := Lib.hid (grown_set (grown_trans HG0.out (grown_below hb1)) 1 (.int .u32 (n1 : Int))); clear HV0 HB0 HG0 B1 hb1)
  refine wp_abs (fun W => Hid (∃ c2, Blk W g 155 [.int .u8 (b.toNat : Int), .int .u32 (n1 : Int), c2, z3, z4]) ∧ Hid (By W (.slice (some ⟨g1, o1, none⟩) d.length c) d) ∧ Hid (w.grownBy W (some g))) ⟨⟨_, HB1.out⟩, HV1.out, HG1.out⟩ ?_
  clear HB1 HV1 HG1 e1 ef
  intro w2 hi
  refine wp_region_inv2 (by kernel_rfl) [21, 22, 23, 24, 25, 26, 27] (fun i v W => match i with
    | 0 => v = .pointer (some ⟨g, 0, none⟩)
    | 1 => v = .agg #[]
    | 2 => v = .slice (some ⟨g1, o1, none⟩) d.length c
    | 3 => v = .slice (some ⟨g1, o1 + 4, none⟩) (d.length - 4) (c - 4)
    | 4 => v = .int .u16 (n4 : Int)
    | 5 => v = .pointer (some ⟨g, 0, none⟩)
    | 6 => v = .pointer (some ⟨g, 2, none⟩)
    | 7 => W.cell? ⟨g, 2, none⟩ = some (.int .u16 (n4 : Int))
    | _ => True) (fun W => Hid (∃ c2, Blk W g 155 [.int .u8 (b.toNat : Int), .int .u32 (n1 : Int), c2, z3, z4]) ∧ Hid (By W (.slice (some ⟨g1, o1, none⟩) d.length c) d) ∧ Hid (w.grownBy W (some g))) ?hinv0 (by kernel_rfl) (by kernel_rfl) (by kernel_rfl) (by kernel_rfl) ?hsteps ?hfin
  case hinv0 => obtain ⟨⟨c2, h1⟩, h2, h3⟩ := hi; exact ⟨⟨c2, h1.drew⟩, h2.drew, grown_drew h3⟩
  case hsteps =>
    clear hi
    refine ⟨?_, ?_, ?_, ?_, ?_, ?_, ?_, ?_, trivial⟩
    · intro A W hI hb hp K hK; (repeat (obtain ⟨hq, hp⟩ := hp; first | (obtain ⟨_, hv, rfl⟩ := hq rfl _ _ rfl rfl; clear hq) | (obtain ⟨_, hv, hg⟩ := hq rfl _ _ rfl rfl; clear hq) | clear hq)); clear hp; have b1 := hb 0 (by decide); clear hb; go_simp; exact hK _ _ rfl hI (fun _ _ h => h)
    · intro A W hI hb hp K hK; (repeat (obtain ⟨hq, hp⟩ := hp; first | (obtain ⟨_, hv, rfl⟩ := hq rfl _ _ rfl rfl; clear hq) | (obtain ⟨_, hv, hg⟩ := hq rfl _ _ rfl rfl; clear hq) | clear hq)); clear hp; clear hb; go_simp; exact hK _ _ rfl hI (fun _ _ h => h)
    · intro A W hI hb hp K hK; (repeat (obtain ⟨hq, hp⟩ := hp; first | (obtain ⟨_, hv, rfl⟩ := hq rfl _ _ rfl rfl; clear hq) | (obtain ⟨_, hv, hg⟩ := hq rfl _ _ rfl rfl; clear hq) | clear hq)); clear hp; have b1 := hb 1 (by decide); clear hb; go_simp; exact hK _ _ rfl hI (fun _ _ h => h)
    · intro A W hI hb hp K hK; (repeat (obtain ⟨hq, hp⟩ := hp; first | (obtain ⟨_, hv, rfl⟩ := hq rfl _ _ rfl rfl; clear hq) | (obtain ⟨_, hv, hg⟩ := hq rfl _ _ rfl rfl; clear hq) | clear hq)); clear hp; clear hb; go_simp; exact hK _ _ rfl hI (fun _ _ h => h)
    · intro A W hI hb hp K hK; (repeat (obtain ⟨hq, hp⟩ := hp; first | (obtain ⟨_, hv, rfl⟩ := hq rfl _ _ rfl rfl; clear hq) | (obtain ⟨_, hv, hg⟩ := hq rfl _ _ rfl rfl; clear hq) | clear hq)); clear hp; clear hb; obtain ⟨⟨c2, hE⟩, hV, hG⟩ := hI; have hV2 := hV; have hlt := hE.lt; have hy := By.cut hV (a := 4) (b := d.length) (A' := some ⟨g1, o1 + 4, none⟩) (m := d.length - 4) (c' := c - 4) (by omega) (Nat.le_refl _) rfl rfl (fun _ g' o' e => by cases e; rfl); go_simp; refine (get16 _ _ _ hy (by simp; omega)).mono ?_; rw [cut_take _ _ _ (by omega), ← N4.out]; rintro e w1 ⟨rfl, hb1⟩; exact hK _ _ rfl ⟨⟨c2, hE.below hb1 hlt⟩, hV2.below hb1, grown_trans hG (grown_below hb1)⟩ (fun j u hg => by revert hg; dsimp only; split <;> first | exact id | exact fun h => (hb1.cell (p := ⟨g, 2, none⟩) hlt).trans h)
    · intro A W hI hb hp K hK; (repeat (obtain ⟨hq, hp⟩ := hp; first | (obtain ⟨_, hv, rfl⟩ := hq rfl _ _ rfl rfl; clear hq) | (obtain ⟨_, hv, hg⟩ := hq rfl _ _ rfl rfl; clear hq) | clear hq)); clear hp; clear hb; go_simp; exact hK _ _ rfl hI (fun _ _ h => h)
    · intro A W hI hb hp K hK; (repeat (obtain ⟨hq, hp⟩ := hp; first | (obtain ⟨_, hv, rfl⟩ := hq rfl _ _ rfl rfl; clear hq) | (obtain ⟨_, hv, hg⟩ := hq rfl _ _ rfl rfl; clear hq) | clear hq)); clear hp; clear hb; go_simp; exact hK _ _ rfl hI (fun _ _ h => h)
    · intro A W hI hb hp K hK; (repeat (obtain ⟨hq, hp⟩ := hp; first | (obtain ⟨_, hv, rfl⟩ := hq rfl _ _ rfl rfl; clear hq) | (obtain ⟨_, hv, hg⟩ := hq rfl _ _ rfl rfl; clear hq) | clear hq)); clear hp; clear hb; obtain ⟨⟨c2, hE⟩, hV, hG⟩ := hI; have c1 : W.cell? ⟨g, 2, none⟩ = some c2 := hE.cell 2; have f1 := hE.frozen 2; go_simp; refine hK undef _ ?_ ⟨⟨_, hE.set 2 _⟩, By.far hV (HF.out 2) _, grown_set hG 2 _⟩ (fun j u hg => by revert hg; dsimp only; split <;> first | exact id | exact fun _ => (hE.set 2 (.int .u16 (n4 : Int))).cell 2 | (intro h; simpa [go_sem] using h)); exact (hE.set 2 (.int .u16 (n4 : Int))).cell 2
  case hfin =>
  clear hi
  intro vf W hgd hI hno
  obtain ⟨_, f2⟩ := hno 7 _ rfl rfl
  obtain ⟨⟨c2, hE⟩, hV, hG⟩ := hI
  obtain rfl : c2 = .int .u16 (n4 : Int) := Option.some.inj ((hE.cell 2).symm.trans f2)
  clear hgd hno f2
  simp only [fillAct, List.foldl_cons, List.foldl_nil, List.setIfInBounds_toArray, List.set_cons_zero, List.set_cons_succ]
  have HE2 := Lib.hid hE
  have HV2 := hV
  have HG2 := hG
  clear hE hV hG
  go_wp2_with (first
    | (go_at_call 101; refine (get24 _ _ _ (By.cut HV2.out (a := 6) (b := d.length) (by omega) (Nat.le_refl _) rfl rfl (fun _ g' o' e => by cases e; rfl)) (by simp; omega)).mono ?_; rw [cut_take _ _ _ (by omega), ← N6.out]; rintro e w1 ⟨rfl, hb1⟩; have B1 := HE2.out.below hb1 HE2.out.lt; have e1 := B1.cell 3; have ef := B1.frozen; have HV3 := Lib.hid ((HV2.out.below hb1).far (p := ⟨g, 3, none⟩) (HF.out 3) (.int .u32 (n6 : Int))); have HB3 := Lib.hid (B1.set 3 (.int .u32 (n6 : Int))); have HG3 := Lib.hid (grown_set (grown_trans HG2.out (grown_below hb1)) 3 (.int .u32 (n6 : Int))); clear HV2 HE2 HG2 B1 hb1)
    | (go_at_call 101; refine (get24 _ _ _ (By.cut HV3.out (a := 9) (b := d.length) (by omega) (Nat.le_refl _) rfl rfl (fun _ g' o' e => by cases e; rfl)) (by simp; omega)).mono ?_; rw [cut_take _ _ _ (by omega), ← N9.out]; rintro e w1 ⟨rfl, hb1⟩; have B1 := HB3.out.below hb1 HB3.out.lt; have e1 := B1.cell 4; have ef := B1.frozen; have HV4 := Lib.hid ((HV3.out.below hb1).far (p := ⟨g, 4, none⟩) (HF.out 4) (.int .u32 (n9 : Int))); have HB4 := Lib.hid (B1.set 4 (.int .u32 (n9 : Int))); have HG4 := Lib.hid (grown_set (grown_trans HG3.out (grown_below hb1)) 4 (.int .u32 (n9 : Int))); clear HV3 HB3 HG3 B1 hb1))
  go_ret
  refine ⟨rfl, ?_, HG4.out⟩
  have e : [Value.int .u8 (b.toNat : Int), .int .u32 (n1 : Int), .int .u16 (n4 : Int), .int .u32 (n6 : Int), .int .u32 (n9 : Int)] = (handOf d).cells.toList := by
    rw [N1.out, N4.out, N6.out, N9.out, show b = (handOf d).t by rw [HE.out]; rfl]; rfl
  rw [← e]
  exact HB4.out
end Go.Proofs.YtdnjkjoioabhhaaDoor

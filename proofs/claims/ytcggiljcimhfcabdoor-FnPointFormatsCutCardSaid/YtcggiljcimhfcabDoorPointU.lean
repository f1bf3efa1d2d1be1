/- Contracts of SupportedPointFormats.Unmarshal. -/
import Derived.Test.YtcggiljcimhfcabDoorGet16
import Derived.Test.YtcggiljcimhfcabDoorRegion
import Derived.Test.YtcggiljcimhfcabDoorSent
import Derived.Test.YtcggiljcimhfcabDoorEnds
namespace Go.Proofs.YtcggiljcimhfcabDoor
open Go.RowKit
set_option maxRecDepth 100000

theorem typePF (w : World) (cs : Array Value) : Calls Tryd.prog 11 #[.agg cs] w fun e w' => e = .returned (.int .u16 11) ∧ Below w.heap.size w w' := by
  go_enter Tryd.func11, Tryd.ntmps11
  go_wp2
  go_ret
  exact ⟨rfl, (Below.refl _ _).alloc (Nat.le_refl _) _⟩
/-- An error alone. -/
def ErrPost (w : World) (e : Ending) (w' : World) : Prop := ∃ T x, e = .returned (.iface T x) ∧ Below w.heap.size w w'
theorem pf_short (w : World) (g : Nat) (v1 : Value) (d : List UInt8) (hv : By w v1 d) (hd : d.length < 5) (hs : Sent w 0) :
    Calls Tryd.prog 8 #[.pointer (some ⟨g, 0, none⟩), v1] w (ErrPost w) := by
  obtain ⟨A, c, rfl⟩ := hv.len
  obtain ⟨T, x, hs⟩ := hs
  have d1 : decide ((d.length : Int) < 5) = true := by simp; omega
  go_enter Tryd.func8, Tryd.ntmps8
  go_wp2
  go_ret
  exact ⟨_, _, rfl, Below.refl _ _⟩
set_option maxHeartbeats 1600000 in
theorem pf_cut (w : World) (g : Nat) (v1 : Value) (d : List UInt8) (n dl : Nat) (u : UInt8) (hB : Blk w g 43 [.slice none 0 0]) (hv : By w v1 d) (hd : 5 ≤ d.length) (hd' : d.length ≤ 2147483647) (hn : n ≤ 255)
    (h0 : nat (d.take 2) = 11) (h2 : nat ((d.drop 2).take 2) = dl) (hdl : dl = n + 1) (h4 : d[4]? = some u) (hu : u.toNat = n) (hs : Sent w 3) (hc : d.length < n + 5) :
    Calls Tryd.prog 8 #[.pointer (some ⟨g, 0, none⟩), v1] w (ErrPost w) := by
  obtain ⟨A, c, rfl, hlc, hr⟩ := hv.parts
  obtain ⟨g1, o1, rfl, hg1, hcell⟩ := hr (by omega)
  have c4 : w.cell? ⟨g1, o1 + 4, none⟩ = some (.int .u8 (u.toNat : Int)) := by
    rw [hcell 4 (by omega)]; rw [List.getElem?_eq_getElem (by omega)] at h4; rw [Option.some.inj h4]
  rw [hu] at c4
  have hg := hB.lt
  have HV := Lib.hid hv
  have HB := Lib.hid hB
  have H0 := Lib.hid h0
  have H2 := Lib.hid h2
  have hOK := rowOK_mk Tryd.underlying43 rfl (cs := #[.slice none 0 0]) (by kernel_rfl) 43 (0, 0)
  have hdl2 : dl ≤ 256 := by omega
  have d2 : decide ((d.length : Int) - 4 < (dl : Int)) = true := by simp; omega
  clear hr hcell hv hB h0 h2 h4 hu hdl
  have d1 : decide ((d.length : Int) < 5) = false := by simp; omega
  go_enter Tryd.func8, Tryd.ntmps8
  go_wp2
  have x1 : IntKind.i64.wrap (dl : Int) = (dl : Int) := by simp [IntKind.wrap, IntKind.bits, IntKind.signed]; omega
  have x2 : IntKind.i64.wrap (n : Int) = (n : Int) := by simp [IntKind.wrap, IntKind.bits, IntKind.signed]; omega
  have i4 : (4 : Int) ≤ (c : Int) := by omega
  have i5 : ¬ c = 2 := by omega
  refine wp_region_inv (by kernel_rfl) [13, 14, 15, 16, 17, 5] (fun i v W => match i with
    | 0 => v = .agg #[]
    | 1 => v = .slice (some ⟨g1, o1, none⟩) d.length c
    | 2 => By W v ((d.drop 2).take 2)
    | 3 => v = .int .u16 ((dl : Int) : Int)
    | 4 => v = .int .i64 ((dl : Int) : Int)
    | 5 => v = .int .i64 ((dl : Int) : Int)
    | _ => True) (Kept w) ?hinv0 (by kernel_rfl) (by kernel_rfl) (by kernel_rfl) (by kernel_rfl) ?hsteps ?hfin
  case hinv0 => exact ⟨(Below.refl _ _).drew⟩
  case hsteps =>
    refine ⟨?_, ?_, ?_, ?_, ?_, ?_, trivial⟩
    · intro A W hI hb hp K hK; (repeat (obtain ⟨hq, hp⟩ := hp; first | (obtain ⟨_, hv, rfl⟩ := hq rfl _ _ rfl rfl; clear hq) | (obtain ⟨_, hv, hg⟩ := hq rfl _ _ rfl rfl; clear hq) | clear hq)); clear hp; clear hb; go_simp; exact hK _ _ rfl hI (fun _ _ h => h)
    · intro A W hI hb hp K hK; (repeat (obtain ⟨hq, hp⟩ := hp; first | (obtain ⟨_, hv, rfl⟩ := hq rfl _ _ rfl rfl; clear hq) | (obtain ⟨_, hv, hg⟩ := hq rfl _ _ rfl rfl; clear hq) | clear hq)); clear hp; have b1 := hb 1 (by decide); clear hb; go_simp; exact hK _ _ rfl hI (fun _ _ h => h)
    · intro A W hI hb hp K hK; (repeat (obtain ⟨hq, hp⟩ := hp; first | (obtain ⟨_, hv, rfl⟩ := hq rfl _ _ rfl rfl; clear hq) | (obtain ⟨_, hv, hg⟩ := hq rfl _ _ rfl rfl; clear hq) | clear hq)); clear hp; clear hb; go_simp; exact hK _ _ (By.cut (HV.out.below hI.below) (a := 2) (b := 4) (by omega) (by omega) rfl rfl (fun _ g' o' e => by cases e; rfl)) hI (fun _ _ h => h)
    · intro A W hI hb hp K hK; (repeat (obtain ⟨hq, hp⟩ := hp; first | (obtain ⟨_, hv, rfl⟩ := hq rfl _ _ rfl rfl; clear hq) | (obtain ⟨_, hv, hg⟩ := hq rfl _ _ rfl rfl; clear hq) | clear hq)); clear hp; clear hb; go_simp; refine (get16 _ _ _ hg (by simp; omega)).mono ?_; rintro e w1 ⟨rfl, hb1⟩; rw [List.take_take, Nat.min_self, H2.out]; exact hK _ _ rfl (hI.step hb1) (fun j u hg => by revert hg; dsimp only; split <;> first | exact id | exact fun h => By.below h hb1)
    · intro A W hI hb hp K hK; (repeat (obtain ⟨hq, hp⟩ := hp; first | (obtain ⟨_, hv, rfl⟩ := hq rfl _ _ rfl rfl; clear hq) | (obtain ⟨_, hv, hg⟩ := hq rfl _ _ rfl rfl; clear hq) | clear hq)); clear hp; clear hb; go_simp; exact hK _ _ rfl hI (fun _ _ h => h)
    · intro A W hI hb hp K hK; (repeat (obtain ⟨hq, hp⟩ := hp; first | (obtain ⟨_, hv, rfl⟩ := hq rfl _ _ rfl rfl; clear hq) | (obtain ⟨_, hv, hg⟩ := hq rfl _ _ rfl rfl; clear hq) | clear hq)); clear hp; clear hb; go_simp; exact hK _ _ rfl hI (fun _ _ h => h)
  case hfin =>
  intro vf W hgd hI
  have e5 : vf 5 = _ := hgd.2.2.2.2.2.1 5 rfl
  simp only [fillAct, List.foldl_cons, List.foldl_nil, List.setIfInBounds_toArray, List.set_cons_zero, List.set_cons_succ]
  rw [e5]
  clear hgd e5
  have c4' := (hI.below.cell (p := ⟨g1, o1 + 4, none⟩) hg1).trans c4
  have i6 : (4 : Int) < (d.length : Int) := by omega
  go_wp2
  refine wp_region_inv (by kernel_rfl) [23, 24, 25, 26, 27, 28, 29, 30, 22] (fun i v W => match i with
    | 0 => v = .agg #[]
    | 1 => v = .slice (some ⟨g1, o1, none⟩) d.length c
    | 2 => v = .int .u16 ((11 : Int) : Int)
    | 3 => v = .pointer (some ⟨g, 0, none⟩)
    | 4 => v = .pointer (some ⟨g, 0, none⟩)
    | 5 => v = .agg #[.slice none 0 0]
    | 6 => v = .int .u16 ((11 : Int) : Int)
    | 7 => v = .bool false
    | 8 => v = .bool false
    | _ => True) (Kept w) ?hinv0 (by kernel_rfl) (by kernel_rfl) (by kernel_rfl) (by kernel_rfl) ?hsteps ?hfin
  case hinv0 => exact hI.drew
  case hsteps =>
    clear hI
    refine ⟨?_, ?_, ?_, ?_, ?_, ?_, ?_, ?_, ?_, trivial⟩
    · intro A W hI hb hp K hK; (repeat (obtain ⟨hq, hp⟩ := hp; first | (obtain ⟨_, hv, rfl⟩ := hq rfl _ _ rfl rfl; clear hq) | (obtain ⟨_, hv, hg⟩ := hq rfl _ _ rfl rfl; clear hq) | clear hq)); clear hp; clear hb; go_simp; exact hK _ _ rfl hI (fun _ _ h => h)
    · intro A W hI hb hp K hK; (repeat (obtain ⟨hq, hp⟩ := hp; first | (obtain ⟨_, hv, rfl⟩ := hq rfl _ _ rfl rfl; clear hq) | (obtain ⟨_, hv, hg⟩ := hq rfl _ _ rfl rfl; clear hq) | clear hq)); clear hp; have b1 := hb 1 (by decide); clear hb; go_simp; exact hK _ _ rfl hI (fun _ _ h => h)
    · intro A W hI hb hp K hK; (repeat (obtain ⟨hq, hp⟩ := hp; first | (obtain ⟨_, hv, rfl⟩ := hq rfl _ _ rfl rfl; clear hq) | (obtain ⟨_, hv, hg⟩ := hq rfl _ _ rfl rfl; clear hq) | clear hq)); clear hp; clear hb; go_simp; refine (get16 _ _ _ (HV.out.below hI.below) (by omega)).mono ?_; rintro e w1 ⟨rfl, hb1⟩; rw [H0.out]; exact hK _ _ rfl (hI.step hb1) (fun _ _ h => h)
    · intro A W hI hb hp K hK; (repeat (obtain ⟨hq, hp⟩ := hp; first | (obtain ⟨_, hv, rfl⟩ := hq rfl _ _ rfl rfl; clear hq) | (obtain ⟨_, hv, hg⟩ := hq rfl _ _ rfl rfl; clear hq) | clear hq)); clear hp; have b1 := hb 0 (by decide); clear hb; go_simp; exact hK _ _ rfl hI (fun _ _ h => h)
    · intro A W hI hb hp K hK; (repeat (obtain ⟨hq, hp⟩ := hp; first | (obtain ⟨_, hv, rfl⟩ := hq rfl _ _ rfl rfl; clear hq) | (obtain ⟨_, hv, hg⟩ := hq rfl _ _ rfl rfl; clear hq) | clear hq)); clear hp; clear hb; go_simp; exact hK _ _ rfl hI (fun _ _ h => h)
    · intro A W hI hb hp K hK; (repeat (obtain ⟨hq, hp⟩ := hp; first | (obtain ⟨_, hv, rfl⟩ := hq rfl _ _ rfl rfl; clear hq) | (obtain ⟨_, hv, hg⟩ := hq rfl _ _ rfl rfl; clear hq) | clear hq)); clear hp; clear hb; have i1 : objAt W g = some (.cells #[.slice none 0 0] 43 (0, 0)) := (objAt_below hI.below g hg).trans HB.out; go_simp; exact hK _ _ rfl hI (fun _ _ h => h)
    · intro A W hI hb hp K hK; (repeat (obtain ⟨hq, hp⟩ := hp; first | (obtain ⟨_, hv, rfl⟩ := hq rfl _ _ rfl rfl; clear hq) | (obtain ⟨_, hv, hg⟩ := hq rfl _ _ rfl rfl; clear hq) | clear hq)); clear hp; clear hb; go_simp; refine (typePF _ _).mono ?_; rintro e w1 ⟨rfl, hb1⟩; exact hK _ _ rfl (hI.step hb1) (fun _ _ h => h)
    · intro A W hI hb hp K hK; (repeat (obtain ⟨hq, hp⟩ := hp; first | (obtain ⟨_, hv, rfl⟩ := hq rfl _ _ rfl rfl; clear hq) | (obtain ⟨_, hv, hg⟩ := hq rfl _ _ rfl rfl; clear hq) | clear hq)); clear hp; clear hb; go_simp; exact hK _ _ rfl hI (fun _ _ h => h)
    · intro A W hI hb hp K hK; (repeat (obtain ⟨hq, hp⟩ := hp; first | (obtain ⟨_, hv, rfl⟩ := hq rfl _ _ rfl rfl; clear hq) | (obtain ⟨_, hv, hg⟩ := hq rfl _ _ rfl rfl; clear hq) | clear hq)); clear hp; clear hb; go_simp; exact hK _ _ rfl hI (fun _ _ h => h)
  case hfin =>
  clear hI c4'
  intro vf2 W2 hgd hI
  have e22 : vf2 22 = _ := hgd.2.2.2.2.2.2.2.2.1 22 rfl
  simp only [fillAct, List.foldl_cons, List.foldl_nil, List.setIfInBounds_toArray, List.set_cons_zero, List.set_cons_succ]
  rw [e22]
  clear hgd e22
  obtain ⟨T, x, hsc⟩ := hs.below hI.below
  go_wp2
  go_ret
  exact ⟨_, _, rfl, hI.below⟩

theorem Tryd.infoPF : (Tryd.prog.info? 54).map (fun i => (i.zero, i.size, i.bytes)) = some (some (.int .u8 0), 1, 1) := by kernel_rfl
theorem own_form {w : World} {B n : Nat} {e : TypeId} {v : Value} {xs : List Value} (h : w.ownsRow B e 1 v n xs) (hn : 0 < n) : ∃ g c, v = .slice (some ⟨g, 0, none⟩) n c ∧ B ≤ g := by
  rcases h.2 with ⟨_, h0⟩ | ⟨g, c, cur, hv, hg, _⟩
  · omega
  · exact ⟨g, c, hv, hg⟩
/-- The list of points' formats stands in the block; nothing else of w is changed. -/
def PFAt (w : World) (g n : Nat) (w' : World) : Prop := ∃ v, Blk w' g 43 [v] ∧ Sl w' v (List.replicate n (.int .u8 0)) ∧ w.grownBy w' (some g)
set_option maxHeartbeats 1600000 in
theorem pf_whole (w : World) (g : Nat) (v1 : Value) (d : List UInt8) (n dl : Nat) (u : UInt8) (hB : Blk w g 43 [.slice none 0 0]) (hv : By w v1 d) (hne : v1.ownBlock ≠ some g) (hd : d.length = n + 5) (hn : n ≤ 255)
    (h0 : nat (d.take 2) = 11) (h2 : nat ((d.drop 2).take 2) = dl) (hdl : dl = n + 1) (h4 : d[4]? = some u) (hu : u.toNat = n) (hz : ∀ k, k < n → d[5 + k]? = some 0) :
    Calls Tryd.prog 8 #[.pointer (some ⟨g, 0, none⟩), v1] w fun e w' => e = .returned .nilIface ∧ PFAt w g n w' := by
  obtain ⟨A, c, rfl, hlc, hr⟩ := hv.parts
  obtain ⟨g1, o1, rfl, hg1, hcell⟩ := hr (by omega)
  have c4 : w.cell? ⟨g1, o1 + 4, none⟩ = some (.int .u8 (u.toNat : Int)) := by
    rw [hcell 4 (by omega)]; rw [List.getElem?_eq_getElem (by omega)] at h4; rw [Option.some.inj h4]
  rw [hu] at c4
  have c5 : ∀ k, k < n → w.cell? ⟨g1, o1 + (5 + k), none⟩ = some (.int .u8 0) := fun k hk => by
    have h := hz k hk
    rw [hcell (5 + k) (by omega)]; rw [List.getElem?_eq_getElem (by omega)] at h; rw [Option.some.inj h]; rfl
  have hgg : g1 ≠ g := fun h => hne (by rw [h]; rfl)
  obtain ⟨i0, hi0, hz0, hz1, hz2⟩ := info_parts Tryd.infoPF
  have hg := hB.lt
  have HV := Lib.hid hv
  have HB := Lib.hid hB
  have H0 := Lib.hid h0
  have H2 := Lib.hid h2
  have HC5 := Lib.hid c5
  have HG := Lib.hid hgg
  have hOK := rowOK_mk Tryd.underlying43 rfl (cs := #[.slice none 0 0]) (by kernel_rfl) 43 (0, 0)
  have hdl2 : dl ≤ 256 := by omega
  have d2 : decide ((d.length : Int) - 4 < (dl : Int)) = false := by simp; omega
  have d3 : decide ((d.length : Int) < 5 + (n : Int)) = false := by simp; omega
  have d4 : ((n : Int) + 1 != (dl : Int)) = false := by rw [hdl]; simp
  have hd' : d.length ≤ 2147483647 := by omega
  have hd5 : 5 ≤ d.length := by omega
  have hdn : n + 5 ≤ d.length := by omega
  clear hr hcell hv hB h0 h2 h4 hu hdl c5 hz hne hd hgg
  have d1 : decide ((d.length : Int) < 5) = false := by simp; omega
  go_enter Tryd.func8, Tryd.ntmps8
  go_wp2
  have x1 : IntKind.i64.wrap (dl : Int) = (dl : Int) := by simp [IntKind.wrap, IntKind.bits, IntKind.signed]; omega
  have x2 : IntKind.i64.wrap (n : Int) = (n : Int) := by simp [IntKind.wrap, IntKind.bits, IntKind.signed]; omega
  have i4 : (4 : Int) ≤ (c : Int) := by omega
  have i5 : ¬ c = 2 := by omega
  refine wp_region_inv (by kernel_rfl) [13, 14, 15, 16, 17, 5] (fun i v W => match i with
    | 0 => v = .agg #[]
    | 1 => v = .slice (some ⟨g1, o1, none⟩) d.length c
    | 2 => By W v ((d.drop 2).take 2)
    | 3 => v = .int .u16 ((dl : Int) : Int)
    | 4 => v = .int .i64 ((dl : Int) : Int)
    | 5 => v = .int .i64 ((dl : Int) : Int)
    | _ => True) (Kept w) ?hinv0 (by kernel_rfl) (by kernel_rfl) (by kernel_rfl) (by kernel_rfl) ?hsteps ?hfin
  case hinv0 => exact ⟨(Below.refl _ _).drew⟩
  case hsteps =>
    refine ⟨?_, ?_, ?_, ?_, ?_, ?_, trivial⟩
    · intro A W hI hb hp K hK; (repeat (obtain ⟨hq, hp⟩ := hp; first | (obtain ⟨_, hv, rfl⟩ := hq rfl _ _ rfl rfl; clear hq) | (obtain ⟨_, hv, hg⟩ := hq rfl _ _ rfl rfl; clear hq) | clear hq)); clear hp; clear hb; go_simp; exact hK _ _ rfl hI (fun _ _ h => h)
    · intro A W hI hb hp K hK; (repeat (obtain ⟨hq, hp⟩ := hp; first | (obtain ⟨_, hv, rfl⟩ := hq rfl _ _ rfl rfl; clear hq) | (obtain ⟨_, hv, hg⟩ := hq rfl _ _ rfl rfl; clear hq) | clear hq)); clear hp; have b1 := hb 1 (by decide); clear hb; go_simp; exact hK _ _ rfl hI (fun _ _ h => h)
    · intro A W hI hb hp K hK; (repeat (obtain ⟨hq, hp⟩ := hp; first | (obtain ⟨_, hv, rfl⟩ := hq rfl _ _ rfl rfl; clear hq) | (obtain ⟨_, hv, hg⟩ := hq rfl _ _ rfl rfl; clear hq) | clear hq)); clear hp; clear hb; go_simp; exact hK _ _ (By.cut (HV.out.below hI.below) (a := 2) (b := 4) (by omega) (by omega) rfl rfl (fun _ g' o' e => by cases e; rfl)) hI (fun _ _ h => h)
    · intro A W hI hb hp K hK; (repeat (obtain ⟨hq, hp⟩ := hp; first | (obtain ⟨_, hv, rfl⟩ := hq rfl _ _ rfl rfl; clear hq) | (obtain ⟨_, hv, hg⟩ := hq rfl _ _ rfl rfl; clear hq) | clear hq)); clear hp; clear hb; go_simp; refine (get16 _ _ _ hg (by simp; omega)).mono ?_; rintro e w1 ⟨rfl, hb1⟩; rw [List.take_take, Nat.min_self, H2.out]; exact hK _ _ rfl (hI.step hb1) (fun j u hg => by revert hg; dsimp only; split <;> first | exact id | exact fun h => By.below h hb1)
    · intro A W hI hb hp K hK; (repeat (obtain ⟨hq, hp⟩ := hp; first | (obtain ⟨_, hv, rfl⟩ := hq rfl _ _ rfl rfl; clear hq) | (obtain ⟨_, hv, hg⟩ := hq rfl _ _ rfl rfl; clear hq) | clear hq)); clear hp; clear hb; go_simp; exact hK _ _ rfl hI (fun _ _ h => h)
    · intro A W hI hb hp K hK; (repeat (obtain ⟨hq, hp⟩ := hp; first | (obtain ⟨_, hv, rfl⟩ := hq rfl _ _ rfl rfl; clear hq) | (obtain ⟨_, hv, hg⟩ := hq rfl _ _ rfl rfl; clear hq) | clear hq)); clear hp; clear hb; go_simp; exact hK _ _ rfl hI (fun _ _ h => h)
  case hfin =>
  intro vf W hgd hI
  have e5 : vf 5 = _ := hgd.2.2.2.2.2.1 5 rfl
  simp only [fillAct, List.foldl_cons, List.foldl_nil, List.setIfInBounds_toArray, List.set_cons_zero, List.set_cons_succ]
  rw [e5]
  clear hgd e5
  have c4' := (hI.below.cell (p := ⟨g1, o1 + 4, none⟩) hg1).trans c4
  have i6 : (4 : Int) < (d.length : Int) := by omega
  go_wp2
  refine wp_region_inv (by kernel_rfl) [23, 24, 25, 26, 27, 28, 29, 30, 22] (fun i v W => match i with
    | 0 => v = .agg #[]
    | 1 => v = .slice (some ⟨g1, o1, none⟩) d.length c
    | 2 => v = .int .u16 ((11 : Int) : Int)
    | 3 => v = .pointer (some ⟨g, 0, none⟩)
    | 4 => v = .pointer (some ⟨g, 0, none⟩)
    | 5 => v = .agg #[.slice none 0 0]
    | 6 => v = .int .u16 ((11 : Int) : Int)
    | 7 => v = .bool false
    | 8 => v = .bool false
    | _ => True) (Kept w) ?hinv0 (by kernel_rfl) (by kernel_rfl) (by kernel_rfl) (by kernel_rfl) ?hsteps ?hfin
  case hinv0 => exact hI.drew
  case hsteps =>
    clear hI
    refine ⟨?_, ?_, ?_, ?_, ?_, ?_, ?_, ?_, ?_, trivial⟩
    · intro A W hI hb hp K hK; (repeat (obtain ⟨hq, hp⟩ := hp; first | (obtain ⟨_, hv, rfl⟩ := hq rfl _ _ rfl rfl; clear hq) | (obtain ⟨_, hv, hg⟩ := hq rfl _ _ rfl rfl; clear hq) | clear hq)); clear hp; clear hb; go_simp; exact hK _ _ rfl hI (fun _ _ h => h)
    · intro A W hI hb hp K hK; (repeat (obtain ⟨hq, hp⟩ := hp; first | (obtain ⟨_, hv, rfl⟩ := hq rfl _ _ rfl rfl; clear hq) | (obtain ⟨_, hv, hg⟩ := hq rfl _ _ rfl rfl; clear hq) | clear hq)); clear hp; have b1 := hb 1 (by decide); clear hb; go_simp; exact hK _ _ rfl hI (fun _ _ h => h)
    · intro A W hI hb hp K hK; (repeat (obtain ⟨hq, hp⟩ := hp; first | (obtain ⟨_, hv, rfl⟩ := hq rfl _ _ rfl rfl; clear hq) | (obtain ⟨_, hv, hg⟩ := hq rfl _ _ rfl rfl; clear hq) | clear hq)); clear hp; clear hb; go_simp; refine (get16 _ _ _ (HV.out.below hI.below) (by omega)).mono ?_; rintro e w1 ⟨rfl, hb1⟩; rw [H0.out]; exact hK _ _ rfl (hI.step hb1) (fun _ _ h => h)
    · intro A W hI hb hp K hK; (repeat (obtain ⟨hq, hp⟩ := hp; first | (obtain ⟨_, hv, rfl⟩ := hq rfl _ _ rfl rfl; clear hq) | (obtain ⟨_, hv, hg⟩ := hq rfl _ _ rfl rfl; clear hq) | clear hq)); clear hp; have b1 := hb 0 (by decide); clear hb; go_simp; exact hK _ _ rfl hI (fun _ _ h => h)
    · intro A W hI hb hp K hK; (repeat (obtain ⟨hq, hp⟩ := hp; first | (obtain ⟨_, hv, rfl⟩ := hq rfl _ _ rfl rfl; clear hq) | (obtain ⟨_, hv, hg⟩ := hq rfl _ _ rfl rfl; clear hq) | clear hq)); clear hp; clear hb; go_simp; exact hK _ _ rfl hI (fun _ _ h => h)
    · intro A W hI hb hp K hK; (repeat (obtain ⟨hq, hp⟩ := hp; first | (obtain ⟨_, hv, rfl⟩ := hq rfl _ _ rfl rfl; clear hq) | (obtain ⟨_, hv, hg⟩ := hq rfl _ _ rfl rfl; clear hq) | clear hq)); clear hp; clear hb; have i1 : objAt W g = some (.cells #[.slice none 0 0] 43 (0, 0)) := (objAt_below hI.below g hg).trans HB.out; go_simp; exact hK _ _ rfl hI (fun _ _ h => h)
    · intro A W hI hb hp K hK; (repeat (obtain ⟨hq, hp⟩ := hp; first | (obtain ⟨_, hv, rfl⟩ := hq rfl _ _ rfl rfl; clear hq) | (obtain ⟨_, hv, hg⟩ := hq rfl _ _ rfl rfl; clear hq) | clear hq)); clear hp; clear hb; go_simp; refine (typePF _ _).mono ?_; rintro e w1 ⟨rfl, hb1⟩; exact hK _ _ rfl (hI.step hb1) (fun _ _ h => h)
    · intro A W hI hb hp K hK; (repeat (obtain ⟨hq, hp⟩ := hp; first | (obtain ⟨_, hv, rfl⟩ := hq rfl _ _ rfl rfl; clear hq) | (obtain ⟨_, hv, hg⟩ := hq rfl _ _ rfl rfl; clear hq) | clear hq)); clear hp; clear hb; go_simp; exact hK _ _ rfl hI (fun _ _ h => h)
    · intro A W hI hb hp K hK; (repeat (obtain ⟨hq, hp⟩ := hp; first | (obtain ⟨_, hv, rfl⟩ := hq rfl _ _ rfl rfl; clear hq) | (obtain ⟨_, hv, hg⟩ := hq rfl _ _ rfl rfl; clear hq) | clear hq)); clear hp; clear hb; go_simp; exact hK _ _ rfl hI (fun _ _ h => h)
  case hfin =>
  clear hI c4'
  intro vf2 W2 hgd hI
  have e22 : vf2 22 = _ := hgd.2.2.2.2.2.2.2.2.1 22 rfl
  simp only [fillAct, List.foldl_cons, List.foldl_nil, List.setIfInBounds_toArray, List.set_cons_zero, List.set_cons_succ]
  rw [e22]
  clear hgd e22
  go_wp2
  go_loopg [7, 8, 53] n (fun m _ _ x wr => ∃ (k : Nat) (v : Value), k ≤ n ∧ m = n - k ∧ x = .int .i64 (k : Int) ∧ Hid (Blk wr g 43 [v]) ∧ Hid (wr.ownsRow w.heap.size 54 1 v k (List.replicate k (.int .u8 0))) ∧ Hid (w.grownBy wr (some g)))
  case atStart => exact ⟨0, .slice none 0 0, Nat.zero_le _, rfl, rfl, HB.out.below hI.below hg, World.ownsRow_nil _ _ _ _, grown_below hI.below⟩
  case round =>
    clear hI
    obtain ⟨k, v, hk, rfl, rfl, HBr, Hown, Hgr⟩ := hrel
    by_cases hlt : k < n
    rotate_left
    · obtain rfl : k = n := by omega
      go_wp2
      go_ret
      exact ⟨rfl, v, HBr.out, Sl.of_own Hown.out, Hgr.out⟩
    have c0 : wr.cell? ⟨g1, o1 + (5 + k), none⟩ = some (.int .u8 0) := by
      have h := HC5.out k hlt
      have hb := Hgr.out.block g1 hg1 (fun e => HG.out (Option.some.inj e))
      rw [← h]; simp only [World.cell?, hb]
    have i7 : (5 : Int) + (k : Int) < (d.length : Int) := by omega
    have b0 : wr.cell? ⟨g, 0, none⟩ = some v := HBr.out.cell 0
    have hws := Hgr.out.size
    have hgr := HBr.out.lt
    have hob : v.ownBlock ≠ some g := fun h => by have := (Hown.out.lt g h).1; omega
    go_wp2_with (at_builtin; refine wpList_append_one rfl _ _ 41 rfl w.heap.size 54 i0 _ 1 Tryd.underlying41 hi0 hz0 hz1 hz2 rfl v k (List.replicate k (.int .u8 0)) rfl (Hown.out.alloc _) wr.heap.size _ _ rfl (by simp [go_sem]; rfl) rfl (by simp only [maxLen]; omega) (by omega) (by (try simp only [Lib.bytesWorld_size, World.size_drew, drewN_size, World.size_alloc, World.size_setCell] at *); first | done | omega) ?_; intro v' w2 hown2 hg2; obtain ⟨g3, c3, rfl, hg3⟩ := own_form hown2 (by omega); have B2 : Blk w2 g 43 [v] := (hg2.block g (by simp; omega) (fun e => hob e.symm)).trans (HBr.out.alloc _); have b2 := B2.cell 0; have f2 := B2.frozen 0; have HB2 := Lib.hid B2; have HO2 := Lib.hid hown2; have HG2 := Lib.hid hg2; clear hown2 hg2 B2)
    go_roundg (n - (k + 1))
    case measure => omega
    case rel =>
      refine ⟨k + 1, _, by omega, rfl, by go_num, HB2.out.set 0 _, ?_, ?_⟩
      · have h := HO2.out.kept (row := some g) (grown_set (World.grownBy.refl _ _) 0 (.slice (some ⟨g3, 0, none⟩) (k + 1) c3)) (.inr (fun e => by have e' : g3 = g := Option.some.inj e; omega))
        show World.ownsRow _ _ _ _ _ _ _
        rw [List.replicate_succ']
        exact h
      · refine grown_set ⟨HG2.out.os.trans Hgr.out.os, HG2.out.tape.trans Hgr.out.tape, HG2.out.output.trans Hgr.out.output, ?_, fun kk hkk hne => ?_⟩ 0 _
        · have := HG2.out.size; (try simp only [Lib.bytesWorld_size, World.size_drew, drewN_size, World.size_alloc, World.size_setCell] at *); first | done | omega
        · exact (HG2.out.block kk (by simp; omega) (fun e => by have := (Hown.out.lt kk e.symm).1; omega)).trans ((Below.heap_alloc wr _ kk (by omega)).trans (Hgr.out.block kk hkk hne))
end Go.Proofs.YtcggiljcimhfcabDoor

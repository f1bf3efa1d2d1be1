/- SupportedEllipticCurves.Unmarshal: a whole list of groups is read. -/
import Derived.Test.YtdnjkjoioabhhaaDoorGroups
import Derived.Test.YtdnjkjoioabhhaaDoorGet16
import Derived.Test.YtdnjkjoioabhhaaDoorStore
import Derived.WalkSpells
namespace Go.Proofs.YtdnjkjoioabhhaaDoor
open Go.RowKit
set_option maxRecDepth 100000

theorem typeGroups (w : World) (v : Value) : Calls Tryd.prog 97 #[.agg #[v]] w fun e w' => e = .returned (.int .u16 10) ∧ Below w.heap.size w w' := by
  go_enter Tryd.func97, Tryd.ntmps97
  go_wp2
  go_ret
  exact ⟨rfl, (Below.refl _ _).alloc (Nat.le_refl _) _⟩
theorem Tryd.infoCurve : (Tryd.prog.info? 171).map (fun i => (i.zero, i.size, i.bytes)) = some (some (.int .u16 0), 1, 2) := by kernel_rfl
theorem owns_step {W W' : World} {e : TypeId} {v : Value} {n : Nat} {xs : List Value} {B : Nat} (h : W.ownsRow B e 1 v n xs) (hb : Below W.heap.size W W') : W'.ownsRow B e 1 v n xs :=
  h.kept (row := none) (grown_below hb) (by cases v.ownBlock <;> simp)
theorem by_other {w w' : World} {g g1 o1 n c : Nat} {l : List UInt8} (h : By w (.slice (some ⟨g1, o1, none⟩) n c) l) (hg : w.grownBy w' (some g)) (hne : g1 ≠ g) : By w' (.slice (some ⟨g1, o1, none⟩) n c) l := by
  obtain ⟨A, c', e, hc, hr⟩ := h.parts
  injection e with e1 e2 e3
  subst e1 e2 e3
  refine By.mk hc fun h0 => ?_
  obtain ⟨g', o', e', hlt, hr0⟩ := hr h0
  cases e'
  exact ⟨g1, o1, rfl, fun j hj => (World.cell?_of_block (a := ⟨g1, o1 + j, none⟩) (hg.block g1 hlt (fun e => hne (Option.some.inj e)))).trans (hr0 j hj)⟩
theorem own_place {w : World} {B n : Nat} {e : TypeId} {v : Value} {xs : List Value} (h : w.ownsRow B e 1 v n xs) (hn : 0 < n) : ∃ g c, v = .slice (some ⟨g, 0, none⟩) n c ∧ B ≤ g := by
  rcases h.2 with ⟨_, h0⟩ | ⟨g, c, cur, hv, hg, _⟩
  · omega
  · exact ⟨g, c, hv, hg⟩
set_option maxHeartbeats 6400000 in
theorem groups_whole (w : World) (g : Nat) (v1 : Value) (d : List UInt8) (ns : List Nat) (hB : Blk w g 116 [.slice none 0 0]) (hv : By w v1 d) (hne : v1.ownBlock ≠ some g) (hn1 : 1 ≤ ns.length) (hn2 : ns.length < 1000)
    (hc : ∀ x ∈ ns, [23, 24, 29].contains x = true) (hd : d.length = 2 * ns.length + 6) (n0 : nat (d.take 2) = 10) (n2 : nat ((d.drop 2).take 2) = 2 * ns.length + 2) (n4 : nat ((d.drop 4).take 2) = 2 * ns.length)
    (nk : ∀ k (h : k < ns.length), nat ((d.drop (6 + 2 * k)).take 2) = ns[k]) :
    Calls Tryd.prog 62 #[.pointer (some ⟨g, 0, none⟩), v1] w fun e w' => e = .returned .nilIface ∧ ∃ v, Blk w' g 116 [v] ∧ Sl w' v (u16s ns) ∧ w.grownBy w' (some g) := by
  obtain ⟨A1, c, rfl, hlc, hr⟩ := hv.parts
  obtain ⟨g1, o1, rfl, hg1, hcell⟩ := hr (by omega)
  have hgg : g1 ≠ g := fun h => hne (by rw [h]; rfl)
  obtain ⟨i0, hi0, hz0, hz1, hz2⟩ := info_parts Tryd.infoCurve
  have hg := hB.lt
  obtain ⟨n, hnn⟩ : ∃ n, n = ns.length := ⟨_, rfl⟩
  rw [← hnn] at hn1 hn2 hd n2 n4
  obtain ⟨D, hD⟩ : ∃ D, D = 2 * n + 2 := ⟨_, rfl⟩
  obtain ⟨E, hE⟩ : ∃ E, E = 2 * n := ⟨_, rfl⟩
  rw [← hD] at n2
  rw [← hE] at n4
  have HV := Lib.hid hv
  have HB := Lib.hid hB
  have N0 := Lib.hid n0
  have N2 := Lib.hid n2
  have N4 := Lib.hid n4
  have NK := Lib.hid nk
  have HC := Lib.hid hc
  have HG := Lib.hid hgg
  have HNN := Lib.hid hnn
  have HD := Lib.hid hd
  have hOK := rowOK_mk Tryd.underlying116 rfl (cs := #[.slice none 0 0]) (by kernel_rfl) 116 (0, 0)
  have hDs : D < 65536 := by omega
  have hEs : E < 65536 := by omega
  have d1 : decide ((d.length : Int) < 6) = false := by simp; omega
  have d2 : decide ((d.length : Int) - 4 < (D : Int)) = false := by simp; omega
  have d3 : decide ((d.length : Int) < 6 + (n : Int) * 2) = false := by simp; omega
  have d4 : ((n : Int) * 2 + 2 != (D : Int)) = false := by simp; omega
  have q1 : (E : Int) / 2 = (n : Int) := by omega
  have q2 : Int.tdiv (E : Int) 2 = (n : Int) := by rw [Int.tdiv_eq_ediv_of_nonneg (by omega)]; omega
  have x1 : IntKind.i64.wrap (D : Int) = (D : Int) := by simp [IntKind.wrap, IntKind.bits, IntKind.signed]; omega
  have x2 : IntKind.i64.wrap (n : Int) = (n : Int) := by simp [IntKind.wrap, IntKind.bits, IntKind.signed]; omega
  have x3 : IntKind.u16.wrap (n : Int) = (n : Int) := by simp [IntKind.wrap, IntKind.bits, IntKind.signed]; omega
  have hd' : d.length ≤ 2006 := by omega
  have hd6 : 8 ≤ d.length := by omega
  have i4 : (4 : Int) ≤ (c : Int) := by omega
  have i4' : (4 : Int) ≤ (d.length : Int) := by omega
  have i5 : ¬ c = 2 := by omega
  have i6 : ¬ c = 4 := by omega
  clear hr hcell hv hB n0 n2 n4 nk hc hne hgg hnn hd hD hE
  go_enter Tryd.func62, Tryd.ntmps62
  go_wp2
  refine wp_region_inv (by kernel_rfl) [15, 16, 17, 18, 19, 5] (fun i v W => match i with
    | 0 => v = .agg #[]
    | 1 => v = .slice (some ⟨g1, o1, none⟩) d.length c
    | 2 => By W v ((d.drop 2).take 2)
    | 3 => v = .int .u16 ((D : Int) : Int)
    | 4 => v = .int .i64 ((D : Int) : Int)
    | 5 => v = .int .i64 ((D : Int) : Int)
    | _ => True) (Kept w) ?hinv0 (by kernel_rfl) (by kernel_rfl) (by kernel_rfl) (by kernel_rfl) ?hsteps ?hfin
  case hinv0 => exact ⟨(Below.refl _ _).drew⟩
  case hsteps =>
    refine ⟨?_, ?_, ?_, ?_, ?_, ?_, trivial⟩
    · intro A W hI hb hp K hK; (repeat (obtain ⟨hq, hp⟩ := hp; first | (obtain ⟨_, hv, rfl⟩ := hq rfl _ _ rfl rfl; clear hq) | (obtain ⟨_, hv, hg⟩ := hq rfl _ _ rfl rfl; clear hq) | clear hq)); clear hp; clear hb; go_simp; exact hK _ _ rfl hI (fun _ _ h => h)
    · intro A W hI hb hp K hK; (repeat (obtain ⟨hq, hp⟩ := hp; first | (obtain ⟨_, hv, rfl⟩ := hq rfl _ _ rfl rfl; clear hq) | (obtain ⟨_, hv, hg⟩ := hq rfl _ _ rfl rfl; clear hq) | clear hq)); clear hp; have b1 := hb 1 (by decide); clear hb; go_simp; exact hK _ _ rfl hI (fun _ _ h => h)
    · intro A W hI hb hp K hK; (repeat (obtain ⟨hq, hp⟩ := hp; first | (obtain ⟨_, hv, rfl⟩ := hq rfl _ _ rfl rfl; clear hq) | (obtain ⟨_, hv, hg⟩ := hq rfl _ _ rfl rfl; clear hq) | clear hq)); clear hp; clear hb; go_simp; exact hK _ _ (By.cut (HV.out.below hI.below) (a := 2) (b := 4) (by omega) (by omega) rfl rfl (fun _ g' o' e => by cases e; rfl)) hI (fun _ _ h => h)
    · intro A W hI hb hp K hK; (repeat (obtain ⟨hq, hp⟩ := hp; first | (obtain ⟨_, hv, rfl⟩ := hq rfl _ _ rfl rfl; clear hq) | (obtain ⟨_, hv, hg⟩ := hq rfl _ _ rfl rfl; clear hq) | clear hq)); clear hp; clear hb; go_simp; refine (get16 _ _ _ hg (by simp; omega)).mono ?_; rintro e w1 ⟨rfl, hb1⟩; rw [List.take_take, Nat.min_self, N2.out]; exact hK _ _ rfl (hI.step hb1) (fun j u hg => by revert hg; dsimp only; split <;> first | exact id | exact fun h => By.below h hb1)
    · intro A W hI hb hp K hK; (repeat (obtain ⟨hq, hp⟩ := hp; first | (obtain ⟨_, hv, rfl⟩ := hq rfl _ _ rfl rfl; clear hq) | (obtain ⟨_, hv, hg⟩ := hq rfl _ _ rfl rfl; clear hq) | clear hq)); clear hp; clear hb; go_simp; exact hK _ _ rfl hI (fun _ _ h => h)
    · intro A W hI hb hp K hK; (repeat (obtain ⟨hq, hp⟩ := hp; first | (obtain ⟨_, hv, rfl⟩ := hq rfl _ _ rfl rfl; clear hq) | (obtain ⟨_, hv, hg⟩ := hq rfl _ _ rfl rfl; clear hq) | clear hq)); clear hp; clear hb; go_simp; exact hK _ _ rfl hI (fun _ _ h => h)
  case hfin =>
  intro vf W hgd hI
  have e5 : vf 5 = _ := hgd.2.2.2.2.2.1 5 rfl
  simp only [fillAct, List.foldl_cons, List.foldl_nil, List.setIfInBounds_toArray, List.set_cons_zero, List.set_cons_succ]
  rw [e5]
  clear hgd e5
  go_wp2
  refine wp_region_inv (by kernel_rfl) [20, 21, 22, 23, 24, 25, 6] (fun i v W => match i with
    | 0 => v = .agg #[]
    | 1 => v = .slice (some ⟨g1, o1, none⟩) d.length c
    | 2 => By W v (d.drop 4)
    | 3 => v = .int .u16 ((E : Int) : Int)
    | 4 => v = .int .u16 ((n : Int) : Int)
    | 5 => v = .int .i64 ((n : Int) : Int)
    | 6 => v = .int .i64 ((n : Int) : Int)
    | _ => True) (Kept w) ?hinv0 (by kernel_rfl) (by kernel_rfl) (by kernel_rfl) (by kernel_rfl) ?hsteps ?hfin
  case hinv0 => exact hI.drew
  case hsteps =>
    clear hI
    refine ⟨?_, ?_, ?_, ?_, ?_, ?_, ?_, trivial⟩
    · intro A W hI hb hp K hK; (repeat (obtain ⟨hq, hp⟩ := hp; first | (obtain ⟨_, hv, rfl⟩ := hq rfl _ _ rfl rfl; clear hq) | (obtain ⟨_, hv, hg⟩ := hq rfl _ _ rfl rfl; clear hq) | clear hq)); clear hp; clear hb; go_simp; exact hK _ _ rfl hI (fun _ _ h => h)
    · intro A W hI hb hp K hK; (repeat (obtain ⟨hq, hp⟩ := hp; first | (obtain ⟨_, hv, rfl⟩ := hq rfl _ _ rfl rfl; clear hq) | (obtain ⟨_, hv, hg⟩ := hq rfl _ _ rfl rfl; clear hq) | clear hq)); clear hp; have b1 := hb 1 (by decide); clear hb; go_simp; exact hK _ _ rfl hI (fun _ _ h => h)
    · intro A W hI hb hp K hK; (repeat (obtain ⟨hq, hp⟩ := hp; first | (obtain ⟨_, hv, rfl⟩ := hq rfl _ _ rfl rfl; clear hq) | (obtain ⟨_, hv, hg⟩ := hq rfl _ _ rfl rfl; clear hq) | clear hq)); clear hp; clear hb; go_simp; exact hK _ _ (by have := By.cut (HV.out.below hI.below) (a := 4) (b := d.length) (A' := some ⟨g1, o1 + 4, none⟩) (m := d.length - 4) (c' := c - 4) (by omega) (Nat.le_refl _) rfl rfl (fun _ g' o' e => by cases e; rfl); rwa [List.take_of_length_le (by simp)] at this) hI (fun _ _ h => h)
    · intro A W hI hb hp K hK; (repeat (obtain ⟨hq, hp⟩ := hp; first | (obtain ⟨_, hv, rfl⟩ := hq rfl _ _ rfl rfl; clear hq) | (obtain ⟨_, hv, hg⟩ := hq rfl _ _ rfl rfl; clear hq) | clear hq)); clear hp; clear hb; go_simp; refine (get16 _ _ _ hg (by simp; omega)).mono ?_; rintro e w1 ⟨rfl, hb1⟩; rw [N4.out]; exact hK _ _ rfl (hI.step hb1) (fun j u hg => by revert hg; dsimp only; split <;> first | exact id | exact fun h => By.below h hb1)
    · intro A W hI hb hp K hK; (repeat (obtain ⟨hq, hp⟩ := hp; first | (obtain ⟨_, hv, rfl⟩ := hq rfl _ _ rfl rfl; clear hq) | (obtain ⟨_, hv, hg⟩ := hq rfl _ _ rfl rfl; clear hq) | clear hq)); clear hp; clear hb; go_simp; exact hK _ _ rfl hI (fun _ _ h => h)
    · intro A W hI hb hp K hK; (repeat (obtain ⟨hq, hp⟩ := hp; first | (obtain ⟨_, hv, rfl⟩ := hq rfl _ _ rfl rfl; clear hq) | (obtain ⟨_, hv, hg⟩ := hq rfl _ _ rfl rfl; clear hq) | clear hq)); clear hp; clear hb; go_simp; exact hK _ _ rfl hI (fun _ _ h => h)
    · intro A W hI hb hp K hK; (repeat (obtain ⟨hq, hp⟩ := hp; first | (obtain ⟨_, hv, rfl⟩ := hq rfl _ _ rfl rfl; clear hq) | (obtain ⟨_, hv, hg⟩ := hq rfl _ _ rfl rfl; clear hq) | clear hq)); clear hp; clear hb; go_simp; exact hK _ _ rfl hI (fun _ _ h => h)
  case hfin =>
  clear hI
  intro vf4 W4 hgd hI
  have e6 : vf4 6 = _ := hgd.2.2.2.2.2.2.1 6 rfl
  simp only [fillAct, List.foldl_cons, List.foldl_nil, List.setIfInBounds_toArray, List.set_cons_zero, List.set_cons_succ]
  rw [e6]
  clear hgd e6
  go_wp2
  refine wp_region_inv (by kernel_rfl) [27, 28, 29, 30, 31, 32, 33, 34, 26] (fun i v W => match i with
    | 0 => v = .agg #[]
    | 1 => v = .slice (some ⟨g1, o1, none⟩) d.length c
    | 2 => v = .int .u16 10
    | 3 => v = .pointer (some ⟨g, 0, none⟩)
    | 4 => v = .pointer (some ⟨g, 0, none⟩)
    | 5 => v = .agg #[.slice none 0 0]
    | 6 => v = .int .u16 10
    | 7 => v = .bool false
    | 8 => v = .bool false
    | _ => True) (Kept w) ?hinv0 (by kernel_rfl) (by kernel_rfl) (by kernel_rfl) (by kernel_rfl) ?hsteps ?hfin
  case hinv0 => exact hI.drew
  case hsteps =>
    clear hI
    refine ⟨?_, ?_, ?_, ?_, ?_, ?_, ?_, ?_, ?_, trivial⟩
    · intro A W hI hb hp K hK; (repeat (obtain ⟨hq, hp⟩ := hp; first | (obtain ⟨_, hv, rfl⟩ := hq rfl _ _ rfl rfl; clear hq) | (obtain ⟨_, hv, hg⟩ := hq rfl _ _ rfl rfl; clear hq) | clear hq)); clear hp; clear hb; go_simp; exact hK _ _ rfl hI (fun _ _ h => h)
    · intro A W hI hb hp K hK; (repeat (obtain ⟨hq, hp⟩ := hp; first | (obtain ⟨_, hv, rfl⟩ := hq rfl _ _ rfl rfl; clear hq) | (obtain ⟨_, hv, hg⟩ := hq rfl _ _ rfl rfl; clear hq) | clear hq)); clear hp; have b1 := hb 1 (by decide); clear hb; go_simp; exact hK _ _ rfl hI (fun _ _ h => h)
    · intro A W hI hb hp K hK; (repeat (obtain ⟨hq, hp⟩ := hp; first | (obtain ⟨_, hv, rfl⟩ := hq rfl _ _ rfl rfl; clear hq) | (obtain ⟨_, hv, hg⟩ := hq rfl _ _ rfl rfl; clear hq) | clear hq)); clear hp; clear hb; go_simp; refine (get16 _ _ _ (HV.out.below hI.below) (by omega)).mono ?_; rintro e w1 ⟨rfl, hb1⟩; rw [N0.out]; exact hK _ _ rfl (hI.step hb1) (fun _ _ h => h)
    · intro A W hI hb hp K hK; (repeat (obtain ⟨hq, hp⟩ := hp; first | (obtain ⟨_, hv, rfl⟩ := hq rfl _ _ rfl rfl; clear hq) | (obtain ⟨_, hv, hg⟩ := hq rfl _ _ rfl rfl; clear hq) | clear hq)); clear hp; have b1 := hb 0 (by decide); clear hb; go_simp; exact hK _ _ rfl hI (fun _ _ h => h)
    · intro A W hI hb hp K hK; (repeat (obtain ⟨hq, hp⟩ := hp; first | (obtain ⟨_, hv, rfl⟩ := hq rfl _ _ rfl rfl; clear hq) | (obtain ⟨_, hv, hg⟩ := hq rfl _ _ rfl rfl; clear hq) | clear hq)); clear hp; clear hb; go_simp; exact hK _ _ rfl hI (fun _ _ h => h)
    · intro A W hI hb hp K hK; (repeat (obtain ⟨hq, hp⟩ := hp; first | (obtain ⟨_, hv, rfl⟩ := hq rfl _ _ rfl rfl; clear hq) | (obtain ⟨_, hv, hg⟩ := hq rfl _ _ rfl rfl; clear hq) | clear hq)); clear hp; clear hb; have i1 : objAt W g = some (.cells #[.slice none 0 0] 116 (0, 0)) := (objAt_below hI.below g hg).trans HB.out; go_simp; exact hK _ _ rfl hI (fun _ _ h => h)
    · intro A W hI hb hp K hK; (repeat (obtain ⟨hq, hp⟩ := hp; first | (obtain ⟨_, hv, rfl⟩ := hq rfl _ _ rfl rfl; clear hq) | (obtain ⟨_, hv, hg⟩ := hq rfl _ _ rfl rfl; clear hq) | clear hq)); clear hp; clear hb; go_simp; refine (typeGroups _ _).mono ?_; rintro e w1 ⟨rfl, hb1⟩; exact hK _ _ rfl (hI.step hb1) (fun _ _ h => h)
    · intro A W hI hb hp K hK; (repeat (obtain ⟨hq, hp⟩ := hp; first | (obtain ⟨_, hv, rfl⟩ := hq rfl _ _ rfl rfl; clear hq) | (obtain ⟨_, hv, hg⟩ := hq rfl _ _ rfl rfl; clear hq) | clear hq)); clear hp; clear hb; go_simp; exact hK _ _ rfl hI (fun _ _ h => h)
    · intro A W hI hb hp K hK; (repeat (obtain ⟨hq, hp⟩ := hp; first | (obtain ⟨_, hv, rfl⟩ := hq rfl _ _ rfl rfl; clear hq) | (obtain ⟨_, hv, hg⟩ := hq rfl _ _ rfl rfl; clear hq) | clear hq)); clear hp; clear hb; go_simp; exact hK _ _ rfl hI (fun _ _ h => h)
  case hfin =>
  clear hI
  intro vf2 W2 hgd hI
  have e26 : vf2 26 = _ := hgd.2.2.2.2.2.2.2.2.1 26 rfl
  simp only [fillAct, List.foldl_cons, List.foldl_nil, List.setIfInBounds_toArray, List.set_cons_zero, List.set_cons_succ]
  rw [e26]
  clear hgd e26
  go_wp2
  go_loopg [7, 8, 9, 10, 59] n (fun m _ _ _ _ x wr => ∃ (k : Nat) (v : Value), k ≤ n ∧ m = n - k ∧ x = .int .i64 (k : Int) ∧ Hid (Blk wr g 116 [v]) ∧ Hid (wr.ownsRow w.heap.size 171 1 v k (u16s (ns.take k))) ∧ Hid (w.grownBy wr (some g)))
  case atStart => exact ⟨0, .slice none 0 0, Nat.zero_le _, rfl, rfl, HB.out.below hI.below hg, World.ownsRow_nil _ _ _ _, grown_below hI.below⟩
  case round =>
    clear hI
    obtain ⟨k, v, hk, rfl, rfl, HBr, Hown, Hgr⟩ := hrel
    by_cases hlt : k < n
    rotate_left
    · have hkn : k = n := by omega
      have hfin : Sl wr v (u16s ns) := by
        have := Sl.of_own Hown.out
        rwa [List.take_of_length_le (by have := HNN.out; omega)] at this
      have HF := Lib.hid hfin
      clear hfin Hown
      subst hkn
      go_wp2
      go_ret
      exact ⟨rfl, v, HBr.out, HF.out, Hgr.out⟩
    have hkl : k < ns.length := by have := HNN.out; omega
    obtain ⟨x, hx⟩ : ∃ x, x = ns[k] := ⟨_, rfl⟩
    have hxc : [23, 24, 29].contains x = true := by rw [hx]; exact HC.out _ (List.getElem_mem hkl)
    have hxn : nat ((d.drop (6 + 2 * k)).take 2) = x := by rw [hx]; exact NK.out k hkl
    obtain ⟨S, hS⟩ : ∃ S, S = 6 + 2 * k := ⟨_, rfl⟩
    rw [← hS] at hxn
    have HX := Lib.hid hx
    have HXC := Lib.hid hxc
    have HXN := Lib.hid hxn
    have hSl : S + 2 ≤ d.length := by have := HD.out; omega
    have s0 : IntKind.i64.wrap ((k : Int) * 2) = (k : Int) * 2 := by simp [IntKind.wrap, IntKind.bits, IntKind.signed]; omega
    have s1 : IntKind.i64.wrap (6 + (k : Int) * 2) = (S : Int) := by rw [hS]; simp [IntKind.wrap, IntKind.bits, IntKind.signed]; omega
    have s2 : ¬ c = S := by omega
    have s3 : (S : Int) ≤ (d.length : Int) := by omega
    have hv1 : By wr (.slice (some ⟨g1, o1, none⟩) d.length c) d := by_other HV.out Hgr.out HG.out
    have HV1 := Lib.hid hv1
    clear hx hxc hxn hS hv1
    go_wp2_with fail
    refine wp_region_inv (by kernel_rfl) [62, 63, 64, 65, 66, 67, 68, 8] (fun i v W => match i with
    | 0 => v = .agg #[]
    | 1 => v = .slice (some ⟨g1, o1, none⟩) d.length c
    | 2 => v = .int .i64 (k : Int)
    | 3 => v = .int .i64 ((k : Int) * 2)
    | 4 => v = .int .i64 (S : Int)
    | 5 => By W v (d.drop S)
    | 6 => v = .int .u16 (x : Int)
    | 7 => v = .int .u16 (x : Int)
    | _ => True) (Kept wr) ?hinv0 (by kernel_rfl) (by kernel_rfl) (by kernel_rfl) (by kernel_rfl) ?hsteps ?hfin
    case hinv0 => exact ⟨(Below.refl _ _).drew⟩
    case hsteps =>
      refine ⟨?_, ?_, ?_, ?_, ?_, ?_, ?_, ?_, trivial⟩
      · intro A W hI hb hp K hK; (repeat (obtain ⟨hq, hp⟩ := hp; first | (obtain ⟨_, hv, rfl⟩ := hq rfl _ _ rfl rfl; clear hq) | (obtain ⟨_, hv, hg⟩ := hq rfl _ _ rfl rfl; clear hq) | clear hq)); clear hp; clear hb; go_simp; exact hK _ _ rfl hI (fun _ _ h => h)
      · intro A W hI hb hp K hK; (repeat (obtain ⟨hq, hp⟩ := hp; first | (obtain ⟨_, hv, rfl⟩ := hq rfl _ _ rfl rfl; clear hq) | (obtain ⟨_, hv, hg⟩ := hq rfl _ _ rfl rfl; clear hq) | clear hq)); clear hp; have b1 := hb 1 (by decide); clear hb; go_simp; exact hK _ _ rfl hI (fun _ _ h => h)
      · intro A W hI hb hp K hK; (repeat (obtain ⟨hq, hp⟩ := hp; first | (obtain ⟨_, hv, rfl⟩ := hq rfl _ _ rfl rfl; clear hq) | (obtain ⟨_, hv, hg⟩ := hq rfl _ _ rfl rfl; clear hq) | clear hq)); clear hp; have b1 := hb 7 (by decide); clear hb; go_simp; exact hK _ _ rfl hI (fun _ _ h => h)
      · intro A W hI hb hp K hK; (repeat (obtain ⟨hq, hp⟩ := hp; first | (obtain ⟨_, hv, rfl⟩ := hq rfl _ _ rfl rfl; clear hq) | (obtain ⟨_, hv, hg⟩ := hq rfl _ _ rfl rfl; clear hq) | clear hq)); clear hp; clear hb; go_simp; exact hK _ _ rfl hI (fun _ _ h => h)
      · intro A W hI hb hp K hK; (repeat (obtain ⟨hq, hp⟩ := hp; first | (obtain ⟨_, hv, rfl⟩ := hq rfl _ _ rfl rfl; clear hq) | (obtain ⟨_, hv, hg⟩ := hq rfl _ _ rfl rfl; clear hq) | clear hq)); clear hp; clear hb; go_simp; exact hK _ _ rfl hI (fun _ _ h => h)
      · intro A W hI hb hp K hK; (repeat (obtain ⟨hq, hp⟩ := hp; first | (obtain ⟨_, hv, rfl⟩ := hq rfl _ _ rfl rfl; clear hq) | (obtain ⟨_, hv, hg⟩ := hq rfl _ _ rfl rfl; clear hq) | clear hq)); clear hp; clear hb; have hb := HV1.out.below hI.below; go_simp; exact hK _ _ (by have := hb.cut (a := S) (b := d.length) (A' := some ⟨g1, o1 + S, none⟩) (m := d.length - S) (c' := c - S) (by omega) (Nat.le_refl _) rfl rfl (fun _ g' o' e => by cases e; rfl); rwa [List.take_of_length_le (by simp)] at this) hI (fun _ _ h => h)
      · intro A W hI hb hp K hK; (repeat (obtain ⟨hq, hp⟩ := hp; first | (obtain ⟨_, hv, rfl⟩ := hq rfl _ _ rfl rfl; clear hq) | (obtain ⟨_, hv, hg⟩ := hq rfl _ _ rfl rfl; clear hq) | clear hq)); clear hp; clear hb; go_simp; refine (get16 _ _ _ hg (by simp; omega)).mono ?_; rintro e w1 ⟨rfl, hb1⟩; rw [HXN.out]; exact hK _ _ rfl (hI.step hb1) (fun j u hg => by revert hg; dsimp only; split <;> first | exact id | exact fun h => By.below h hb1)
      · intro A W hI hb hp K hK; (repeat (obtain ⟨hq, hp⟩ := hp; first | (obtain ⟨_, hv, rfl⟩ := hq rfl _ _ rfl rfl; clear hq) | (obtain ⟨_, hv, hg⟩ := hq rfl _ _ rfl rfl; clear hq) | clear hq)); clear hp; clear hb; go_simp; exact hK _ _ rfl hI (fun _ _ h => h)
    case hfin =>
    intro vf8 W8 hgd hI
    have e8 : vf8 8 = _ := hgd.2.2.2.2.2.2.2.1 8 rfl
    simp only [fillAct, List.foldl_cons, List.foldl_nil, List.setIfInBounds_toArray, List.set_cons_zero, List.set_cons_succ]
    rw [e8]
    clear hgd e8
    have HB8 := Lib.hid hI.below
    clear hI
    go_wp2_with (first
      | (go_at_call 98; refine (curves_any _).mono ?_; rintro e w9 ⟨r, rfl, hr, hb9⟩; have hlk := curve_there hr x HXC.out; have bl := HB8.out.trans (hb9.mono HB8.out.size); have B9 := HBr.out.below bl HBr.out.lt; have b9 := B9.cell 0; have HBL := Lib.hid bl; have HB9 := Lib.hid B9; have HO9 := Lib.hid (owns_step Hown.out bl); have HG9 := Lib.hid (grown_trans Hgr.out (grown_below bl)); clear hr hb9 bl B9 HB8 HBr Hown Hgr)
      | (at_builtin; have own := HO9.out; refine wpList_append_one rfl _ _ 114 rfl w.heap.size 171 i0 _ 2 Tryd.underlying114 hi0 hz0 hz1 hz2 rfl v k (u16s (ns.take k)) rfl (own.alloc _) w9.heap.size (.int .u16 (x : Int)) _ rfl (by simp [go_sem] <;> rfl) rfl (by simp only [maxLen]; omega) (by omega) (by have := HG9.out.size; (try simp only [Lib.bytesWorld_size, World.size_drew, drewN_size, World.size_alloc, World.size_setCell] at *); first | done | omega) ?_
         intro v' w2 hown2 hg2
         obtain ⟨g3, c3, rfl, hg3⟩ := own_place hown2 (by omega)
         have hob : v.ownBlock ≠ some g := fun h => by have := (HO9.out.lt g h).1; omega
         have B2 : Blk w2 g 116 [v] := (hg2.block g (by have := HB9.out.lt; simp; omega) (fun e => hob e.symm)).trans (HB9.out.alloc _)
         have b2 := B2.cell 0
         have f2 := B2.frozen 0
         have HB2 := Lib.hid B2
         have HO2 := Lib.hid hown2
         have HGG : Hid (w.grownBy w2 (some g)) := ⟨hg2.os.trans HG9.out.os, hg2.tape.trans HG9.out.tape, hg2.output.trans HG9.out.output, by have := hg2.size; have := HG9.out.size; (try simp only [Lib.bytesWorld_size, World.size_drew, drewN_size, World.size_alloc, World.size_setCell] at *); first | done | omega, fun kk hkk hne => by
           have := HG9.out.size
           exact (hg2.block kk (by simp; omega) (fun e => by have := (own.lt kk e.symm).1; omega)).trans ((Below.heap_alloc w9 _ kk (by omega)).trans (HG9.out.block kk hkk hne))⟩
         clear hown2 hg2 B2 own b9))
    go_roundg (n - (k + 1))
    case measure => omega
    case rel =>
      refine ⟨k + 1, _, by omega, rfl, by go_num, HB2.out.set 0 _, ?_, grown_set HGG.out 0 _⟩
      have e1 : u16s (ns.take (k + 1)) = u16s (ns.take k) ++ [.int .u16 (x : Int)] := by
        rw [List.take_add_one, List.getElem?_eq_getElem hkl, ← HX.out]; simp [u16s]
      have h := HO2.out.kept (row := some g) (grown_set (World.grownBy.refl _ _) 0 (.slice (some ⟨g3, 0, none⟩) (k + 1) c3)) (.inr (fun e => by have e' : g3 = g := Option.some.inj e; omega))
      show World.ownsRow _ _ _ _ _ _ _
      rw [e1]
      exact h
end Go.Proofs.YtdnjkjoioabhhaaDoor

/- UseSRTP.Unmarshal: profiles with a key identifier are read. -/
import Derived.Test.YtdnjkjoioabhhaaDoorGroupsU
import Derived.Test.YtdnjkjoioabhhaaDoorSrtpR
import Derived.Test.YtdnjkjoioabhhaaDoorGrow
namespace Go.Proofs.YtdnjkjoioabhhaaDoor
open Go.RowKit
set_option maxRecDepth 100000

def srtpRow : Array MapEntry := #[{ key := .int .u16 1, val := .bool true, born := 0 }, { key := .int .u16 2, val := .bool true, born := 1 }, { key := .int .u16 3, val := .bool true, born := 2 }, { key := .int .u16 4, val := .bool true, born := 3 },
  { key := .int .u16 5, val := .bool true, born := 4 }, { key := .int .u16 6, val := .bool true, born := 5 }, { key := .int .u16 7, val := .bool true, born := 6 }, { key := .int .u16 8, val := .bool true, born := 7 }]
theorem und_sp : Tryd.prog.underlying 166 = some (.int .u16) := Tryd.underlying166
def ProfilesPost (w : World) (e : Ending) (w' : World) : Prop := ∃ r, e = .returned (.map (some r)) ∧ w'.heap[r]? = some (.map srtpRow 8) ∧ Below w.heap.size w w'
set_option maxHeartbeats 800000 in
theorem profiles_any (w : World) : Calls Tryd.prog 103 #[] w (ProfilesPost w) := by
  have hmm := @run_makeMap Tryd.prog
  have h0 : (w.alloc (.map #[] 0)).heap[w.heap.size]? = some (.map #[] 0) := heap_alloc_new w _
  obtain ⟨w1, r1, h1, b1⟩ := insert_new (P := Tryd.prog) Tryd.underlying184 und_sp h0 1 (.bool true) rfl ((Below.refl w.heap.size w).alloc (Nat.le_refl _) _) (Nat.le_refl _)
  obtain ⟨w2, r2, h2, b2⟩ := insert_new (P := Tryd.prog) Tryd.underlying184 und_sp h1 2 (.bool true) rfl b1 (Nat.le_refl _)
  obtain ⟨w3, r3, h3, b3⟩ := insert_new (P := Tryd.prog) Tryd.underlying184 und_sp h2 3 (.bool true) rfl b2 (Nat.le_refl _)
  obtain ⟨w4, r4, h4, b4⟩ := insert_new (P := Tryd.prog) Tryd.underlying184 und_sp h3 4 (.bool true) rfl b3 (Nat.le_refl _)
  obtain ⟨w5, r5, h5, b5⟩ := insert_new (P := Tryd.prog) Tryd.underlying184 und_sp h4 5 (.bool true) rfl b4 (Nat.le_refl _)
  obtain ⟨w6, r6, h6, b6⟩ := insert_new (P := Tryd.prog) Tryd.underlying184 und_sp h5 6 (.bool true) rfl b5 (Nat.le_refl _)
  obtain ⟨w7, r7, h7, b7⟩ := insert_new (P := Tryd.prog) Tryd.underlying184 und_sp h6 7 (.bool true) rfl b6 (Nat.le_refl _)
  obtain ⟨w8, r8, h8, b8⟩ := insert_new (P := Tryd.prog) Tryd.underlying184 und_sp h7 8 (.bool true) rfl b7 (Nat.le_refl _)
  have H3 := Lib.hid h8
  have B3 := Lib.hid b8
  clear h0 h1 h2 h3 h4 h5 h6 h7 h8 b1 b2 b3 b4 b5 b6 b7 b8
  go_enter Tryd.func103, Tryd.ntmps103
  go_wp2
  go_ret
  exact ⟨_, rfl, H3.out, B3.out⟩
theorem profile_there {w : World} {r : Nat} (h : w.heap[r]? = some (.map srtpRow 8)) (x : Nat) (hx : [1, 2, 3, 4, 5, 6, 7, 8].contains x = true) : (Instr.lookup 184 (.map (some r)) (.int .u16 (x : Int)) true).run Tryd.prog w = .ok (.tuple #[.bool true, .bool true]) w := by
  have hx' : x = 1 ∨ x = 2 ∨ x = 3 ∨ x = 4 ∨ x = 5 ∨ x = 6 ∨ x = 7 ∨ x = 8 := by simpa using hx
  rcases hx' with rfl | rfl | rfl | rfl | rfl | rfl | rfl | rfl
  · exact lookup_there Tryd.underlying184 und_sp h 1 0 (.bool true) rfl
  · exact lookup_there Tryd.underlying184 und_sp h 2 1 (.bool true) rfl
  · exact lookup_there Tryd.underlying184 und_sp h 3 2 (.bool true) rfl
  · exact lookup_there Tryd.underlying184 und_sp h 4 3 (.bool true) rfl
  · exact lookup_there Tryd.underlying184 und_sp h 5 4 (.bool true) rfl
  · exact lookup_there Tryd.underlying184 und_sp h 6 5 (.bool true) rfl
  · exact lookup_there Tryd.underlying184 und_sp h 7 6 (.bool true) rfl
  · exact lookup_there Tryd.underlying184 und_sp h 8 7 (.bool true) rfl
theorem Tryd.infoSPf : (Tryd.prog.info? 166).map (fun i => (i.zero, i.size, i.bytes)) = some (some (.int .u16 0), 1, 2) := by kernel_rfl
set_option maxHeartbeats 6400000 in
theorem srtp_whole (w : World) (g : Nat) (v1 : Value) (d m : List UInt8) (ns : List Nat) (u : UInt8) (hB : Blk w g 147 [.slice none 0 0, .slice none 0 0]) (hv : By w v1 d) (hne : v1.ownBlock ≠ some g) (hn1 : 1 ≤ ns.length) (hn2 : ns.length < 1000)
    (hm : m.length < 256) (hc : ∀ x ∈ ns, [1, 2, 3, 4, 5, 6, 7, 8].contains x = true) (hd : d.length = 2 * ns.length + 7 + m.length) (n0 : nat (d.take 2) = 14) (n2 : nat ((d.drop 2).take 2) = 2 * ns.length + 3 + m.length) (n4 : nat ((d.drop 4).take 2) = 2 * ns.length)
    (nk : ∀ k (h : k < ns.length), nat ((d.drop (6 + 2 * k)).take 2) = ns[k]) (h4 : d[6 + 2 * ns.length]? = some u) (hu : u.toNat = m.length) (hmk : (d.drop (7 + 2 * ns.length)).take m.length = m) :
    Calls Tryd.prog 80 #[.pointer (some ⟨g, 0, none⟩), v1] w fun e w' => e = .returned .nilIface ∧ ∃ v vm, Blk w' g 147 [v, vm] ∧ Sl w' v (u16s ns) ∧ By w' vm m ∧ w.grownBy w' (some g) := by
  obtain ⟨A1, c, rfl, hlc, hr⟩ := hv.parts
  obtain ⟨g1, o1, rfl, hg1, hcell⟩ := hr (by omega)
  have hgg : g1 ≠ g := fun h => hne (by rw [h]; rfl)
  obtain ⟨i0, hi0, hz0, hz1, hz2⟩ := info_parts Tryd.infoSPf
  have hg := hB.lt
  obtain ⟨n, hnn⟩ : ∃ n, n = ns.length := ⟨_, rfl⟩
  obtain ⟨M, hMM⟩ : ∃ M, M = m.length := ⟨_, rfl⟩
  rw [← hnn] at hn1 hn2 hd n2 n4 h4 hmk
  rw [← hMM] at hm hd n2 hu hmk
  obtain ⟨D, hD⟩ : ∃ D, D = 2 * n + 3 + M := ⟨_, rfl⟩
  obtain ⟨E, hE⟩ : ∃ E, E = 2 * n := ⟨_, rfl⟩
  obtain ⟨I, hI0⟩ : ∃ I, I = 6 + 2 * n := ⟨_, rfl⟩
  rw [← hD] at n2
  rw [← hE] at n4
  have cI : w.cell? ⟨g1, o1 + I, none⟩ = some (.int .u8 (M : Int)) := by
    rw [hI0, hcell (6 + 2 * n) (by omega)]
    rw [List.getElem?_eq_getElem (by omega)] at h4
    rw [Option.some.inj h4, hu]
  rw [show 7 + 2 * n = I + 1 by omega] at hmk
  have HV := Lib.hid hv
  have HB := Lib.hid hB
  have N0 := Lib.hid n0
  have N2 := Lib.hid n2
  have N4 := Lib.hid n4
  have NK := Lib.hid nk
  have HC := Lib.hid hc
  have HG := Lib.hid hgg
  have HNN := Lib.hid hnn
  have HMM := Lib.hid hMM
  have HD := Lib.hid hd
  have HMK := Lib.hid hmk
  have hOK := rowOK_mk Tryd.underlying147 rfl (cs := #[.slice none 0 0, .slice none 0 0]) (by kernel_rfl) 147 (0, 0)
  have hDs : D < 65536 := by omega
  have hEs : E < 65536 := by omega
  have d1 : decide ((d.length : Int) ≤ 6) = false := by simp; omega
  have s6 : (6 : Int) + (n : Int) * 2 = (I : Int) := by omega
  have d2 : decide ((d.length : Int) < (I : Int) + 1) = false := by simp; omega
  have d3 : decide ((d.length : Int) ≤ (I : Int) + (M : Int)) = false := by simp; omega
  have d4 : ((I : Int) + (M : Int) - 4 != (D : Int) - 1) = false := by simp; omega
  have q1 : (E : Int) / 2 = (n : Int) := by omega
  have q2 : Int.tdiv (E : Int) 2 = (n : Int) := by rw [Int.tdiv_eq_ediv_of_nonneg (by omega)]; omega
  have x1 : IntKind.i64.wrap (D : Int) = (D : Int) := by simp [IntKind.wrap, IntKind.bits, IntKind.signed]; omega
  have x2 : IntKind.i64.wrap (n : Int) = (n : Int) := by simp [IntKind.wrap, IntKind.bits, IntKind.signed]; omega
  have x3 : IntKind.u16.wrap (n : Int) = (n : Int) := by simp [IntKind.wrap, IntKind.bits, IntKind.signed]; omega
  have x4 : IntKind.i64.wrap (M : Int) = (M : Int) := by simp [IntKind.wrap, IntKind.bits, IntKind.signed]; omega
  have hIl : I + 1 + M ≤ d.length := by omega
  have hI1 : I ≤ 2006 := by omega
  have hd' : d.length ≤ 2262 := by omega
  have hd6 : 9 ≤ d.length := by omega
  have jI : (I : Int) < (d.length : Int) := by omega
  have i4 : (4 : Int) ≤ (c : Int) := by omega
  have i4' : (4 : Int) ≤ (d.length : Int) := by omega
  have i5 : ¬ c = 2 := by omega
  have i6 : ¬ c = 4 := by omega
  have hIn : I = 6 + 2 * n := hI0
  have HIn := Lib.hid hIn
  have CI := Lib.hid cI
  clear hr hcell hv hB n0 n2 n4 nk hc hne hgg hnn hMM hd hD hE hI0 h4 hu hmk hIn cI
  go_enter Tryd.func80, Tryd.ntmps80
  go_wp2
  refine wp_region_inv (by kernel_rfl) [18, 19, 20, 21, 22, 23, 24, 25] (fun i v W => match i with
    | 0 => v = .agg #[]
    | 1 => v = .slice (some ⟨g1, o1, none⟩) d.length c
    | 2 => v = .int .u16 14
    | 3 => v = .pointer (some ⟨g, 0, none⟩)
    | 4 => v = .pointer (some ⟨g, 0, none⟩)
    | 5 => v = .agg #[.slice none 0 0, .slice none 0 0]
    | 6 => v = .int .u16 14
    | 7 => v = .bool false
    | _ => True) (Kept w) ?hinv0 (by kernel_rfl) (by kernel_rfl) (by kernel_rfl) (by kernel_rfl) ?hsteps ?hfin
  case hinv0 => exact ⟨(Below.refl _ _).drew⟩
  case hsteps =>
    refine ⟨?_, ?_, ?_, ?_, ?_, ?_, ?_, ?_, trivial⟩
    · intro A W hI hb hp K hK; (repeat (obtain ⟨hq, hp⟩ := hp; first | (obtain ⟨_, hv, rfl⟩ := hq rfl _ _ rfl rfl; clear hq) | (obtain ⟨_, hv, hg⟩ := hq rfl _ _ rfl rfl; clear hq) | clear hq)); clear hp; clear hb; go_simp; exact hK _ _ rfl hI (fun _ _ h => h)
    · intro A W hI hb hp K hK; (repeat (obtain ⟨hq, hp⟩ := hp; first | (obtain ⟨_, hv, rfl⟩ := hq rfl _ _ rfl rfl; clear hq) | (obtain ⟨_, hv, hg⟩ := hq rfl _ _ rfl rfl; clear hq) | clear hq)); clear hp; have b1 := hb 1 (by decide); clear hb; go_simp; exact hK _ _ rfl hI (fun _ _ h => h)
    · intro A W hI hb hp K hK; (repeat (obtain ⟨hq, hp⟩ := hp; first | (obtain ⟨_, hv, rfl⟩ := hq rfl _ _ rfl rfl; clear hq) | (obtain ⟨_, hv, hg⟩ := hq rfl _ _ rfl rfl; clear hq) | clear hq)); clear hp; clear hb; go_simp; refine (get16 _ _ _ (HV.out.below hI.below) (by omega)).mono ?_; rintro e w1 ⟨rfl, hb1⟩; rw [N0.out]; exact hK _ _ rfl (hI.step hb1) (fun _ _ h => h)
    · intro A W hI hb hp K hK; (repeat (obtain ⟨hq, hp⟩ := hp; first | (obtain ⟨_, hv, rfl⟩ := hq rfl _ _ rfl rfl; clear hq) | (obtain ⟨_, hv, hg⟩ := hq rfl _ _ rfl rfl; clear hq) | clear hq)); clear hp; have b1 := hb 0 (by decide); clear hb; go_simp; exact hK _ _ rfl hI (fun _ _ h => h)
    · intro A W hI hb hp K hK; (repeat (obtain ⟨hq, hp⟩ := hp; first | (obtain ⟨_, hv, rfl⟩ := hq rfl _ _ rfl rfl; clear hq) | (obtain ⟨_, hv, hg⟩ := hq rfl _ _ rfl rfl; clear hq) | clear hq)); clear hp; clear hb; go_simp; exact hK _ _ rfl hI (fun _ _ h => h)
    · intro A W hI hb hp K hK; (repeat (obtain ⟨hq, hp⟩ := hp; first | (obtain ⟨_, hv, rfl⟩ := hq rfl _ _ rfl rfl; clear hq) | (obtain ⟨_, hv, hg⟩ := hq rfl _ _ rfl rfl; clear hq) | clear hq)); clear hp; clear hb; have i1 : objAt W g = some (.cells #[.slice none 0 0, .slice none 0 0] 147 (0, 0)) := (objAt_below hI.below g hg).trans HB.out; go_simp; exact hK _ _ rfl hI (fun _ _ h => h)
    · intro A W hI hb hp K hK; (repeat (obtain ⟨hq, hp⟩ := hp; first | (obtain ⟨_, hv, rfl⟩ := hq rfl _ _ rfl rfl; clear hq) | (obtain ⟨_, hv, hg⟩ := hq rfl _ _ rfl rfl; clear hq) | clear hq)); clear hp; clear hb; go_simp; refine (typeSRTP _ _ _).mono ?_; rintro e w1 ⟨rfl, hb1⟩; exact hK _ _ rfl (hI.step hb1) (fun _ _ h => h)
    · intro A W hI hb hp K hK; (repeat (obtain ⟨hq, hp⟩ := hp; first | (obtain ⟨_, hv, rfl⟩ := hq rfl _ _ rfl rfl; clear hq) | (obtain ⟨_, hv, hg⟩ := hq rfl _ _ rfl rfl; clear hq) | clear hq)); clear hp; clear hb; go_simp; exact hK _ _ rfl hI (fun _ _ h => h)
  case hfin =>
  intro vf W hgd hI
  have e25 : vf 25 = _ := hgd.2.2.2.2.2.2.2.1 25 rfl
  simp only [fillAct, List.foldl_cons, List.foldl_nil, List.setIfInBounds_toArray, List.set_cons_zero, List.set_cons_succ]
  rw [e25]
  clear hgd e25
  go_wp2
  refine wp_region_inv (by kernel_rfl) [27, 28, 29, 30, 31, 32, 5] (fun i v W => match i with
    | 0 => v = .agg #[]
    | 1 => v = .slice (some ⟨g1, o1, none⟩) d.length c
    | 2 => By W v (d.drop 4)
    | 3 => v = .int .u16 ((E : Int) : Int)
    | 4 => v = .int .u16 ((n : Int) : Int)
    | 5 => v = .int .i64 ((n : Int) : Int)
    | 6 => v = .int .i64 ((n : Int) : Int)
    | _ => True) (Kept w) ?hinv0 (by kernel_rfl) (by kernel_rfl) (by kernel_rfl) (by kernel_rfl) ?hsteps ?hfin
  case hinv0 => exact hI.drew
  case hsteps =>
    clear hI
    refine ⟨?_, ?_, ?_, ?_, ?_, ?_, ?_, trivial⟩
    · intro A W hI hb hp K hK; (repeat (obtain ⟨hq, hp⟩ := hp; first | (obtain ⟨_, hv, rfl⟩ := hq rfl _ _ rfl rfl; clear hq) | (obtain ⟨_, hv, hg⟩ := hq rfl _ _ rfl rfl; clear hq) | clear hq)); clear hp; clear hb; go_simp; exact hK _ _ rfl hI (fun _ _ h => h)
    · intro A W hI hb hp K hK; (repeat (obtain ⟨hq, hp⟩ := hp; first | (obtain ⟨_, hv, rfl⟩ := hq rfl _ _ rfl rfl; clear hq) | (obtain ⟨_, hv, hg⟩ := hq rfl _ _ rfl rfl; clear hq) | clear hq)); clear hp; have b1 := hb 1 (by decide); clear hb; go_simp; exact hK _ _ rfl hI (fun _ _ h => h)
    · intro A W hI hb hp K hK; (repeat (obtain ⟨hq, hp⟩ := hp; first | (obtain ⟨_, hv, rfl⟩ := hq rfl _ _ rfl rfl; clear hq) | (obtain ⟨_, hv, hg⟩ := hq rfl _ _ rfl rfl; clear hq) | clear hq)); clear hp; clear hb; go_simp; exact hK _ _ (by have := By.cut (HV.out.below hI.below) (a := 4) (b := d.length) (A' := some ⟨g1, o1 + 4, none⟩) (m := d.length - 4) (c' := c - 4) (by omega) (Nat.le_refl _) rfl rfl (fun _ g' o' e => by cases e; rfl); rwa [List.take_of_length_le (by simp)] at this) hI (fun _ _ h => h)
    · intro A W hI hb hp K hK; (repeat (obtain ⟨hq, hp⟩ := hp; first | (obtain ⟨_, hv, rfl⟩ := hq rfl _ _ rfl rfl; clear hq) | (obtain ⟨_, hv, hg⟩ := hq rfl _ _ rfl rfl; clear hq) | clear hq)); clear hp; clear hb; go_simp; refine (get16 _ _ _ hg (by simp; omega)).mono ?_; rintro e w1 ⟨rfl, hb1⟩; rw [N4.out]; exact hK _ _ rfl (hI.step hb1) (fun j u hg => by revert hg; dsimp only; split <;> first | exact id | exact fun h => By.below h hb1)
    · intro A W hI hb hp K hK; (repeat (obtain ⟨hq, hp⟩ := hp; first | (obtain ⟨_, hv, rfl⟩ := hq rfl _ _ rfl rfl; clear hq) | (obtain ⟨_, hv, hg⟩ := hq rfl _ _ rfl rfl; clear hq) | clear hq)); clear hp; clear hb; go_simp; exact hK _ _ rfl hI (fun _ _ h => h)
    · intro A W hI hb hp K hK; (repeat (obtain ⟨hq, hp⟩ := hp; first | (obtain ⟨_, hv, rfl⟩ := hq rfl _ _ rfl rfl; clear hq) | (obtain ⟨_, hv, hg⟩ := hq rfl _ _ rfl rfl; clear hq) | clear hq)); clear hp; clear hb; go_simp; exact hK _ _ rfl hI (fun _ _ h => h)
    · intro A W hI hb hp K hK; (repeat (obtain ⟨hq, hp⟩ := hp; first | (obtain ⟨_, hv, rfl⟩ := hq rfl _ _ rfl rfl; clear hq) | (obtain ⟨_, hv, hg⟩ := hq rfl _ _ rfl rfl; clear hq) | clear hq)); clear hp; clear hb; go_simp; exact hK _ _ rfl hI (fun _ _ h => h)
  case hfin =>
  clear hI
  intro vf4 W4 hgd hI
  have e6 : vf4 5 = _ := hgd.2.2.2.2.2.2.1 5 rfl
  simp only [fillAct, List.foldl_cons, List.foldl_nil, List.setIfInBounds_toArray, List.set_cons_zero, List.set_cons_succ]
  rw [e6]
  clear hgd e6
  go_wp2
  refine wp_region_inv (by kernel_rfl) [42, 43, 44, 45, 46, 7] (fun i v W => match i with
    | 0 => v = .agg #[]
    | 1 => v = .slice (some ⟨g1, o1, none⟩) d.length c
    | 2 => By W v ((d.drop 2).take 2)
    | 3 => v = .int .u16 ((D : Int) : Int)
    | 4 => v = .int .i64 ((D : Int) : Int)
    | 5 => v = .int .i64 ((D : Int) : Int)
    | _ => True) (Kept w) ?hinv0 (by kernel_rfl) (by kernel_rfl) (by kernel_rfl) (by kernel_rfl) ?hsteps ?hfin
  case hinv0 => exact hI.drew
  case hsteps =>
    clear hI
    refine ⟨?_, ?_, ?_, ?_, ?_, ?_, trivial⟩
    · intro A W hI hb hp K hK; (repeat (obtain ⟨hq, hp⟩ := hp; first | (obtain ⟨_, hv, rfl⟩ := hq rfl _ _ rfl rfl; clear hq) | (obtain ⟨_, hv, hg⟩ := hq rfl _ _ rfl rfl; clear hq) | clear hq)); clear hp; clear hb; go_simp; exact hK _ _ rfl hI (fun _ _ h => h)
    · intro A W hI hb hp K hK; (repeat (obtain ⟨hq, hp⟩ := hp; first | (obtain ⟨_, hv, rfl⟩ := hq rfl _ _ rfl rfl; clear hq) | (obtain ⟨_, hv, hg⟩ := hq rfl _ _ rfl rfl; clear hq) | clear hq)); clear hp; have b1 := hb 1 (by decide); clear hb; go_simp; exact hK _ _ rfl hI (fun _ _ h => h)
    · intro A W hI hb hp K hK; (repeat (obtain ⟨hq, hp⟩ := hp; first | (obtain ⟨_, hv, rfl⟩ := hq rfl _ _ rfl rfl; clear hq) | (obtain ⟨_, hv, hg⟩ := hq rfl _ _ rfl rfl; clear hq) | clear hq)); clear hp; clear hb; go_simp; exact hK _ _ (By.cut (HV.out.below hI.below) (a := 2) (b := 4) (by omega) (by omega) rfl rfl (fun _ g' o' e => by cases e; rfl)) hI (fun _ _ h => h)
    · intro A W hI hb hp K hK; (repeat (obtain ⟨hq, hp⟩ := hp; first | (obtain ⟨_, hv, rfl⟩ := hq rfl _ _ rfl rfl; clear hq) | (obtain ⟨_, hv, hg⟩ := hq rfl _ _ rfl rfl; clear hq) | clear hq)); clear hp; clear hb; go_simp; refine (get16 _ _ _ hg (by simp; omega)).mono ?_; rintro e w1 ⟨rfl, hb1⟩; rw [List.take_take, Nat.min_self, N2.out]; exact hK _ _ rfl (hI.step hb1) (fun j u hg => by revert hg; dsimp only; split <;> first | exact id | exact fun h => By.below h hb1)
    · intro A W hI hb hp K hK; (repeat (obtain ⟨hq, hp⟩ := hp; first | (obtain ⟨_, hv, rfl⟩ := hq rfl _ _ rfl rfl; clear hq) | (obtain ⟨_, hv, hg⟩ := hq rfl _ _ rfl rfl; clear hq) | clear hq)); clear hp; clear hb; go_simp; exact hK _ _ rfl hI (fun _ _ h => h)
    · intro A W hI hb hp K hK; (repeat (obtain ⟨hq, hp⟩ := hp; first | (obtain ⟨_, hv, rfl⟩ := hq rfl _ _ rfl rfl; clear hq) | (obtain ⟨_, hv, hg⟩ := hq rfl _ _ rfl rfl; clear hq) | clear hq)); clear hp; clear hb; go_simp; exact hK _ _ rfl hI (fun _ _ h => h)
  case hfin =>
  clear hI
  intro vf2 W2 hgd hI
  have e7 : vf2 7 = _ := hgd.2.2.2.2.2.1 7 rfl
  simp only [fillAct, List.foldl_cons, List.foldl_nil, List.setIfInBounds_toArray, List.set_cons_zero, List.set_cons_succ]
  rw [e7]
  clear hgd e7
  have cI := (hI.below.cell (p := ⟨g1, o1 + I, none⟩) hg1).trans CI.out
  go_wp2
  go_loopg [10, 11, 12, 13, 68] n (fun m _ _ _ _ x wr => ∃ (k : Nat) (v : Value), k ≤ n ∧ m = n - k ∧ x = .int .i64 (k : Int) ∧ Hid (Blk wr g 147 [v, .slice none 0 0]) ∧ Hid (wr.ownsRow w.heap.size 166 1 v k (u16s (ns.take k))) ∧ Hid (w.grownBy wr (some g)))
  case atStart => exact ⟨0, .slice none 0 0, Nat.zero_le _, rfl, rfl, HB.out.below hI.below hg, World.ownsRow_nil _ _ _ _, grown_below hI.below⟩
  case round =>
    clear hI
    obtain ⟨k, v, hk, rfl, rfl, HBr, Hown, Hgr⟩ := hrel
    by_cases hlt : k < n
    rotate_left
    · have hkn : k = n := by omega
      have hfin : Sl wr v (u16s ns) := by
        have := Sl.of_own Hown.out
        rwa [List.take_of_length_le (by have := HNN.out; omega)] at this
      have HF := Lib.hid hfin
      have HOWN := Hown
      clear hfin Hown
      have hob : v.ownBlock ≠ some g := fun h => by have := (HOWN.out.lt g h).1; omega
      have hv2 : By wr (.slice (some ⟨g1, o1, none⟩) d.length c) d := by_other HV.out Hgr.out HG.out
      have HV2 := Lib.hid hv2
      clear hv2 HOWN
      subst hkn
      by_cases hcI : c = I + 1
      · have hM0 : M = 0 := by omega
        have hmn : m = [] := List.eq_nil_of_length_eq_zero (by have := HMM.out; omega)
        subst hM0
        subst hcI
        subst hmn
        go_wp2_with (at_builtin; have hb := HBr.out; refine wpList_append_by (w := wr) rfl (.tmp 97) (.tmp 103) 25 rfl 5 Tryd.underlying25 Tryd.infoByte _ [] rfl (Grow.lit (Below.refl _ _) [] 5 (by simp)) _ ([] : List UInt8) rfl (Sl.nil _ _ _) (by simp) ?_
                     intro v' W' hG
                     rw [List.nil_append] at hG
                     obtain ⟨A9, c9, rfl⟩ := hG.len
                     have B3 := HBr.out.below hG.below HBr.out.lt
                     have e31 := B3.cell 1
                     have ef3 := B3.frozen
                     have HB3 := Lib.hid B3
                     have HG3 := Lib.hid hG
                     have HS3 := Lib.hid (HF.out.below hG.below)
                     clear hG B3 hb)
        go_ret
        exact ⟨rfl, v, _, HB3.out.set 1 _, HS3.out.far (p := ⟨g, 1, none⟩) hob _, HG3.out.by.far (p := ⟨g, 1, none⟩) (fun h => by have h1 := (HG3.out.own.lt g h).1; have h2 := HBr.out.lt; omega) _, grown_set (grown_trans Hgr.out (grown_below HG3.out.below)) _ _⟩
      · go_wp2_with (at_builtin; have hb := HBr.out; refine wpList_append_by (w := wr) rfl (.tmp 97) (.tmp 103) 25 rfl 5 Tryd.underlying25 Tryd.infoByte _ [] rfl (Grow.lit (Below.refl _ _) [] 5 (by simp)) _ ((d.drop (I + 1)).take (I + 1 + M - (I + 1))) rfl ((By.cut HV2.out (a := I + 1) (b := I + 1 + M) (by omega) (by omega) (by omega) rfl (fun _ g' o' e => by cases e; rfl)).alloc _) (by simp; omega) ?_
                     intro v' W' hG
                     rw [Nat.add_sub_cancel_left, HMK.out, List.nil_append] at hG
                     obtain ⟨A9, c9, rfl⟩ := hG.len
                     have B3 := HBr.out.below hG.below HBr.out.lt
                     have e31 := B3.cell 1
                     have ef3 := B3.frozen
                     have HB3 := Lib.hid B3
                     have HG3 := Lib.hid hG
                     have HS3 := Lib.hid (HF.out.below hG.below)
                     clear hG B3 hb)
        go_ret
        exact ⟨rfl, v, _, HB3.out.set 1 _, HS3.out.far (p := ⟨g, 1, none⟩) hob _, HG3.out.by.far (p := ⟨g, 1, none⟩) (fun h => by have h1 := (HG3.out.own.lt g h).1; have h2 := HBr.out.lt; omega) _, grown_set (grown_trans Hgr.out (grown_below HG3.out.below)) _ _⟩
    have hkl : k < ns.length := by have := HNN.out; omega
    obtain ⟨x, hx⟩ : ∃ x, x = ns[k] := ⟨_, rfl⟩
    have hxc : [1, 2, 3, 4, 5, 6, 7, 8].contains x = true := by rw [hx]; exact HC.out _ (List.getElem_mem hkl)
    have hxn : nat ((d.drop (6 + 2 * k)).take 2) = x := by rw [hx]; exact NK.out k hkl
    obtain ⟨S, hS⟩ : ∃ S, S = 6 + 2 * k := ⟨_, rfl⟩
    rw [← hS] at hxn
    have HX := Lib.hid hx
    have HXC := Lib.hid hxc
    have HXN := Lib.hid hxn
    have hSl : S + 2 ≤ d.length := by have := HD.out; omega
    have s0 : IntKind.i64.wrap ((k : Int) * 2) = (k : Int) * 2 := by simp [IntKind.wrap, IntKind.bits, IntKind.signed]; omega
    have s1 : IntKind.i64.wrap (6 + (k : Int) * 2) = (S : Int) := by rw [hS]; simp [IntKind.wrap, IntKind.bits, IntKind.signed]; omega
    have s2 : ¬ c = S := by omega
    have s3 : (S : Int) ≤ (d.length : Int) := by omega
    have hv1 : By wr (.slice (some ⟨g1, o1, none⟩) d.length c) d := by_other HV.out Hgr.out HG.out
    have HV1 := Lib.hid hv1
    clear hx hxc hxn hS hv1
    go_wp2_with fail
    refine wp_region_inv (by kernel_rfl) [71, 72, 73, 74, 75, 76, 77, 11] (fun i v W => match i with
    | 0 => v = .agg #[]
    | 1 => v = .slice (some ⟨g1, o1, none⟩) d.length c
    | 2 => v = .int .i64 (k : Int)
    | 3 => v = .int .i64 ((k : Int) * 2)
    | 4 => v = .int .i64 (S : Int)
    | 5 => By W v (d.drop S)
    | 6 => v = .int .u16 (x : Int)
    | 7 => v = .int .u16 (x : Int)
    | _ => True) (Kept wr) ?hinv0 (by kernel_rfl) (by kernel_rfl) (by kernel_rfl) (by kernel_rfl) ?hsteps ?hfin
    case hinv0 => exact ⟨(Below.refl _ _).drew⟩
    case hsteps =>
      refine ⟨?_, ?_, ?_, ?_, ?_, ?_, ?_, ?_, trivial⟩
      · intro A W hI hb hp K hK; (repeat (obtain ⟨hq, hp⟩ := hp; first | (obtain ⟨_, hv, rfl⟩ := hq rfl _ _ rfl rfl; clear hq) | (obtain ⟨_, hv, hg⟩ := hq rfl _ _ rfl rfl; clear hq) | clear hq)); clear hp; clear hb; go_simp; exact hK _ _ rfl hI (fun _ _ h => h)
      · intro A W hI hb hp K hK; (repeat (obtain ⟨hq, hp⟩ := hp; first | (obtain ⟨_, hv, rfl⟩ := hq rfl _ _ rfl rfl; clear hq) | (obtain ⟨_, hv, hg⟩ := hq rfl _ _ rfl rfl; clear hq) | clear hq)); clear hp; have b1 := hb 1 (by decide); clear hb; go_simp; exact hK _ _ rfl hI (fun _ _ h => h)
      · intro A W hI hb hp K hK; (repeat (obtain ⟨hq, hp⟩ := hp; first | (obtain ⟨_, hv, rfl⟩ := hq rfl _ _ rfl rfl; clear hq) | (obtain ⟨_, hv, hg⟩ := hq rfl _ _ rfl rfl; clear hq) | clear hq)); clear hp; have b1 := hb 10 (by decide); clear hb; go_simp; exact hK _ _ rfl hI (fun _ _ h => h)
      · intro A W hI hb hp K hK; (repeat (obtain ⟨hq, hp⟩ := hp; first | (obtain ⟨_, hv, rfl⟩ := hq rfl _ _ rfl rfl; clear hq) | (obtain ⟨_, hv, hg⟩ := hq rfl _ _ rfl rfl; clear hq) | clear hq)); clear hp; clear hb; go_simp; exact hK _ _ rfl hI (fun _ _ h => h)
      · intro A W hI hb hp K hK; (repeat (obtain ⟨hq, hp⟩ := hp; first | (obtain ⟨_, hv, rfl⟩ := hq rfl _ _ rfl rfl; clear hq) | (obtain ⟨_, hv, hg⟩ := hq rfl _ _ rfl rfl; clear hq) | clear hq)); clear hp; clear hb; go_simp; exact hK _ _ rfl hI (fun _ _ h => h)
      · intro A W hI hb hp K hK; (repeat (obtain ⟨hq, hp⟩ := hp; first | (obtain ⟨_, hv, rfl⟩ := hq rfl _ _ rfl rfl; clear hq) | (obtain ⟨_, hv, hg⟩ := hq rfl _ _ rfl rfl; clear hq) | clear hq)); clear hp; clear hb; have hb := HV1.out.below hI.below; go_simp; exact hK _ _ (by have := hb.cut (a := S) (b := d.length) (A' := some ⟨g1, o1 + S, none⟩) (m := d.length - S) (c' := c - S) (by omega) (Nat.le_refl _) rfl rfl (fun _ g' o' e => by cases e; rfl); rwa [List.take_of_length_le (by simp)] at this) hI (fun _ _ h => h)
      · intro A W hI hb hp K hK; (repeat (obtain ⟨hq, hp⟩ := hp; first | (obtain ⟨_, hv, rfl⟩ := hq rfl _ _ rfl rfl; clear hq) | (obtain ⟨_, hv, hg⟩ := hq rfl _ _ rfl rfl; clear hq) | clear hq)); clear hp; clear hb; go_simp; refine (get16 _ _ _ hg (by simp; omega)).mono ?_; rintro e w1 ⟨rfl, hb1⟩; rw [HXN.out]; exact hK _ _ rfl (hI.step hb1) (fun j u hg => by revert hg; dsimp only; split <;> first | exact id | exact fun h => By.below h hb1)
      · intro A W hI hb hp K hK; (repeat (obtain ⟨hq, hp⟩ := hp; first | (obtain ⟨_, hv, rfl⟩ := hq rfl _ _ rfl rfl; clear hq) | (obtain ⟨_, hv, hg⟩ := hq rfl _ _ rfl rfl; clear hq) | clear hq)); clear hp; clear hb; go_simp; exact hK _ _ rfl hI (fun _ _ h => h)
    case hfin =>
    intro vf8 W8 hgd hI
    have e8 : vf8 11 = _ := hgd.2.2.2.2.2.2.2.1 11 rfl
    simp only [fillAct, List.foldl_cons, List.foldl_nil, List.setIfInBounds_toArray, List.set_cons_zero, List.set_cons_succ]
    rw [e8]
    clear hgd e8
    have HB8 := Lib.hid hI.below
    clear hI
    go_wp2_with (first
      | (go_at_call 103; refine (profiles_any _).mono ?_; rintro e w9 ⟨r, rfl, hr, hb9⟩; have hlk := profile_there hr x HXC.out; have bl := HB8.out.trans (hb9.mono HB8.out.size); have B9 := HBr.out.below bl HBr.out.lt; have b9 := B9.cell 0; have HBL := Lib.hid bl; have HB9 := Lib.hid B9; have HO9 := Lib.hid (owns_step Hown.out bl); have HG9 := Lib.hid (grown_trans Hgr.out (grown_below bl)); clear hr hb9 bl B9 HB8 HBr Hown Hgr)
      | (at_builtin; have own := HO9.out; refine wpList_append_one rfl _ _ 145 rfl w.heap.size 166 i0 _ 2 Tryd.underlying145 hi0 hz0 hz1 hz2 rfl v k (u16s (ns.take k)) rfl (own.alloc _) w9.heap.size (.int .u16 (x : Int)) _ rfl (by simp [go_sem] <;> rfl) rfl (by simp only [maxLen]; omega) (by omega) (by have := HG9.out.size; (try simp only [Lib.bytesWorld_size, World.size_drew, drewN_size, World.size_alloc, World.size_setCell] at *); first | done | omega) ?_
         intro v' w2 hown2 hg2
         obtain ⟨g3, c3, rfl, hg3⟩ := own_place hown2 (by omega)
         have hob : v.ownBlock ≠ some g := fun h => by have := (HO9.out.lt g h).1; omega
         have B2 : Blk w2 g 147 [v, .slice none 0 0] := (hg2.block g (by have := HB9.out.lt; simp; omega) (fun e => hob e.symm)).trans (HB9.out.alloc _)
         have b2 := B2.cell 0
         have f2 := B2.frozen 0
         have HB2 := Lib.hid B2
         have HO2 := Lib.hid hown2
         have HGG : Hid (w.grownBy w2 (some g)) := ⟨hg2.os.trans HG9.out.os, hg2.tape.trans HG9.out.tape, hg2.output.trans HG9.out.output, by have := hg2.size; have := HG9.out.size; (try simp only [Lib.bytesWorld_size, World.size_drew, drewN_size, World.size_alloc, World.size_setCell] at *); first | done | omega, fun kk hkk hne => by
           have := HG9.out.size
           exact (hg2.block kk (by simp; omega) (fun e => by have := (own.lt kk e.symm).1; omega)).trans ((Below.heap_alloc w9 _ kk (by omega)).trans (HG9.out.block kk hkk hne))⟩
         clear hown2 hg2 B2 own b9))
    go_roundg (n - (k + 1))
    case measure => omega
    case rel =>
      refine ⟨k + 1, _, by omega, rfl, by go_num, HB2.out.set 0 _, ?_, grown_set HGG.out 0 _⟩
      have e1 : u16s (ns.take (k + 1)) = u16s (ns.take k) ++ [.int .u16 (x : Int)] := by
        rw [List.take_add_one, List.getElem?_eq_getElem hkl, ← HX.out]; simp [u16s]
      have h := HO2.out.kept (row := some g) (grown_set (World.grownBy.refl _ _) 0 (.slice (some ⟨g3, 0, none⟩) (k + 1) c3)) (.inr (fun e => by have e' : g3 = g := Option.some.inj e; omega))
      show World.ownsRow _ _ _ _ _ _ _
      rw [e1]
      exact h
end Go.Proofs.YtdnjkjoioabhhaaDoor

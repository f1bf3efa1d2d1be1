/- FnGroupsBack: the law's walk. -/
import Derived.Test.YtdnjkjoioabhhaaDoorGroupsR
namespace Go.Proofs.YtdnjkjoioabhhaaDoor
open Go.RowKit
set_option maxRecDepth 100000

theorem nums_of (zs : List Int) (hz : ∀ z ∈ zs, (Lit.int .u16 z).wf = true) : ∃ ns : List Nat, zs.map (Value.int .u16 ·) = u16s ns ∧ ∀ n ∈ ns, n < 65536 := by
  induction zs with
  | nil => exact ⟨[], rfl, fun _ h => by simp at h⟩
  | cons z zs ih =>
    obtain ⟨ns, h1, h2⟩ := ih fun x hx => hz x (by simp [hx])
    have h' : 0 ≤ z ∧ z ≤ 65535 := by simpa [Lit.wf, IntKind.min, IntKind.max, IntKind.signed, IntKind.bits] using hz z (by simp)
    refine ⟨z.toNat :: ns, ?_, fun n hn => ?_⟩
    · have e : ((z.toNat : Nat) : Int) = z := by omega
      simp only [List.map_cons, u16s, e]
      congr 1
    · rcases List.mem_cons.1 hn with rfl | h
      · omega
      · exact h2 n h
theorem some_list (w : World) : Sl (w.alloc (.cells #[.int .u16 23, .int .u16 24, .int .u16 29] 29)) (.slice (some ⟨w.heap.size, 0, none⟩) 3 3) (u16s [23, 24, 29]) := by
  have hB : Blk (w.alloc (.cells #[.int .u16 23, .int .u16 24, .int .u16 29] 29)) w.heap.size 29 [.int .u16 23, .int .u16 24, .int .u16 29] := Blk.new w _ [.int .u16 23, .int .u16 24, .int .u16 29]
  exact ⟨_, 3, rfl, by simp [u16s], fun _ => ⟨w.heap.size, 0, rfl, fun j hj => by
    have h := hB.cell j
    rw [Nat.zero_add, h]
    exact List.getElem?_eq_getElem (l := u16s [23, 24, 29]) hj⟩⟩
theorem sl_new {w w' : World} {v : Value} {xs : List Value} {o : Obj} (h : Sl w v xs) (hg : (w.alloc o).grownBy w' (some w.heap.size)) : Sl w' v xs := by
  obtain ⟨A, c, rfl, hc, hr⟩ := h
  refine ⟨A, c, rfl, hc, fun h0 => ?_⟩
  obtain ⟨g, o', rfl, hr0⟩ := hr h0
  have hlt := World.block_lt_of_cell? w _ (hr0 0 h0)
  have hlt' : g < w.heap.size := hlt
  exact ⟨g, o', rfl, fun j hj => ((World.cell?_of_block (a := ⟨g, o' + j, none⟩) (hg.block g (by simp; omega) (fun e => by have e' : g = w.heap.size := Option.some.inj e; omega))).trans (World.cell?_alloc_lt w o _ hlt')).trans (hr0 j hj)⟩
set_option maxHeartbeats 3200000 in
theorem fnGroupsBack.walk (w : World) (v : Value) (zs : List Int) (hv0 : Sl w v (zs.map (Value.int .u16 ·))) (hz : (∀ z ∈ zs, (Lit.int .u16 z).wf = true) ∧ zs.length ≤ maxLen) (_hL : laidMetH Tryd.prog Rows.fnGroupsBackRow.laid w) :
    Calls Tryd.prog 8 #[v] w fun e w' => e = .returned (.bool true) ∧ Below w.heap.size w w' := by
  obtain ⟨ns, hns, hx⟩ := nums_of zs hz.1
  rw [hns] at hv0
  clear _hL hz hns
  obtain ⟨A, c, rfl, hlc, _⟩ := hv0.nums
  have HV := Lib.hid hv0
  clear hv0
  by_cases h1 : (2147483647 : Int) < ns.length
  · have d1 : decide ((2147483647 : Int) < (ns.length : Int)) = true := by simpa using h1
    clear h1
    go_enter Tryd.func8, Tryd.ntmps8
    go_wp2_with fail
    go_ret
    exact ⟨rfl, Below.refl _ _⟩
  have d1 : decide ((2147483647 : Int) < (ns.length : Int)) = false := by simpa using h1
  by_cases h2 : ns.length < 1000
  rotate_left
  · have d2 : decide ((ns.length : Int) < (1000 : Int)) = false := by simp; omega
    clear h1 h2
    go_enter Tryd.func8, Tryd.ntmps8
    go_wp2_with fail
    go_ret
    exact ⟨rfl, Below.refl _ _⟩
  have d2 : decide ((ns.length : Int) < (1000 : Int)) = true := by simp; omega
  have al := all_any (w.alloc (.cells #[.int .u16 23, .int .u16 24, .int .u16 29] 29)) (.slice A ns.length c) (.slice (some ⟨w.heap.size, 0, none⟩) 3 3) ns [23, 24, 29] (HV.out.alloc _) (some_list w) (by omega) (by simp)
  cases ha : allIn [23, 24, 29] ns with
  | false =>
    rw [ha] at al
    have AL := Lib.hid al
    clear al ha h1 h2 hx
    go_enter Tryd.func8, Tryd.ntmps8
    go_wp2_with (go_at_call 23; refine AL.out.mono ?_; rintro e w1 ⟨rfl, rfl⟩)
    go_ret
    exact ⟨rfl, (Below.refl _ _).alloc (Nat.le_refl _) _⟩
  | true =>
    rw [ha] at al
    have hall : (∀ x ∈ ns, [23, 24, 29].contains x = true) ∧ 1 ≤ ns.length := by
      unfold allIn at ha
      rw [Bool.and_eq_true] at ha
      exact ⟨List.all_eq_true.1 ha.1, by have := of_decide_eq_true ha.2; omega⟩
    have nm := fun (W : World) (hW : Sl W (.slice A ns.length c) (u16s ns)) => nums_any W _ ns 2 hW (by omega) (by omega) hx
    have vc := fun W : World => vec_any (numsL 2 ns) 2 (by rw [numsL_length]; omega) (by omega) W
    have fr := fun W : World => framedExt_any W 10 (vecL 2 (numsL 2 ns)) (by omega) (by rw [vecL_length, numsL_length]; omega)
    have rd := fun W => groupsRead_yes W ns hall.2 h2 hall.1 hx
    obtain ⟨s, hs⟩ : ∃ s, s = grL ns := ⟨_, rfl⟩
    rw [show extL 10 (vecL 2 (numsL 2 ns)) = grL ns from rfl, ← hs] at fr
    rw [← hs] at rd
    obtain ⟨y, hy⟩ : ∃ y, y = vecL 2 (numsL 2 ns) := ⟨_, rfl⟩
    rw [← hy] at vc fr
    obtain ⟨x, hxx⟩ : ∃ x, x = numsL 2 ns := ⟨_, rfl⟩
    rw [← hxx] at vc nm
    have AL := Lib.hid al
    have NM := Lib.hid nm
    have VC := Lib.hid vc
    have FR := Lib.hid fr
    have RD := Lib.hid rd
    have hn2 : ns.length ≤ 2147483647 := by omega
    clear al nm vc fr rd ha hall h1 h2 hx hs hy hxx
    go_enter Tryd.func8, Tryd.ntmps8
    go_wp2_with (first
      | (go_at_call 23; have once := AL; refine AL.out.mono ?_; rintro e w1 ⟨rfl, rfl⟩; have K0 : Kept w (w.alloc (.cells #[.int .u16 23, .int .u16 24, .int .u16 29] 29)) := ⟨(Below.refl _ _).alloc (Nat.le_refl _) _⟩; clear AL once)
      | (go_at_call 26; have k := K0; go_loud (refine (NM.out _ (HV.out.below k.below)).mono ?_); rintro e w2 ⟨rfl, hb2⟩; have K1 := K0.step hb2; clear hb2 NM k K0)
      | (go_at_call 15; have k := K1; refine (VC.out _).mono ?_; rintro e w3 ⟨rfl, hb3⟩; have K2 := K1.step hb3; clear hb3 VC k K1)
      | (go_at_call 25; have k := K2; refine (FR.out _).mono ?_; rintro e w4 ⟨rfl, hb4⟩; have K3 := K2.step hb4; clear hb4 FR k K2)
      | (go_at_call 24; have k := K3; refine (RD.out _).mono ?_; rintro e w5 ⟨v2, rfl, hs5, ho5, hb5⟩; have K4 := K3.step hb5; have HS5 := Lib.hid hs5; have HO5 := Lib.hid ho5; clear hb5 RD k K3 hs5 ho5)
      | (have k := K4; refine wpList_store_whole ?hgd 45 (.tmp 3) (.tmp 23) ?ho w5.heap.size (extGr v2).cells ?hx ?hy 45 Ext.zero.cells (heap_alloc_new _ _) (Ext.size _) rfl (extGr_one v2 HO5.out) ?hh; case ho => exact rfl))
    case hgd => rfl
    case hx => rfl
    case hy => rfl
    case hh =>
      intro w6 io6 g6
      have K6 : Kept w w6 := ⟨(K4.below.alloc K4.below.size _).grown g6 (by have := K4.below.size; (try simp only [Lib.bytesWorld_size, World.size_drew, drewN_size, World.size_alloc, World.size_setCell] at *); first | done | omega) (fun k hk => by cases hk; exact K4.below.size)⟩
      have hs6 : Sl w6 v2 (u16s ns) := by
        exact sl_new HS5.out g6
      have hOK := (extGr v2).ok
      have SM := Lib.hid (fun W (h1 : Sl W v2 (u16s ns)) (h2 : Sl W (.slice A ns.length c) (u16s ns)) => sameExt_yes W (extGr v2) (extGr (.slice A ns.length c)) rfl rfl rfl rfl rfl (listString_nil _ _ _ _ _ _) (listU16_yes W _ _ ns h1 h2 hn2) (listPair_nil _ _ _ _ _ _) (listShare_nil _ _ _ _ _ _) (listShare_nil _ _ _ _ _ _) (listU16_nil _ _ _ _ _ _) (listIdentity_nil _ _ _ _ _ _) (listFilter_nil _ _ _ _ _ _))
      have HS6 := Lib.hid hs6
      clear g6 K4 hs6 d1 d2 HS5
      go_wp2_with (go_at_call 27; have k := K6; go_loud (refine (SM.out _ HS6.out (HV.out.below K6.below)).mono ?_); rintro e w7 ⟨rfl, hb7⟩; have K7 := K6.step hb7; clear hb7 SM k K6)
      go_ret
      exact ⟨rfl, K7.below⟩
end Go.Proofs.YtdnjkjoioabhhaaDoor

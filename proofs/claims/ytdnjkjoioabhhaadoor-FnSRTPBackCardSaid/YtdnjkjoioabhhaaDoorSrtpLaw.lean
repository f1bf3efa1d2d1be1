/- FnSRTPBack: the law's walk. -/
import Derived.Test.YtdnjkjoioabhhaaDoorSrtpR2
import Derived.Test.YtdnjkjoioabhhaaDoorGroupsLaw
namespace Go.Proofs.YtdnjkjoioabhhaaDoor
open Go.RowKit
set_option maxRecDepth 100000

theorem eight_list (w : World) : Sl (w.alloc (.cells #[.int .u16 1, .int .u16 2, .int .u16 3, .int .u16 4, .int .u16 5, .int .u16 6, .int .u16 7, .int .u16 8] 29)) (.slice (some ⟨w.heap.size, 0, none⟩) 8 8) (u16s [1, 2, 3, 4, 5, 6, 7, 8]) := by
  have hB : Blk (w.alloc (.cells #[.int .u16 1, .int .u16 2, .int .u16 3, .int .u16 4, .int .u16 5, .int .u16 6, .int .u16 7, .int .u16 8] 29)) w.heap.size 29 [.int .u16 1, .int .u16 2, .int .u16 3, .int .u16 4, .int .u16 5, .int .u16 6, .int .u16 7, .int .u16 8] := Blk.new w _ [.int .u16 1, .int .u16 2, .int .u16 3, .int .u16 4, .int .u16 5, .int .u16 6, .int .u16 7, .int .u16 8]
  exact ⟨_, 8, rfl, by simp [u16s], fun _ => ⟨w.heap.size, 0, rfl, fun j hj => by
    have h := hB.cell j
    rw [Nat.zero_add, h]
    exact List.getElem?_eq_getElem (l := u16s [1, 2, 3, 4, 5, 6, 7, 8]) hj⟩⟩
set_option maxHeartbeats 3200000 in
theorem fnSRTPBack.walk (w : World) (v : Value) (zs : List Int) (hv0 : Sl w v (zs.map (Value.int .u16 ·))) (hz : (∀ z ∈ zs, (Lit.int .u16 z).wf = true) ∧ zs.length ≤ maxLen) (a1 : ByteArray) (_w1 : a1.size ≤ maxLen) (_hL : laidMetH Tryd.prog Rows.fnSRTPBackRow.laid w) :
    Calls Tryd.prog 12 #[v, .string a1] w fun e w' => e = .returned (.bool true) ∧ Below w.heap.size w w' := by
  obtain ⟨ns, hns, hx⟩ := nums_of zs hz.1
  rw [hns] at hv0
  obtain ⟨m, rfl⟩ := bs_ex a1
  clear _hL hz hns _w1
  obtain ⟨A, c, rfl, hlc, _⟩ := hv0.nums
  have HV := Lib.hid hv0
  clear hv0
  by_cases h1 : (2147483647 : Int) < ns.length
  · have d1 : decide ((2147483647 : Int) < (ns.length : Int)) = true := by simpa using h1
    clear h1
    go_enter Tryd.func12, Tryd.ntmps12
    go_wp2_with fail
    go_ret
    exact ⟨rfl, Below.refl _ _⟩
  have d1 : decide ((2147483647 : Int) < (ns.length : Int)) = false := by simpa using h1
  by_cases h1b : (2147483647 : Int) < m.length
  · have d1b : decide ((2147483647 : Int) < (m.length : Int)) = true := by simpa using h1b
    clear h1 h1b
    go_enter Tryd.func12, Tryd.ntmps12
    go_wp2_with fail
    go_ret
    exact ⟨rfl, Below.refl _ _⟩
  have d1b : decide ((2147483647 : Int) < (m.length : Int)) = false := by simpa using h1b
  by_cases h2 : ns.length < 1000
  rotate_left
  · have d2 : decide ((ns.length : Int) < (1000 : Int)) = false := by simp; omega
    clear h1 h1b h2
    go_enter Tryd.func12, Tryd.ntmps12
    go_wp2_with fail
    go_ret
    exact ⟨rfl, Below.refl _ _⟩
  have d2 : decide ((ns.length : Int) < (1000 : Int)) = true := by simp; omega
  by_cases h3 : m.length < 256
  rotate_left
  · have d3 : decide ((m.length : Int) < (256 : Int)) = false := by simp; omega
    clear h1 h1b h2 h3
    go_enter Tryd.func12, Tryd.ntmps12
    go_wp2_with fail
    go_ret
    exact ⟨rfl, Below.refl _ _⟩
  have d3 : decide ((m.length : Int) < (256 : Int)) = true := by simp; omega
  have al := all_any (w.alloc (.cells #[.int .u16 1, .int .u16 2, .int .u16 3, .int .u16 4, .int .u16 5, .int .u16 6, .int .u16 7, .int .u16 8] 29)) (.slice A ns.length c) (.slice (some ⟨w.heap.size, 0, none⟩) 8 8) ns [1, 2, 3, 4, 5, 6, 7, 8] (HV.out.alloc _) (eight_list w) (by omega) (by simp)
  cases ha : allIn [1, 2, 3, 4, 5, 6, 7, 8] ns with
  | false =>
    rw [ha] at al
    have AL := Lib.hid al
    clear al ha h1 h1b h2 h3 hx
    go_enter Tryd.func12, Tryd.ntmps12
    go_wp2_with (go_at_call 23; refine AL.out.mono ?_; rintro e w1 ⟨rfl, rfl⟩)
    go_ret
    exact ⟨rfl, (Below.refl _ _).alloc (Nat.le_refl _) _⟩
  | true =>
    rw [ha] at al
    have hall : (∀ x ∈ ns, [1, 2, 3, 4, 5, 6, 7, 8].contains x = true) ∧ 1 ≤ ns.length := by
      unfold allIn at ha
      rw [Bool.and_eq_true] at ha
      exact ⟨List.all_eq_true.1 ha.1, by have := of_decide_eq_true ha.2; omega⟩
    have nm := fun (W : World) (hW : Sl W (.slice A ns.length c) (u16s ns)) => nums_any W _ ns 2 hW (by omega) (by omega) hx
    have vc := fun W : World => vec_any (numsL 2 ns) 2 (by rw [numsL_length]; omega) (by omega) W
    have vm := fun W : World => vec_any m 1 (by omega) (by omega) W
    have fr := fun W : World => framedExt_any W 14 (vecL 2 (numsL 2 ns) ++ vecL 1 m) (by omega) (by rw [List.length_append, vecL_length, vecL_length, numsL_length]; omega)
    have rd := fun W => srtpRead_yes W ns m hall.2 h2 h3 hall.1 hx
    obtain ⟨s, hs⟩ : ∃ s, s = srL ns m := ⟨_, rfl⟩
    rw [show extL 14 (vecL 2 (numsL 2 ns) ++ vecL 1 m) = srL ns m from rfl, ← hs] at fr
    rw [← hs] at rd
    have hyz : (vecL 2 (numsL 2 ns)).length + (vecL 1 m).length ≤ 70000 := by rw [vecL_length, vecL_length, numsL_length]; omega
    obtain ⟨y, hy⟩ : ∃ y, y = vecL 2 (numsL 2 ns) := ⟨_, rfl⟩
    obtain ⟨z, hz⟩ : ∃ z, z = vecL 1 m := ⟨_, rfl⟩
    rw [← hy] at vc fr hyz
    rw [← hz] at vm fr hyz
    obtain ⟨x, hxx⟩ : ∃ x, x = numsL 2 ns := ⟨_, rfl⟩
    rw [← hxx] at vc nm
    have VM := Lib.hid vm
    have AL := Lib.hid al
    have NM := Lib.hid nm
    have VC := Lib.hid vc
    have FR := Lib.hid fr
    have RD := Lib.hid rd
    have hn2 : ns.length ≤ 2147483647 := by omega
    clear al nm vc fr rd ha hall h1 h1b h2 h3 hx hs hy hxx hz vm
    go_enter Tryd.func12, Tryd.ntmps12
    go_wp2_with (first
      | (go_at_call 23; have once := AL; refine AL.out.mono ?_; rintro e w1 ⟨rfl, rfl⟩; have K0 : Kept w (w.alloc (.cells #[.int .u16 1, .int .u16 2, .int .u16 3, .int .u16 4, .int .u16 5, .int .u16 6, .int .u16 7, .int .u16 8] 29)) := ⟨(Below.refl _ _).alloc (Nat.le_refl _) _⟩; clear AL once)
      | (go_at_call 26; have k := K0; go_loud (refine (NM.out _ (HV.out.below k.below)).mono ?_); rintro e w2 ⟨rfl, hb2⟩; have K1 := K0.step hb2; clear hb2 NM k K0)
      | (go_at_call 15; have k := K1; refine (VC.out _).mono ?_; rintro e w3 ⟨rfl, hb3⟩; have K2 := K1.step hb3; clear hb3 VC k K1)
      | (go_at_call 15; have k := K2; refine (VM.out _).mono ?_; rintro e w3b ⟨rfl, hb3⟩; have K2b := K2.step hb3; clear hb3 VM k K2)
      | (go_at_call 25; have k := K2b; refine (FR.out _).mono ?_; rintro e w4 ⟨rfl, hb4⟩; have K3 := K2b.step hb4; clear hb4 FR k K2b)
      | (go_at_call 36; have k := K3; refine (RD.out _).mono ?_; rintro e w5 ⟨v2, rfl, hs5, ho5, hb5⟩; have K4 := K3.step hb5; have HS5 := Lib.hid hs5; have HO5 := Lib.hid ho5; clear hb5 RD k K3 hs5 ho5)
      | (have k := K4; refine wpList_store_whole ?hgd 45 (.tmp 5) (.tmp 38) ?ho w5.heap.size (extSr v2 m).cells ?hx ?hy 45 Ext.zero.cells (heap_alloc_new _ _) (Ext.size _) rfl (extSr_one v2 m HO5.out) ?hh; case ho => exact rfl))
    case hgd => rfl
    case hx => rfl
    case hy => rfl
    case hh =>
      intro w6 io6 g6
      have K6 : Kept w w6 := ⟨(K4.below.alloc K4.below.size _).grown g6 (by have := K4.below.size; (try simp only [Lib.bytesWorld_size, World.size_drew, drewN_size, World.size_alloc, World.size_setCell] at *); first | done | omega) (fun k hk => by cases hk; exact K4.below.size)⟩
      have hs6 : Sl w6 v2 (u16s ns) := by
        exact sl_new HS5.out g6
      have hOK := (extSr v2 m).ok
      have SM := Lib.hid (fun W (h1 : Sl W v2 (u16s ns)) (h2 : Sl W (.slice A ns.length c) (u16s ns)) => sameExt_yes W (extSr v2 m) (extSr (.slice A ns.length c) m) rfl rfl rfl rfl rfl (listString_nil _ _ _ _ _ _) (listU16_yes W _ _ ns h1 h2 hn2) (listPair_nil _ _ _ _ _ _) (listShare_nil _ _ _ _ _ _) (listShare_nil _ _ _ _ _ _) (listU16_nil _ _ _ _ _ _) (listIdentity_nil _ _ _ _ _ _) (listFilter_nil _ _ _ _ _ _))
      have HS6 := Lib.hid hs6
      clear g6 K4 hs6 d1 d1b d2 d3 HS5
      go_wp2_with (go_at_call 27; have k := K6; go_loud (refine (SM.out _ HS6.out (HV.out.below K6.below)).mono ?_); rintro e w7 ⟨rfl, hb7⟩; have K7 := K6.step hb7; clear hb7 SM k K6)
      go_ret
      exact ⟨rfl, K7.below⟩
end Go.Proofs.YtdnjkjoioabhhaaDoor

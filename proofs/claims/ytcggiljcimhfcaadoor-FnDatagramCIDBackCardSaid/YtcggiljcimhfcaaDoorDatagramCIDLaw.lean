/- FnDatagramCIDBack: the law's walk. -/
import Derived.Test.YtcggiljcimhfcaaDoorDatagramCID
import Derived.Test.YtcggiljcimhfcaaDoorFits3
import Derived.Test.YtcggiljcimhfcaaDoorSame
import Derived.Test.YtcggiljcimhfcaaDoorRows
import Derived.LaidMore
namespace Go.Proofs.YtcggiljcimhfcaaDoor
open Go.RowKit
set_option maxRecDepth 100000

set_option maxHeartbeats 1600000 in
theorem fnDatagramCIDBack.walk (w : World) (a0 : ByteArray) (_w0 : a0.size ≤ maxLen) (v1 : Value) (kinds : List UInt8) (hk : By w v1 kinds) (_w1 : kinds.length ≤ maxLen)
    (v2 : Value) (cs : List (List UInt8)) (hc : Sl w v2 (cs.map fun l => .string (bs l))) (_w2 : (∀ l ∈ cs, l.length ≤ maxLen) ∧ cs.length ≤ maxLen) (_hL : laidMetH Tryd.prog Rows.fnDatagramCIDBackRow.laid w) :
    Calls Tryd.prog 5 #[.string a0, v1, v2] w fun e w' => e = .returned (.bool true) ∧ Below w.heap.size w w' := by
  obtain ⟨cid, rfl⟩ := bs_ex a0
  obtain ⟨A1, c1, rfl, hlc1, hr1⟩ := hk.parts
  have hc' : Sl w v2 (strs cs) := hc
  obtain ⟨A2, c2, rfl, hlc2, hr2⟩ := hc'.str
  have HR1 := Lib.hid hr1
  have HR2 := Lib.hid hr2
  have HC := Lib.hid hc'
  obtain ⟨i0, hi0, hz0, hz1, hz2⟩ := info_parts Tryd.infoString
  clear hr1 hr2 hc hc' hk _hL _w0 _w1 _w2
  by_cases h1 : (2147483647 : Int) < cid.length
  · go_enter Tryd.func5, Tryd.ntmps5
    go_wp2_with fail
    go_ret
    exact ⟨rfl, Below.refl _ _⟩
  by_cases h2 : (2147483647 : Int) < kinds.length
  · have d1 : decide ((2147483647 : Int) < (cid.length : Int)) = false := by simpa using h1
    have d2 : decide ((2147483647 : Int) < (kinds.length : Int)) = true := by simpa using h2
    go_enter Tryd.func5, Tryd.ntmps5
    go_wp2_with fail
    go_ret
    exact ⟨rfl, Below.refl _ _⟩
  have d1 : decide ((2147483647 : Int) < (cid.length : Int)) = false := by simpa using h1
  have d2 : decide ((2147483647 : Int) < (kinds.length : Int)) = false := by simpa using h2
  by_cases h3 : cs.length ≤ 2147483647 ∧ ∀ l ∈ cs, l.length ≤ 2147483647
  rotate_left
  · go_enter Tryd.func5, Tryd.ntmps5
    go_wp2_with (go_at_call 10; refine (fits3_any _ _ _ HC.out).mono ?_; rintro e w1 ⟨b, rfl, hb, hb1⟩; obtain rfl := bool_false hb h3)
    go_ret
    exact ⟨rfl, hb1⟩
  have HF := Lib.hid h3
  have hk31 : kinds.length ≤ 2147483647 := by omega
  have hc31 : cs.length ≤ 2147483647 := h3.1
  clear h1 h2 h3
  go_enter Tryd.func5, Tryd.ntmps5
  go_wp2_with (go_at_call 10; refine (fits3_any _ _ _ HC.out).mono ?_; rintro e w1 ⟨b, rfl, hb, hb1⟩; obtain rfl : b = true := hb.2 HF.out; clear hb)
  go_loopg [7, 8, 9, 10, 11, 12, 30] cs.length (fun m sv v _ _ _ _ x wr => ∃ (k : Nat) (R : List (List UInt8)) (s : List UInt8), k ≤ cs.length ∧ m = cs.length - k ∧ x = .int .i64 (k : Int) ∧ sv = .string (bs s) ∧ Hid (s = R.flatten) ∧ Hid (R.length = k) ∧
    Hid (wr.ownsRow w.heap.size 9 1 v k (strs R)) ∧ Hid (∀ r ∈ R, Rec cid.length r) ∧ Hid (0 < R.length → cid.length ≤ 255) ∧ s.length ≤ 265803 ∧ Below w.heap.size w wr)
  case atStart => exact ⟨0, [], [], Nat.zero_le _, rfl, rfl, rfl, rfl, rfl, World.ownsRow_nil _ _ _ _, fun r h => by simp at h, fun h => by simp at h, by simp, hb1⟩
  case round =>
    obtain ⟨k, R, s, hk, rfl, rfl, rfl, HS, HRl, Hown, HRec, Hcl, hs, hbr⟩ := hrel
    clear hb1
    by_cases hlt : k < cs.length
    rotate_left
    · obtain rfl : k = cs.length := by omega
      have hRl : R.length ≤ 2147483647 := by rw [HRl.out]; exact hc31
      rw [HS.out] at hs
      have hf : R.flatten.length ≤ 2147483647 := by omega
      have hdc := fun W : World => datagramCID_ok W R cid.length Hcl.out HRec.out hf hRl
      rw [← HS.out] at hdc
      have HD := Lib.hid hdc
      have HSM := Lib.hid hRl
      clear hdc hRl hf
      go_wp2_with (first
        | (go_at_call 12; refine (HD.out _).mono ?_; rintro e w2 ⟨v2, rfl, hs2, hb2⟩; have HS2 := Lib.hid hs2; clear hs2)
        | (go_at_call 13; refine (same_yes _ _ _ R HS2.out (Sl.of_own (owns_below Hown.out hb2)) HSM.out).mono ?_; rintro e w3 ⟨rfl, hb3⟩))
      go_ret
      exact ⟨rfl, (hbr.trans (hb2.mono hbr.size)).trans (hb3.mono (by have := hbr.size; have := hb2.size; omega))⟩
    obtain ⟨g2, o2, rfl, hg2, hcell2⟩ := HR2.out (by omega)
    have c2 : wr.cell? ⟨g2, o2 + k, none⟩ = some (.string (bs cs[k])) := by rw [hbr.cell (p := ⟨g2, o2 + k, none⟩) hg2]; exact hcell2 k hlt
    generalize cs[k] = c at c2
    clear hcell2
    by_cases h1 : kinds.length ≤ k
    · have e1 : decide ((kinds.length : Int) ≤ (k : Int)) = true := by simp; omega
      go_wp2
      go_ret
      exact ⟨rfl, hbr⟩
    have e1 : decide ((kinds.length : Int) ≤ (k : Int)) = false := by simp; omega
    by_cases h2 : c.length = 0
    · have e2 : ((c.length : Int) == 0) = true := by simp [h2]
      clear h2
      go_wp2
      go_ret
      exact ⟨rfl, hbr⟩
    have e2 : ((c.length : Int) == 0) = false := by rw [beq_eq_false_iff_ne]; omega
    by_cases h3 : 65535 < c.length
    · have e3 : decide ((65535 : Int) < (c.length : Int)) = true := by simp; omega
      go_wp2
      go_ret
      exact ⟨rfl, hbr⟩
    have e3 : decide ((65535 : Int) < (c.length : Int)) = false := by simp; omega
    by_cases h4 : 255 < cid.length
    · have e4 : decide ((255 : Int) < (cid.length : Int)) = true := by simp; omega
      go_wp2
      go_ret
      exact ⟨rfl, hbr⟩
    have e4 : decide ((255 : Int) < (cid.length : Int)) = false := by simp; omega
    by_cases h5 : 200000 < s.length
    · have e5 : decide ((200000 : Int) < (s.length : Int)) = true := by simp; omega
      go_wp2
      go_ret
      exact ⟨rfl, hbr⟩
    have e5 : decide ((200000 : Int) < (s.length : Int)) = false := by simp; omega
    obtain ⟨g1, o1, rfl, hg1, hcell1⟩ := HR1.out (by omega)
    have c1 : wr.cell? ⟨g1, o1 + k, none⟩ = some (.int .u8 ((kinds[k]'(by omega)).toNat : Int)) := by rw [hbr.cell (p := ⟨g1, o1 + k, none⟩) hg1]; exact hcell1 k (by omega)
    generalize kinds[k]'(by omega) = K at c1
    clear hcell1
    have i1 : (k : Int) < (kinds.length : Int) := by omega
    have x1 : IntKind.u64.wrap (k : Int) = (k : Int) := by simp [IntKind.wrap, IntKind.bits, IntKind.signed]; omega
    have hwr := hbr.size
    by_cases h6 : K = 25
    · have e6 : ((K.toNat : Int) == 25) = true := by subst h6; rfl
      obtain ⟨r, hr⟩ : ∃ r, r = frameL K 1 k cid c := ⟨_, rfl⟩
      have hrec : Rec cid.length r := ⟨K, k, cid, c, hr, by omega, by omega, by rw [if_pos h6]⟩
      have hs2 : s.length ≤ 200000 := by omega
      have hrl : r.length ≤ 65803 := by rw [hr, frameL_length]; first | omega | (simp; omega)
      have hfr := fun W : World => framed_any W K 1 k cid c (by omega) (by omega) (by first | omega | simp) (by omega)
      rw [← hr] at hfr
      have HFR := Lib.hid hfr
      have HK6 := Lib.hid (And.intro hrec h6)
      clear hr hfr hrec h1 h2 h3 h5 h6
      go_wp2_with (first
        | (go_at_call 11; refine (HFR.out _).mono ?_; rintro e w2 ⟨rfl, hb2⟩; have hown2 := Lib.hid (owns_below Hown.out hb2); have hb3 := hbr.trans (hb2.mono hbr.size); have hs3 := hb3.size)
        | (at_builtin; refine wpList_append_one rfl _ _ 28 rfl w.heap.size 9 i0 _ 16 Tryd.underlying28 hi0 hz0 hz1 hz2 rfl _ k _ rfl (hown2.out.alloc _) w2.heap.size _ _ rfl (by simp [go_sem]; rfl) rfl (by simp only [maxLen]; omega) (by omega) (by (try simp only [Lib.bytesWorld_size, World.size_drew, drewN_size, World.size_alloc, World.size_setCell] at *); first | done | omega) ?_; intro v' w4 hown4 hg4; have H4 := Lib.hid hown4; have H5 := Lib.hid ((hb3.alloc hb3.size _).grown hg4 (by simp; omega) (fun k hk => (hown2.out.lt k hk).1)); clear hown4 hg4))
      go_roundg (cs.length - (k + 1))
      case measure => omega
      case rel =>
        refine ⟨k + 1, R ++ [r], _, by omega, rfl, by go_num, rfl, ?_, ?_, ?_, ?_, ?_, ?_, H5.out⟩
        · show _ = _
          rw [List.flatten_append, ← HS.out]; simp
        · show _ = _
          rw [List.length_append, HRl.out]; rfl
        · have := H4.out
          show World.ownsRow _ _ _ _ _ _ _
          rw [show strs (R ++ [r]) = strs R ++ [.string (bs r)] by simp [strs]]
          exact this
        · intro x hx
          rcases List.mem_append.1 hx with h | h
          · exact HRec.out x h
          · rw [List.mem_singleton.1 h]; exact HK6.out.1
        · intro _; omega
        · simp; omega
    · have e6 : ((K.toNat : Int) == 25) = false := by
        rw [beq_eq_false_iff_ne]; intro h; apply h6; apply UInt8.toNat_inj.1; have : K.toNat = 25 := by exact_mod_cast h
        simpa using this
      obtain ⟨r, hr⟩ : ∃ r, r = frameL K 1 k [] c := ⟨_, rfl⟩
      have hrec : Rec cid.length r := ⟨K, k, [], c, hr, by omega, by omega, by rw [if_neg h6, List.length_nil]⟩
      have hs2 : s.length ≤ 200000 := by omega
      have hrl : r.length ≤ 65803 := by rw [hr, frameL_length]; first | omega | (simp; omega)
      have hfr := fun W : World => framed_any W K 1 k [] c (by omega) (by omega) (by first | omega | simp) (by omega)
      rw [← hr] at hfr
      have HFR := Lib.hid hfr
      have HK6 := Lib.hid (And.intro hrec h6)
      clear hr hfr hrec h1 h2 h3 h5 h6
      go_wp2_with (first
        | (go_at_call 11; refine (HFR.out _).mono ?_; rintro e w2 ⟨rfl, hb2⟩; have hown2 := Lib.hid (owns_below Hown.out hb2); have hb3 := hbr.trans (hb2.mono hbr.size); have hs3 := hb3.size)
        | (at_builtin; refine wpList_append_one rfl _ _ 28 rfl w.heap.size 9 i0 _ 16 Tryd.underlying28 hi0 hz0 hz1 hz2 rfl _ k _ rfl (hown2.out.alloc _) w2.heap.size _ _ rfl (by simp [go_sem]; rfl) rfl (by simp only [maxLen]; omega) (by omega) (by (try simp only [Lib.bytesWorld_size, World.size_drew, drewN_size, World.size_alloc, World.size_setCell] at *); first | done | omega) ?_; intro v' w4 hown4 hg4; have H4 := Lib.hid hown4; have H5 := Lib.hid ((hb3.alloc hb3.size _).grown hg4 (by simp; omega) (fun k hk => (hown2.out.lt k hk).1)); clear hown4 hg4))
      go_roundg (cs.length - (k + 1))
      case measure => omega
      case rel =>
        refine ⟨k + 1, R ++ [r], _, by omega, rfl, by go_num, rfl, ?_, ?_, ?_, ?_, ?_, ?_, H5.out⟩
        · show _ = _
          rw [List.flatten_append, ← HS.out]; simp
        · show _ = _
          rw [List.length_append, HRl.out]; rfl
        · have := H4.out
          show World.ownsRow _ _ _ _ _ _ _
          rw [show strs (R ++ [r]) = strs R ++ [.string (bs r)] by simp [strs]]
          exact this
        · intro x hx
          rcases List.mem_append.1 hx with h | h
          · exact HRec.out x h
          · rw [List.mem_singleton.1 h]; exact HK6.out.1
        · intro _; omega
        · simp; omega
end Go.Proofs.YtcggiljcimhfcaaDoor

/- MessageClientKeyExchange.Unmarshal: all is there. -/
import Derived.Test.YtdnjkjoioabhhaaDoorKeyU
namespace Go.Proofs.YtdnjkjoioabhhaaDoor
open Go.RowKit
set_option maxRecDepth 100000
theorem Grow.lit' {w W : World} (hb : Below w.heap.size w W) (e : TypeId) (k : Nat) (hk : k = W.heap.size) : Grow w e (.slice (some ⟨k, 0, none⟩) 0 0) [] (W.alloc (.cells #[] e)) := by subst hk; exact Grow.lit hb [] e (by simp)
set_option maxHeartbeats 1600000 in
/-- All is there. -/
theorem keyU_whole (w : World) (g : Nat) (v1 : Value) (d h : List UInt8) (H : Nat) (hB : Blk w g 80 [.slice none 0 0, .slice none 0 0, .int .i64 6]) (hv : By w v1 d) (hne : v1.ownBlock ≠ some g) (hd : 2 + H ≤ d.length) (hd' : d.length ≤ 2147483647) (hH : 1 ≤ H)
    (h0 : nat (d.take 2) = H) (hh : (d.drop 2).take H = h) (P : Nat) (u : UInt8) (h4 : d[H + 2]? = some u) (hu : u.toNat = P) (hP1 : 1 ≤ P) (he : d.length = H + 3 + P) (p : List UInt8) (hp : (d.drop (H + 3)).take P = p) :
    Calls Tryd.prog 41 #[.pointer (some ⟨g, 0, none⟩), v1] w fun e w' => e = .returned .nilIface ∧ KeyRead w g 6 h p w' := by
  obtain ⟨A, c, rfl, hlc, hr⟩ := hv.parts
  obtain ⟨g1, o1, rfl, hg1, hcell⟩ := hr (by omega)
  have hgg : g1 ≠ g := fun h => hne (by rw [h]; rfl)
  have b2 : w.cell? ⟨g, 2, none⟩ = some (.int .i64 6) := hB.cell 2
  have hg := hB.lt
  have H0 := Lib.hid h0
  have HV := Lib.hid hv
  have HB := Lib.hid hB
  have HH := Lib.hid hh
  have HC := Lib.hid hcell
  have hH3 : H < 65536 := by have := nat_lt (d.take 2); rw [h0] at this; simp at this; have := Nat.pow_le_pow_right (n := 256) (by omega) (Nat.min_le_left 2 d.length); omega
  clear hB hv h0 hr hcell hh hne
  have d1 : decide ((d.length : Int) < 2) = false := by simp; omega
  have d2 : decide ((d.length : Int) - 2 < (H : Int)) = false := by simp; omega
  have x2 : IntKind.i64.wrap (H : Int) = (H : Int) := by simp [IntKind.wrap, IntKind.bits, IntKind.signed]; omega
  have x3 : IntKind.i64.wrap ((H : Int) + 2) = (H : Int) + 2 := by simp [IntKind.wrap, IntKind.bits, IntKind.signed]; omega
  have i1 : (2 : Int) ≤ (H : Int) + 2 := by omega
  have i2 : (H : Int) + 2 ≤ (c : Int) := by omega
  have i3 : (0 : Int) ≤ (H : Int) + 2 := by omega
  have i4 : ¬ c = 2 := by omega
  have hl : h.length = H := by rw [← HH.out]; simp; omega
  have HL := Lib.hid hl
  clear hl
  have H4 := Lib.hid h4
  have HU := Lib.hid hu
  have hP : P < 256 := by rw [← hu]; exact u.toNat_lt
  clear h4 hu
  have d3 : decide ((d.length : Int) ≤ (H : Int) + 2) = false := by simp; omega
  have x4 : IntKind.i64.wrap (P : Int) = (P : Int) := by simp [IntKind.wrap, IntKind.bits, IntKind.signed]; omega
  have j1 : (H : Int) + 2 < (d.length : Int) := by omega
  have d4 : decide ((d.length : Int) - 1 - ((H : Int) + 2) < (P : Int)) = false := by simp; omega
  have HP := Lib.hid hp
  have hd2 : H + 3 + P ≤ d.length := by omega
  have x5 : IntKind.i64.wrap ((H : Int) + 3) = (H : Int) + 3 := by simp [IntKind.wrap, IntKind.bits, IntKind.signed]; omega
  have x6 : IntKind.i64.wrap ((H : Int) + 2 + 1) = (H : Int) + 3 := by simp [IntKind.wrap, IntKind.bits, IntKind.signed]; omega
  have x7 : IntKind.i64.wrap ((H : Int) + 3 + (P : Int)) = (H : Int) + 3 + (P : Int) := by simp [IntKind.wrap, IntKind.bits, IntKind.signed]; omega
  have hpl : p.length = P := by rw [← hp]; simp; omega
  have HPL := Lib.hid hpl
  have i5 : ¬ c = H + 3 := by omega
  clear he hp hpl
  go_enter Tryd.func41, Tryd.ntmps41
  go_wp2_with (first
    | (go_at_call 88; refine (has_any _ 6 2 true (by decide)).mono ?_; rintro e w1 ⟨rfl, rfl⟩)
    | (go_at_call 88; refine (has_any _ 6 4 true (by decide)).mono ?_; rintro e w1 ⟨rfl, rfl⟩)
    | (go_at_call 89; refine (get16 _ _ _ HV.out (by omega)).mono ?_; rw [H0.out]; rintro e w1 ⟨rfl, hb1⟩; have b2' := (hb1.cell (p := ⟨g, 2, none⟩) hg).trans b2; have HV1 := Lib.hid (HV.out.below hb1); have Hb1 := Lib.hid hb1; clear hb1)
    | (at_builtin; have hb := Hb1.out; refine wpList_append_by (w := w) rfl (.tmp 36) (.tmp 40) 25 rfl 5 Tryd.underlying25 Tryd.infoByte _ [] rfl (Grow.lit hb [] 5 (by simp)) _ ((d.drop 2).take (H + 2 - 2)) rfl ((By.cut HV1.out (a := 2) (b := H + 2) (by omega) (by omega) (by omega) rfl (fun _ g' o' e => by cases e; rfl)).alloc _) (by simp; omega) ?_
       intro v' W' hG
       rw [Nat.add_sub_cancel, HH.out, List.nil_append] at hG
       obtain ⟨g2, c2, rfl, hg2, B2, ef⟩ := grown_by_hint hG (by have := HL.out; omega) HB.out
       have e0 := B2.cell 0
       have e2 := B2.cell 2
       have HG2 := Lib.hid hG
       have HB2 := Lib.hid (B2.set 0 (.slice (some ⟨g2, 0, none⟩) h.length c2))
       have c5 : (W'.setCell ⟨g, 0, none⟩ (.slice (some ⟨g2, 0, none⟩) h.length c2)).cell? ⟨g1, o1 + (H + 2), none⟩ = some (.int .u8 (P : Int)) := by
         refine ((cell_far hgg _).trans (hG.below.cell (p := ⟨g1, _, none⟩) hg1)).trans ?_; rw [HC.out (H + 2) (by omega)]; have h4 := H4.out; rw [List.getElem?_eq_getElem (by omega)] at h4; rw [Option.some.inj h4, HU.out]
       have HV2 := Lib.hid (HV.out.below hG.below)
       have hgs := hG.below.size
       clear hG B2 b2' HV1 hb Hb1)
    | (at_builtin; have hb := HB2.out; have hv2 := By.far HV2.out (p := ⟨g, 0, none⟩) (by intro e; exact hgg (Option.some.inj e)) (.slice (some ⟨g2, 0, none⟩) h.length c2); go_loud (refine wpList_append_by (w := W'.setCell ⟨g, 0, none⟩ (.slice (some ⟨g2, 0, none⟩) h.length c2)) rfl (.tmp 72) (.tmp 80) 25 rfl 5 Tryd.underlying25 Tryd.infoByte _ [] rfl (Grow.lit' (Below.refl _ _) 5 W'.heap.size (by simp)) _ ((d.drop (H + 3)).take (H + 3 + P - (H + 3))) rfl ((By.cut hv2 (a := H + 3) (b := H + 3 + P) (by omega) (by omega) (by omega) rfl (fun _ g' o' e => by cases e; rfl)).alloc _) (by simp; omega) ?_)
       intro v3 W3 hG3
       rw [Nat.add_sub_cancel_left, HP.out, List.nil_append] at hG3
       obtain ⟨g3, c3, rfl, hg3, B3, ef3⟩ := grown_by_hint hG3 (by have := HPL.out; omega) HB2.out
       have e31 := B3.cell 1
       have HG3 := Lib.hid hG3
       have HB3 := Lib.hid B3
       have HV3 := Lib.hid ((By.far HG2.out.by (p := ⟨g, 0, none⟩) (by intro e; have e' : g2 = g := Option.some.inj e; omega) (.slice (some ⟨g2, 0, none⟩) h.length c2)).below hG3.below)
       clear hG3 B3 hb hv2 HB2))
  trace_state
  go_ret
  refine ⟨rfl, _, _, HB3.out.set 1 _, HV3.out.far ?_ _, HG3.out.by.far ?_ _, grown_set (grown_trans (grown_set (grown_below HG2.out.below) _ _) (grown_below HG3.out.below)) _ _⟩
  · intro e; have e' : g2 = g := Option.some.inj e; omega
  · intro e; have e' : g3 = g := Option.some.inj e; have : W'.heap.size ≤ g3 := by simpa using hg3
    omega
end Go.Proofs.YtdnjkjoioabhhaaDoor

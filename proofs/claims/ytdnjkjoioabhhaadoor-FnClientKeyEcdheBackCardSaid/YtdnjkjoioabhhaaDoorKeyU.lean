/- MessageClientKeyExchange.Unmarshal: contracts for an identity with a curve. -/
import Derived.Test.YtdnjkjoioabhhaaDoorKey
import Derived.Test.YtdnjkjoioabhhaaDoorGet16
import Derived.Test.YtdnjkjoioabhhaaDoorSent
import Derived.Test.YtdnjkjoioabhhaaDoorStore
namespace Go.Proofs.YtdnjkjoioabhhaaDoor
open Go.RowKit
set_option maxRecDepth 100000

theorem cell_far {W : World} {g g0 k k0 : Nat} (h : g0 ≠ g) (u : Value) : (W.setCell ⟨g, k, none⟩ u).cell? ⟨g0, k0, none⟩ = W.cell? ⟨g0, k0, none⟩ :=
  World.cell?_setCell_other _ _ _ _ (fun e => h (by first | exact congrArg Addr.block e | exact (congrArg Addr.block e).symm))
theorem grown_by_hint {w W' : World} {e : TypeId} {v' : Value} {h : List UInt8} (hG : Grow w e v' h W') (hh : 1 ≤ h.length) {g : Nat} {T : TypeId} {cs : List Value} (hB : Blk w g T cs) :
    ∃ g2 c2, v' = .slice (some ⟨g2, 0, none⟩) h.length c2 ∧ w.heap.size ≤ g2 ∧ Blk W' g T cs ∧ ∀ i, W'.frozen? ⟨g, i, none⟩ = false := by
  obtain ⟨g2, c2, rfl, hg2, _⟩ := hG.form (by intro h0; have ⟨_, _, e⟩ := hG.len; rw [h0] at e; injection e with _ e2 _; omega)
  have B2 := hB.below hG.below hB.lt
  exact ⟨g2, c2, rfl, hg2, B2, B2.frozen⟩
/-- An error alone; the block g may be changed. -/
def ErrAt (w : World) (g : Nat) (e : Ending) (w' : World) : Prop := ∃ T x, e = .returned (.iface T x) ∧ w.grownBy w' (some g)
/-- The message stands in the block g: both texts, and nothing else of w is changed. -/
def KeyRead (w : World) (g : Nat) (kx : Int) (h p : List UInt8) (w' : World) : Prop := ∃ vh vp, Blk w' g 80 [vh, vp, .int .i64 kx] ∧ By w' vh h ∧ By w' vp p ∧ w.grownBy w' (some g)
theorem keyU_short (w : World) (g : Nat) (v1 : Value) (d : List UInt8) (hv : By w v1 d) (hd : d.length < 2) (hs : Sent w 0) :
    Calls Tryd.prog 41 #[.pointer (some ⟨g, 0, none⟩), v1] w (ErrAt w g) := by
  obtain ⟨A, c, rfl⟩ := hv.len
  obtain ⟨T, x, hs⟩ := hs
  have d1 : decide ((d.length : Int) < 2) = true := by simp; omega
  go_enter Tryd.func41, Tryd.ntmps41
  go_wp2
  go_ret
  exact ⟨_, _, rfl, World.grownBy.refl _ _⟩
/-- An identity that is not all there. -/
theorem keyU_hint (w : World) (g : Nat) (v1 : Value) (d : List UInt8) (H : Nat) (hB : Blk w g 80 [.slice none 0 0, .slice none 0 0, .int .i64 6]) (hv : By w v1 d) (hd : 2 ≤ d.length) (hd' : d.length ≤ 2147483647)
    (h0 : nat (d.take 2) = H) (hH : d.length < H + 2) (hs : Sent w 0) :
    Calls Tryd.prog 41 #[.pointer (some ⟨g, 0, none⟩), v1] w (ErrAt w g) := by
  obtain ⟨A, c, rfl⟩ := hv.len
  have b2 : w.cell? ⟨g, 2, none⟩ = some (.int .i64 6) := hB.cell 2
  have hg := hB.lt
  have H0 := Lib.hid h0
  have HV := Lib.hid hv
  have hH3 : H < 65536 := by have := nat_lt (d.take 2); rw [h0] at this; simp at this; have := Nat.pow_le_pow_right (n := 256) (by omega) (Nat.min_le_left 2 d.length); omega
  clear hB hv h0
  have d1 : decide ((d.length : Int) < 2) = false := by simp; omega
  have d2 : decide ((d.length : Int) - 2 < (H : Int)) = true := by simp; omega
  have x2 : IntKind.i64.wrap (H : Int) = (H : Int) := by simp [IntKind.wrap, IntKind.bits, IntKind.signed]; omega
  go_enter Tryd.func41, Tryd.ntmps41
  go_wp2_with (first
    | (go_at_call 88; refine (has_any _ 6 2 true (by decide)).mono ?_; rintro e w1 ⟨rfl, rfl⟩)
    | (go_at_call 89; refine (get16 _ _ _ HV.out hd).mono ?_; rw [H0.out]; rintro e w1 ⟨rfl, hb1⟩; obtain ⟨T, x, hs1⟩ := hs.below hb1; have Hb1 := Lib.hid hb1; clear hb1))
  go_ret
  exact ⟨_, _, rfl, grown_below Hb1.out⟩
set_option maxHeartbeats 1600000 in
/-- The identity is there, the key is not. -/
theorem keyU_bare (w : World) (g : Nat) (v1 : Value) (d h : List UInt8) (H : Nat) (hB : Blk w g 80 [.slice none 0 0, .slice none 0 0, .int .i64 6]) (hv : By w v1 d) (hne : v1.ownBlock ≠ some g) (hd : 2 + H ≤ d.length) (hd' : d.length ≤ 2147483647) (hH : 1 ≤ H)
    (h0 : nat (d.take 2) = H) (hh : (d.drop 2).take H = h) (he : d.length = H + 2) (hs : Sent w 0) :
    Calls Tryd.prog 41 #[.pointer (some ⟨g, 0, none⟩), v1] w (ErrAt w g) := by
  obtain ⟨T, x, hs⟩ := hs
  have hg0 : g ≠ 0 := fun e => by subst e; have h1 := hB.cell 0; rw [hs] at h1; cases h1
  have hgs0 : 0 < w.heap.size := Sent.lt ⟨T, x, hs⟩
  obtain ⟨A, c, rfl, hlc, hr⟩ := hv.parts
  obtain ⟨g1, o1, rfl, hg1, hcell⟩ := hr (by omega)
  have hgg : g1 ≠ g := fun h => hne (by rw [h]; rfl)
  have b2 : w.cell? ⟨g, 2, none⟩ = some (.int .i64 6) := hB.cell 2
  have hg := hB.lt
  have H0 := Lib.hid h0
  have HV := Lib.hid hv
  have HB := Lib.hid hB
  have HH := Lib.hid hh
  have HC := Lib.hid hcell
  have hH3 : H < 65536 := by have := nat_lt (d.take 2); rw [h0] at this; simp at this; have := Nat.pow_le_pow_right (n := 256) (by omega) (Nat.min_le_left 2 d.length); omega
  clear hB hv h0 hr hcell hh hne
  have d1 : decide ((d.length : Int) < 2) = false := by simp; omega
  have d2 : decide ((d.length : Int) - 2 < (H : Int)) = false := by simp; omega
  have x2 : IntKind.i64.wrap (H : Int) = (H : Int) := by simp [IntKind.wrap, IntKind.bits, IntKind.signed]; omega
  have x3 : IntKind.i64.wrap ((H : Int) + 2) = (H : Int) + 2 := by simp [IntKind.wrap, IntKind.bits, IntKind.signed]; omega
  have i1 : (2 : Int) ≤ (H : Int) + 2 := by omega
  have i2 : (H : Int) + 2 ≤ (c : Int) := by omega
  have i3 : (0 : Int) ≤ (H : Int) + 2 := by omega
  have i4 : ¬ c = 2 := by omega
  have hl : h.length = H := by rw [← HH.out]; simp; omega
  have HL := Lib.hid hl
  clear hl
  have d3 : decide ((d.length : Int) ≤ (H : Int) + 2) = true := by simp; omega
  clear he
  go_enter Tryd.func41, Tryd.ntmps41
  go_wp2_with (first
    | (go_at_call 88; refine (has_any _ 6 2 true (by decide)).mono ?_; rintro e w1 ⟨rfl, rfl⟩)
    | (go_at_call 88; refine (has_any _ 6 4 true (by decide)).mono ?_; rintro e w1 ⟨rfl, rfl⟩)
    | (go_at_call 89; refine (get16 _ _ _ HV.out (by omega)).mono ?_; rw [H0.out]; rintro e w1 ⟨rfl, hb1⟩; have b2' := (hb1.cell (p := ⟨g, 2, none⟩) hg).trans b2; have HV1 := Lib.hid (HV.out.below hb1); have Hb1 := Lib.hid hb1; clear hb1)
    | (at_builtin; have hb := Hb1.out; refine wpList_append_by (w := w) rfl (.tmp 36) (.tmp 40) 25 rfl 5 Tryd.underlying25 Tryd.infoByte _ [] rfl (Grow.lit hb [] 5 (by simp)) _ ((d.drop 2).take (H + 2 - 2)) rfl ((By.cut HV1.out (a := 2) (b := H + 2) (by omega) (by omega) (by omega) rfl (fun _ g' o' e => by cases e; rfl)).alloc _) (by simp; omega) ?_
       intro v' W' hG
       rw [Nat.add_sub_cancel, HH.out, List.nil_append] at hG
       obtain ⟨g2, c2, rfl, hg2, B2, ef⟩ := grown_by_hint hG (by have := HL.out; omega) HB.out
       have e0 := B2.cell 0
       have e2 := B2.cell 2
       have HG2 := Lib.hid hG
       have HB2 := Lib.hid (B2.set 0 (.slice (some ⟨g2, 0, none⟩) h.length c2))
       have s1 : (W'.setCell ⟨g, 0, none⟩ (.slice (some ⟨g2, 0, none⟩) h.length c2)).cell? ⟨0, 0, none⟩ = some (.iface T x) := by
         exact (cell_far hg0.symm _).trans <| (hG.below.cell (p := ⟨_, 0, none⟩) hgs0).trans hs
       have HV2 := Lib.hid (HV.out.below hG.below)
       have hgs := hG.below.size
       clear hG B2 b2' HV1 hb Hb1))
  go_ret
  exact ⟨_, _, rfl, grown_set (grown_below HG2.out.below) _ _⟩
set_option maxHeartbeats 1600000 in
/-- The key is not all there. -/
theorem keyU_part (w : World) (g : Nat) (v1 : Value) (d h : List UInt8) (H : Nat) (hB : Blk w g 80 [.slice none 0 0, .slice none 0 0, .int .i64 6]) (hv : By w v1 d) (hne : v1.ownBlock ≠ some g) (hd : 2 + H ≤ d.length) (hd' : d.length ≤ 2147483647) (hH : 1 ≤ H)
    (h0 : nat (d.take 2) = H) (hh : (d.drop 2).take H = h) (P : Nat) (u : UInt8) (h4 : d[H + 2]? = some u) (hu : u.toNat = P) (he : d.length < H + 3 + P) (he2 : H + 3 ≤ d.length) (hs : Sent w 0) :
    Calls Tryd.prog 41 #[.pointer (some ⟨g, 0, none⟩), v1] w (ErrAt w g) := by
  obtain ⟨T, x, hs⟩ := hs
  have hg0 : g ≠ 0 := fun e => by subst e; have h1 := hB.cell 0; rw [hs] at h1; cases h1
  have hgs0 : 0 < w.heap.size := Sent.lt ⟨T, x, hs⟩
  obtain ⟨A, c, rfl, hlc, hr⟩ := hv.parts
  obtain ⟨g1, o1, rfl, hg1, hcell⟩ := hr (by omega)
  have hgg : g1 ≠ g := fun h => hne (by rw [h]; rfl)
  have b2 : w.cell? ⟨g, 2, none⟩ = some (.int .i64 6) := hB.cell 2
  have hg := hB.lt
  have H0 := Lib.hid h0
  have HV := Lib.hid hv
  have HB := Lib.hid hB
  have HH := Lib.hid hh
  have HC := Lib.hid hcell
  have hH3 : H < 65536 := by have := nat_lt (d.take 2); rw [h0] at this; simp at this; have := Nat.pow_le_pow_right (n := 256) (by omega) (Nat.min_le_left 2 d.length); omega
  clear hB hv h0 hr hcell hh hne
  have d1 : decide ((d.length : Int) < 2) = false := by simp; omega
  have d2 : decide ((d.length : Int) - 2 < (H : Int)) = false := by simp; omega
  have x2 : IntKind.i64.wrap (H : Int) = (H : Int) := by simp [IntKind.wrap, IntKind.bits, IntKind.signed]; omega
  have x3 : IntKind.i64.wrap ((H : Int) + 2) = (H : Int) + 2 := by simp [IntKind.wrap, IntKind.bits, IntKind.signed]; omega
  have i1 : (2 : Int) ≤ (H : Int) + 2 := by omega
  have i2 : (H : Int) + 2 ≤ (c : Int) := by omega
  have i3 : (0 : Int) ≤ (H : Int) + 2 := by omega
  have i4 : ¬ c = 2 := by omega
  have hl : h.length = H := by rw [← HH.out]; simp; omega
  have HL := Lib.hid hl
  clear hl
  have H4 := Lib.hid h4
  have HU := Lib.hid hu
  have hP : P < 256 := by rw [← hu]; exact u.toNat_lt
  clear h4 hu
  have d3 : decide ((d.length : Int) ≤ (H : Int) + 2) = false := by simp; omega
  have x4 : IntKind.i64.wrap (P : Int) = (P : Int) := by simp [IntKind.wrap, IntKind.bits, IntKind.signed]; omega
  have j1 : (H : Int) + 2 < (d.length : Int) := by omega
  have d4 : decide ((d.length : Int) - 1 - ((H : Int) + 2) < (P : Int)) = true := by simp; omega
  clear he
  go_enter Tryd.func41, Tryd.ntmps41
  go_wp2_with (first
    | (go_at_call 88; refine (has_any _ 6 2 true (by decide)).mono ?_; rintro e w1 ⟨rfl, rfl⟩)
    | (go_at_call 88; refine (has_any _ 6 4 true (by decide)).mono ?_; rintro e w1 ⟨rfl, rfl⟩)
    | (go_at_call 89; refine (get16 _ _ _ HV.out (by omega)).mono ?_; rw [H0.out]; rintro e w1 ⟨rfl, hb1⟩; have b2' := (hb1.cell (p := ⟨g, 2, none⟩) hg).trans b2; have HV1 := Lib.hid (HV.out.below hb1); have Hb1 := Lib.hid hb1; clear hb1)
    | (at_builtin; have hb := Hb1.out; refine wpList_append_by (w := w) rfl (.tmp 36) (.tmp 40) 25 rfl 5 Tryd.underlying25 Tryd.infoByte _ [] rfl (Grow.lit hb [] 5 (by simp)) _ ((d.drop 2).take (H + 2 - 2)) rfl ((By.cut HV1.out (a := 2) (b := H + 2) (by omega) (by omega) (by omega) rfl (fun _ g' o' e => by cases e; rfl)).alloc _) (by simp; omega) ?_
       intro v' W' hG
       rw [Nat.add_sub_cancel, HH.out, List.nil_append] at hG
       obtain ⟨g2, c2, rfl, hg2, B2, ef⟩ := grown_by_hint hG (by have := HL.out; omega) HB.out
       have e0 := B2.cell 0
       have e2 := B2.cell 2
       have HG2 := Lib.hid hG
       have HB2 := Lib.hid (B2.set 0 (.slice (some ⟨g2, 0, none⟩) h.length c2))
       have s1 : (W'.setCell ⟨g, 0, none⟩ (.slice (some ⟨g2, 0, none⟩) h.length c2)).cell? ⟨0, 0, none⟩ = some (.iface T x) := by
         exact (cell_far hg0.symm _).trans <| (hG.below.cell (p := ⟨_, 0, none⟩) hgs0).trans hs
       have c5 : (W'.setCell ⟨g, 0, none⟩ (.slice (some ⟨g2, 0, none⟩) h.length c2)).cell? ⟨g1, o1 + (H + 2), none⟩ = some (.int .u8 (P : Int)) := by
         refine ((cell_far hgg _).trans (hG.below.cell (p := ⟨g1, _, none⟩) hg1)).trans ?_; rw [HC.out (H + 2) (by omega)]; have h4 := H4.out; rw [List.getElem?_eq_getElem (by omega)] at h4; rw [Option.some.inj h4, HU.out]
       have HV2 := Lib.hid (HV.out.below hG.below)
       have hgs := hG.below.size
       clear hG B2 b2' HV1 hb Hb1))
  go_ret
  exact ⟨_, _, rfl, grown_set (grown_below HG2.out.below) _ _⟩
end Go.Proofs.YtdnjkjoioabhhaaDoor

/- MessageClientKeyExchange.Unmarshal: a curve alone. -/
import Derived.Test.YtdnjkjoioabhhaaDoorKeyV
namespace Go.Proofs.YtdnjkjoioabhhaaDoor
open Go.RowKit
set_option maxRecDepth 100000

set_option maxHeartbeats 1600000 in
theorem keyU4 (w : World) (g : Nat) (v1 : Value) (d p : List UInt8) (P : Nat) (u : UInt8) (hB : Blk w g 80 [.slice none 0 0, .slice none 0 0, .int .i64 4]) (hv : By w v1 d) (hne : v1.ownBlock ≠ some g)
    (hP1 : 1 ≤ P) (he : d.length = P + 1) (h4 : d[0]? = some u) (hu : u.toNat = P) (hp : (d.drop 1).take P = p) :
    Calls Tryd.prog 41 #[.pointer (some ⟨g, 0, none⟩), v1] w fun e w' => e = .returned .nilIface ∧ KeyRead w g 4 [] p w' := by
  obtain ⟨A, c, rfl, hlc, hr⟩ := hv.parts
  obtain ⟨g1, o1, rfl, hg1, hcell⟩ := hr (by omega)
  have hgg : g1 ≠ g := fun h => hne (by rw [h]; rfl)
  have b2 : w.cell? ⟨g, 2, none⟩ = some (.int .i64 4) := hB.cell 2
  have b1 : w.cell? ⟨g, 1, none⟩ = some (.slice none 0 0) := hB.cell 1
  have bf := hB.frozen
  have hP : P < 256 := by rw [← hu]; exact u.toNat_lt
  have c0 : w.cell? ⟨g1, o1, none⟩ = some (.int .u8 (P : Int)) := by
    have := hcell 0 (by omega)
    rw [List.getElem?_eq_getElem (by omega)] at h4
    rw [Option.some.inj h4, hu] at this
    exact this
  have hg := hB.lt
  have HV := Lib.hid hv
  have HB := Lib.hid hB
  have HP := Lib.hid hp
  have hpl : p.length = P := by rw [← hp]; simp; omega
  have HPL := Lib.hid hpl
  have hd2 : P + 1 ≤ d.length := by omega
  have hd3 : 2 ≤ d.length := by omega
  have hd4 : d.length ≤ 256 := by omega
  have d1 : decide ((d.length : Int) < 2) = false := by simp; omega
  have d3 : decide ((d.length : Int) ≤ 0) = false := by simp; intro h; rw [h] at he; simp at he
  have d5 : decide (d.length ≤ 0) = false := decide_eq_false (by omega)
  have d6 : decide (d.length = 0) = false := decide_eq_false (by omega)
  have d7 : ¬ d = [] := by intro h; rw [h] at he; simp at he
  have d4 : decide ((d.length : Int) - 1 < (P : Int)) = false := by simp; omega
  have x4 : IntKind.i64.wrap (P : Int) = (P : Int) := by simp [IntKind.wrap, IntKind.bits, IntKind.signed]; omega
  have x7 : IntKind.i64.wrap ((1 : Int) + (P : Int)) = (1 : Int) + (P : Int) := by simp [IntKind.wrap, IntKind.bits, IntKind.signed]; omega
  have j0 : (0 : Int) < (d.length : Int) := by omega
  have i5 : ¬ c = 1 := by omega
  have i6 : (1 : Int) ≤ 1 + (P : Int) := by omega
  have i7 : (1 : Int) + (P : Int) ≤ (c : Int) := by omega
  clear hB hv hr hcell hne h4 hu hp hpl he
  go_enter Tryd.func41, Tryd.ntmps41
  go_wp2_with (first
    | (go_at_call 88; refine (has_any _ 4 2 false (by decide)).mono ?_; rintro e w1 ⟨rfl, rfl⟩)
    | (go_at_call 88; refine (has_any _ 4 4 true (by decide)).mono ?_; rintro e w1 ⟨rfl, rfl⟩)
    | (at_builtin; have hb := HB.out; refine wpList_append_by (w := w) rfl (.tmp 72) (.tmp 80) 25 rfl 5 Tryd.underlying25 Tryd.infoByte _ [] rfl (Grow.lit' (Below.refl _ _) 5 w.heap.size rfl) _ ((d.drop 1).take (1 + P - 1)) rfl ((By.cut HV.out (a := 1) (b := 1 + P) (by omega) (by omega) (by omega) rfl (fun _ g' o' e => by cases e; rfl)).alloc _) (by simp; omega) ?_
       intro v3 W3 hG3
       rw [Nat.add_sub_cancel_left, HP.out, List.nil_append] at hG3
       obtain ⟨g3, c3, rfl, hg3, B3, ef3⟩ := grown_by_hint hG3 (by have := HPL.out; omega) HB.out
       have e31 := B3.cell 1
       have HG3 := Lib.hid hG3
       have HB3 := Lib.hid B3
       clear hG3 B3 hb HB))
  go_ret
  refine ⟨rfl, _, _, HB3.out.set 1 _, Sl.nil _ _ _, HG3.out.by.far ?_ _, grown_set (grown_below HG3.out.below) _ _⟩
  intro e
  have e' : g3 = g := Option.some.inj e
  omega
end Go.Proofs.YtdnjkjoioabhhaaDoor

/- What a record's additional data are, as the library makes them. -/
import Derived.Test.YtcggiljcimhfcaaHdr
import Derived.Test.YtcggiljcimhfcaaPut16
import Derived.Test.YtcggiljcimhfcaaPut64
namespace Go.Proofs.Ytcggiljcimhfcaa
open Go.RowKit
set_option maxRecDepth 100000

/-- The additional data. -/
def addL (h : Hdr) (n : Nat) : List UInt8 := be 2 h.ep ++ be 6 h.sq ++ [h.t, h.ma, h.mi] ++ be 2 n
theorem add_eq (h : Hdr) (n : Nat) : lay ((((lay (lay (List.replicate 13 (0 : UInt8)) 0 (be 8 h.sq)) 0 (be 2 h.ep)).set 8 h.t).set 9 h.ma).set 10 h.mi) 11 (be 2 n) = addL h n := by
  rw [be8]
  simp [lay, addL, be, Nat.div_div_eq_div_mul]
def AddPost (w : World) (l : List UInt8) (e : Ending) (w' : World) : Prop := ∃ v, e = .returned v ∧ By w' v l ∧ Below w.heap.size w w'
set_option maxHeartbeats 800000 in
theorem add_any (w : World) (h : Hdr) (gh n : Nat) (v : Value) (hB : Blk w gh 39 (h.lib v).toList) (hn : n ≤ 65535) (hsq : h.sq < 18446744073709551616) (hep : h.ep < 65536) :
    Calls Try.prog 19 #[.pointer (some ⟨gh, 0, none⟩), .int .i64 (n : Int)] w (AddPost w (addL h n)) := by
  have m0 : w.cell? ⟨gh, 0, none⟩ = some (.int .u8 (h.t.toNat : Int)) := hB.cell 0
  have m2 : w.cell? ⟨gh, 2, none⟩ = some (.int .u8 (h.ma.toNat : Int)) := hB.cell 2
  have m3 : w.cell? ⟨gh, 3, none⟩ = some (.int .u8 (h.mi.toNat : Int)) := hB.cell 3
  have m4 : w.cell? ⟨gh, 4, none⟩ = some (.int .u16 (h.ep : Int)) := hB.cell 4
  have m5 : w.cell? ⟨gh, 5, none⟩ = some (.int .u64 (h.sq : Int)) := hB.cell 5
  have hg := hB.lt
  have HS := Lib.hid hsq
  clear hsq
  go_enter Try.func19, Try.ntmps19
  go_wp2_with fail
  have lh : ∀ {l : List UInt8}, l.length = 13 → ∀ x : List UInt8, ∀ o, o + x.length ≤ 13 → (lay l o x).length = 13 := fun hl x o ho => by rw [lay_length _ _ _ (by omega), hl]
  refine wp_abs (fun w' => Hid (Blk w' w.heap.size 51 ((List.replicate 13 (0 : UInt8)).map bv)) ∧ (∀ k, w'.cell? ⟨gh, k, none⟩ = w.cell? ⟨gh, k, none⟩) ∧ Hid (Below w.heap.size w w')) ⟨Blk.new _ _ ((List.replicate 13 (0 : UInt8)).map bv), fun k => World.cell?_alloc_lt _ _ _ hg, (Below.refl _ _).alloc (Nat.le_refl _) _⟩ ?_
  rintro w1 ⟨B1, k1, b1⟩
  go_still_tail 6, (by kernel_rfl)
  go_wp2_with (go_at_call 21; refine (put64 _ w.heap.size 51 0 13 13 h.sq _ B1.out.drew (by omega) (by simp) HS.out).mono ?_; rintro e w2 ⟨rfl, B2, g2⟩; have B2' := Lib.hid B2; have b2 := Lib.hid (b1.out.drew.grown g2 b1.out.size (fun k hk => by cases hk; exact Nat.le_refl _)); have k2 : ∀ k, w2.cell? ⟨gh, k, none⟩ = w.cell? ⟨gh, k, none⟩ := fun k => b2.out.cell hg; clear B2 g2 k1)
  go_still_tail 6, (by kernel_rfl)
  go_wp2_with (go_at_call 22; refine (put16 _ w.heap.size 51 0 13 13 h.ep _ B2'.out.drew (by omega) (by rw [lh (by simp) _ _ (by simp [be_length])]; omega) hep).mono ?_; rintro e w3 ⟨rfl, B3, g3⟩; have B3' := Lib.hid B3; have b3 := Lib.hid (b2.out.drew.grown g3 b2.out.size (fun k hk => by cases hk; exact Nat.le_refl _)); have k3 : ∀ k, w3.cell? ⟨gh, k, none⟩ = w.cell? ⟨gh, k, none⟩ := fun k => b3.out.cell hg; clear B3 g3 k2; obtain ⟨u0, c0⟩ := B3'.out.cell_lt 8 (by simp [lay, be_length]); obtain ⟨u1, c1⟩ := B3'.out.cell_lt 9 (by simp [lay, be_length]); obtain ⟨u2, c2⟩ := B3'.out.cell_lt 10 (by simp [lay, be_length]); have hf := B3'.out.frozen)
  refine wp_abs (fun w' => Hid (Blk w' w.heap.size 51 (((((lay (lay (List.replicate 13 (0 : UInt8)) 0 (be 8 h.sq)) 0 (be 2 h.ep)).set 8 h.t).set 9 h.ma).set 10 h.mi).map bv)) ∧ Hid (Below w.heap.size w w'))
    ⟨((B3'.out.setb 8 h.t).setb 9 h.ma).setb 10 h.mi, ((b3.out.setCell (Nat.le_refl _) _).setCell (Nat.le_refl _) _).setCell (Nat.le_refl _) _⟩ ?_
  rintro w4 ⟨B4, b4⟩
  clear k3 hf c0 c1 c2
  have hwr : IntKind.u16.wrap (n : Int) = n := by simp [IntKind.wrap, IntKind.bits, IntKind.signed]; omega
  go_still_tail 4, (by kernel_rfl)
  go_wp2_with (go_at_call 22; go_loud (refine (put16 _ w.heap.size 51 11 2 2 n _ B4.out.drew (by omega) (by simp only [List.length_set]; rw [lh (lh (by simp) _ _ (by simp [be_length])) _ _ (by simp [be_length])]; omega) (by omega)).mono ?_); rintro e w5 ⟨rfl, B5, g5⟩; rw [add_eq] at B5; have B5' := Lib.hid B5; have b5 := Lib.hid (b4.out.drew.grown g5 b4.out.size (fun k hk => by cases hk; exact Nat.le_refl _)); clear B5 g5)
  go_ret
  exact ⟨_, rfl, by have := B5'.out.by 13 (by simp [addL, be_length]); simpa [addL, be_length] using this, b5.out⟩
end Go.Proofs.Ytcggiljcimhfcaa

/- UseSRTP.Marshal with one profile: it is written if the key identifier is short, and refused if not. -/
import Derived.Test.YtdnjkjoioabhhaaDoorExtBase
import Derived.Test.YtdnjkjoioabhhaaDoorPut16
import Derived.Test.YtdnjkjoioabhhaaDoorBig
import Derived.Test.YtdnjkjoioabhhaaDoorRegion
import Derived.Test.YtdnjkjoioabhhaaDoorEnds
import Derived.Test.YtdnjkjoioabhhaaDoorText
import Derived.Test.YtdnjkjoioabhhaaDoorSent
import Derived.Test.YtdnjkjoioabhhaaDoorStepCopy
namespace Go.Proofs.YtdnjkjoioabhhaaDoor
open Go.RowKit
set_option maxRecDepth 100000

theorem typeSRTP (w : World) (a b : Value) : Calls Tryd.prog 95 #[.agg #[a, b]] w fun e w' => e = .returned (.int .u16 14) ∧ Below w.heap.size w w' := by
  go_enter Tryd.func95, Tryd.ntmps95
  go_wp2
  go_ret
  exact ⟨rfl, (Below.refl _ _).alloc (Nat.le_refl _) _⟩
set_option maxHeartbeats 800000 in
theorem srtp_err (w : World) (g : Nat) (vp vm : Value) (m : List UInt8) (hB : Blk w g 147 [vp, vm]) (hm : By w vm m) (hl : 255 < m.length) (hs : Sent w 5) :
    Calls Tryd.prog 58 #[.pointer (some ⟨g, 0, none⟩)] w (BytesErr w) := by
  obtain ⟨A, c, rfl⟩ := hm.len
  obtain ⟨T, x, hs⟩ := hs
  have m1 : w.cell? ⟨g, 1, none⟩ = some (.slice A m.length c) := hB.cell 1
  have d1 : decide ((255 : Int) < (m.length : Int)) = true := by simp; omega
  clear hB hm
  go_enter Tryd.func58, Tryd.ntmps58
  go_wp2_with fail
  go_quiet (fail)
  go_wp2
  go_ret2
  exact ⟨_, _, _, rfl, Below.drewN (Below.refl _ _) _⟩
/-- Some bytes and no error. -/
def BytesSome (w : World) (e : Ending) (w' : World) : Prop := ∃ v l, e = .returned (.tuple #[v, .nilIface]) ∧ By w' v l ∧ Below w.heap.size w w'
def SomeBuf (w : World) (g e n : Nat) (W : World) : Prop := ∃ l : List UInt8, l.length = n ∧ Buf w g e l W
theorem SomeBuf.drew {w : World} {g e n : Nat} {W : World} (h : SomeBuf w g e n W) : SomeBuf w g e n W.drew := by obtain ⟨l, h1, h2⟩ := h; exact ⟨l, h1, h2.drew⟩
theorem SomeBuf.step {w : World} {g e n : Nat} {W W' : World} (h : SomeBuf w g e n W) (hb : Below W.heap.size W W') : SomeBuf w g e n W' := by obtain ⟨l, h1, h2⟩ := h; exact ⟨l, h1, h2.step hb⟩
theorem SomeBuf.below {w : World} {g e n : Nat} {W : World} (h : SomeBuf w g e n W) : Below w.heap.size w W := by obtain ⟨l, _, h2⟩ := h; exact h2.below
theorem SomeBuf.put {w : World} {g e n o v k c : Nat} {W : World} (h : SomeBuf w g e n W) (hk : 2 ≤ k) (ho : o + 2 ≤ n) (hv : v < 65536) :
    Calls Tryd.prog 94 #[.agg #[], .slice (some ⟨g, o, none⟩) k c, .int .u16 (v : Int)] W fun e' w' => e' = .returned (.tuple #[]) ∧ SomeBuf w g e n w' := by
  obtain ⟨l, h1, h2⟩ := h
  refine (put16 W g e o k c v l h2.blk hk (by omega) hv).mono ?_
  rintro e' w' h3
  have h4 := h2.lay h3
  exact ⟨h3.1, _, by rw [lay_length _ _ _ (by rw [be_length]; omega), h1], h4⟩
set_option maxHeartbeats 3200000 in
theorem srtp_ok (w : World) (g : Nat) (vp vm : Value) (m : List UInt8) (hB : Blk w g 147 [vp, vm]) (hp : Sl w vp [.int .u16 1]) (hm : By w vm m) (hl : m.length < 256) :
    Calls Tryd.prog 58 #[.pointer (some ⟨g, 0, none⟩)] w (BytesSome w) := by
  obtain ⟨Am, c, rfl⟩ := hm.len
  obtain ⟨Ap, cp, rfl, hcp, hrp⟩ := hp
  obtain ⟨gp, op, rfl, hjp⟩ := hrp (by simp)
  have c0 : w.cell? ⟨gp, op, none⟩ = some (.int .u16 1) := hjp 0 (by simp)
  have hgp : gp < w.heap.size := World.block_lt_of_cell? w _ c0
  have m0 : w.cell? ⟨g, 0, none⟩ = some (.slice (some ⟨gp, op, none⟩) 1 cp) := hB.cell 0
  have m1 : w.cell? ⟨g, 1, none⟩ = some (.slice Am m.length c) := hB.cell 1
  have hg := hB.lt
  have hOK := rowOK_mk Tryd.underlying147 rfl (cs := #[.slice (some ⟨gp, op, none⟩) 1 cp, .slice Am m.length c]) (by kernel_rfl) 147 (0, 0)
  have HB : Hid (Blk w g 147 [.slice (some ⟨gp, op, none⟩) 1 cp, .slice Am m.length c]) := hB
  have HM := Lib.hid hm
  have d1 : decide ((255 : Int) < (m.length : Int)) = false := by simp; omega
  have d2 : decide ((65535 : Int) < 5 + (m.length : Int)) = false := by simp; omega
  clear hB hm hjp hrp
  go_enter Tryd.func58, Tryd.ntmps58
  go_wp2_with fail
  go_quiet (fail)
  go_wp2_with (at_make; refine wpList_make_bytes _ rfl _ _ 25 rfl 5 Tryd.underlying25 Tryd.infoByte .i64 .i64 _ _ (9 + m.length) rfl rfl (by omega) (by omega) (by omega) ?_; intro w1 hB hb hz; have b1 : SomeBuf w w.heap.size 5 (9 + m.length) w1 := ⟨_, by simp, hB, (Below.drewN (Below.refl _ _) _).trans hb, Nat.le_refl _⟩; clear hB hb hz)
  obtain ⟨N, hN⟩ : ∃ N, N = 5 + m.length := ⟨_, rfl⟩
  have hN2 : N < 65536 := by omega
  have x1 : IntKind.u16.wrap (5 + (m.length : Int)) = (N : Int) := by rw [hN]; simp [IntKind.wrap, IntKind.bits, IntKind.signed]; omega
  have x2 : IntKind.u8.wrap (m.length : Int) = (m.length : Int) := by simp [IntKind.wrap, IntKind.bits, IntKind.signed]; omega
  have i2 : (2 : Int) ≤ 9 + (m.length : Int) := by omega
  have i4 : (4 : Int) ≤ 9 + (m.length : Int) := by omega
  have i6 : (6 : Int) ≤ 9 + (m.length : Int) := by omega
  have i9 : (9 : Int) ≤ 9 + (m.length : Int) := by omega
  have i8 : (8 : Int) < 9 + (m.length : Int) := by omega
  have n2 : ¬ 9 + m.length = 2 := by omega
  have n4 : ¬ 9 + m.length = 4 := by omega
  have n6 : ¬ 9 + m.length = 6 := by omega
  clear hN
  refine wp_region_inv (by kernel_rfl) [36, 37, 38, 39, 40, 41, 42] (fun i v W => match i with
    | 0 => v = .agg #[]
    | 1 => v = .slice (some ⟨w.heap.size, 0, none⟩) (9 + m.length) (9 + m.length)
    | 2 => v = .pointer (some ⟨g, 0, none⟩)
    | 3 => v = .pointer (some ⟨g, 0, none⟩)
    | 4 => v = .agg #[.slice (some ⟨gp, op, none⟩) 1 cp, .slice Am m.length c]
    | 5 => v = .int .u16 14
    | 6 => True
    | _ => True) (SomeBuf w w.heap.size 5 (9 + m.length)) ?hinv0 (by kernel_rfl) (by kernel_rfl) (by kernel_rfl) (by kernel_rfl) ?hsteps ?hfin
  case hinv0 => exact b1.drew
  case hsteps =>
    clear b1
    refine ⟨?_, ?_, ?_, ?_, ?_, ?_, ?_, trivial⟩
    · intro A W hI hb hp K hK; (repeat (obtain ⟨hq, hp⟩ := hp; first | (obtain ⟨_, hv, rfl⟩ := hq rfl _ _ rfl rfl; clear hq) | (obtain ⟨_, hv, hg⟩ := hq rfl _ _ rfl rfl; clear hq) | clear hq)); clear hp; clear hb; go_simp; exact hK _ _ rfl hI (fun _ _ h => h)
    · intro A W hI hb hp K hK; (repeat (obtain ⟨hq, hp⟩ := hp; first | (obtain ⟨_, hv, rfl⟩ := hq rfl _ _ rfl rfl; clear hq) | (obtain ⟨_, hv, hg⟩ := hq rfl _ _ rfl rfl; clear hq) | clear hq)); clear hp; have b1 := hb 5 (by decide); clear hb; go_simp; exact hK _ _ rfl hI (fun _ _ h => h)
    · intro A W hI hb hp K hK; (repeat (obtain ⟨hq, hp⟩ := hp; first | (obtain ⟨_, hv, rfl⟩ := hq rfl _ _ rfl rfl; clear hq) | (obtain ⟨_, hv, hg⟩ := hq rfl _ _ rfl rfl; clear hq) | clear hq)); clear hp; have b1 := hb 0 (by decide); clear hb; go_simp; exact hK _ _ rfl hI (fun _ _ h => h)
    · intro A W hI hb hp K hK; (repeat (obtain ⟨hq, hp⟩ := hp; first | (obtain ⟨_, hv, rfl⟩ := hq rfl _ _ rfl rfl; clear hq) | (obtain ⟨_, hv, hg⟩ := hq rfl _ _ rfl rfl; clear hq) | clear hq)); clear hp; clear hb; go_simp; exact hK _ _ rfl hI (fun _ _ h => h)
    · intro A W hI hb hp K hK; (repeat (obtain ⟨hq, hp⟩ := hp; first | (obtain ⟨_, hv, rfl⟩ := hq rfl _ _ rfl rfl; clear hq) | (obtain ⟨_, hv, hg⟩ := hq rfl _ _ rfl rfl; clear hq) | clear hq)); clear hp; clear hb; have i1 : objAt W g = some (.cells #[.slice (some ⟨gp, op, none⟩) 1 cp, .slice Am m.length c] 147 (0, 0)) := (by obtain ⟨_, _, hW⟩ := hI; exact (hW.below.block g hg).trans HB.out); go_simp; exact hK _ _ rfl hI (fun _ _ h => h)
    · intro A W hI hb hp K hK; (repeat (obtain ⟨hq, hp⟩ := hp; first | (obtain ⟨_, hv, rfl⟩ := hq rfl _ _ rfl rfl; clear hq) | (obtain ⟨_, hv, hg⟩ := hq rfl _ _ rfl rfl; clear hq) | clear hq)); clear hp; clear hb; go_simp; refine (typeSRTP _ _ _).mono ?_; rintro e w1 ⟨rfl, hb1⟩; exact hK _ _ rfl (hI.step hb1) (fun _ _ h => h)
    · intro A W hI hb hp K hK; (repeat (obtain ⟨hq, hp⟩ := hp; first | (obtain ⟨_, hv, rfl⟩ := hq rfl _ _ rfl rfl; clear hq) | (obtain ⟨_, hv, hg⟩ := hq rfl _ _ rfl rfl; clear hq) | clear hq)); clear hp; clear hb; go_simp; refine (hI.put (v := 14) (by omega) (by omega) (by omega)).mono ?_; rintro e w1 ⟨rfl, h1⟩; exact hK _ _ trivial h1 (fun _ _ h => h)
  case hfin =>
  clear b1
  intro vf W hgd hI
  simp only [fillAct, List.foldl_cons, List.foldl_nil, List.setIfInBounds_toArray, List.set_cons_zero, List.set_cons_succ]
  clear hgd
  go_wp2_with fail
  go_still_tail 5, (by kernel_rfl)
  go_wp2_with (go_at_call 94; refine (hI.drew.put (v := N) (by omega) (by omega) hN2).mono ?_; rintro e w2 ⟨rfl, h2⟩; clear hI)
  have q0 := (h2.below.cell (p := ⟨g, 0, none⟩) hg).trans m0
  go_still_tail 10, (by kernel_rfl)
  go_wp2_with (go_at_call 94; refine (h2.drew.put (v := 2) (by omega) (by omega) (by omega)).mono ?_; rintro e w3 ⟨rfl, h3⟩; have r0 := (h3.below.cell (p := ⟨g, 0, none⟩) hg).trans m0; clear h2 q0)
  go_loopg [6, 8, 65] 1 (fun k x6 _ x65 wr => (k = 1 ∧ x6 = .int .i64 6 ∧ x65 = .int .i64 0 ∧ SomeBuf w w.heap.size 5 (9 + m.length) wr) ∨ (k = 0 ∧ x6 = .int .i64 8 ∧ x65 = .int .i64 1 ∧ SomeBuf w w.heap.size 5 (9 + m.length) wr))
  case atStart => exact .inl ⟨rfl, rfl, rfl, h3⟩
  case round =>
    clear h3 r0
    rcases hrel with ⟨rfl, rfl, rfl, hb⟩ | ⟨rfl, rfl, rfl, hb⟩
    · have k0 := (hb.below.cell (p := ⟨gp, op, none⟩) hgp).trans c0
      go_wp2_with fail
      go_still_tail 5, (by kernel_rfl)
      go_wp2_with (go_at_call 94; refine (hb.drew.put (v := 1) (by omega) (by omega) (by omega)).mono ?_; rintro e w4 ⟨rfl, h4⟩; clear hb k0)
      go_roundg 0
      case measure => omega
      case rel => exact .inr ⟨rfl, rfl, rfl, h4⟩
    · have k1 := (hb.below.cell (p := ⟨g, 1, none⟩) hg).trans m1
      obtain ⟨l, hlen, hW⟩ := hb
      obtain ⟨u8, cu⟩ := hW.at_ 8 (by omega)
      have fu := hW.blk.frozen 8
      have HW := Lib.hid hW
      have HLEN := Lib.hid hlen
      clear hW hlen
      go_wp2_with fail
      refine wp_abs (fun W => SomeBuf w w.heap.size 5 (9 + m.length) W) ?_ ?_
      · have h8 := HW.out.setb 8 (UInt8.ofNat (m.length % 256))
        have e : bv (UInt8.ofNat (m.length % 256)) = .int .u8 (m.length : Int) := by rw [nat_u8]; congr 1 <;> omega
        rw [e] at h8
        exact ⟨_, by rw [List.length_set]; exact HLEN.out, h8⟩
      intro W hb
      clear HW HLEN cu fu k1
      refine wp_region_inv (by kernel_rfl) [87, 88, 89, 90, 91, 92, 93, 94, 95] (fun i v W => match i with
    | 0 => v = .slice (some ⟨w.heap.size, 0, none⟩) (9 + m.length) (9 + m.length)
    | 1 => v = .int .i64 8
    | 2 => v = .int .i64 9
    | 3 => ∃ dp, v = .slice dp m.length m.length ∧ (0 < m.length → dp = some ⟨w.heap.size, 9, none⟩)
    | 4 => v = .pointer (some ⟨g, 0, none⟩)
    | 5 => v = .pointer (some ⟨g, 0, none⟩)
    | 6 => v = .pointer (some ⟨g, 1, none⟩)
    | 7 => v = .slice Am m.length c
    | 8 => True
    | _ => True) (SomeBuf w w.heap.size 5 (9 + m.length)) ?hinv0 (by kernel_rfl) (by kernel_rfl) (by kernel_rfl) (by kernel_rfl) ?hsteps ?hfin
      case hinv0 => exact hb.drew
      case hsteps =>
        clear hb
        refine ⟨?_, ?_, ?_, ?_, ?_, ?_, ?_, ?_, ?_, trivial⟩
        · intro A W hI hb hp K hK; (repeat (obtain ⟨hq, hp⟩ := hp; first | (obtain ⟨_, hv, rfl⟩ := hq rfl _ _ rfl rfl; clear hq) | (obtain ⟨_, hv, hg⟩ := hq rfl _ _ rfl rfl; clear hq) | clear hq)); clear hp; have b1 := hb 5 (by decide); clear hb; go_simp; exact hK _ _ rfl hI (fun _ _ h => h)
        · intro A W hI hb hp K hK; (repeat (obtain ⟨hq, hp⟩ := hp; first | (obtain ⟨_, hv, rfl⟩ := hq rfl _ _ rfl rfl; clear hq) | (obtain ⟨_, hv, hg⟩ := hq rfl _ _ rfl rfl; clear hq) | clear hq)); clear hp; have b1 := hb 6 (by decide); clear hb; go_simp; exact hK _ _ rfl hI (fun _ _ h => h)
        · intro A W hI hb hp K hK; (repeat (obtain ⟨hq, hp⟩ := hp; first | (obtain ⟨_, hv, rfl⟩ := hq rfl _ _ rfl rfl; clear hq) | (obtain ⟨_, hv, hg⟩ := hq rfl _ _ rfl rfl; clear hq) | clear hq)); clear hp; clear hb; go_simp; exact hK _ _ rfl hI (fun _ _ h => h)
        · intro A W hI hb hp K hK; (repeat (obtain ⟨hq, hp⟩ := hp; first | (obtain ⟨_, hv, rfl⟩ := hq rfl _ _ rfl rfl; clear hq) | (obtain ⟨_, hv, hg⟩ := hq rfl _ _ rfl rfl; clear hq) | clear hq)); clear hp
          clear hb
          by_cases h0 : m.length = 0
          · obtain rfl : m = [] := List.eq_nil_of_length_eq_zero h0
            go_simp
            exact hK _ _ ⟨_, rfl, fun h => absurd h (by simp)⟩ hI (fun _ _ h => h)
          · have n9 : ¬ 9 + m.length = 9 := by omega
            have n10 : ¬ m = [] := fun h => h0 (by rw [h]; rfl)
            go_simp
            exact hK _ _ ⟨_, rfl, fun _ => rfl⟩ hI (fun _ _ h => h)
        · intro A W hI hb hp K hK; (repeat (obtain ⟨hq, hp⟩ := hp; first | (obtain ⟨_, hv, rfl⟩ := hq rfl _ _ rfl rfl; clear hq) | (obtain ⟨_, hv, hg⟩ := hq rfl _ _ rfl rfl; clear hq) | clear hq)); clear hp; have b1 := hb 0 (by decide); clear hb; go_simp; exact hK _ _ rfl hI (fun _ _ h => h)
        · intro A W hI hb hp K hK; (repeat (obtain ⟨hq, hp⟩ := hp; first | (obtain ⟨_, hv, rfl⟩ := hq rfl _ _ rfl rfl; clear hq) | (obtain ⟨_, hv, hg⟩ := hq rfl _ _ rfl rfl; clear hq) | clear hq)); clear hp; clear hb; go_simp; exact hK _ _ rfl hI (fun _ _ h => h)
        · intro A W hI hb hp K hK; (repeat (obtain ⟨hq, hp⟩ := hp; first | (obtain ⟨_, hv, rfl⟩ := hq rfl _ _ rfl rfl; clear hq) | (obtain ⟨_, hv, hg⟩ := hq rfl _ _ rfl rfl; clear hq) | clear hq)); clear hp; clear hb; go_simp; exact hK _ _ rfl hI (fun _ _ h => h)
        · intro A W hI hb hp K hK; (repeat (obtain ⟨hq, hp⟩ := hp; first | (obtain ⟨_, hv, rfl⟩ := hq rfl _ _ rfl rfl; clear hq) | (obtain ⟨_, hv, hg⟩ := hq rfl _ _ rfl rfl; clear hq) | clear hq)); clear hp; clear hb; have c1 := (hI.below.cell (p := ⟨g, 1, none⟩) hg).trans m1; go_simp; exact hK _ _ rfl hI (fun _ _ h => h)
        · intro A W hI hb hp K hK
          obtain ⟨v0, e0, dp, rfl, hdp⟩ := hp.1 rfl _ _ rfl rfl
          obtain ⟨v1, e1, rfl⟩ := hp.2.1 rfl _ _ rfl rfl
          obtain ⟨l, hl9, hW⟩ := hI
          exact step_copy 90 94 25 25 rfl 5 Tryd.underlying25 (by kernel_rfl) dp m.length m.length e0 _ m e1 (HM.out.below hW.below) w.heap.size 9 5 l hW.blk hdp (Nat.le_refl _) (by omega) (fun w' h5 g5 => hK _ _ trivial ⟨_, by rw [lay_length _ _ _ (by omega), hl9], hW.grow h5 g5⟩ (fun _ _ h => h))
      case hfin =>
        clear hb
        intro vf W hgd hI
        simp only [fillAct, List.foldl_cons, List.foldl_nil, List.setIfInBounds_toArray, List.set_cons_zero, List.set_cons_succ]
        clear hgd
        go_wp2
        go_ret2
        obtain ⟨l, hl9, hW⟩ := hI
        exact ⟨_, l, rfl, by have := hW.by (9 + m.length) (by omega); rwa [hl9] at this, hW.below⟩
end Go.Proofs.YtdnjkjoioabhhaaDoor

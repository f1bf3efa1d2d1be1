/- Contracts on the road of a client's key exchange message: how it is made. -/
import Derived.Test.YtdnjkjoioabhhaaDoorGrow
import Derived.Test.YtdnjkjoioabhhaaDoorRegion
import Derived.Test.YtdnjkjoioabhhaaDoorBig
namespace Go.Proofs.YtdnjkjoioabhhaaDoor
open Go.RowKit
set_option maxRecDepth 100000

theorem has_any (w : World) (a b : Int) (r : Bool) (h : (bits .and .i64 a b == b) = r) :
    Calls Tryd.prog 88 #[.int .i64 a, .int .i64 b] w fun e w' => e = .returned (.bool r) ∧ w = w' := by
  go_enter Tryd.func88, Tryd.ntmps88
  go_wp2
  go_ret
  exact ⟨rfl, rfl⟩
/-- A text as bytes, where it is there; nil where not. -/
def SomeBy (W : World) (v : Value) (there : Bool) (l : List UInt8) : Prop := (there = false ∧ v = .slice none 0 0) ∨ (there = true ∧ (∃ g c, v = .slice (some ⟨g, 0, none⟩) l.length c) ∧ By W v l)
theorem SomeBy.below {W W' : World} {v : Value} {b : Bool} {l : List UInt8} (h : SomeBy W v b l) (hb : Below W.heap.size W W') : SomeBy W' v b l := by
  rcases h with h | ⟨h1, h2, h3⟩
  · exact .inl h
  · exact .inr ⟨h1, h2, h3.below hb⟩
def SomePost (w : World) (b : Bool) (l : List UInt8) (e : Ending) (w' : World) : Prop := ∃ v, e = .returned v ∧ SomeBy w' v b l ∧ Below w.heap.size w w'
theorem some_any (w : World) (b : Bool) (l : List UInt8) (hl : l.length ≤ 2147483647) : Calls Tryd.prog 91 #[.bool b, .string (bs l)] w (SomePost w b l) := by
  cases b with
  | false =>
    go_enter Tryd.func91, Tryd.ntmps91
    go_wp2
    go_ret
    exact ⟨_, rfl, .inl ⟨rfl, rfl⟩, Below.refl _ _⟩
  | true =>
    go_enter Tryd.func91, Tryd.ntmps91
    go_wp2_with (refine wpList_append_str (w := w) rfl _ _ 25 9 rfl 5 Tryd.underlying25 Tryd.underlying9 Tryd.infoByte _ [] rfl (Grow.lit (Below.refl _ _) [] 5 (by simp)) l rfl (by simp; omega) ?_; intro v' W' hG hN)
    go_ret
    obtain ⟨g, c, rfl, hg, _⟩ := hG.form (by intro h; have h2 : Value.slice (some ⟨w.heap.size, 0, none⟩) 0 0 = .slice none 0 0 := (hN.1 h).1; cases h2)
    exact ⟨_, rfl, .inr ⟨rfl, ⟨g, c, rfl⟩, hG.by⟩, hG.below⟩

/-- The message as the library has it: two texts (there or nil) and the key exchange's number. -/
def KeyAt (W : World) (g : Nat) (kx : Int) (bh bp : Bool) (h p : List UInt8) : Prop :=
  ∃ vh vp, Blk W g 80 [vh, vp, .int .i64 kx] ∧ SomeBy W vh bh h ∧ SomeBy W vp bp p
theorem KeyAt.below {W W' : World} {g : Nat} {kx : Int} {bh bp : Bool} {h p : List UInt8} (hk : KeyAt W g kx bh bp h p) (hb : Below W.heap.size W W') : KeyAt W' g kx bh bp h p := by
  obtain ⟨vh, vp, h1, h2, h3⟩ := hk
  exact ⟨vh, vp, h1.below hb h1.lt, h2.below hb, h3.below hb⟩
def KeyMade (w : World) (kx : Int) (bh bp : Bool) (h p : List UInt8) (e : Ending) (w' : World) : Prop := ∃ g, e = .returned (.pointer (some ⟨g, 0, none⟩)) ∧ KeyAt w' g kx bh bp h p ∧ Below w.heap.size w w'
theorem keepSome {W W' : World} (hb : Below W.heap.size W W') {P : Nat → Value → World → Prop} (hP : ∀ j u, P j u W → P j u W') : ∀ j u, P j u W → P j u W' := hP
theorem psk_any (w : World) (kx : Int) (r : Bool) (h : (bits .and .i64 kx 2 == 2) = r) : Calls Tryd.prog 92 #[.int .i64 kx] w fun e w' => e = .returned (.bool r) ∧ w = w' := by
  go_enter Tryd.func92, Tryd.ntmps92
  go_wp2_with (go_at_call 88; refine (has_any _ kx 2 r h).mono ?_; rintro e w1 ⟨rfl, rfl⟩)
  go_ret
  exact ⟨rfl, rfl⟩
theorem ecdhe_any (w : World) (kx : Int) (r : Bool) (h : (bits .and .i64 kx 4 == 4) = r) : Calls Tryd.prog 93 #[.int .i64 kx] w fun e w' => e = .returned (.bool r) ∧ w = w' := by
  go_enter Tryd.func93, Tryd.ntmps93
  go_wp2_with (go_at_call 88; refine (has_any _ kx 4 r h).mono ?_; rintro e w1 ⟨rfl, rfl⟩)
  go_ret
  exact ⟨rfl, rfl⟩
set_option maxHeartbeats 800000 in
theorem makeKey_any (w : World) (cs : Array Value) (kx : Int) (h p : List UInt8) (bh bp : Bool) (h17 : cs[17]? = some (.string (bs h))) (h18 : cs[18]? = some (.string (bs p))) (h19 : cs[19]? = some (.int .i64 kx))
    (r2 : (bits .and .i64 kx 2 == 2) = bh) (r4 : (bits .and .i64 kx 4 == 4) = bp) (hh : h.length ≤ 2147483647) (hp : p.length ≤ 2147483647) :
    Calls Tryd.prog 55 #[.agg cs] w (KeyMade w kx bh bp h p) := by
  have R2 := Lib.hid r2
  have R4 := Lib.hid r4
  clear r2 r4
  go_enter Tryd.func55, Tryd.ntmps55
  go_wp2_with fail
  refine wp_region_inv (by kernel_rfl) [3, 4, 5, 6, 7, 8, 9, 10, 11, 12, 13, 14, 15, 16, 17, 18, 2] (fun i v W => match i with
    | 0 => v = .pointer (some ⟨w.heap.size, 19, none⟩)
    | 1 => v = .int .i64 (kx : Int)
    | 2 => v = .bool bh
    | 3 => v = .pointer (some ⟨w.heap.size, 17, none⟩)
    | 4 => v = .string (bs (h))
    | 5 => SomeBy W v bh h
    | 6 => v = .pointer (some ⟨w.heap.size, 19, none⟩)
    | 7 => v = .int .i64 (kx : Int)
    | 8 => v = .bool bp
    | 9 => v = .pointer (some ⟨w.heap.size, 18, none⟩)
    | 10 => v = .string (bs (p))
    | 11 => SomeBy W v bp p
    | 12 => v = .pointer (some ⟨w.heap.size, 19, none⟩)
    | 13 => v = .int .i64 (kx : Int)
    | 14 => ∃ vh vp, v = .agg #[vh, vp, .int .i64 kx] ∧ SomeBy W vh bh h ∧ SomeBy W vp bp p
    | 15 => ∃ g, v = .pointer (some ⟨g, 0, none⟩) ∧ KeyAt W g kx bh bp h p
    | 16 => ∃ g, v = .pointer (some ⟨g, 0, none⟩) ∧ KeyAt W g kx bh bp h p
    | _ => True) (Own w w.heap.size (.cells cs 32 (0, 0))) ?hinv0 (by kernel_rfl) (by kernel_rfl) (by kernel_rfl) (by kernel_rfl) ?hsteps ?hfin
  case hinv0 => exact (Own.new _ _).drew
  case hsteps =>
    refine ⟨?_, ?_, ?_, ?_, ?_, ?_, ?_, ?_, ?_, ?_, ?_, ?_, ?_, ?_, ?_, ?_, ?_, trivial⟩
    · intro A W hI hb hp K hK; (repeat (obtain ⟨hq, hp⟩ := hp; first | (obtain ⟨_, hv, rfl⟩ := hq rfl _ _ rfl rfl; clear hq) | (obtain ⟨_, hv, hg⟩ := hq rfl _ _ rfl rfl; clear hq) | clear hq)); clear hp; have b1 := hb 1 (by decide); clear hb; go_simp; exact hK _ _ rfl hI (fun _ _ h => h)
    · intro A W hI hb hp K hK; (repeat (obtain ⟨hq, hp⟩ := hp; first | (obtain ⟨_, hv, rfl⟩ := hq rfl _ _ rfl rfl; clear hq) | (obtain ⟨_, hv, hg⟩ := hq rfl _ _ rfl rfl; clear hq) | clear hq)); clear hp; clear hb; have c1 := (hI.cell 19).trans h19; go_simp; exact hK _ _ rfl hI (fun _ _ h => h)
    · intro A W hI hb hp K hK; (repeat (obtain ⟨hq, hp⟩ := hp; first | (obtain ⟨_, hv, rfl⟩ := hq rfl _ _ rfl rfl; clear hq) | (obtain ⟨_, hv, hg⟩ := hq rfl _ _ rfl rfl; clear hq) | clear hq)); clear hp; clear hb; go_simp; refine (psk_any _ kx bh R2.out).mono ?_; rintro e w1 ⟨rfl, rfl⟩; exact hK _ _ rfl hI (fun _ _ h => h)
    · intro A W hI hb hp K hK; (repeat (obtain ⟨hq, hp⟩ := hp; first | (obtain ⟨_, hv, rfl⟩ := hq rfl _ _ rfl rfl; clear hq) | (obtain ⟨_, hv, hg⟩ := hq rfl _ _ rfl rfl; clear hq) | clear hq)); clear hp; have b1 := hb 1 (by decide); clear hb; go_simp; exact hK _ _ rfl hI (fun _ _ h => h)
    · intro A W hI hb hp K hK; (repeat (obtain ⟨hq, hp⟩ := hp; first | (obtain ⟨_, hv, rfl⟩ := hq rfl _ _ rfl rfl; clear hq) | (obtain ⟨_, hv, hg⟩ := hq rfl _ _ rfl rfl; clear hq) | clear hq)); clear hp; clear hb; have c1 := (hI.cell 17).trans h17; go_simp; exact hK _ _ rfl hI (fun _ _ h => h)
    · intro A W hI hb hp K hK; (repeat (obtain ⟨hq, hp⟩ := hp; first | (obtain ⟨_, hv, rfl⟩ := hq rfl _ _ rfl rfl; clear hq) | (obtain ⟨_, hv, hg⟩ := hq rfl _ _ rfl rfl; clear hq) | clear hq)); clear hp; clear hb; go_simp; refine (some_any _ bh h hh).mono ?_; rintro e w1 ⟨v, rfl, hs, hb1⟩; exact hK _ _ hs (hI.step hb1) (fun j u hg => by revert hg; dsimp only; split <;> first | exact id | exact fun h => SomeBy.below h hb1 | exact fun ⟨a, b, h0, h1, h2⟩ => ⟨a, b, h0, h1.below hb1, h2.below hb1⟩ | exact fun ⟨a, h0, h1⟩ => ⟨a, h0, h1.below hb1⟩)
    · intro A W hI hb hp K hK; (repeat (obtain ⟨hq, hp⟩ := hp; first | (obtain ⟨_, hv, rfl⟩ := hq rfl _ _ rfl rfl; clear hq) | (obtain ⟨_, hv, hg⟩ := hq rfl _ _ rfl rfl; clear hq) | clear hq)); clear hp; have b1 := hb 1 (by decide); clear hb; go_simp; exact hK _ _ rfl hI (fun _ _ h => h)
    · intro A W hI hb hp K hK; (repeat (obtain ⟨hq, hp⟩ := hp; first | (obtain ⟨_, hv, rfl⟩ := hq rfl _ _ rfl rfl; clear hq) | (obtain ⟨_, hv, hg⟩ := hq rfl _ _ rfl rfl; clear hq) | clear hq)); clear hp; clear hb; have c1 := (hI.cell 19).trans h19; go_simp; exact hK _ _ rfl hI (fun _ _ h => h)
    · intro A W hI hb hp K hK; (repeat (obtain ⟨hq, hp⟩ := hp; first | (obtain ⟨_, hv, rfl⟩ := hq rfl _ _ rfl rfl; clear hq) | (obtain ⟨_, hv, hg⟩ := hq rfl _ _ rfl rfl; clear hq) | clear hq)); clear hp; clear hb; go_simp; refine (ecdhe_any _ kx bp R4.out).mono ?_; rintro e w1 ⟨rfl, rfl⟩; exact hK _ _ rfl hI (fun _ _ h => h)
    · intro A W hI hb hp K hK; (repeat (obtain ⟨hq, hp⟩ := hp; first | (obtain ⟨_, hv, rfl⟩ := hq rfl _ _ rfl rfl; clear hq) | (obtain ⟨_, hv, hg⟩ := hq rfl _ _ rfl rfl; clear hq) | clear hq)); clear hp; have b1 := hb 1 (by decide); clear hb; go_simp; exact hK _ _ rfl hI (fun _ _ h => h)
    · intro A W hI hb hp K hK; (repeat (obtain ⟨hq, hp⟩ := hp; first | (obtain ⟨_, hv, rfl⟩ := hq rfl _ _ rfl rfl; clear hq) | (obtain ⟨_, hv, hg⟩ := hq rfl _ _ rfl rfl; clear hq) | clear hq)); clear hp; clear hb; have c1 := (hI.cell 18).trans h18; go_simp; exact hK _ _ rfl hI (fun _ _ h => h)
    · intro A W hI hb hp K hK; (repeat (obtain ⟨hq, hp⟩ := hp; first | (obtain ⟨_, hv, rfl⟩ := hq rfl _ _ rfl rfl; clear hq) | (obtain ⟨_, hv, hg⟩ := hq rfl _ _ rfl rfl; clear hq) | clear hq)); clear hp; clear hb; go_simp; refine (some_any _ bp p hp).mono ?_; rintro e w1 ⟨v, rfl, hs, hb1⟩; exact hK _ _ hs (hI.step hb1) (fun j u hg => by revert hg; dsimp only; split <;> first | exact id | exact fun h => SomeBy.below h hb1 | exact fun ⟨a, b, h0, h1, h2⟩ => ⟨a, b, h0, h1.below hb1, h2.below hb1⟩ | exact fun ⟨a, h0, h1⟩ => ⟨a, h0, h1.below hb1⟩)
    · intro A W hI hb hp K hK; (repeat (obtain ⟨hq, hp⟩ := hp; first | (obtain ⟨_, hv, rfl⟩ := hq rfl _ _ rfl rfl; clear hq) | (obtain ⟨_, hv, hg⟩ := hq rfl _ _ rfl rfl; clear hq) | clear hq)); clear hp; have b1 := hb 1 (by decide); clear hb; go_simp; exact hK _ _ rfl hI (fun _ _ h => h)
    · intro A W hI hb hp K hK; (repeat (obtain ⟨hq, hp⟩ := hp; first | (obtain ⟨_, hv, rfl⟩ := hq rfl _ _ rfl rfl; clear hq) | (obtain ⟨_, hv, hg⟩ := hq rfl _ _ rfl rfl; clear hq) | clear hq)); clear hp; clear hb; have c1 := (hI.cell 19).trans h19; go_simp; exact hK _ _ rfl hI (fun _ _ h => h)
    · intro A W hI hb hp K hK
      obtain ⟨v0, e0, s0⟩ := hp.1 rfl _ _ rfl rfl
      obtain ⟨v1, e1, s1⟩ := hp.2.1 rfl _ _ rfl rfl
      obtain ⟨_, e2, rfl⟩ := hp.2.2.1 rfl _ _ rfl rfl
      clear hp hb
      have t0 := s0
      have t1 := s1
      rcases t0 with ⟨_, rfl⟩ | ⟨_, ⟨g0, c0, rfl⟩, _⟩ <;> rcases t1 with ⟨_, rfl⟩ | ⟨_, ⟨g1, c1, rfl⟩, _⟩ <;> (go_simp; exact hK _ _ ⟨_, _, rfl, s0, s1⟩ hI (fun _ _ h => h))
    · intro A W hI hb hp K hK
      obtain ⟨_, e0, vh, vp, rfl, s0, s1⟩ := hp.1 rfl _ _ rfl rfl
      clear hp hb
      go_simp
      have hb1 : Below W.heap.size W (W.alloc (.cells #[vh, vp, .int .i64 kx] 80)) := (Below.refl _ _).alloc (Nat.le_refl _) _
      exact hK _ _ ⟨_, rfl, vh, vp, Blk.new' W _ [vh, vp, .int .i64 kx] _ rfl, s0.below hb1, s1.below hb1⟩ (hI.step hb1) (fun j u hg => by revert hg; dsimp only; split <;> first | exact id | exact fun h => SomeBy.below h hb1 | exact fun ⟨a, b, h0, h1, h2⟩ => ⟨a, b, h0, h1.below hb1, h2.below hb1⟩ | exact fun ⟨a, h0, h1⟩ => ⟨a, h0, h1.below hb1⟩)
    · intro A W hI hb hp K hK
      obtain ⟨_, e0, g, rfl, hk⟩ := hp.1 rfl _ _ rfl rfl
      clear hp hb
      go_simp
      exact hK _ _ ⟨_, rfl, hk⟩ hI (fun _ _ h => h)
  case hfin =>
    intro vf W hgd hI
    obtain ⟨g, e2, hk⟩ := hgd.2.2.2.2.2.2.2.2.2.2.2.2.2.2.2.2.1 2 rfl
    simp only [fillAct, List.foldl_cons, List.foldl_nil, List.setIfInBounds_toArray, List.set_cons_zero, List.set_cons_succ]
    rw [e2]
    go_wp2
    go_ret
    exact ⟨g, rfl, hk, hI.below⟩
end Go.Proofs.YtdnjkjoioabhhaaDoor

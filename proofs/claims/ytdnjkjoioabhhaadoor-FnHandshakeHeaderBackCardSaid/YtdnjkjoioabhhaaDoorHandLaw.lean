/- FnHandshakeHeaderBack: the law's walk. -/
import Derived.Test.YtdnjkjoioabhhaaDoorHandEq
import Derived.Test.YtdnjkjoioabhhaaDoorLaws1
import Derived.Test.YtdnjkjoioabhhaaDoorOpenHand
import Derived.Test.YtdnjkjoioabhhaaDoorRows
import Derived.Shelf.Spec.TrailingZeros
import Derived.LaidMore
import Derived.WalkSpells
namespace Go.Proofs.YtdnjkjoioabhhaaDoor
open Go.RowKit
set_option maxRecDepth 100000

theorem mask24 (n : Nat) (h : n < 4294967296) : bits .and .u32 (n : Int) 16777215 = ((n % 16777216 : Nat) : Int) := by
  have := bits_and_u32_nat n 16777215 h (by omega)
  rw [show (16777215 : Nat) = 2 ^ 24 - 1 by decide, Nat.and_two_pow_sub_one_eq_mod] at this
  exact this
theorem wrap64 {n : Nat} (h : n < 4294967296) : IntKind.u64.wrap (n : Int) = n := by simp [IntKind.wrap, IntKind.bits, IntKind.signed]; omega
theorem handOf_handL (m : HH) (hf : m.fit) (r : List UInt8) : handOf (handL m ++ r) = m := by
  obtain ⟨t, ln, sq, off, fl⟩ := m
  obtain ⟨f1, f2, f3, f4⟩ := hf
  simp only at f1 f2 f3 f4
  have e : handL ⟨t, ln, sq, off, fl⟩ ++ r = t :: (be 3 ln ++ (be 2 sq ++ (be 3 off ++ (be 3 fl ++ r)))) := by simp [handL]
  have g0 : (t :: (be 3 ln ++ (be 2 sq ++ (be 3 off ++ (be 3 fl ++ r))))).drop 1 = be 3 ln ++ (be 2 sq ++ (be 3 off ++ (be 3 fl ++ r))) := rfl
  have g1 : ((t :: (be 3 ln ++ (be 2 sq ++ (be 3 off ++ (be 3 fl ++ r))))).drop 1).take 3 = be 3 ln := by rw [g0, List.take_left' (be_length _ _)]
  have g2 : (t :: (be 3 ln ++ (be 2 sq ++ (be 3 off ++ (be 3 fl ++ r))))).drop 4 = be 2 sq ++ (be 3 off ++ (be 3 fl ++ r)) := by
    show (be 3 ln ++ (be 2 sq ++ (be 3 off ++ (be 3 fl ++ r)))).drop 3 = _
    rw [List.drop_left' (be_length _ _)]
  have g3 : (t :: (be 3 ln ++ (be 2 sq ++ (be 3 off ++ (be 3 fl ++ r))))).drop 6 = be 3 off ++ (be 3 fl ++ r) := by
    rw [show 6 = 4 + 2 by rfl, ← List.drop_drop, g2, List.drop_left' (be_length _ _)]
  have g4 : (t :: (be 3 ln ++ (be 2 sq ++ (be 3 off ++ (be 3 fl ++ r))))).drop 9 = be 3 fl ++ r := by
    rw [show 9 = 6 + 3 by rfl, ← List.drop_drop, g3, List.drop_left' (be_length _ _)]
  rw [e]
  simp only [handOf, g1, g2, g3, g4]
  rw [List.take_left' (be_length _ _), List.take_left' (be_length _ _), List.take_left' (be_length _ _), nat_be 3 _ (by omega), nat_be 2 _ (by omega), nat_be 3 _ (by omega), nat_be 3 _ (by omega)]
  rfl
theorem handL_length (m : HH) : (handL m).length = 12 := by simp [handL, be_length]
set_option maxHeartbeats 3200000 in
theorem fnHandshakeHeaderBack.walk (h : HH) (hok : h.ok) (a1 : ByteArray) (_w1 : a1.size ≤ maxLen) (w : World) (_hL : laidMetH Tryd.prog Rows.fnHandshakeHeaderBackRow.laid w) :
    Calls Tryd.prog 14 #[.agg h.cells, .string a1] w fun e w' => e = .returned (.bool true) ∧ Below w.heap.size w w' := by
  clear _hL
  obtain ⟨l, rfl⟩ := bs_ex a1
  clear _w1
  obtain ⟨hln, hsq, hoff, hfl⟩ := hok
  by_cases h1 : (2147483647 : Int) < l.length
  · have d1 : decide ((2147483647 : Int) < (l.length : Int)) = true := by simpa using h1
    clear h1
    go_enter Tryd.func14, Tryd.ntmps14
    go_wp2_with fail
    go_ret
    exact ⟨rfl, (Below.refl _ _).alloc (Nat.le_refl _) _⟩
  have d1 : decide ((2147483647 : Int) < (l.length : Int)) = false := by simpa using h1
  have hll : l.length ≤ 2147483647 := by omega
  clear h1
  obtain ⟨m, hm⟩ : ∃ m : HH, m = ⟨h.t, h.ln % 16777216, h.sq, h.off % 16777216, h.fl % 16777216⟩ := ⟨_, rfl⟩
  have hfit : m.fit := by rw [hm]; exact ⟨by simp only; omega, hsq, by simp only; omega, by simp only; omega⟩
  have x1 : bits .and .u32 (h.ln : Int) 16777215 = (m.ln : Int) := by rw [mask24 _ hln, hm]
  have x2 : bits .and .u32 (h.off : Int) 16777215 = (m.off : Int) := by rw [mask24 _ hoff, hm]
  have x3 : bits .and .u32 (h.fl : Int) 16777215 = (m.fl : Int) := by rw [mask24 _ hfl, hm]
  have em : ((h.cells.setIfInBounds 1 (.int .u32 (m.ln : Int))).setIfInBounds 3 (.int .u32 (m.off : Int))).setIfInBounds 4 (.int .u32 (m.fl : Int)) = m.cells := by rw [hm]; rfl
  have hOK := rowOK_mk Tryd.underlying71 rfl m.size71 71 (0, 0)
  have B0 := Blk.new w 71 h.cells.toList
  have k1 : (w.alloc (.cells h.cells 71)).cell? ⟨w.heap.size, 1, none⟩ = some (.int .u32 (h.ln : Int)) := B0.cell 1
  have k3 : (w.alloc (.cells h.cells 71)).cell? ⟨w.heap.size, 3, none⟩ = some (.int .u32 (h.off : Int)) := B0.cell 3
  have k4 : (w.alloc (.cells h.cells 71)).cell? ⟨w.heap.size, 4, none⟩ = some (.int .u32 (h.fl : Int)) := B0.cell 4
  have kf : ∀ i, (w.alloc (.cells h.cells 71)).frozen? ⟨w.heap.size, i, none⟩ = false := B0.frozen
  clear B0
  have HF := Lib.hid hfit
  clear hfit hm hln hoff hfl hsq
  go_enter Tryd.func14, Tryd.ntmps14
  go_wp2_with (go_at_call 38; go_loud (refine (handWrite_any _ m HF.out).mono ?_); rintro e w1 ⟨rfl, hb1⟩; have OW : Own w w.heap.size (.cells m.cells 71 (0, 0)) w1 := ((Own.new w (.cells m.cells 71)).step hb1); clear hb1)
  clear em k1 k3 k4 kf x1 x2 x3 d1
  obtain ⟨f1, f2, f3, f4⟩ := HF.out
  have r1 : IntKind.u64.wrap (m.ln : Int) = m.ln := wrap64 (by omega)
  have r2 : IntKind.u64.wrap (m.sq : Int) = m.sq := wrap64 (by omega)
  have r3 : IntKind.u64.wrap (m.off : Int) = m.off := wrap64 (by omega)
  have r4 : IntKind.u64.wrap (m.fl : Int) = m.fl := wrap64 (by omega)
  have rd : ∀ W : World, Calls Tryd.prog 40 #[.string (bs (handL m ++ l))] W fun e w' => e = .returned (.tuple #[.agg m.cells, .bool true]) ∧ Below W.heap.size W w' := fun W => by
    have := handRead_any W (handL m ++ l) (by rw [List.length_append, handL_length]; omega) (by rw [List.length_append, handL_length]; omega)
    rwa [handOf_handL m HF.out] at this
  have RD := Lib.hid rd
  have q1 : ¬ 9223372036854775807 < (handL m).length + l.length := by rw [handL_length]; omega
  have heq := fun W => hh_eq m W
  clear rd
  refine wp_region_inv (by kernel_rfl) [29, 30, 31, 32, 33, 34, 35, 36, 37, 38, 39, 40, 41, 42, 43, 44, 45, 46, 47, 48, 49, 50, 51, 52, 7] (fun i v W => match i with
    | 0 => v = .pointer (some ⟨w.heap.size, 0, none⟩)
    | 1 => v = .int .u8 (m.t.toNat : Int)
    | 2 => By W v [m.t]
    | 3 => v = .string (bs ([m.t]))
    | 4 => v = .pointer (some ⟨w.heap.size, 1, none⟩)
    | 5 => v = .int .u32 (m.ln : Int)
    | 6 => v = .int .u64 (m.ln : Int)
    | 7 => v = .string (bs (be 3 m.ln))
    | 8 => v = .string (bs ([m.t] ++ be 3 m.ln))
    | 9 => v = .pointer (some ⟨w.heap.size, 2, none⟩)
    | 10 => v = .int .u16 (m.sq : Int)
    | 11 => v = .int .u64 (m.sq : Int)
    | 12 => v = .string (bs (be 2 m.sq))
    | 13 => v = .string (bs ([m.t] ++ be 3 m.ln ++ be 2 m.sq))
    | 14 => v = .pointer (some ⟨w.heap.size, 3, none⟩)
    | 15 => v = .int .u32 (m.off : Int)
    | 16 => v = .int .u64 (m.off : Int)
    | 17 => v = .string (bs (be 3 m.off))
    | 18 => v = .string (bs ([m.t] ++ be 3 m.ln ++ be 2 m.sq ++ be 3 m.off))
    | 19 => v = .pointer (some ⟨w.heap.size, 4, none⟩)
    | 20 => v = .int .u32 (m.fl : Int)
    | 21 => v = .int .u64 (m.fl : Int)
    | 22 => v = .string (bs (be 3 m.fl))
    | 23 => v = .string (bs (handL m))
    | 24 => v = .string (bs (handL m))
    | _ => True) (Own w w.heap.size (.cells m.cells 71 (0, 0))) ?hinv0 (by kernel_rfl) (by kernel_rfl) (by kernel_rfl) (by kernel_rfl) ?hsteps ?hfin
  case hinv0 => exact OW.drew
  case hsteps =>
    clear OW
    refine ⟨?_, ?_, ?_, ?_, ?_, ?_, ?_, ?_, ?_, ?_, ?_, ?_, ?_, ?_, ?_, ?_, ?_, ?_, ?_, ?_, ?_, ?_, ?_, ?_, ?_, trivial⟩
    · intro A W hI hb hp K hK; (repeat (obtain ⟨hq, hp⟩ := hp; first | (obtain ⟨_, hv, rfl⟩ := hq rfl _ _ rfl rfl; clear hq) | (obtain ⟨_, hv, hg⟩ := hq rfl _ _ rfl rfl; clear hq) | clear hq)); clear hp; have b1 := hb 2 (by decide); clear hb; go_simp; exact hK _ _ rfl hI (fun _ _ h => h)
    · intro A W hI hb hp K hK; (repeat (obtain ⟨hq, hp⟩ := hp; first | (obtain ⟨_, hv, rfl⟩ := hq rfl _ _ rfl rfl; clear hq) | (obtain ⟨_, hv, hg⟩ := hq rfl _ _ rfl rfl; clear hq) | clear hq)); clear hp; clear hb; have c1 := hI.cell 0; go_simp; exact hK _ _ rfl hI (fun _ _ h => h)
    · intro A W hI hb hp K hK; (repeat (obtain ⟨hq, hp⟩ := hp; first | (obtain ⟨_, hv, rfl⟩ := hq rfl _ _ rfl rfl; clear hq) | (obtain ⟨_, hv, hg⟩ := hq rfl _ _ rfl rfl; clear hq) | clear hq)); clear hp; clear hb; go_simp; exact hK _ _ (Blk.by (g := W.heap.size) (e := 5) (l := [m.t]) (Blk.new' W 5 [bv m.t] _ rfl) 1 (by simp)) (hI.step ((Below.refl _ _).alloc (Nat.le_refl _) _)) (fun j u hg => by revert hg; dsimp only; split <;> first | exact id | exact fun h => By.below h ((Below.refl _ _).alloc (Nat.le_refl _) _))
    · intro A W hI hb hp K hK; (repeat (obtain ⟨hq, hp⟩ := hp; first | (obtain ⟨_, hv, rfl⟩ := hq rfl _ _ rfl rfl; clear hq) | (obtain ⟨_, hv, hg⟩ := hq rfl _ _ rfl rfl; clear hq) | clear hq)); clear hp; clear hb; have hcv := run_to_string (P := Tryd.prog) hg 25 9 5 Tryd.underlying25 Tryd.underlying5 Tryd.underlying9; go_simp; exact hK _ _ rfl hI (fun _ _ h => h)
    · intro A W hI hb hp K hK; (repeat (obtain ⟨hq, hp⟩ := hp; first | (obtain ⟨_, hv, rfl⟩ := hq rfl _ _ rfl rfl; clear hq) | (obtain ⟨_, hv, hg⟩ := hq rfl _ _ rfl rfl; clear hq) | clear hq)); clear hp; have b1 := hb 2 (by decide); clear hb; go_simp; exact hK _ _ rfl hI (fun _ _ h => h)
    · intro A W hI hb hp K hK; (repeat (obtain ⟨hq, hp⟩ := hp; first | (obtain ⟨_, hv, rfl⟩ := hq rfl _ _ rfl rfl; clear hq) | (obtain ⟨_, hv, hg⟩ := hq rfl _ _ rfl rfl; clear hq) | clear hq)); clear hp; clear hb; have c1 := hI.cell 1; go_simp; exact hK _ _ rfl hI (fun _ _ h => h)
    · intro A W hI hb hp K hK; (repeat (obtain ⟨hq, hp⟩ := hp; first | (obtain ⟨_, hv, rfl⟩ := hq rfl _ _ rfl rfl; clear hq) | (obtain ⟨_, hv, hg⟩ := hq rfl _ _ rfl rfl; clear hq) | clear hq)); clear hp; clear hb; go_simp; exact hK _ _ rfl hI (fun _ _ h => h)
    · intro A W hI hb hp K hK; (repeat (obtain ⟨hq, hp⟩ := hp; first | (obtain ⟨_, hv, rfl⟩ := hq rfl _ _ rfl rfl; clear hq) | (obtain ⟨_, hv, hg⟩ := hq rfl _ _ rfl rfl; clear hq) | clear hq)); clear hp; clear hb; go_simp; refine (big_any m.ln 3 (by omega) _).mono ?_; rintro e w1 ⟨rfl, hb1⟩; exact hK _ _ rfl (hI.step hb1) (fun j u hg => by revert hg; dsimp only; split <;> first | exact id | exact fun h => By.below h hb1)
    · intro A W hI hb hp K hK; (repeat (obtain ⟨hq, hp⟩ := hp; first | (obtain ⟨_, hv, rfl⟩ := hq rfl _ _ rfl rfl; clear hq) | (obtain ⟨_, hv, hg⟩ := hq rfl _ _ rfl rfl; clear hq) | clear hq)); clear hp; clear hb; go_simp; exact hK _ _ rfl hI (fun _ _ h => h)
    · intro A W hI hb hp K hK; (repeat (obtain ⟨hq, hp⟩ := hp; first | (obtain ⟨_, hv, rfl⟩ := hq rfl _ _ rfl rfl; clear hq) | (obtain ⟨_, hv, hg⟩ := hq rfl _ _ rfl rfl; clear hq) | clear hq)); clear hp; have b1 := hb 2 (by decide); clear hb; go_simp; exact hK _ _ rfl hI (fun _ _ h => h)
    · intro A W hI hb hp K hK; (repeat (obtain ⟨hq, hp⟩ := hp; first | (obtain ⟨_, hv, rfl⟩ := hq rfl _ _ rfl rfl; clear hq) | (obtain ⟨_, hv, hg⟩ := hq rfl _ _ rfl rfl; clear hq) | clear hq)); clear hp; clear hb; have c1 := hI.cell 2; go_simp; exact hK _ _ rfl hI (fun _ _ h => h)
    · intro A W hI hb hp K hK; (repeat (obtain ⟨hq, hp⟩ := hp; first | (obtain ⟨_, hv, rfl⟩ := hq rfl _ _ rfl rfl; clear hq) | (obtain ⟨_, hv, hg⟩ := hq rfl _ _ rfl rfl; clear hq) | clear hq)); clear hp; clear hb; go_simp; exact hK _ _ rfl hI (fun _ _ h => h)
    · intro A W hI hb hp K hK; (repeat (obtain ⟨hq, hp⟩ := hp; first | (obtain ⟨_, hv, rfl⟩ := hq rfl _ _ rfl rfl; clear hq) | (obtain ⟨_, hv, hg⟩ := hq rfl _ _ rfl rfl; clear hq) | clear hq)); clear hp; clear hb; go_simp; refine (big_any m.sq 2 (by omega) _).mono ?_; rintro e w1 ⟨rfl, hb1⟩; exact hK _ _ rfl (hI.step hb1) (fun j u hg => by revert hg; dsimp only; split <;> first | exact id | exact fun h => By.below h hb1)
    · intro A W hI hb hp K hK; (repeat (obtain ⟨hq, hp⟩ := hp; first | (obtain ⟨_, hv, rfl⟩ := hq rfl _ _ rfl rfl; clear hq) | (obtain ⟨_, hv, hg⟩ := hq rfl _ _ rfl rfl; clear hq) | clear hq)); clear hp; clear hb; go_simp; exact hK _ _ rfl hI (fun _ _ h => h)
    · intro A W hI hb hp K hK; (repeat (obtain ⟨hq, hp⟩ := hp; first | (obtain ⟨_, hv, rfl⟩ := hq rfl _ _ rfl rfl; clear hq) | (obtain ⟨_, hv, hg⟩ := hq rfl _ _ rfl rfl; clear hq) | clear hq)); clear hp; have b1 := hb 2 (by decide); clear hb; go_simp; exact hK _ _ rfl hI (fun _ _ h => h)
    · intro A W hI hb hp K hK; (repeat (obtain ⟨hq, hp⟩ := hp; first | (obtain ⟨_, hv, rfl⟩ := hq rfl _ _ rfl rfl; clear hq) | (obtain ⟨_, hv, hg⟩ := hq rfl _ _ rfl rfl; clear hq) | clear hq)); clear hp; clear hb; have c1 := hI.cell 3; go_simp; exact hK _ _ rfl hI (fun _ _ h => h)
    · intro A W hI hb hp K hK; (repeat (obtain ⟨hq, hp⟩ := hp; first | (obtain ⟨_, hv, rfl⟩ := hq rfl _ _ rfl rfl; clear hq) | (obtain ⟨_, hv, hg⟩ := hq rfl _ _ rfl rfl; clear hq) | clear hq)); clear hp; clear hb; go_simp; exact hK _ _ rfl hI (fun _ _ h => h)
    · intro A W hI hb hp K hK; (repeat (obtain ⟨hq, hp⟩ := hp; first | (obtain ⟨_, hv, rfl⟩ := hq rfl _ _ rfl rfl; clear hq) | (obtain ⟨_, hv, hg⟩ := hq rfl _ _ rfl rfl; clear hq) | clear hq)); clear hp; clear hb; go_simp; refine (big_any m.off 3 (by omega) _).mono ?_; rintro e w1 ⟨rfl, hb1⟩; exact hK _ _ rfl (hI.step hb1) (fun j u hg => by revert hg; dsimp only; split <;> first | exact id | exact fun h => By.below h hb1)
    · intro A W hI hb hp K hK; (repeat (obtain ⟨hq, hp⟩ := hp; first | (obtain ⟨_, hv, rfl⟩ := hq rfl _ _ rfl rfl; clear hq) | (obtain ⟨_, hv, hg⟩ := hq rfl _ _ rfl rfl; clear hq) | clear hq)); clear hp; clear hb; go_simp; exact hK _ _ rfl hI (fun _ _ h => h)
    · intro A W hI hb hp K hK; (repeat (obtain ⟨hq, hp⟩ := hp; first | (obtain ⟨_, hv, rfl⟩ := hq rfl _ _ rfl rfl; clear hq) | (obtain ⟨_, hv, hg⟩ := hq rfl _ _ rfl rfl; clear hq) | clear hq)); clear hp; have b1 := hb 2 (by decide); clear hb; go_simp; exact hK _ _ rfl hI (fun _ _ h => h)
    · intro A W hI hb hp K hK; (repeat (obtain ⟨hq, hp⟩ := hp; first | (obtain ⟨_, hv, rfl⟩ := hq rfl _ _ rfl rfl; clear hq) | (obtain ⟨_, hv, hg⟩ := hq rfl _ _ rfl rfl; clear hq) | clear hq)); clear hp; clear hb; have c1 := hI.cell 4; go_simp; exact hK _ _ rfl hI (fun _ _ h => h)
    · intro A W hI hb hp K hK; (repeat (obtain ⟨hq, hp⟩ := hp; first | (obtain ⟨_, hv, rfl⟩ := hq rfl _ _ rfl rfl; clear hq) | (obtain ⟨_, hv, hg⟩ := hq rfl _ _ rfl rfl; clear hq) | clear hq)); clear hp; clear hb; go_simp; exact hK _ _ rfl hI (fun _ _ h => h)
    · intro A W hI hb hp K hK; (repeat (obtain ⟨hq, hp⟩ := hp; first | (obtain ⟨_, hv, rfl⟩ := hq rfl _ _ rfl rfl; clear hq) | (obtain ⟨_, hv, hg⟩ := hq rfl _ _ rfl rfl; clear hq) | clear hq)); clear hp; clear hb; go_simp; refine (big_any m.fl 3 (by omega) _).mono ?_; rintro e w1 ⟨rfl, hb1⟩; exact hK _ _ rfl (hI.step hb1) (fun j u hg => by revert hg; dsimp only; split <;> first | exact id | exact fun h => By.below h hb1)
    · intro A W hI hb hp K hK; (repeat (obtain ⟨hq, hp⟩ := hp; first | (obtain ⟨_, hv, rfl⟩ := hq rfl _ _ rfl rfl; clear hq) | (obtain ⟨_, hv, hg⟩ := hq rfl _ _ rfl rfl; clear hq) | clear hq)); clear hp; clear hb; go_simp; exact hK _ _ (by simp [handL]) hI (fun _ _ h => h)
    · intro A W hI hb hp K hK; (repeat (obtain ⟨hq, hp⟩ := hp; first | (obtain ⟨_, hv, rfl⟩ := hq rfl _ _ rfl rfl; clear hq) | (obtain ⟨_, hv, hg⟩ := hq rfl _ _ rfl rfl; clear hq) | clear hq)); clear hp; clear hb; go_simp; exact hK _ _ rfl hI (fun _ _ h => h)
  case hfin =>
    clear OW
    intro vf W hg hI
    obtain ⟨_, _, _, _, _, _, _, _, _, _, _, _, _, _, _, _, _, _, _, _, _, _, _, _, g, _⟩ := hg
    have e7 : vf 7 = _ := g 7 rfl
    simp only [fillAct, List.foldl_cons, List.foldl_nil, List.setIfInBounds_toArray, List.set_cons_zero, List.set_cons_succ]
    rw [e7]
    clear g e7
    go_wp2_with (first
      | (go_at_call 40; have hI' := hI; go_loud (refine (RD.out _).mono ?_); rintro e w2 ⟨rfl, hb2⟩; have I2 := hI.step hb2; clear hb2 RD hI hI')
      | (have I2' := I2; refine wpList_store_whole ?hgd 71 (.tmp 8) (.tmp 65) ?ho w2.heap.size m.cells ?hx ?hy 71 hhZero (heap_alloc_new _ _) m.size71 rfl m.one ?hh; case ho => exact rfl))
    case hgd => rfl
    case hx => rfl
    case hy => rfl
    case hh =>
      intro w3 io3 g3
      have B3 : Below w.heap.size w w3 := (I2.below.alloc I2.below.size _).grown g3 (by have := I2.below.size; (try simp only [Lib.bytesWorld_size, World.size_drew, drewN_size, World.size_alloc, World.size_setCell] at *); first | done | omega) (fun k hk => by cases hk; exact I2.below.size)
      have io2 : objAt w3 w.heap.size = some (.cells m.cells 71 (0, 0)) := (objAt_grown g3 _ (by have := I2.lt; (try simp only [Lib.bytesWorld_size, World.size_drew, drewN_size, World.size_alloc, World.size_setCell] at *); first | done | omega) (fun e => by have := I2.lt; have e' : w.heap.size = w2.heap.size := Option.some.inj e; omega)).trans ((Below.heap_alloc _ _ _ I2.lt).trans I2.obj)
      clear g3
      go_wp2
      go_ret
      exact ⟨rfl, B3⟩
end Go.Proofs.YtdnjkjoioabhhaaDoor

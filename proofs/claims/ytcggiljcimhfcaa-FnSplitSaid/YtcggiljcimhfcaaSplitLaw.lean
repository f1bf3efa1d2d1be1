/- FnSplit: a text cut into pieces of one length: the law's walk. -/
import Derived.Test.YtcggiljcimhfcaaSplit
import Derived.Test.YtcggiljcimhfcaaPlain
namespace Go.Proofs.Ytcggiljcimhfcaa
open Go.RowKit
set_option maxRecDepth 100000

theorem few_pieces {n j : Nat} {l : List UInt8} (hn : 1 ≤ n) (h : ∀ k, k < j → k * n < l.length) : j ≤ l.length := by
  rcases Nat.eq_zero_or_pos j with h0 | h0
  · omega
  · have h1 := h (j - 1) (by omega)
    have h2 : (j - 1) * 1 ≤ (j - 1) * n := Nat.mul_le_mul_left _ hn
    omega
theorem strs_pieces_length (n : Nat) (l : List UInt8) (j : Nat) : (strs (pieces n l j)).length = j := by simp [strs, pieces]
def SplitSPost (w : World) (n : Nat) (l : List UInt8) (e : Ending) (w' : World) : Prop :=
  ∃ v j, e = .returned v ∧ Sl w' v (strs (pieces n l j)) ∧ l.length ≤ j * n ∧ (∀ k, k < j → k * n < l.length) ∧ Below w.heap.size w w'
theorem splitS_any (w : World) (l : List UInt8) (n : Nat) (hn : 1 ≤ n) (hn' : n ≤ 9223372036854775807) (hl : l.length ≤ 2147483647) :
    Calls Try.prog 7 #[.string (bs l), .int .i64 (n : Int)] w (SplitSPost w n l) := by
  have kc := fun (w : World) (s : ByteArray) => run_to_bytes (P := Try.prog) 9 34 5 Try.underlying9 Try.underlying34 Try.underlying5 w s
  go_enter Try.func7, Try.ntmps7
  go_wp2_with (first
    | (go_at_call 13; go_in)
    | (go_at_call 18; refine (split_any _ _ l n (By.to_bytes' _ _ l _ _ (by (try simp only [Lib.bytesWorld_size, World.size_drew, drewN_size, World.size_alloc, World.size_setCell] at *); first | done | omega) (grownCap_ge _ _ _ _)) hn hn' hl).mono ?_; rintro e w1 ⟨v, vs, j, rfl, hsl, hbys, hj, hlt, hb⟩; have HJ := Lib.hid hj; have HL := Lib.hid hlt; clear hj hlt)
    | (go_at_call 12; refine (plain_any _ _ vs (pieces n l j) hsl (hbys.below hb) ?_).mono ?_))
  · have h1 : (pieces n l j).length = j := by simp [pieces]
    have := hbys.1
    have := few_pieces hn HL.out
    omega
  rintro e w2 ⟨v2, rfl, hs2, hb2⟩
  go_wp2
  go_ret
  exact ⟨_, j, rfl, hs2, HJ.out, HL.out, ((below_bytes w _ _).trans (hb.mono (by (try simp only [Lib.bytesWorld_size, World.size_drew, drewN_size, World.size_alloc, World.size_setCell] at *); first | done | omega))).trans (hb2.mono (by have := hb.size; (try simp only [Lib.bytesWorld_size, World.size_drew, drewN_size, World.size_alloc, World.size_setCell] at *); first | done | omega))⟩

theorem taken (n : Nat) (l : List UInt8) (k : Nat) : l.take (k * n) ++ (l.drop (k * n)).take n = l.take ((k + 1) * n) := by
  rw [Nat.add_mul, Nat.one_mul, List.take_add]
theorem fnSplit.walk (a0 : ByteArray) (_w0 : a0.size ≤ maxLen) (a1 : Int) (w1 : (Lit.int .i64 a1).wf = true) (w : World) :
    Calls Try.prog 4 #[.string a0, .int .i64 a1] w fun e w' => e = .returned (.bool true) ∧ Below w.heap.size w w' := by
  obtain ⟨l, rfl⟩ := bs_ex a0
  have hb : a1 ≤ 9223372036854775807 := by have := w1; simp [Lit.wf, IntKind.max, IntKind.min, IntKind.signed, IntKind.bits] at this; omega
  clear w1
  by_cases h1 : (2147483647 : Int) < l.length
  · go_enter Try.func4, Try.ntmps4
    go_wp2_with fail
    go_ret
    exact ⟨rfl, Below.refl _ _⟩
  by_cases h2 : a1 < 1
  · have d1 : decide (a1 < 1) = true := by simpa using h2
    go_enter Try.func4, Try.ntmps4
    go_wp2_with fail
    go_ret
    exact ⟨rfl, Below.refl _ _⟩
  have d1 : decide (a1 < 1) = false := by simpa using h2
  by_cases h3 : l = []
  · subst h3
    go_enter Try.func4, Try.ntmps4
    go_wp2_with fail
    go_ret
    exact ⟨rfl, Below.refl _ _⟩
  have h3' : 0 < l.length := List.length_pos_iff.2 h3
  have d2 : ((l.length : Int) == 0) = false := by rw [beq_eq_false_iff_ne]; omega
  obtain ⟨n, rfl⟩ := nat_ex (x := a1) (by omega)
  go_enter Try.func4, Try.ntmps4
  go_wp2_with (go_at_call 7; refine (splitS_any _ l n (by omega) (by omega) (by omega)).mono ?_; rintro e w1 ⟨v, j, rfl, hsl, hj, hlt, hb1⟩; obtain ⟨A, c, hv, hjc, hr⟩ := hsl; rw [strs_pieces_length] at hv hjc; subst hv; have HR := Lib.hid hr; have HJ := Lib.hid hj; have HL := Lib.hid hlt; clear hj hlt hr)
  have hjl := few_pieces (by omega) HL.out
  have hj31 : j ≤ 2147483647 := by omega
  have hl31 : l.length ≤ 2147483647 := by omega
  have hn1 : 1 ≤ n := by omega
  clear h1 h2 d1 d2
  go_loopg [6, 24] j (fun m acc x wr => ∃ k : Nat, k ≤ j ∧ m = j - k ∧ x = .int .i64 (k : Int) ∧ acc = .string (bs (l.take (k * n))) ∧ Hid (Below w.heap.size w wr) ∧ Hid (Below w1.heap.size w1 wr))
  case atStart => exact ⟨0, Nat.zero_le _, rfl, rfl, by rw [Nat.zero_mul]; rfl, hb1, Below.refl _ _⟩
  case round =>
    obtain ⟨k, hk, rfl, rfl, rfl, Hb, Hb1⟩ := hrel
    by_cases hlt : k < j
    · obtain ⟨g, o, rfl, hc⟩ := HR.out (by rw [strs_pieces_length]; omega)
      have hkn := HL.out k hlt
      have c0 : wr.cell? ⟨g, o + k, none⟩ = some (.string (bs ((l.drop (k * n)).take n))) := by
        have h := hc k (by rw [strs_pieces_length]; exact hlt)
        rw [Hb1.out.cell (World.block_lt_of_cell? w1 _ h), h]
        simp [strs, pieces]
      have et := taken n l k
      have hlen : ((l.drop (k * n)).take n).length = min n (l.length - k * n) := by simp
      have hlast : k + 1 < j → (k + 1) * n < l.length := HL.out (k + 1)
      rw [Nat.add_mul, Nat.one_mul] at hlast
      generalize (l.drop (k * n)).take n = x at *
      have d1 : decide (n < x.length) = false := by simp; omega
      have d2 : ((x.length : Int) == 0) = false := by rw [beq_eq_false_iff_ne]; omega
      have ET := Lib.hid et
      have htk : (l.take (k * n)).length ≤ l.length := by simp; omega
      have hxl : x.length ≤ l.length := by omega
      have hd : (decide ((k : Int) < (j : Int) - 1) = false) ∨ (decide ((k : Int) < (j : Int) - 1) = true ∧ ((x.length : Int) != (n : Int)) = false) := by
        by_cases hh : k + 1 < j
        · have := hlast hh
          have hxn : x.length = n := by omega
          exact .inr ⟨by simp; omega, by rw [hxn]; simp⟩
        · exact .inl (by simp; omega)
      clear et hlen hlast hc hkn
      generalize l.take (k * n) = tk at *
      rcases hd with d3 | ⟨d3, d4⟩
      all_goals
        go_wp2_with fail
        go_roundg (j - (k + 1))
        case measure => omega
        case rel => exact ⟨k + 1, by omega, rfl, by go_num, by rw [ET.out], Hb, Hb1⟩
    · obtain rfl : k = j := by omega
      go_wp2
      go_ret
      refine ⟨?_, Hb.out⟩
      rw [List.take_of_length_le HJ.out]; simp
end Go.Proofs.Ytcggiljcimhfcaa

/- Contracts of the small writers of package laws (big, vec): what they return for every input. -/
import Derived.Test.YtdnjkjoioabhhaaDoorBig
import Derived.Test.YtdnjkjoioabhhaaDoorChecked
namespace Go.Proofs.YtdnjkjoioabhhaaDoor
open Go.RowKit
set_option maxRecDepth 100000

set_option maxHeartbeats 400000 in
theorem big_any (n k : Nat) (hk : k ≤ 65536) (w : World) :
    Calls Tryd.prog 39 #[.int .u64 (n : Int), .int .i64 (k : Int)] w fun e w' => e = .returned (.string (bs (be k n))) ∧ Below w.heap.size w w' := by
  go_enter Tryd.func39, Tryd.ntmps39
  go_wp2_with (at_make; go_loud (refine wpList_make_bytes _ rfl _ _ 25 rfl 5 Tryd.underlying25 Tryd.infoByte .i64 .i64 k k k rfl rfl rfl rfl (by omega) ?_); intro w1 hB hb hz; have H : Hid (Blk w1 w.heap.size 5 ((bigAt k n 0).map bv)) := (by rw [bigAt_zero]; exact hB); clear hB)
  clear hz
  go_loopg [0, 11] k (fun m n' i wr => ∃ j : Nat, j ≤ k ∧ m = k - j ∧ i = .int .i64 (j : Int) ∧ n' = .int .u64 ((n / 256 ^ j : Nat) : Int) ∧ Hid (Blk wr w.heap.size 5 ((bigAt k n j).map bv)) ∧ Below w.heap.size w wr)
  case atStart => exact ⟨0, Nat.zero_le _, rfl, rfl, by simp, H, hb⟩
  case round =>
    clear H hb
    obtain ⟨j, hj, rfl, rfl, rfl, HB, hbr⟩ := hrel
    by_cases hlt : j < k
    · have hc : wr.cell? ⟨w.heap.size, k - 1 - j, none⟩ = some (bv ((bigAt k n j)[k - 1 - j]'(by rw [bigAt_length _ _ _ hj]; omega))) := by
        rw [HB.out.cell, List.getElem?_map, List.getElem?_eq_getElem]; rfl
      have hf : wr.frozen? ⟨w.heap.size, k - 1 - j, none⟩ = false := HB.out.frozen _
      go_wp2_with fail
      go_roundg (k - (j + 1))
      case measure => omega
      case rel =>
        refine ⟨j + 1, by omega, rfl, by go_num, ?_, ?_, hbr.setCell (Nat.le_refl _) _⟩
        · congr 1; rw [Nat.pow_succ, ← Nat.div_div_eq_div_mul]; simp
        · have e : bv (UInt8.ofNat (n / 256 ^ j % 256)) = .int .u8 ((n : Int) / 256 ^ j % 256) := by rw [nat_u8]; simp
          rw [bigAt_succ _ _ _ hlt, List.map_set, e]
          exact HB.out.set _ _
    · obtain rfl : j = k := by omega
      go_wp2_with (refine wpList_to_string rfl _ 25 9 5 rfl Tryd.underlying25 Tryd.underlying5 Tryd.underlying9 _ rfl (be j n) (by exact to_be HB) ?_)
      go_ret
      exact ⟨rfl, hbr⟩
/-- A text behind its length in k bytes. -/
def vecL (k : Nat) (l : List UInt8) : List UInt8 := be k l.length ++ l
@[go_sem] theorem vecL_length (k : Nat) (l : List UInt8) : (vecL k l).length = k + l.length := by simp [vecL, be_length]

theorem vec_any (l : List UInt8) (k : Nat) (hl : l.length ≤ 4294967296) (hk : k ≤ 65536) (w : World) :
    Calls Tryd.prog 15 #[.string (bs l), .int .i64 (k : Int)] w fun e w' => e = .returned (.string (bs (vecL k l))) ∧ Below w.heap.size w w' := by
  go_enter Tryd.func15, Tryd.ntmps15
  go_wp2_with (go_at_call 39; refine (big_any _ _ hk _).mono ?_; rintro e w1 ⟨rfl, hb⟩)
  go_ret
  exact ⟨rfl, hb⟩
end Go.Proofs.YtdnjkjoioabhhaaDoor

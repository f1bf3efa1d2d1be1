/- Contracts of the references' suiteNumber and keyTwo. -/
import Derived.Test.YtcggiljcimhfcaaNum
import Derived.Test.YtcggiljcimhfcaaChecked
namespace Go.Proofs.Ytcggiljcimhfcaa
open Go.RowKit
set_option maxRecDepth 100000

theorem Try.infoByte : (Try.prog.info? 5).map (fun i => (i.zero, i.size, i.bytes)) = some (some (.int .u8 0), 1, 1) := by kernel_rfl
/-- The buffer after i rounds. -/
def bigAt (k n i : Nat) : List UInt8 := List.replicate (k - i) 0 ++ be i n
theorem bigAt_length (k n i : Nat) (h : i ≤ k) : (bigAt k n i).length = k := by simp [bigAt, be_length]; omega
theorem bigAt_zero (k n : Nat) : bigAt k n 0 = List.replicate k 0 := by simp [bigAt, be]
theorem bigAt_all (k n : Nat) : bigAt k n k = be k n := by simp [bigAt]
theorem bigAt_succ (k n i : Nat) (h : i < k) : bigAt k n (i + 1) = (bigAt k n i).set (k - 1 - i) (UInt8.ofNat (n / 256 ^ i % 256)) := by
  have e : List.replicate (k - i) (0 : UInt8) = List.replicate (k - (i + 1)) 0 ++ [0] := by
    rw [show k - i = (k - (i + 1)) + 1 by omega, List.replicate_succ']
  unfold bigAt
  rw [e, be_cons, List.append_assoc, List.set_append_right _ _ (by simp; omega)]
  simp [show k - 1 - i - (k - (i + 1)) = 0 by omega]
theorem to_be {w : World} {g e k n : Nat} (h : Hid (Blk w g e ((bigAt k n k).map bv))) : By w (.slice (some ⟨g, 0, none⟩) k k) (be k n) := by
  have h := h.out; rw [bigAt_all] at h
  have := h.by k (by simp [be_length]); rwa [be_length] at this

set_option maxHeartbeats 400000 in
theorem suiteNumber_any (n k : Nat) (hk : k ≤ 8) (w : World) :
    Calls Try.prog 20 #[.int .u64 (n : Int), .int .i64 (k : Int)] w fun e w' => e = .returned (.string (bs (be k n))) ∧ Below w.heap.size w w' := by
  go_enter Try.func20, Try.ntmps20
  go_wp2_with (at_make; refine wpList_make_bytes _ rfl _ _ 34 rfl 5 Try.underlying34 Try.infoByte .i64 .i64 k k k rfl rfl rfl rfl (by omega) ?_; intro w1 hB hb hz; have H : Hid (Blk w1 w.heap.size 5 ((bigAt k n 0).map bv)) := (by rw [bigAt_zero]; exact hB); clear hB)
  clear hz
  go_loopg [6] k (fun m i wr => ∃ j : Nat, j ≤ k ∧ m = k - j ∧ i = .int .i64 (j : Int) ∧ Hid (Blk wr w.heap.size 5 ((bigAt k n j).map bv)) ∧ Below w.heap.size w wr)
  case atStart => exact ⟨0, Nat.zero_le _, by simp, rfl, H, hb⟩
  case round =>
    clear H hb
    obtain ⟨j, hj, rfl, rfl, HB, hbr⟩ := hrel
    by_cases hlt : j < k
    · have hc : wr.cell? ⟨w.heap.size, k - 1 - j, none⟩ = some (bv ((bigAt k n j)[k - 1 - j]'(by rw [bigAt_length _ _ _ hj]; omega))) := by
        rw [HB.out.cell, List.getElem?_map, List.getElem?_eq_getElem]; rfl
      have hf : wr.frozen? ⟨w.heap.size, k - 1 - j, none⟩ = false := HB.out.frozen _
      go_wp2_with fail
      go_roundg (k - (j + 1))
      case measure => omega
      case rel =>
        refine ⟨j + 1, by omega, rfl, by go_num, ?_, hbr.setCell (Nat.le_refl _) _⟩
        have e : bv (UInt8.ofNat (n / 256 ^ j % 256)) = .int .u8 ((n : Int) / 2 ^ (8 * j) % 256) := by
          rw [nat_u8, show (2 : Int) ^ (8 * j) = ((256 ^ j : Nat) : Int) from by
            rw [show (256 : Nat) = 2 ^ 8 from rfl, ← Nat.pow_mul]; simp]
          simp
        rw [bigAt_succ _ _ _ hlt, List.map_set, e]
        exact HB.out.set _ _
    · obtain rfl : j = k := by omega
      go_wp2_with (refine wpList_to_string rfl _ 34 9 5 rfl Try.underlying34 Try.underlying5 Try.underlying9 _ rfl (be j n) (by exact to_be HB) ?_)
      go_ret
      exact ⟨rfl, hbr⟩
theorem ktBy (w : World) (n : Nat) (hn : n ≤ 65535) : By (w.alloc (.cells #[.int .u8 ((n : Int) / 256), .int .u8 ((n : Int) % 256)] 5)) (.slice (some ⟨w.heap.size, 0, none⟩) 2 2) (be 2 n) := by
  have e0 : (.int .u8 ((n : Int) / 256) : Value) = bv (UInt8.ofNat (n / 256 % 256)) := by rw [nat_u8]; congr 1; simp; omega
  have e1 : (.int .u8 ((n : Int) % 256) : Value) = bv (UInt8.ofNat (n % 256)) := by rw [nat_u8]
  rw [e0, e1, show be 2 n = [UInt8.ofNat (n / 256 % 256), UInt8.ofNat (n % 256)] from by simp [be]]
  exact Blk.by (g := w.heap.size) (e := 5) (l := [_, _]) (Blk.new' w 5 [bv _, bv _] _ rfl) 2 (by simp)
theorem keyTwo_any (n : Nat) (hn : n ≤ 65535) (w : World) :
    Calls Try.prog 17 #[.int .i64 (n : Int)] w fun e w' => e = .returned (.string (bs (be 2 n))) ∧ Below w.heap.size w w' := by
  go_enter Try.func17, Try.ntmps17
  go_wp2_with (refine wpList_to_string rfl _ 34 9 5 rfl Try.underlying34 Try.underlying5 Try.underlying9 _ rfl (be 2 n) (by exact ktBy w n hn) ?_)
  go_ret
  exact ⟨rfl, by repeat (first | with_reducible exact Below.refl _ _ | with_reducible refine Below.drew ?_ | with_reducible refine Below.drewN ?_ _ | with_reducible refine Below.alloc ?_ (by (try simp only [Lib.bytesWorld_size, World.size_drew, drewN_size, World.size_alloc, World.size_setCell] at *); first | done | omega) _ | with_reducible refine Below.bytes ?_ (by (try simp only [Lib.bytesWorld_size, World.size_drew, drewN_size, World.size_alloc, World.size_setCell] at *); first | done | omega) _ _ | with_reducible refine Below.setCell ?_ (by (try simp only [Lib.bytesWorld_size, World.size_drew, drewN_size, World.size_alloc, World.size_setCell] at *); first | done | omega) _)⟩
end Go.Proofs.Ytcggiljcimhfcaa

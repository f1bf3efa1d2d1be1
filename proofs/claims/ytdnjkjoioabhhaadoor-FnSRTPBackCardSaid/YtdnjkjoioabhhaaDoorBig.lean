/- A number laid byte by byte into a buffer, the least byte first at its end. -/
import Derived.Test.YtdnjkjoioabhhaaDoorNum
import Derived.Test.YtdnjkjoioabhhaaDoorChecked
namespace Go.Proofs.YtdnjkjoioabhhaaDoor
open Go.RowKit
set_option maxRecDepth 100000

/-- The buffer of 'big' after i rounds. -/
def bigAt (k n i : Nat) : List UInt8 := List.replicate (k - i) 0 ++ be i n
theorem bigAt_length (k n i : Nat) (h : i ≤ k) : (bigAt k n i).length = k := by simp [bigAt, be_length]; omega
theorem bigAt_zero (k n : Nat) : bigAt k n 0 = List.replicate k 0 := by simp [bigAt, be]
theorem bigAt_all (k n : Nat) : bigAt k n k = be k n := by simp [bigAt]
theorem bigAt_succ (k n i : Nat) (h : i < k) : bigAt k n (i + 1) = (bigAt k n i).set (k - 1 - i) (UInt8.ofNat (n / 256 ^ i % 256)) := by
  have e : List.replicate (k - i) (0 : UInt8) = List.replicate (k - (i + 1)) 0 ++ [0] := by
    rw [show k - i = (k - (i + 1)) + 1 by omega, List.replicate_succ']
  unfold bigAt
  rw [e, be_cons, List.append_assoc, List.set_append_right _ _ (by simp; omega)]
  simp [show k - 1 - i - (k - (i + 1)) = 0 by omega]

theorem to_be {w : World} {g e k n : Nat} (h : Hid (Blk w g e ((bigAt k n k).map bv))) : By w (.slice (some ⟨g, 0, none⟩) k k) (be k n) := by
  have h := h.out; rw [bigAt_all] at h
  have := h.by k (by simp [be_length]); rwa [be_length] at this

theorem Tryd.infoByte : (Tryd.prog.info? 5).map (fun i => (i.zero, i.size, i.bytes)) = some (some (.int .u8 0), 1, 1) := by kernel_rfl

end Go.Proofs.YtdnjkjoioabhhaaDoor

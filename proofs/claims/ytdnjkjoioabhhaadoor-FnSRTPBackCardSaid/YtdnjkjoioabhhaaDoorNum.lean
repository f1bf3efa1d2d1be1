/- Numbers as bytes, the greatest first; bytes laid one by one. -/
import Derived.Test.YtdnjkjoioabhhaaDoorBase
namespace Go.Proofs.YtdnjkjoioabhhaaDoor
open Go.RowKit

/-- The k least bytes of n, the greatest first. -/
def be : Nat → Nat → List UInt8
  | 0, _ => []
  | k + 1, n => be k (n / 256) ++ [UInt8.ofNat (n % 256)]
@[go_sem] theorem be_length : ∀ k n, (be k n).length = k
  | 0, _ => rfl
  | k + 1, n => by simp [be, be_length k]
theorem be_cons : ∀ k n, be (k + 1) n = UInt8.ofNat (n / 256 ^ k % 256) :: be k n
  | 0, n => by simp [be]
  | k + 1, n => by
    rw [be, be_cons k (n / 256), be, Nat.div_div_eq_div_mul, Nat.pow_succ', List.cons_append]
/-- The number that bytes spell, the greatest first. -/
def nat (l : List UInt8) : Nat := l.foldl (fun n b => n * 256 + b.toNat) 0
theorem foldl_nat : ∀ (l : List UInt8) (n : Nat), l.foldl (fun n b => n * 256 + b.toNat) n = n * 256 ^ l.length + l.foldl (fun n b => n * 256 + b.toNat) 0
  | [], n => by simp
  | b :: l, n => by
    rw [List.foldl_cons, foldl_nat l (n * 256 + b.toNat), List.foldl_cons, foldl_nat l (0 * 256 + b.toNat), List.length_cons, Nat.pow_succ', Nat.add_mul, Nat.zero_mul, Nat.zero_add, Nat.mul_assoc, Nat.add_assoc]
theorem nat_append (a b : List UInt8) : nat (a ++ b) = nat a * 256 ^ b.length + nat b := by rw [nat, List.foldl_append, foldl_nat]; rfl
theorem nat_lt (l : List UInt8) : nat l < 256 ^ l.length := by
  induction l with
  | nil => simp [nat]
  | cons b l ih =>
    rw [show b :: l = [b] ++ l from rfl, nat_append, List.length_append, Nat.pow_add]
    have h1 : nat [b] = b.toNat := by simp [nat]
    have h2 := b.toNat_lt
    rw [h1, List.length_singleton, Nat.pow_one]
    have h3 : (b.toNat + 1) * 256 ^ l.length ≤ 256 * 256 ^ l.length := Nat.mul_le_mul_right _ (by omega)
    rw [Nat.add_mul] at h3
    omega
theorem nat_be : ∀ k n, n < 256 ^ k → nat (be k n) = n
  | 0, n, h => by simp at h; subst h; rfl
  | k + 1, n, h => by
    rw [be, nat_append, nat_be k (n / 256) (by rw [Nat.pow_succ] at h; omega)]
    simp [nat]
    omega
theorem nat_u8 (m : Nat) : bv (UInt8.ofNat (m % 256)) = .int .u8 ((m : Int) % 256) := by
  simp [bv]

theorem be8 (v : Nat) : be 8 v = [UInt8.ofNat (v / 72057594037927936 % 256), UInt8.ofNat (v / 281474976710656 % 256), UInt8.ofNat (v / 1099511627776 % 256), UInt8.ofNat (v / 4294967296 % 256), UInt8.ofNat (v / 16777216 % 256), UInt8.ofNat (v / 65536 % 256), UInt8.ofNat (v / 256 % 256), UInt8.ofNat (v % 256)] := by
  simp [be, Nat.div_div_eq_div_mul]
theorem be4 (v : Nat) : be 4 v = [UInt8.ofNat (v / 16777216 % 256), UInt8.ofNat (v / 65536 % 256), UInt8.ofNat (v / 256 % 256), UInt8.ofNat (v % 256)] := by
  simp [be, Nat.div_div_eq_div_mul]
theorem nat_u8d (v k : Nat) : (.int .u8 ((v : Int) / (k : Int) % 256) : Value) = bv (UInt8.ofNat (v / k % 256)) := by
  rw [nat_u8]; simp
theorem lay_nil (l : List UInt8) (o : Nat) : lay l o [] = l := by simp [lay]
theorem lay_cons (l : List UInt8) (o : Nat) (a : UInt8) (x : List UInt8) (h : o < l.length) : lay l o (a :: x) = lay (l.set o a) (o + 1) x := by
  unfold lay
  have e1 : (l.set o a).take (o + 1) = l.take o ++ [a] := by
    rw [List.take_add_one, List.take_set_of_le (Nat.le_refl _), List.getElem?_set_self h]; rfl
  have e2 : (l.set o a).drop (o + 1 + x.length) = l.drop (o + 1 + x.length) := List.drop_set_of_lt (by omega)
  rw [e1, e2, List.length_cons]
  simp [Nat.add_assoc, Nat.add_comm 1]
end Go.Proofs.YtdnjkjoioabhhaaDoor

/- FnPointFormatsCut: the law's walk. -/
import Derived.Test.YtcggiljcimhfcabDoorPointR
import Derived.LaidMore
namespace Go.Proofs.YtcggiljcimhfcabDoor
open Go.RowKit
set_option maxRecDepth 100000

def pfL (n : Nat) : List UInt8 := extL 11 (vecL 1 (List.replicate n 0))
theorem pfL_eq (n : Nat) : pfL n = be 2 11 ++ (be 2 (1 + n) ++ (UInt8.ofNat (n % 256) :: List.replicate n 0)) := by
  simp [pfL, extL, vecL, be, Nat.add_comm n 1]
theorem pfL_length (n : Nat) : (pfL n).length = n + 5 := by simp [pfL_eq, be_length]; omega
theorem pfL_0 (n : Nat) : nat ((pfL n).take 2) = 11 := by
  have : (pfL n).take 2 = be 2 11 := by rw [pfL_eq]; simp [be_length]
  rw [this]; rfl
theorem pfL_2 (n : Nat) (hn : n ≤ 255) : nat (((pfL n).drop 2).take 2) = 1 + n := by
  have : ((pfL n).drop 2).take 2 = be 2 (1 + n) := by rw [pfL_eq]; simp [be_length]
  rw [this, nat_be 2 _ (by omega)]
theorem pfL_4 (n : Nat) : (pfL n)[4]? = some (UInt8.ofNat (n % 256)) := by rw [pfL_eq]; simp [be]
theorem pfL_5 (n k : Nat) (hk : k < n) : (pfL n)[5 + k]? = some 0 := by
  rw [pfL_eq]
  have e : be 2 11 ++ (be 2 (1 + n) ++ (UInt8.ofNat (n % 256) :: List.replicate n 0)) = (be 2 11 ++ be 2 (1 + n) ++ [UInt8.ofNat (n % 256)]) ++ List.replicate n 0 := by simp
  rw [e, List.getElem?_append_right (by simp [be_length])]
  simp [be_length, show 5 + k - 5 = k by omega, hk]
/-- The text read, whole or cut short. -/
theorem pfRead_less (w : World) (n m : Nat) (hn : n ≤ 255) (hm : m < n + 5) (hs1 : Sent w 0) (hs2 : Sent w 3) :
    Calls Tryd.prog 6 #[.string (bs ((pfL n).take m))] w (ReadPost w false) := by
  have hl : ((pfL n).take m).length = m := by rw [List.length_take, pfL_length]; omega
  rcases Nat.lt_or_ge m 5 with h | h
  · exact pfRead_short w _ (by omega) hs1
  · refine pfRead_cut w _ n (1 + n) (UInt8.ofNat (n % 256)) (by omega) (by omega) hn ?_ ?_ (by omega) ?_ (by simp; omega) hs2 (by omega)
    · rw [List.take_take, Nat.min_eq_left (by omega), pfL_0]
    · rw [List.drop_take, List.take_take, Nat.min_eq_left (by omega), pfL_2 n hn]
    · rw [List.getElem?_take_of_lt (by omega), pfL_4]
theorem pfRead_all (w : World) (n : Nat) (hn : n ≤ 255) : Calls Tryd.prog 6 #[.string (bs (pfL n))] w (ReadPost w true) :=
  pfRead_whole w _ n (1 + n) (UInt8.ofNat (n % 256)) (pfL_length n) hn (pfL_0 n) (pfL_2 n hn) (by omega) (pfL_4 n) (by simp; omega) (pfL_5 n)

set_option maxHeartbeats 1600000 in
theorem fnPointFormatsCut.walk (a0 : Int) (w0 : (Lit.int .i64 a0).wf = true) (a1 : Int) (w1 : (Lit.int .i64 a1).wf = true) (w : World) (_hL : laidMetH Tryd.prog Rows.fnPointFormatsCutRow.laid w) :
    Calls Tryd.prog 3 #[.int .i64 a0, .int .i64 a1] w fun e w' => e = .returned (.bool true) ∧ Below w.heap.size w w' := by
  have hs1 : Sent w 0 := sent_of _hL (by kernel_rfl) (by kernel_rfl) Tryd.underlying45
  have hs2 : Sent w 3 := sent_of (laidMet.tail (laidMet.tail _hL)) (by kernel_rfl) (by kernel_rfl) Tryd.underlying45
  clear _hL w0 w1
  by_cases h1 : a0 < 1
  · have d1 : decide (1 ≤ a0) = false := by simp; omega
    go_enter Tryd.func3, Tryd.ntmps3
    go_wp2_with fail
    go_ret
    exact ⟨rfl, Below.refl _ _⟩
  have d1 : decide (1 ≤ a0) = true := by simp; omega
  by_cases h2 : 255 < a0
  · have d2 : decide (a0 ≤ 255) = false := by simp; omega
    go_enter Tryd.func3, Tryd.ntmps3
    go_wp2_with fail
    go_ret
    exact ⟨rfl, Below.refl _ _⟩
  have d2 : decide (a0 ≤ 255) = true := by simp; omega
  obtain ⟨n, rfl⟩ := nat_ex (x := a0) (by omega)
  have hn : n ≤ 255 := by omega
  have hn1 : 1 ≤ n := by omega
  clear h1 h2
  have frm : ∀ W : World, Calls Tryd.prog 4 #[.int .u16 11, .string (bs (vecL 1 (List.replicate n 0)))] W fun e w' => e = .returned (.string (bs (pfL n))) ∧ Below W.heap.size W w' :=
    fun W => framedExt_any W 11 (vecL 1 (List.replicate n 0)) (by omega) (by rw [vecL_length, List.length_replicate]; omega)
  have hpl := pfL_length n
  obtain ⟨s, hs⟩ : ∃ s, s = pfL n := ⟨_, rfl⟩
  rw [← hs] at frm hpl
  have HF := Lib.hid frm
  have HP := Lib.hid hpl
  have HS := Lib.hid hs
  have b1 : s.length ≤ 260 := by omega
  clear frm hpl hs
  by_cases h3 : a1 < 1
  · have d3 : decide (a1 < 1) = true := by simp; omega
    go_enter Tryd.func3, Tryd.ntmps3
    go_wp2_with (first
      | (at_make; refine wpList_make_bytes _ rfl _ _ 25 rfl 5 Tryd.underlying25 Tryd.infoByte .i64 .i64 _ _ n rfl rfl rfl rfl (by omega) ?_; intro w1 hB hb hz; have hy : By w1 (.slice (some ⟨w.heap.size, 0, none⟩) n n) (List.replicate n 0) := (by have := hB.by n (by simp); simpa using this); have HB := Lib.hid hb; clear hB hb hz)
      | (refine wpList_to_string rfl _ 25 9 5 rfl Tryd.underlying25 Tryd.underlying5 Tryd.underlying9 _ rfl (List.replicate n 0) hy ?_)
      | (go_at_call 5; refine (vec_any (List.replicate n 0) 1 (by simp; omega) (by omega) _).mono ?_; rintro e w2 ⟨rfl, hb2⟩)
      | (go_at_call 4; refine (HF.out _).mono ?_; rintro e w3 ⟨rfl, hb3⟩))
    go_ret
    exact ⟨rfl, (HB.out.trans (hb2.mono HB.out.size)).trans (hb3.mono (by have := HB.out.size; have := hb2.size; omega))⟩
  have d3 : decide (a1 < 1) = false := by simp; omega
  obtain ⟨k, rfl⟩ := nat_ex (x := a1) (by omega)
  have hk1 : 1 ≤ k := by omega
  clear h3
  by_cases h4 : s.length < k
  · have d4 : decide ((s.length : Int) < (k : Int)) = true := by simp; omega
    go_enter Tryd.func3, Tryd.ntmps3
    go_wp2_with (first
      | (at_make; refine wpList_make_bytes _ rfl _ _ 25 rfl 5 Tryd.underlying25 Tryd.infoByte .i64 .i64 _ _ n rfl rfl rfl rfl (by omega) ?_; intro w1 hB hb hz; have hy : By w1 (.slice (some ⟨w.heap.size, 0, none⟩) n n) (List.replicate n 0) := (by have := hB.by n (by simp); simpa using this); have HB := Lib.hid hb; clear hB hb hz)
      | (refine wpList_to_string rfl _ 25 9 5 rfl Tryd.underlying25 Tryd.underlying5 Tryd.underlying9 _ rfl (List.replicate n 0) hy ?_)
      | (go_at_call 5; refine (vec_any (List.replicate n 0) 1 (by simp; omega) (by omega) _).mono ?_; rintro e w2 ⟨rfl, hb2⟩)
      | (go_at_call 4; refine (HF.out _).mono ?_; rintro e w3 ⟨rfl, hb3⟩))
    go_ret
    exact ⟨rfl, (HB.out.trans (hb2.mono HB.out.size)).trans (hb3.mono (by have := HB.out.size; have := hb2.size; omega))⟩
  have d4 : decide ((s.length : Int) < (k : Int)) = false := by simp; omega
  have hkl : k ≤ s.length := by omega
  clear h4
  have rd1 : ∀ W : World, Calls Tryd.prog 6 #[.string (bs s)] W (ReadPost W true) := fun W => by rw [HS.out]; exact pfRead_all W n hn
  have rd2 : ∀ W : World, Sent W 0 → Sent W 3 → Calls Tryd.prog 6 #[.string (bs (s.take (s.length - k)))] W (ReadPost W false) := fun W a b => by
    have := HP.out
    rw [HS.out]; exact pfRead_less W n _ hn (by rw [pfL_length]; omega) a b
  have RD1 := Lib.hid rd1
  have RD2 := Lib.hid rd2
  have i1 : (k : Int) ≤ (s.length : Int) := by omega
  have i2 : (0 : Int) ≤ (s.length : Int) - (k : Int) := by omega
  clear rd1 rd2
  go_enter Tryd.func3, Tryd.ntmps3
  go_wp2_with (first
    | (at_make; refine wpList_make_bytes _ rfl _ _ 25 rfl 5 Tryd.underlying25 Tryd.infoByte .i64 .i64 _ _ n rfl rfl rfl rfl (by omega) ?_; intro w1 hB hb hz; have hy : By w1 (.slice (some ⟨w.heap.size, 0, none⟩) n n) (List.replicate n 0) := (by have := hB.by n (by simp); simpa using this); have HB := Lib.hid hb; clear hB hb hz)
    | (refine wpList_to_string rfl _ 25 9 5 rfl Tryd.underlying25 Tryd.underlying5 Tryd.underlying9 _ rfl (List.replicate n 0) hy ?_)
    | (go_at_call 5; refine (vec_any (List.replicate n 0) 1 (by simp; omega) (by omega) _).mono ?_; rintro e w2 ⟨rfl, hb2⟩)
    | (go_at_call 4; refine (HF.out _).mono ?_; rintro e w3 ⟨rfl, hb3⟩; have B3 : Kept w w3 := ⟨(HB.out.trans (hb2.mono HB.out.size)).trans (hb3.mono (by have := HB.out.size; have := hb2.size; omega))⟩; clear HB hb2 hb3)
    | (go_at_call 6; refine (RD1.out _).mono ?_; rintro e w4 ⟨⟨cs, rfl, hcs, hone⟩, hb4⟩; have HCS := Lib.hid hcs; have HONE := Lib.hid hone; have B4 := B3.step hb4; clear hcs hone hb4 RD1 B3)
    | (refine wpList_store_whole rfl 34 (.tmp 6) (.tmp 33) rfl w4.heap.size cs rfl rfl 34 _ (heap_alloc_new _ _) (by rw [HCS.out]; kernel_rfl) (by rw [HCS.out]; rfl) HONE.out ?_; intro w5 io5 g5; have B5 : Kept w w5 := ⟨(B4.below.alloc B4.below.size _).grown g5 (by have := B4.below.size; (try simp only [Lib.bytesWorld_size, World.size_drew, drewN_size, World.size_alloc, World.size_setCell] at *); first | done | omega) (fun k hk => by cases hk; exact B4.below.size)⟩; clear io5 g5)
    | (go_at_call 6; refine (RD2.out _ (hs1.below B5.below) (hs2.below B5.below)).mono ?_; rintro e w6 ⟨⟨cs2, rfl, hcs, hone⟩, hb6⟩; have HCS2 := Lib.hid hcs; have HONE2 := Lib.hid hone; have B6 := B5.step hb6; clear hcs hone hb6 RD2)
    | (refine wpList_store_whole rfl 34 (.tmp 8) (.tmp 43) rfl w6.heap.size cs2 rfl rfl 34 _ (heap_alloc_new _ _) (by rw [HCS2.out]; kernel_rfl) (by rw [HCS2.out]; rfl) HONE2.out ?_; intro w7 io7 g7; have B7 : Kept w w7 := ⟨(B6.below.alloc B6.below.size _).grown g7 (by have := B6.below.size; (try simp only [Lib.bytesWorld_size, World.size_drew, drewN_size, World.size_alloc, World.size_setCell] at *); first | done | omega) (fun k hk => by cases hk; exact B6.below.size)⟩; clear io7 g7))
  go_ret
  exact ⟨rfl, B7.below⟩
end Go.Proofs.YtcggiljcimhfcabDoor

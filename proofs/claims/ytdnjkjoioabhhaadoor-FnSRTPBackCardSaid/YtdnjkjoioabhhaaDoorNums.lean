/- Lists of 16-bit numbers: among, all, nums, and that two equal lists are told equal. -/
import Derived.Test.YtdnjkjoioabhhaaDoorSameExt
import Derived.Test.YtdnjkjoioabhhaaDoorLaws1
import Derived.Test.YtdnjkjoioabhhaaDoorRegion
namespace Go.Proofs.YtdnjkjoioabhhaaDoor
open Go.RowKit
set_option maxRecDepth 100000

/-- Numbers as the program's values. -/
def u16s (ns : List Nat) : List Value := ns.map fun n : Nat => Value.int .u16 (n : Int)
theorem u16s_length (ns : List Nat) : (u16s ns).length = ns.length := by simp [u16s]
theorem Sl.nums {w : World} {v : Value} {ns : List Nat} (h : Sl w v (u16s ns)) :
    ∃ A c, v = .slice A ns.length c ∧ ns.length ≤ c ∧ (0 < ns.length → ∃ g o, A = some ⟨g, o, none⟩ ∧ g < w.heap.size ∧ ∀ j (h : j < ns.length), w.cell? ⟨g, o + j, none⟩ = some (.int .u16 (ns[j] : Int))) := by
  obtain ⟨A, c, hv, hc, hr⟩ := h
  rw [u16s_length] at hv hc
  refine ⟨A, c, hv, hc, fun h0 => ?_⟩
  obtain ⟨g, o, hA, hj⟩ := hr (by rw [u16s_length]; exact h0)
  have hj' : ∀ j (h : j < ns.length), w.cell? ⟨g, o + j, none⟩ = some (.int .u16 (ns[j] : Int)) := fun j h => by rw [hj j (by rw [u16s_length]; exact h)]; simp [u16s]
  exact ⟨g, o, hA, World.block_lt_of_cell? w _ (hj' 0 h0), hj'⟩
theorem u16_beq (a b : Nat) : ((a : Int) == (b : Int)) = (a == b) := by
  cases h : a == b with
  | true => have := eq_of_beq h; simp [this]
  | false => simp at h; simp; omega
set_option maxHeartbeats 800000 in
theorem among_any (w : World) (n : Nat) (v : Value) (ns : List Nat) (hv : Sl w v (u16s ns)) (hl : ns.length ≤ 2147483647) :
    Calls Tryd.prog 61 #[.int .u16 (n : Int), v] w fun e w' => e = .returned (.bool (ns.contains n)) ∧ w = w' := by
  obtain ⟨A, c, rfl, hlc, hr⟩ := hv.nums
  have HR := Lib.hid hr
  clear hr hv
  go_enter Tryd.func61, Tryd.ntmps61
  go_wp2_with fail
  go_loopg [6, 9] ns.length (fun m _ x wr => ∃ k : Nat, k ≤ ns.length ∧ m = ns.length - k ∧ x = .int .i64 (k : Int) ∧ Hid (∀ j (h : j < ns.length), j < k → ns[j] ≠ n) ∧ wr = w)
  case atStart => exact ⟨0, Nat.zero_le _, rfl, rfl, fun j _ h => absurd h (by omega), rfl⟩
  case round =>
    obtain ⟨k, hk, rfl, rfl, HK, rfl⟩ := hrel
    by_cases hlt : k < ns.length
    · obtain ⟨g, o, rfl, hg, hc⟩ := HR.out (by omega)
      have c0 := hc k hlt
      obtain ⟨x, hx⟩ : ∃ x, x = ns[k] := ⟨_, rfl⟩
      rw [← hx] at c0
      have HX := Lib.hid hx
      clear hc hx
      by_cases he : x = n
      · have q : ((x : Int) == (n : Int)) = true := by simp [he]
        have q2 : (x == n) = true := by simp [he]
        have hin : ns.contains n = true := by
          rw [List.contains_iff_mem, ← he, HX.out]; exact List.getElem_mem hlt
        have HIN := Lib.hid hin
        clear hin he
        go_wp2_with fail
        go_ret
        exact ⟨by rw [HIN.out]; rfl, rfl⟩
      · have q : ((x : Int) == (n : Int)) = false := by simp; omega
        have q2 : (x == n) = false := by simp [he]
        have HE := Lib.hid he
        clear he
        go_wp2_with fail
        go_roundg (ns.length - (k + 1))
        case measure => omega
        case rel =>
          refine ⟨k + 1, by omega, rfl, by go_num, fun j hj hjk => ?_, rfl⟩
          rcases Nat.lt_or_ge j k with h | h
          · exact HK.out j hj h
          · obtain rfl : j = k := by omega
            rw [← HX.out]; exact HE.out
    · have hnot : ns.contains n = false := by
        cases hc : ns.contains n with
        | false => rfl
        | true =>
          rw [List.contains_iff_mem] at hc
          obtain ⟨j, hj, hje⟩ := List.mem_iff_getElem.1 hc
          exact absurd hje (HK.out j hj (by omega))
      have HN := Lib.hid hnot
      have hkk : k = ns.length := by omega
      clear hnot
      subst hkk
      go_wp2_with fail
      go_ret
      exact ⟨by rw [HN.out]; rfl, rfl⟩
def allIn (some ns : List Nat) : Bool := ns.all (some.contains ·) && decide (0 < ns.length)
set_option maxHeartbeats 800000 in
theorem all_any (w : World) (v u : Value) (ns so : List Nat) (hv : Sl w v (u16s ns)) (hu : Sl w u (u16s so)) (hl : ns.length ≤ 2147483647) (hl2 : so.length ≤ 2147483647) :
    Calls Tryd.prog 23 #[v, u] w fun e w' => e = .returned (.bool (allIn so ns)) ∧ w = w' := by
  obtain ⟨A, c, rfl, hlc, hr⟩ := hv.nums
  have HR := Lib.hid hr
  have HU := Lib.hid hu
  have AM := Lib.hid (fun n : Nat => among_any w n u so hu hl2)
  obtain ⟨Au, cu, rfl⟩ := hu.len
  clear hr hv hu
  go_enter Tryd.func23, Tryd.ntmps23
  go_wp2_with fail
  go_loopg [6, 9] ns.length (fun m _ x wr => ∃ k : Nat, k ≤ ns.length ∧ m = ns.length - k ∧ x = .int .i64 (k : Int) ∧ Hid (∀ j (h : j < ns.length), j < k → so.contains ns[j] = true) ∧ wr = w)
  case atStart => exact ⟨0, Nat.zero_le _, rfl, rfl, fun j _ h => absurd h (by omega), rfl⟩
  case round =>
    obtain ⟨k, hk, rfl, rfl, HK, rfl⟩ := hrel
    by_cases hlt : k < ns.length
    · obtain ⟨g, o, rfl, hg, hc⟩ := HR.out (by omega)
      have c0 := hc k hlt
      obtain ⟨x, hx⟩ : ∃ x, x = ns[k] := ⟨_, rfl⟩
      rw [← hx] at c0
      have HX := Lib.hid hx
      clear hc hx
      cases hin : so.contains x with
      | false =>
        have hno : allIn so ns = false := by
          unfold allIn
          have : ns.all (so.contains ·) = false := by
            rw [List.all_eq_false]; exact ⟨ns[k], List.getElem_mem hlt, by rw [← HX.out, hin]; simp⟩
          rw [this]; rfl
        have HN := Lib.hid hno
        have HI := Lib.hid hin
        clear hno hin
        go_wp2_with (go_at_call 61; refine (AM.out x).mono ?_; rw [HI.out]; rintro e w1 ⟨rfl, rfl⟩)
        go_ret
        exact ⟨by rw [HN.out]; rfl, rfl⟩
      | true =>
        have HI := Lib.hid hin
        clear hin
        go_wp2_with (go_at_call 61; refine (AM.out x).mono ?_; rw [HI.out]; rintro e w1 ⟨rfl, rfl⟩)
        go_roundg (ns.length - (k + 1))
        case measure => omega
        case rel =>
          refine ⟨k + 1, by omega, rfl, by go_num, fun j hj hjk => ?_, rfl⟩
          rcases Nat.lt_or_ge j k with h | h
          · exact HK.out j hj h
          · obtain rfl : j = k := by omega
            rw [← HX.out]; exact HI.out
    · have hkk : k = ns.length := by omega
      have hal : ns.all (so.contains ·) = true := by
        rw [List.all_eq_true]; intro x hx
        obtain ⟨j, hj, hje⟩ := List.mem_iff_getElem.1 hx
        rw [← hje]; exact HK.out j hj (by omega)
      have ha : allIn so ns = decide (0 < ns.length) := by unfold allIn; rw [hal]; rfl
      have HA := Lib.hid ha
      clear hal ha
      subst hkk
      go_wp2_with fail
      go_ret
      refine ⟨?_, rfl⟩
      rw [HA.out]
      simp
def numsL (k : Nat) (ns : List Nat) : List UInt8 := (ns.map (be k)).flatten
theorem numsL_snoc (k : Nat) (ns : List Nat) (x : Nat) : numsL k (ns ++ [x]) = numsL k ns ++ be k x := by simp [numsL]
theorem numsL_length (k : Nat) : ∀ ns : List Nat, (numsL k ns).length = k * ns.length
  | [] => by simp [numsL]
  | n :: ns => by
    have := numsL_length k ns
    simp only [numsL, List.map_cons, List.flatten_cons, List.length_append, be_length, List.length_cons] at this ⊢
    rw [this, Nat.mul_succ, Nat.add_comm]
set_option maxHeartbeats 800000 in
theorem nums_any (w : World) (v : Value) (ns : List Nat) (k0 : Nat) (hv : Sl w v (u16s ns)) (hk0 : k0 ≤ 2) (hl : ns.length ≤ 65536) (hn : ∀ n ∈ ns, n < 65536) :
    Calls Tryd.prog 26 #[v, .int .i64 (k0 : Int)] w fun e w' => e = .returned (.string (bs (numsL k0 ns))) ∧ Below w.heap.size w w' := by
  obtain ⟨A, c, rfl, hlc, hr⟩ := hv.nums
  have HR := Lib.hid hr
  have HN := Lib.hid hn
  clear hr hv hn
  go_enter Tryd.func26, Tryd.ntmps26
  go_wp2_with fail
  go_loopg [5, 7, 10] ns.length (fun m s _ x wr => ∃ (k : Nat) (t : List UInt8), k ≤ ns.length ∧ m = ns.length - k ∧ x = .int .i64 (k : Int) ∧ s = .string (bs t) ∧ Hid (t = numsL k0 (ns.take k)) ∧ t.length ≤ 131072 ∧ Hid (Below w.heap.size w wr))
  case atStart => exact ⟨0, [], Nat.zero_le _, rfl, rfl, rfl, by show _ = _; simp [numsL], by simp, Below.refl _ _⟩
  case round =>
    obtain ⟨k, t, hk, rfl, rfl, rfl, HT, htl, HB⟩ := hrel
    by_cases hlt : k < ns.length
    · obtain ⟨g, o, rfl, hg, hc⟩ := HR.out (by omega)
      have c0 := (HB.out.cell (p := ⟨g, o + k, none⟩) hg).trans (hc k hlt)
      have hx16 := HN.out ns[k] (List.getElem_mem hlt)
      obtain ⟨x, hx⟩ : ∃ x, x = ns[k] := ⟨_, rfl⟩
      rw [← hx] at c0 hx16
      have HX := Lib.hid hx
      have x1 : IntKind.u64.wrap (x : Int) = (x : Int) := by simp [IntKind.wrap, IntKind.bits, IntKind.signed]; omega
      have q1 : ¬ 9223372036854775807 < t.length + k0 := by omega
      clear hc hx
      go_wp2_with (go_at_call 39; refine (big_any x k0 (by omega) _).mono ?_; rintro e w1 ⟨rfl, hb1⟩)
      go_roundg (ns.length - (k + 1))
      case measure => omega
      case rel =>
        have e1 : t ++ be k0 x = numsL k0 (ns.take (k + 1)) := by
          rw [List.take_add_one, List.getElem?_eq_getElem hlt, ← HX.out, HT.out]; exact (numsL_snoc _ _ _).symm
        refine ⟨k + 1, t ++ be k0 x, by omega, rfl, by go_num, rfl, e1, ?_, HB.out.trans (hb1.mono HB.out.size)⟩
        rw [e1, numsL_length, List.length_take]
        have h1 : min (k + 1) ns.length ≤ 65536 := by omega
        have := Nat.mul_le_mul hk0 h1
        omega
    · have hkk : k = ns.length := by omega
      subst hkk
      have ht := HT.out
      rw [List.take_length] at ht
      have HT2 := Lib.hid ht
      clear ht HT
      go_wp2_with fail
      go_ret
      exact ⟨by rw [← HT2.out]; rfl, HB.out⟩
end Go.Proofs.YtdnjkjoioabhhaaDoor

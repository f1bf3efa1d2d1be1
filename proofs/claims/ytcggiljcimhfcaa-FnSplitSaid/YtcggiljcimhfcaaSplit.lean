/- A text is cut into pieces of one length: contracts of splitBytes and of plain. -/
import Derived.Test.YtcggiljcimhfcaaBase
import Derived.Test.YtcggiljcimhfcaaChecked
namespace Go.Proofs.Ytcggiljcimhfcaa
open Go.RowKit
set_option maxRecDepth 100000

/-- The first j pieces of n bytes. -/
def pieces (n : Nat) (l : List UInt8) (j : Nat) : List (List UInt8) := (List.range j).map fun k => (l.drop (k * n)).take n
theorem pieces_succ (n : Nat) (l : List UInt8) (j : Nat) : pieces n l (j + 1) = pieces n l j ++ [(l.drop (j * n)).take n] := by simp [pieces, List.range_succ]

theorem Try.infoBytes : (Try.prog.info? 34).map (fun i => (i.zero, i.size, i.bytes)) = some (some (.slice none 0 0), 1, 24) := by kernel_rfl

theorem piece_by {w : World} {g o c i n m : Nat} {l : List UInt8} (h : By w (.slice (some ⟨g, o, none⟩) l.length c) l) (hi : i < l.length) (hm : m = min n (l.length - i)) :
    By w (.slice (some ⟨g, o + i, none⟩) m (c - i)) ((l.drop i).take n) := by
  have := h.cut (a := i) (b := i + m) (by omega) (by omega) (A' := some ⟨g, o + i, none⟩) (m := m) (c' := c - i) (by omega) rfl (fun _ g' o' e => by cases e; rfl)
  have e : (l.drop i).take n = (l.drop i).take (i + m - i) := by
    rw [Nat.add_sub_cancel_left, hm, List.take_eq_take_iff]; simp
  rw [e]; exact this
def SplitPost (w : World) (n : Nat) (l : List UInt8) (e : Ending) (w' : World) : Prop :=
  ∃ v vs j, e = .returned v ∧ Sl w' v vs ∧ Bys w vs (pieces n l j) ∧ l.length ≤ j * n ∧ (∀ k, k < j → k * n < l.length) ∧ Below w.heap.size w w'
set_option maxHeartbeats 400000 in
theorem split_any (w : World) (v0 : Value) (l : List UInt8) (n : Nat) (hv : By w v0 l) (hn : 1 ≤ n) (hn' : n ≤ 9223372036854775807) (hl : l.length ≤ 2147483647) :
    Calls Try.prog 18 #[v0, .int .i64 (n : Int)] w (SplitPost w n l) := by
  obtain ⟨A, c, rfl, hlc, hr⟩ := hv.parts
  obtain ⟨i0, hi0, hz0, hz1, hz2⟩ := info_parts Try.infoBytes
  have HR := Lib.hid hr
  clear hr
  go_enter Try.func18, Try.ntmps18
  go_wp2_with (first | (at_make; (refine wpList_make_own _ rfl _ _ 42 rfl w.heap.size 34 i0 _ 1 Try.underlying42 hi0 hz0 hz1 .i64 .i64 _ 0 rfl rfl rfl (by omega) (by simp [maxLen]) (Nat.le_refl _) ?_); intro w1 hown hg1))
  have hs0 : Below w.heap.size w w1 := (Below.refl _ _).grown hg1 (Nat.le_refl _) (fun k hk => by cases hk)
  go_loopg [5, 7] (l.length) (fun m v x wr => ∃ (j i : Nat) (vs : List Value), Hid (i = j * n) ∧ (i ≤ l.length ∧ m = l.length - i ∨ l.length < i ∧ m = 0) ∧ Hid (i = 0 ∨ n ≤ 2147483647 ∧ i ≤ 4294967296 ∨ l.length ≤ i) ∧ i ≤ 9223372036854775807 ∧ x = .int .i64 (i : Int) ∧
    Hid (wr.ownsRow w.heap.size 34 1 v j vs) ∧ Hid (Bys w vs (pieces n l j)) ∧ Hid (∀ k, k < j → k * n < l.length) ∧ Below w.heap.size w wr)
  case atStart => exact ⟨0, 0, [], by show _ = _; simp, .inl ⟨by omega, by omega⟩, .inl rfl, by omega, rfl, hown, Bys.nil _, fun k hk => by omega, hs0⟩
  case round =>
    obtain ⟨j, i, vs, Hi, hi, Hb, him, rfl, Hown, Hbys, Hlt, hbr⟩ := hrel
    clear hs0 hown hg1
    by_cases hlt : i < l.length
    · have hin : (i : Int) + n ≤ 9223372036854775807 := by rcases Hb.out with h | h | h <;> omega
      have hci : ¬ c = i := by omega
      obtain ⟨g, o, rfl, hg, hc⟩ := HR.out (by omega)
      clear hc
      have hj : j ≤ 2147483647 := by
        have h1 := Hi.out
        have h2 : j * 1 ≤ j * n := Nat.mul_le_mul_left j hn
        omega
      have hs := hbr.size
      go_wp2_with (at_builtin; (refine wpList_append_one rfl _ _ 42 rfl w.heap.size 34 i0 _ 24 Try.underlying42 hi0 hz0 hz1 hz2 rfl _ j vs rfl (Hown.out.alloc _) wr.heap.size _ _ rfl (by simp [go_sem]; rfl) rfl (by simp only [maxLen]; omega) (by omega) (by (try simp only [Lib.bytesWorld_size, World.size_drew, drewN_size, World.size_alloc, World.size_setCell] at *); first | done | omega) ?_); intro v' w2 hown2 hg2; have H2 := Lib.hid hown2; have H3 := Lib.hid ((hbr.alloc hbr.size _).grown hg2 (by simp; omega) (fun k hk => (Hown.out.lt k hk).1)); clear hown2 hg2)
      all_goals
        go_roundg (l.length - (i + n))
        case measure => omega
        case rel =>
          refine ⟨j + 1, i + n, _, by show _ = _; rw [Hi.out, Nat.add_mul, Nat.one_mul], by omega, ?_, by omega, by go_num, H2.out, ?_, ?_, H3.out⟩
          · show _ ∨ _
            omega
          · rw [pieces_succ, ← Hi.out]
            exact Bys.snoc Hbys.out (piece_by hv hlt (by omega))
          · intro k hk
            rcases Nat.lt_or_ge k j with h | h
            · exact Hlt.out k h
            · obtain rfl : k = j := by omega
              rw [← Hi.out]; exact hlt
    · have hs := hbr.size
      go_wp2
      go_ret
      refine ⟨_, vs, j, rfl, Sl.of_own Hown.out, Hbys.out, by rw [← Hi.out]; omega, Hlt.out, hbr⟩
end Go.Proofs.Ytcggiljcimhfcaa

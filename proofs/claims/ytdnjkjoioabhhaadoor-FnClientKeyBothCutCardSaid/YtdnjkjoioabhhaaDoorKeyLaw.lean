/- FnClientKeyBothCut: the law's walk. -/
import Derived.Test.YtdnjkjoioabhhaaDoorKeyR
import Derived.Test.YtdnjkjoioabhhaaDoorLaws1
import Derived.Test.YtdnjkjoioabhhaaDoorRows
import Derived.LaidMore
import Derived.WalkSpells
namespace Go.Proofs.YtdnjkjoioabhhaaDoor
open Go.RowKit
set_option maxRecDepth 100000

def keyBoth (h p : List UInt8) : List UInt8 := vecL 2 h ++ vecL 1 p
theorem keyBoth_length (h p : List UInt8) : (keyBoth h p).length = h.length + 3 + p.length := by simp [keyBoth, vecL_length]; omega
theorem keyBoth_0 (h p : List UInt8) (hh : h.length < 65536) : nat ((keyBoth h p).take 2) = h.length := by
  have : (keyBoth h p).take 2 = be 2 h.length := by simp [keyBoth, vecL, be_length]
  rw [this, nat_be 2 _ (by omega)]
theorem keyBoth_2 (h p : List UInt8) : ((keyBoth h p).drop 2).take h.length = h := by simp [keyBoth, vecL, be_length, List.drop_append]
theorem keyBoth_eq (h p : List UInt8) : keyBoth h p = (be 2 h.length ++ h) ++ (UInt8.ofNat (p.length % 256) :: p) := by simp [keyBoth, vecL, be]
theorem keyBoth_u (h p : List UInt8) : (keyBoth h p)[h.length + 2]? = some (UInt8.ofNat (p.length % 256)) := by
  rw [keyBoth_eq, List.getElem?_append_right (by simp [be_length]; omega)]
  simp [be_length, show h.length + 2 - (2 + h.length) = 0 by omega]
theorem keyBoth_p (h p : List UInt8) : ((keyBoth h p).drop (h.length + 3)).take p.length = p := by
  rw [keyBoth_eq, List.drop_append, List.drop_eq_nil_of_le (by simp [be_length]; omega), show h.length + 3 - (be 2 h.length ++ h).length = 1 by simp [be_length]; omega]
  simp
theorem key_less (w : World) (h p : List UInt8) (m : Nat) (h1 : 1 ≤ h.length) (h2 : h.length < 60000) (p1 : 1 ≤ p.length) (p2 : p.length < 256) (hm : m < h.length + 3 + p.length)
    (hs : Sent w 0) : Calls Tryd.prog 16 #[.int .i64 6, .string (bs ((keyBoth h p).take m))] w (KeyErr w) := by
  have hl : ((keyBoth h p).take m).length = m := by rw [List.length_take, keyBoth_length]; omega
  have t0 : 2 ≤ m → nat (((keyBoth h p).take m).take 2) = h.length := fun hm => by rw [List.take_take, Nat.min_eq_left hm, keyBoth_0 h p (by omega)]
  have t2 : h.length + 2 ≤ m → (((keyBoth h p).take m).drop 2).take h.length = h := fun hm => by rw [List.drop_take, List.take_take, Nat.min_eq_left (by omega), keyBoth_2]
  refine keyRead_no w _ 6 (fun W g v1 hB hv hne hS => ?_) hs
  rcases Nat.lt_or_ge m 2 with c1 | c1
  · exact keyU_short W g v1 _ hv (by omega) hS
  rcases Nat.lt_or_ge m (h.length + 2) with c2 | c2
  · exact keyU_hint W g v1 _ h.length hB hv (by omega) (by omega) (t0 c1) (by omega) hS
  rcases Nat.lt_or_ge m (h.length + 3) with c3 | c3
  · exact keyU_bare W g v1 _ h h.length hB hv hne (by omega) (by omega) h1 (t0 c1) (t2 c2) (by omega) hS
  · exact keyU_part W g v1 _ h h.length hB hv hne (by omega) (by omega) h1 (t0 c1) (t2 c2) p.length (UInt8.ofNat (p.length % 256)) (by rw [List.getElem?_take_of_lt (by omega), keyBoth_u]) (by simp; omega) (by omega) (by omega) hS
theorem key_all (w : World) (h p : List UInt8) (h1 : 1 ≤ h.length) (h2 : h.length < 60000) (p1 : 1 ≤ p.length) (p2 : p.length < 256) :
    Calls Tryd.prog 16 #[.int .i64 6, .string (bs (keyBoth h p))] w (KeyGot w h p 6) := by
  have hl := keyBoth_length h p
  exact keyRead_yes w _ 6 h p (by omega) (by omega) (fun W g v1 hB hv hne => keyU_whole W g v1 _ h h.length hB hv hne (by omega) (by omega) h1 (keyBoth_0 h p (by omega)) (keyBoth_2 h p) p.length (UInt8.ofNat (p.length % 256)) (keyBoth_u h p) (by simp; omega) p1 (by omega) p (keyBoth_p h p))

set_option maxHeartbeats 1600000 in
theorem fnClientKeyBothCut.walk (a0 : ByteArray) (_w0 : a0.size ≤ maxLen) (a1 : ByteArray) (_w1 : a1.size ≤ maxLen) (a2 : Int) (w2 : (Lit.int .i64 a2).wf = true) (w : World) (_hL : laidMetH Tryd.prog Rows.fnClientKeyBothCutRow.laid w) :
    Calls Tryd.prog 3 #[.string a0, .string a1, .int .i64 a2] w fun e w' => e = .returned (.bool true) ∧ Below w.heap.size w w' := by
  have hs : Sent w 0 := sent_of _hL (by kernel_rfl) (by kernel_rfl) Tryd.underlying82
  obtain ⟨h, rfl⟩ := bs_ex a0
  obtain ⟨p, rfl⟩ := bs_ex a1
  clear _hL _w0 _w1 w2
  by_cases h1 : (2147483647 : Int) < h.length
  · have d1 : decide ((2147483647 : Int) < (h.length : Int)) = true := by simpa using h1
    clear h1
    go_enter Tryd.func3, Tryd.ntmps3
    go_wp2_with fail
    go_ret
    exact ⟨rfl, Below.refl _ _⟩
  have d1 : decide ((2147483647 : Int) < (h.length : Int)) = false := by simpa using h1
  by_cases h2 : (2147483647 : Int) < p.length
  · have d2 : decide ((2147483647 : Int) < (p.length : Int)) = true := by simpa using h2
    clear h1 h2
    go_enter Tryd.func3, Tryd.ntmps3
    go_wp2_with fail
    go_ret
    exact ⟨rfl, Below.refl _ _⟩
  have d2 : decide ((2147483647 : Int) < (p.length : Int)) = false := by simpa using h2
  by_cases h3 : p.length = 0
  · have d3 : decide (0 < p.length) = false := by rw [h3]; rfl
    clear h1 h2 h3
    go_enter Tryd.func3, Tryd.ntmps3
    go_wp2_with fail
    go_ret
    exact ⟨rfl, Below.refl _ _⟩
  have d3 : decide (0 < p.length) = true := decide_eq_true (by omega)
  by_cases h4 : p.length < 256
  rotate_left
  · have d4 : decide ((p.length : Int) < (256 : Int)) = false := by simp; omega
    clear h1 h2 h3 h4
    go_enter Tryd.func3, Tryd.ntmps3
    go_wp2_with fail
    go_ret
    exact ⟨rfl, Below.refl _ _⟩
  have d4 : decide ((p.length : Int) < (256 : Int)) = true := by simp; omega
  by_cases h5 : h.length = 0
  · have d5 : decide (0 < h.length) = false := by rw [h5]; rfl
    clear h1 h2 h3 h4 h5
    go_enter Tryd.func3, Tryd.ntmps3
    go_wp2_with fail
    go_ret
    exact ⟨rfl, Below.refl _ _⟩
  have d5 : decide (0 < h.length) = true := decide_eq_true (by omega)
  by_cases h6 : h.length < 60000
  rotate_left
  · have d6 : decide ((h.length : Int) < (60000 : Int)) = false := by simp; omega
    clear h1 h2 h3 h4 h5 h6
    go_enter Tryd.func3, Tryd.ntmps3
    go_wp2_with fail
    go_ret
    exact ⟨rfl, Below.refl _ _⟩
  have d6 : decide ((h.length : Int) < (60000 : Int)) = true := by simp; omega
  have hl := keyBoth_length h p
  have hk := fun W k (hk : 1 ≤ k) (hk2 : k ≤ (keyBoth h p).length) (hS : Sent W _) => key_less W h p ((keyBoth h p).length - k) (by omega) h6 (by omega) h4 (by omega) hS
  have ha := fun W => key_all W h p (by omega) h6 (by omega) h4
  have happ : bs (vecL 2 h) ++ bs (vecL 1 p) = bs (keyBoth h p) := by rw [bs_append]; rfl
  obtain ⟨s, hsd⟩ : ∃ s, s = keyBoth h p := ⟨_, rfl⟩
  rw [← hsd] at hk ha hl happ
  have b1 : s.length ≤ 70000 := by omega
  have vh := fun W => vec_any h 2 (by omega) (by omega) W
  have vp := fun W => vec_any p 1 (by omega) (by omega) W
  have happ2 : bs (vecL 2 h ++ vecL 1 p) = bs s := by rw [hsd]; rfl
  obtain ⟨x, hx⟩ : ∃ x, x = vecL 2 h := ⟨_, rfl⟩
  obtain ⟨y, hy⟩ : ∃ y, y = vecL 1 p := ⟨_, rfl⟩
  rw [← hx] at vh happ2
  rw [← hy] at vp happ2
  have HK := Lib.hid hk
  have HA := Lib.hid ha
  have VH := Lib.hid vh
  have VP := Lib.hid vp
  have H2 := Lib.hid happ2
  have hll : x.length + y.length ≤ 70000 := by rw [hx, hy, vecL_length, vecL_length]; omega
  clear hk ha hl hsd vh vp happ happ2 h1 h2 h3 h5 hx hy
  by_cases h7 : a2 < 1
  · have d7 : decide (a2 < 1) = true := by simp; omega
    clear h7
    go_enter Tryd.func3, Tryd.ntmps3
    go_wp2_with (first
      | (go_at_call 15; refine (VH.out _).mono ?_; rintro e w1 ⟨rfl, hb1⟩; clear VH)
      | (go_at_call 15; refine (VP.out _).mono ?_; rintro e w2 ⟨rfl, hb2⟩; clear VP))
    go_ret
    exact ⟨rfl, hb1.trans (hb2.mono hb1.size)⟩
  have d7 : decide (a2 < 1) = false := by simp; omega
  obtain ⟨k, rfl⟩ := nat_ex (x := a2) (by omega)
  have hk1 : 1 ≤ k := by omega
  clear h7
  by_cases h8 : s.length < k
  · have d8 : decide ((s.length : Int) < (k : Int)) = true := by simp; omega
    have d9 : decide (s.length < k) = true := decide_eq_true (by omega)
    have d10 : s.length < k := by omega
    clear h8
    go_enter Tryd.func3, Tryd.ntmps3
    go_wp2_with (first
      | (go_at_call 15; refine (VH.out _).mono ?_; rintro e w1 ⟨rfl, hb1⟩; clear VH)
      | (go_at_call 15; refine (VP.out _).mono ?_; rintro e w2 ⟨rfl, hb2⟩; have happ := H2.out; clear VP d1 d2 d3 d4 d5 d6))
    go_ret
    exact ⟨rfl, hb1.trans (hb2.mono hb1.size)⟩
  have d8 : decide ((s.length : Int) < (k : Int)) = false := by simp; omega
  have d9 : decide (s.length < k) = false := decide_eq_false (by omega)
  have hk2 : k ≤ s.length := by omega
  clear h8
  have i1 : (k : Int) ≤ (s.length : Int) := by omega
  have i2 : (0 : Int) ≤ (s.length : Int) - (k : Int) := by omega
  go_enter Tryd.func3, Tryd.ntmps3
  go_wp2_with (first
    | (go_at_call 15; refine (VH.out _).mono ?_; rintro e w1 ⟨rfl, hb1⟩; clear VH)
    | (go_at_call 15; refine (VP.out _).mono ?_; rintro e w2 ⟨rfl, hb2⟩; have happ := H2.out; have B2 : Kept w w2 := ⟨hb1.trans (hb2.mono hb1.size)⟩; clear VP hb1 hb2 d1 d2 d3 d4 d5 d6)
    | (go_at_call 16; have B2' := B2; refine (HA.out _).mono ?_; rintro e w4 ⟨rfl, hb4⟩; have B4 := B2.step hb4; clear hb4 HA B2 B2')
    | (have B4' := B4; refine wpList_store_whole ?hgd 32 (.tmp 8) (.tmp 55) ?ho w4.heap.size (msgKey (.string (bs h)) (.string (bs p)) (.int .i64 6)).toArray ?hx ?hy 32 msgZero (heap_alloc_new _ _) (msgKey_size _ _ _) rfl (msgKey_one _ _ _ rfl rfl rfl) ?hh; case ho => exact rfl))
  case hgd => rfl
  case hx => rfl
  case hy => rfl
  case hh =>
    intro w5 io5 g5
    have B5 : Kept w w5 := ⟨(B4.below.alloc B4.below.size _).grown g5 (by have := B4.below.size; (try simp only [Lib.bytesWorld_size, World.size_drew, drewN_size, World.size_alloc, World.size_setCell] at *); first | done | omega) (fun k hk => by cases hk; exact B4.below.size)⟩
    clear io5 g5
    go_wp2_with (first
      | (go_at_call 16; go_loud (refine (HK.out _ k hk1 hk2 (hs.below B5.below)).mono ?_); rintro e w6 ⟨rfl, hb6⟩; have B6 := B5.step hb6; clear hb6 HK)
      | (have B6' := B6; refine wpList_store_whole ?hgd 32 (.tmp 10) (.tmp 65) ?ho w6.heap.size msgZero ?hx ?hy 32 msgZero (heap_alloc_new _ _) (by kernel_rfl) rfl (by kernel_rfl) ?hh; case ho => exact rfl))
    case hgd => rfl
    case hx => rfl
    case hy => rfl
    case hh =>
      intro w7 io7 g7
      have B7 : Kept w w7 := ⟨(B6.below.alloc B6.below.size _).grown g7 (by have := B6.below.size; (try simp only [Lib.bytesWorld_size, World.size_drew, drewN_size, World.size_alloc, World.size_setCell] at *); first | done | omega) (fun k hk => by cases hk; exact B6.below.size)⟩
      clear io7 g7
      go_wp2
      go_ret
      exact ⟨rfl, B7.below⟩
end Go.Proofs.YtdnjkjoioabhhaaDoor

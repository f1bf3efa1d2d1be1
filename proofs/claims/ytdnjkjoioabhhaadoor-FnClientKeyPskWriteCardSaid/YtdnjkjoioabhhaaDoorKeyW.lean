/- A client's key exchange message of an identity hint alone is written; the law FnClientKeyPskWrite. -/
import Derived.Test.YtdnjkjoioabhhaaDoorKey
import Derived.Test.YtdnjkjoioabhhaaDoorPut16x
import Derived.Test.YtdnjkjoioabhhaaDoorEnds
import Derived.Test.YtdnjkjoioabhhaaDoorText
import Derived.Test.YtdnjkjoioabhhaaDoorLaws1
import Derived.Test.YtdnjkjoioabhhaaDoorRows
import Derived.LaidMore
import Derived.WalkSpells
namespace Go.Proofs.YtdnjkjoioabhhaaDoor
open Go.RowKit
set_option maxRecDepth 100000

theorem lay2 (h x : List UInt8) (hx : x.length = 2) : lay ([0, 0] ++ h) 0 x = x ++ h := by
  match x, hx with | [a, b], _ => simp [lay]
set_option maxHeartbeats 800000 in
theorem key_marshal_hint (w : World) (g : Nat) (kx : Int) (h p : List UInt8) (hk : KeyAt w g kx true false h p) (hl : h.length ≤ 65535) :
    Calls Tryd.prog 56 #[.pointer (some ⟨g, 0, none⟩)] w (BytesOk w (be 2 h.length ++ h)) := by
  obtain ⟨vh, vp, hB, hh, hp⟩ := hk
  obtain ⟨g0, c0, rfl, hby⟩ : ∃ g0 c0, vh = .slice (some ⟨g0, 0, none⟩) h.length c0 ∧ By w vh h := by
    rcases hh with ⟨h0, _⟩ | ⟨_, ⟨a, b, h1⟩, h2⟩
    · cases h0
    · exact ⟨a, b, h1, h2⟩
  obtain rfl : vp = .slice none 0 0 := by
    rcases hp with ⟨_, h1⟩ | ⟨h0, _⟩
    · exact h1
    · cases h0
  have m0 : w.cell? ⟨g, 0, none⟩ = some (.slice (some ⟨g0, 0, none⟩) h.length c0) := hB.cell 0
  have m1 : w.cell? ⟨g, 1, none⟩ = some (.slice none 0 0) := hB.cell 1
  have hg := hB.lt
  have x1 : IntKind.u16.wrap (2 + (h.length : Int) - 2) = (h.length : Int) := by simp [IntKind.wrap, IntKind.bits, IntKind.signed]; omega
  have x2 : IntKind.u16.wrap (h.length : Int) = (h.length : Int) := by simp [IntKind.wrap, IntKind.bits, IntKind.signed]; omega
  clear hh hp hB
  have qe := fun (w : World) (a : Option Addr) (n c : Nat) => Lib.run_eql_slice_nil (P := Tryd.prog) w 25 5 a n c 0 0 Tryd.underlying25
  have qn := fun (w : World) (a : Option Addr) (n c : Nat) => run_neq_slice_nil_any (P := Tryd.prog) w 25 5 a n c 0 0 Tryd.underlying25
  go_enter Tryd.func56, Tryd.ntmps56
  go_wp2_with (first
    | (refine wpList_append_by (w := w) rfl (.tmp 22) (.tmp 26) 25 rfl 5 Tryd.underlying25 Tryd.infoByte _ [0, 0] rfl (Grow.lit (Below.refl _ _) [0, 0] 5 (by simp [maxLen])) _ h rfl (hby.alloc _) (by simp; omega) ?_; intro v' W' hG; obtain ⟨g2, c2, cs2, rfl, hc2, hg2, hB2⟩ := hG.row (2 + h.length) (by simp; omega) (by omega); have HG := Lib.hid hG; have n1 := (hG.below.cell (p := ⟨g, 1, none⟩) hg).trans m1; clear hG)
    | (go_at_call 94; refine (put16x _ g2 5 0 _ _ h.length _ cs2 hB2 (by omega) (by simp) (by omega)).mono ?_; rintro e w3 ⟨rfl, h3, g3⟩; have HG3 := Lib.hid h3; have HGG := Lib.hid g3; have hb3 : Below w.heap.size w w3 := HG.out.below.grown g3 HG.out.below.size (fun k hk => by cases hk; exact hg2); have o1 := (hb3.cell (p := ⟨g, 1, none⟩) hg).trans m1; clear h3 g3))
  go_ret2
  have B := HG3.out
  rw [lay2 _ _ (be_length _ _)] at B
  exact ⟨_, rfl, B.byx (2 + h.length) c2 (by simp [be_length]) (by omega), hb3⟩
set_option maxHeartbeats 800000 in
theorem keyWrite_hint (w : World) (cs : Array Value) (h : List UInt8) (hs : (Tryd.prog.info? 32).map (·.size) = some cs.size) (h17 : cs[17]? = some (.string (bs h))) (h18 : cs[18]? = some (.string (bs []))) (h19 : cs[19]? = some (.int .i64 2)) (hl : h.length ≤ 65535) :
    Calls Tryd.prog 18 #[.agg cs] w fun e w' => e = .returned (.tuple #[.string (bs (be 2 h.length ++ h)), .bool true]) ∧ Below w.heap.size w w' := by
  have hOK := rowOK_mk Tryd.underlying32 rfl hs 32 (0, 0)
  go_enter Tryd.func18, Tryd.ntmps18
  go_wp2_with (first
    | (go_at_call 55; go_loud (refine (makeKey_any _ cs 2 h [] true false h17 h18 h19 (by decide) (by decide) (by omega) (by simp)).mono ?_); rintro e w1 ⟨g, rfl, hk, hb1⟩)
    | (go_at_call 56; go_loud (refine (key_marshal_hint _ g 2 h [] hk hl).mono ?_); rintro e w2 ⟨v2, rfl, hv2, hb2⟩)
    | (go_at_call 54; refine (text_ok hv2).mono ?_; rintro e w3 ⟨rfl, rfl⟩))
  go_ret2
  exact ⟨rfl, (((Below.refl _ _).alloc (Nat.le_refl _) _).trans (hb1.mono (by (try simp only [Lib.bytesWorld_size, World.size_drew, drewN_size, World.size_alloc, World.size_setCell] at *); first | done | omega))).trans (hb2.mono (by have := hb1.size; (try simp only [Lib.bytesWorld_size, World.size_drew, drewN_size, World.size_alloc, World.size_setCell] at *); first | done | omega))⟩
theorem fnClientKeyPskWrite.walk (a0 : ByteArray) (_w0 : a0.size ≤ maxLen) (w : World) (_hL : laidMetH Tryd.prog Rows.fnClientKeyPskWriteRow.laid w) :
    Calls Tryd.prog 5 #[.string a0] w fun e w' => e = .returned (.bool true) ∧ Below w.heap.size w w' := by
  obtain ⟨l, rfl⟩ := bs_ex a0
  clear _hL _w0
  by_cases h1 : (2147483647 : Int) < l.length
  · go_enter Tryd.func5, Tryd.ntmps5
    go_wp2_with fail
    go_ret
    exact ⟨rfl, Below.refl _ _⟩
  have d1 : decide ((2147483647 : Int) < (l.length : Int)) = false := by simpa using h1
  by_cases h2 : l.length = 0
  · have d2 : decide (0 < l.length) = false := by rw [h2]; rfl
    clear h2
    go_enter Tryd.func5, Tryd.ntmps5
    go_wp2_with fail
    go_ret
    exact ⟨rfl, Below.refl _ _⟩
  have d2 : decide (0 < l.length) = true := decide_eq_true (by omega)
  by_cases h3 : l.length < 60000
  rotate_left
  · have d3 : decide ((l.length : Int) < (60000 : Int)) = false := by simp; omega
    clear h2 h3
    go_enter Tryd.func5, Tryd.ntmps5
    go_wp2_with fail
    go_ret
    exact ⟨rfl, Below.refl _ _⟩
  have d3 : decide ((l.length : Int) < (60000 : Int)) = true := by simp; omega
  go_enter Tryd.func5, Tryd.ntmps5
  go_wp2_with (first
    | (go_at_call 18; go_loud (refine (keyWrite_hint _ _ l (by kernel_rfl) rfl rfl rfl (by omega)).mono ?_); rintro e w1 ⟨rfl, hb1⟩)
    | (go_at_call 15; refine (vec_any l 2 (by omega) (by omega) _).mono ?_; unfold vecL; rintro e w2 ⟨rfl, hb2⟩))
  go_ret
  exact ⟨rfl, hb1.trans (hb2.mono hb1.size)⟩
end Go.Proofs.YtdnjkjoioabhhaaDoor

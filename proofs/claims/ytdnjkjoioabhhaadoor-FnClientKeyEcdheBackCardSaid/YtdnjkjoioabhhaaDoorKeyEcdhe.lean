/- FnClientKeyEcdheBack: the law's walk. -/
import Derived.Test.YtdnjkjoioabhhaaDoorKeyU4
import Derived.Test.YtdnjkjoioabhhaaDoorKeyR
import Derived.Test.YtdnjkjoioabhhaaDoorSameMsg
import Derived.Test.YtdnjkjoioabhhaaDoorLaws1
import Derived.Test.YtdnjkjoioabhhaaDoorRows
import Derived.LaidMore
import Derived.WalkSpells
namespace Go.Proofs.YtdnjkjoioabhhaaDoor
open Go.RowKit
set_option maxRecDepth 100000

theorem msgKey_of (h p : List UInt8) (kx : Int) : msgKey (.string (bs h)) (.string (bs p)) (.int .i64 kx) = msgOf 16 h p kx (.slice none 0 0) := rfl
theorem ecdhe_read (w : World) (p : List UInt8) (p1 : 1 ≤ p.length) (p2 : p.length < 256) : Calls Tryd.prog 16 #[.int .i64 4, .string (bs (vecL 1 p))] w (KeyGot w [] p 4) :=
  keyRead_yes w _ 4 [] p (by simp) (by omega) (fun W g v1 hB hv hne => keyU4 W g v1 _ p p.length (UInt8.ofNat (p.length % 256)) hB hv hne p1 (by rw [vecL_length]; omega) (by simp [vecL, be]) (by simp; omega) (by simp [vecL, be]))
theorem same_ecdhe (p : List UInt8) (w : World) : Calls Tryd.prog 17 #[.agg (msgOf 16 [] p 4 (.slice none 0 0)).toArray, .agg (msgOf 16 [] p 4 (.slice none 0 0)).toArray] w fun e w' => e = .returned (.bool true) ∧ Below w.heap.size w w' :=
  sameMsg_yes w 16 [] p 4 _ _ (listString_nil _ _ _ _ _ _)
theorem msgOf_size (ty : Int) (h p : List UInt8) (kx : Int) (c : Value) : (Tryd.prog.info? 32).map (·.size) = some (msgOf ty h p kx c).toArray.size := by kernel_rfl
theorem msgOf_ok (ty : Int) (h p : List UInt8) (kx : Int) (c : Value) : rowOK Tryd.prog 32 (some (.cells (msgOf ty h p kx c).toArray 32 (0, 0))) = true := rowOK_mk Tryd.underlying32 rfl (msgOf_size _ _ _ _ _) 32 (0, 0)
set_option maxHeartbeats 3200000 in
theorem fnClientKeyEcdheBack.walk (a0 : ByteArray) (_w0 : a0.size ≤ maxLen) (w : World) (_hL : laidMetH Tryd.prog Rows.fnClientKeyEcdheBackRow.laid w) :
    Calls Tryd.prog 4 #[.string a0] w fun e w' => e = .returned (.bool true) ∧ Below w.heap.size w w' := by
  obtain ⟨l, rfl⟩ := bs_ex a0
  clear _hL _w0
  by_cases h1 : (2147483647 : Int) < l.length
  · go_enter Tryd.func4, Tryd.ntmps4
    go_wp2_with fail
    go_ret
    exact ⟨rfl, Below.refl _ _⟩
  have d1 : decide ((2147483647 : Int) < (l.length : Int)) = false := by simpa using h1
  by_cases h2 : l.length = 0
  · have d2 : decide (0 < l.length) = false := by rw [h2]; rfl
    clear h2
    go_enter Tryd.func4, Tryd.ntmps4
    go_wp2_with fail
    go_ret
    exact ⟨rfl, Below.refl _ _⟩
  have d2 : decide (0 < l.length) = true := decide_eq_true (by omega)
  by_cases h3 : l.length < 256
  rotate_left
  · have d3 : decide ((l.length : Int) < (256 : Int)) = false := by simp; omega
    clear h2 h3
    go_enter Tryd.func4, Tryd.ntmps4
    go_wp2_with fail
    go_ret
    exact ⟨rfl, Below.refl _ _⟩
  have d3 : decide ((l.length : Int) < (256 : Int)) = true := by simp; omega
  have vc := fun W : World => vec_any l 1 (by omega) (by omega) W
  have rd := fun W => ecdhe_read W l (by omega) h3
  obtain ⟨x, hx⟩ : ∃ x, x = vecL 1 l := ⟨_, rfl⟩
  rw [← hx] at vc rd
  have VC := Lib.hid vc
  have RD := Lib.hid rd
  have SM := Lib.hid (same_ecdhe l)
  have hOK := msgOf_ok 16 [] l 4 (.slice none 0 0)
  clear vc rd hx h1 h2 h3
  go_enter Tryd.func4, Tryd.ntmps4
  go_wp2_with (first
    | (go_at_call 15; refine (VC.out _).mono ?_; rintro e w1 ⟨rfl, hb1⟩; have K1 : Kept w w1 := ⟨hb1⟩; clear hb1 VC)
    | (go_at_call 16; have k := K1; refine (RD.out _).mono ?_; rintro e w3 ⟨rfl, hb3⟩; rw [msgKey_of]; have K3 := K1.step hb3; clear hb3 RD k K1)
    | (have k := K3; refine wpList_store_whole ?hgd 32 (.tmp 3) (.tmp 21) ?ho w3.heap.size (msgOf 16 [] l 4 (.slice none 0 0)).toArray ?hx ?hy 32 msgZero (heap_alloc_new _ _) (msgOf_size _ _ _ _ _) rfl (by rw [← msgKey_of]; exact msgKey_one _ _ _ rfl rfl rfl) ?hh; case ho => exact rfl))
  case hgd => rfl
  case hx => rfl
  case hy => rfl
  case hh =>
    intro w4 io4 g4
    have K4 : Kept w w4 := ⟨(K3.below.alloc K3.below.size _).grown g4 (by have := K3.below.size; (try simp only [Lib.bytesWorld_size, World.size_drew, drewN_size, World.size_alloc, World.size_setCell] at *); first | done | omega) (fun k hk => by cases hk; exact K3.below.size)⟩
    clear g4 K3 d1 d2 d3
    go_wp2_with (go_at_call 17; have k := K4; refine (SM.out _).mono ?_; rintro e w5 ⟨rfl, hb5⟩; have K5 := K4.step hb5; clear hb5 SM k K4)
    go_ret
    exact ⟨rfl, K5.below⟩
end Go.Proofs.YtdnjkjoioabhhaaDoor

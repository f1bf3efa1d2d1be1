/- impl.ClientKeyRead. -/
import Derived.Test.YtdnjkjoioabhhaaDoorKeyV
import Derived.Test.YtdnjkjoioabhhaaDoorKeyD
namespace Go.Proofs.YtdnjkjoioabhhaaDoor
open Go.RowKit
set_option maxRecDepth 100000

def KeyErr (w : World) (e : Ending) (w' : World) : Prop := e = .returned (.tuple #[.agg msgZero, .bool false]) ∧ Below w.heap.size w w'
set_option maxHeartbeats 800000 in
theorem keyRead_no (w : World) (l : List UInt8) (kx : Int)
    (hU : ∀ (W : World) (g : Nat) (v1 : Value), Blk W g 80 [.slice none 0 0, .slice none 0 0, .int .i64 kx] → By W v1 l → v1.ownBlock ≠ some g → Sent W 0 →
      Calls Tryd.prog 41 #[.pointer (some ⟨g, 0, none⟩), v1] W (ErrAt W g))
    (hs : Sent w 0) :
    Calls Tryd.prog 16 #[.int .i64 kx, .string (bs l)] w (KeyErr w) := by
  have HU := Lib.hid hU
  clear hU
  have kc := fun (w : World) (s : ByteArray) => run_to_bytes (P := Tryd.prog) 9 25 5 Tryd.underlying9 Tryd.underlying25 Tryd.underlying5 w s
  go_enter Tryd.func16, Tryd.ntmps16
  go_wp2_with (first
    | (go_at_call 41; go_loud (refine (HU.out _ _ _ (show Blk _ _ _ _ from (made2 w _ _ _ _).2.1) (By.to_bytes' _ _ l _ _ (by (try simp only [Lib.bytesWorld_size, World.size_drew, drewN_size, World.size_alloc, World.size_setCell] at *); first | done | omega) (grownCap_ge _ _ _ _)) (by simp [Value.ownBlock]) (((hs.alloc _).alloc _).below (below_bytes _ _ _))).mono ?_); rintro e w1 ⟨T, x, rfl, hG1⟩; have io1 : objAt w1 w.heap.size = some (.cells msgZero 32 (0, 0)) := (objAt_grown hG1 _ (by have := (made2 w (.cells msgZero 32) (.cells #[.slice none 0 0, .slice none 0 0, .int .i64 kx] 80) 5 (bs l)).2.2.1; exact Nat.lt_of_lt_of_le (by omega) (Nat.le_of_eq this)) (by simp)).trans (made2 w _ _ _ _).1; have Hb1 := Lib.hid ((made2 w _ _ _ _).2.2.2.grown hG1 (made2 w _ _ _ _).2.2.2.size (fun k hk => by cases hk; exact Nat.le_succ _)); clear hG1)
    | (refine wpList_store_whole ?hgd 32 (.tmp 4) (.tmp 17) ?ho w.heap.size msgZero ?hx ?hy 32 msgZero io1 (by kernel_rfl) rfl (by kernel_rfl) ?hh; case ho => exact rfl))
  case hgd => rfl
  case hx => rfl
  case hy => rfl
  case hh =>
    intro w2 io2 g2
    have G2 := Lib.hid g2
    clear g2
    go_wp2
    refine bodyPost_ret (ret_cell2 Tryd.results16 _ w2 w.heap.size msgZero (.bool false) Tryd.underlying32 rfl (by kernel_rfl) io2 rfl rfl) rfl ⟨rfl, ?_⟩
    exact Hb1.out.grown G2.out Hb1.out.size (fun k hk => by cases hk; exact Nat.le_refl _)
def KeyGot (w : World) (h p : List UInt8) (kx : Int) (e : Ending) (w' : World) : Prop := e = .returned (.tuple #[.agg (msgKey (.string (bs h)) (.string (bs p)) (.int .i64 kx)).toArray, .bool true]) ∧ Below w.heap.size w w'
theorem msgKey_one (h p k : Value) (h1 : h.oneCell' = true) (h2 : p.oneCell' = true) (h3 : k.oneCell' = true) : (msgKey h p k).toArray.all (·.oneCell') = true := by
  unfold Value.oneCell' at h1 h2 h3
  simp [msgKey, Value.oneCell']
  exact ⟨h1, h2, h3⟩
set_option maxHeartbeats 1600000 in
theorem keyRead_yes (w : World) (l : List UInt8) (kx : Int) (h p : List UInt8) (hhl : h.length ≤ 2147483647) (hpl : p.length ≤ 2147483647)
    (hU : ∀ (W : World) (g : Nat) (v1 : Value), Blk W g 80 [.slice none 0 0, .slice none 0 0, .int .i64 kx] → By W v1 l → v1.ownBlock ≠ some g →
      Calls Tryd.prog 41 #[.pointer (some ⟨g, 0, none⟩), v1] W (fun e w' => e = .returned .nilIface ∧ KeyRead W g kx h p w')) :
    Calls Tryd.prog 16 #[.int .i64 kx, .string (bs l)] w (KeyGot w h p kx) := by
  have HU := Lib.hid hU
  clear hU
  have kc := fun (w : World) (s : ByteArray) => run_to_bytes (P := Tryd.prog) 9 25 5 Tryd.underlying9 Tryd.underlying25 Tryd.underlying5 w s
  go_enter Tryd.func16, Tryd.ntmps16
  go_wp2_with (first
    | (go_at_call 41; go_loud (refine (HU.out _ _ _ (show Blk _ _ _ _ from (made2 w _ _ _ _).2.1) (By.to_bytes' _ _ l _ _ (by (try simp only [Lib.bytesWorld_size, World.size_drew, drewN_size, World.size_alloc, World.size_setCell] at *); first | done | omega) (grownCap_ge _ _ _ _)) (by simp [Value.ownBlock])).mono ?_); rintro e w1 ⟨rfl, vh, vp, hB1, hh1, hp1, hG1⟩; have io1 : objAt w1 w.heap.size = some (.cells msgZero 32 (0, 0)) := (objAt_grown hG1 _ (by have := (made2 w (.cells msgZero 32) (.cells #[.slice none 0 0, .slice none 0 0, .int .i64 kx] 80) 5 (bs l)).2.2.1; exact Nat.lt_of_lt_of_le (by omega) (Nat.le_of_eq this)) (by simp)).trans (made2 w _ _ _ _).1; have Hb1 := Lib.hid ((made2 w _ _ _ _).2.2.2.grown hG1 (made2 w _ _ _ _).2.2.2.size (fun k hk => by cases hk; exact Nat.le_succ _)); clear hG1)
    | (go_at_call 42; go_loud (refine (dataKey _ _ kx vh vp h p hB1 hh1 hp1 hhl hpl).mono ?_); rintro e w2 ⟨rfl, hb2⟩; have io2 : objAt w2 w.heap.size = some (.cells msgZero 32 (0, 0)) := (objAt_below hb2 _ (by exact Nat.lt_of_le_of_lt (Nat.le_succ _) hB1.lt)).trans io1; have Hb2 := Lib.hid (Hb1.out.trans (hb2.mono Hb1.out.size)); clear hb2 io1 Hb1 hB1 hh1 hp1)
    | (have io3 := io2; refine wpList_store_whole ?hgd 32 (.tmp 4) (.tmp 19) ?ho w.heap.size (msgKey (.string (bs h)) (.string (bs p)) (.int .i64 kx)).toArray ?hx ?hy 32 msgZero io3 (msgKey_size _ _ _) rfl (msgKey_one _ _ _ rfl rfl rfl) ?hh; case ho => exact rfl))
  case hgd => rfl
  case hx => rfl
  case hy => rfl
  case hh =>
    intro w3 io3 g3
    have G3 := Lib.hid g3
    clear g3
    go_wp2
    refine bodyPost_ret (ret_cell2 Tryd.results16 _ w3 w.heap.size _ (.bool true) Tryd.underlying32 rfl (msgKey_size _ _ _) io3 rfl rfl) rfl ⟨rfl, ?_⟩
    exact Hb2.out.grown G3.out Hb2.out.size (fun k hk => by cases hk; exact Nat.le_refl _)
end Go.Proofs.YtdnjkjoioabhhaaDoor

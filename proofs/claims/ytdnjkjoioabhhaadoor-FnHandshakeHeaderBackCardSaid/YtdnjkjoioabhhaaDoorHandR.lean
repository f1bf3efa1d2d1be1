/- impl.HandshakeHeaderRead. -/
import Derived.Test.YtdnjkjoioabhhaaDoorHandU
namespace Go.Proofs.YtdnjkjoioabhhaaDoor
open Go.RowKit
set_option maxRecDepth 100000

def hhZero : Array Value := #[.int .u8 0, .int .u32 0, .int .u16 0, .int .u32 0, .int .u32 0]
theorem HH.size71 (h : HH) : (Tryd.prog.info? 71).map (·.size) = some h.cells.size := by kernel_rfl
theorem HH.size155 (h : HH) : (Tryd.prog.info? 155).map (·.size) = some h.cells.size := by kernel_rfl
theorem HH.one (h : HH) : h.cells.all (·.oneCell') = true := by simp [HH.cells, Value.oneCell']
set_option maxHeartbeats 1600000 in
theorem handRead_any (w : World) (d : List UInt8) (hd : 12 ≤ d.length) (hd' : d.length ≤ 4294967294) :
    Calls Tryd.prog 40 #[.string (bs d)] w fun e w' => e = .returned (.tuple #[.agg (handOf d).cells, .bool true]) ∧ Below w.heap.size w w' := by
  obtain ⟨h, hh⟩ : ∃ h, h = handOf d := ⟨_, rfl⟩
  rw [← hh]
  have HE := Lib.hid hh
  clear hh
  have hOK := rowOK_mk Tryd.underlying155 rfl h.size155 155 (0, 0)
  have kc := fun (w : World) (s : ByteArray) => run_to_bytes (P := Tryd.prog) 9 25 5 Tryd.underlying9 Tryd.underlying25 Tryd.underlying5 w s
  go_enter Tryd.func40, Tryd.ntmps40
  go_wp2_with (first
    | (go_at_call 86; go_loud (refine (hand_unmarshal _ _ _ d _ _ _ _ _ (show Blk _ _ _ [_, _, _, _, _] from (made2 w _ _ _ _).2.1) (By.to_bytes' _ _ d _ _ (by (try simp only [Lib.bytesWorld_size, World.size_drew, drewN_size, World.size_alloc, World.size_setCell] at *); first | done | omega) (grownCap_ge _ _ _ _)) (by simp [Value.ownBlock]) hd hd').mono ?_); rw [← HE.out]; rintro e w1 ⟨rfl, hB1, hG1⟩; have io1 : objAt w1 w.heap.size = some (.cells hhZero 71 (0, 0)) := (objAt_grown hG1 _ (by have := (made2 w (.cells hhZero 71) (.cells hhZero 155) 5 (bs d)).2.2.1; exact Nat.lt_of_lt_of_le (by omega) (Nat.le_of_eq this)) (by simp)).trans (made2 w _ _ _ _).1; have io1b : objAt w1 (w.heap.size + 1) = some (.cells h.cells 155 (0, 0)) := hB1; have hlt := hB1.lt; have Hb1 := Lib.hid ((made2 w _ _ _ _).2.2.2.grown hG1 (made2 w _ _ _ _).2.2.2.size (fun k hk => by cases hk; exact Nat.le_succ _)); clear hG1 hB1)
    | (go_at_call 87; go_loud (refine (handHeaderData_any _ h).mono ?_); rintro e w2 ⟨rfl, hb2⟩; have io2 : objAt w2 w.heap.size = some (.cells hhZero 71 (0, 0)) := (objAt_below hb2 _ (by omega)).trans io1; have Hb2 := Lib.hid (Hb1.out.trans (hb2.mono Hb1.out.size)); clear hb2 io1 Hb1 io1b)
    | (have io3 := io2; refine wpList_store_whole ?hgd 71 (.tmp 2) (.tmp 13) ?ho w.heap.size h.cells ?hx ?hy 71 hhZero io3 h.size71 rfl h.one ?hh; case ho => exact rfl))
  case hgd => rfl
  case hx => rfl
  case hy => rfl
  case hh =>
    intro w3 io3 g3
    have G3 := Lib.hid g3
    clear g3
    go_wp2
    refine bodyPost_ret (ret_cell2 Tryd.results40 _ w3 w.heap.size _ (.bool true) Tryd.underlying71 rfl h.size71 io3 rfl rfl) rfl ⟨rfl, ?_⟩
    exact Hb2.out.grown G3.out Hb2.out.size (fun k hk => by cases hk; exact Nat.le_refl _)
end Go.Proofs.YtdnjkjoioabhhaaDoor

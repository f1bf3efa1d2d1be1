/- impl.SRTPRead. -/
import Derived.Test.YtdnjkjoioabhhaaDoorSrtpD
import Derived.Test.YtdnjkjoioabhhaaDoorGroupsR
import Derived.Test.YtdnjkjoioabhhaaDoorRows
import Derived.LaidMore
import Derived.WalkSpells
namespace Go.Proofs.YtdnjkjoioabhhaaDoor
open Go.RowKit
set_option maxRecDepth 100000

def srL (ns : List Nat) (m : List UInt8) : List UInt8 := extL 14 (vecL 2 (numsL 2 ns) ++ vecL 1 m)
theorem srL_eq (ns : List Nat) (m : List UInt8) : srL ns m = be 2 14 ++ (be 2 (2 * ns.length + 3 + m.length) ++ (be 2 (2 * ns.length) ++ (numsL 2 ns ++ (UInt8.ofNat (m.length % 256) :: m)))) := by
  have hl : (vecL 2 (numsL 2 ns) ++ vecL 1 m).length = 2 * ns.length + 3 + m.length := by rw [List.length_append, vecL_length, vecL_length, numsL_length]; omega
  unfold srL extL
  rw [show vecL 2 (vecL 2 (numsL 2 ns) ++ vecL 1 m) = be 2 (vecL 2 (numsL 2 ns) ++ vecL 1 m).length ++ (vecL 2 (numsL 2 ns) ++ vecL 1 m) from rfl, hl]
  simp [vecL, numsL_length, be]
theorem nums_at2 (ns : List Nat) (r : List UInt8) (k : Nat) (h : k < ns.length) (hx : ∀ x ∈ ns, x < 65536) : nat (((numsL 2 ns ++ r).drop (2 * k)).take 2) = ns[k] := by
  have hl := numsL_length 2 ns
  rw [List.drop_append_of_le_length (by omega), List.take_append_of_le_length (by simp; omega)]
  exact nums_at ns k h hx
def SrGot (w : World) (ns : List Nat) (m : List UInt8) (e : Ending) (w' : World) : Prop := ∃ v, e = .returned (.tuple #[.agg (extSr v m).cells, .bool true]) ∧ Sl w' v (u16s ns) ∧ v.oneCell' = true ∧ Below w.heap.size w w'
set_option maxHeartbeats 3200000 in
theorem srtpRead_yes (w : World) (ns : List Nat) (m : List UInt8) (hn1 : 1 ≤ ns.length) (hn2 : ns.length < 1000) (hm : m.length < 256) (hc : ∀ x ∈ ns, [1, 2, 3, 4, 5, 6, 7, 8].contains x = true) (hx : ∀ x ∈ ns, x < 65536) :
    Calls Tryd.prog 36 #[.string (bs (srL ns m))] w (SrGot w ns m) := by
  have um := fun (W : World) (g : Nat) (v1 : Value) (hB : Blk W g 147 [.slice none 0 0, .slice none 0 0]) (hv : By W v1 (srL ns m)) (hne : v1.ownBlock ≠ some g) =>
    srtp_whole W g v1 (srL ns m) m ns (UInt8.ofNat (m.length % 256)) hB hv hne hn1 hn2 hm hc (by rw [srL_eq]; simp [be_length, numsL_length]; omega)
      (by rw [srL_eq, List.take_left' (be_length _ _)]; rfl)
      (by rw [srL_eq, List.drop_left' (be_length _ _), List.take_left' (be_length _ _), nat_be 2 _ (by omega)])
      (by rw [srL_eq, show 4 = 2 + 2 by rfl, ← List.drop_drop, List.drop_left' (be_length _ _), List.drop_left' (be_length _ _), List.take_left' (be_length _ _), nat_be 2 _ (by omega)])
      (fun k h => by
        rw [srL_eq, show 6 + 2 * k = 2 + (2 + (2 + 2 * k)) by omega, ← List.drop_drop, List.drop_left' (be_length _ _), ← List.drop_drop, List.drop_left' (be_length _ _), ← List.drop_drop, List.drop_left' (be_length _ _)]
        exact nums_at2 ns _ k h hx)
      (by
        have e : srL ns m = (be 2 14 ++ be 2 (2 * ns.length + 3 + m.length) ++ be 2 (2 * ns.length) ++ numsL 2 ns) ++ (UInt8.ofNat (m.length % 256) :: m) := by rw [srL_eq]; simp
        rw [e, List.getElem?_append_right (by simp [be_length, numsL_length]; omega)]
        simp [be_length, numsL_length, show 6 + 2 * ns.length - (2 + (2 + (2 + 2 * ns.length))) = 0 by omega])
      (by simp; omega)
      (by
        have e : srL ns m = (be 2 14 ++ be 2 (2 * ns.length + 3 + m.length) ++ be 2 (2 * ns.length) ++ numsL 2 ns ++ [UInt8.ofNat (m.length % 256)]) ++ m := by rw [srL_eq]; simp
        rw [e, List.drop_left' (by simp [be_length, numsL_length]; omega), List.take_length])
  obtain ⟨l, hl⟩ : ∃ l, l = srL ns m := ⟨_, rfl⟩
  rw [← hl] at um ⊢
  have UM := Lib.hid um
  clear um hl hc hx
  have kc := fun (w : World) (s : ByteArray) => run_to_bytes (P := Tryd.prog) 9 25 5 Tryd.underlying9 Tryd.underlying25 Tryd.underlying5 w s
  go_enter Tryd.func36, Tryd.ntmps36
  go_wp2_with (first
    | (go_at_call 80; go_loud (refine (UM.out _ _ _ (show Blk _ _ _ [.slice none 0 0, .slice none 0 0] from (made2 w _ _ _ _).2.1) (By.to_bytes' _ _ l _ _ (by (try simp only [Lib.bytesWorld_size, World.size_drew, drewN_size, World.size_alloc, World.size_setCell] at *); first | done | omega) (grownCap_ge _ _ _ _)) (by simp [Value.ownBlock])).mono ?_); rintro e w1 ⟨rfl, v, vm, hB1, hy1, hm1, hG1⟩; have io1 : objAt w1 w.heap.size = some (.cells Ext.zero.cells 45 (0, 0)) := (objAt_grown hG1 _ (by have := (made2 w (.cells Ext.zero.cells 45) (.cells #[.slice none 0 0, .slice none 0 0] 147) 5 (bs l)).2.2.1; exact Nat.lt_of_lt_of_le (by omega) (Nat.le_of_eq this)) (by simp)).trans (made2 w _ _ _ _).1; have hlt1 : w.heap.size < w1.heap.size := (by have h1 := hG1.size; have h2 := (made2 w (.cells Ext.zero.cells 45) (.cells #[.slice none 0 0, .slice none 0 0] 147) 5 (bs l)).2.2.1; exact Nat.lt_of_lt_of_le (by omega) (Nat.le_trans (Nat.le_of_eq h2) h1)); have Hb1 := Lib.hid ((made2 w _ _ _ _).2.2.2.grown hG1 (made2 w _ _ _ _).2.2.2.size (fun k hk => by cases hk; exact Nat.le_succ _)); have HB1 := Lib.hid hB1; have HY1 := Lib.hid hy1; have HM1 := Lib.hid hm1; clear hG1 hB1 hy1 hm1)
    | (go_at_call 81; refine (dataSrtp _ _ _ _ ns m HB1.out HY1.out HM1.out hn2 hm).mono ?_; rintro e w2 ⟨v2, rfl, hs2, ho2, hb2', hb2⟩; have io2 : objAt w2 w.heap.size = some (.cells Ext.zero.cells 45 (0, 0)) := (objAt_below hb2 _ hlt1).trans io1; have Hb2 := Lib.hid (Hb1.out.trans (hb2.mono Hb1.out.size)); have HS2 := Lib.hid hs2; have HO2 := Lib.hid ho2; have HN2 := Lib.hid (hb2' _ hlt1); clear hb2 io1 Hb1 HB1 HY1 HM1 hs2 ho2 hb2')
    | (have io := io2; refine wpList_store_whole ?hgd 45 (.tmp 2) (.tmp 16) ?ho w.heap.size (extSr v2 m).cells ?hx ?hy 45 Ext.zero.cells io (Ext.size _) rfl (extSr_one v2 m HO2.out) ?hh; case ho => exact rfl))
  case hgd => rfl
  case hx => rfl
  case hy => rfl
  case hh =>
    intro w3 io3 g3
    go_wp2
    refine bodyPost_ret (ret_cell2 Tryd.results36 _ w3 w.heap.size (extSr v2 m).cells (.bool true) Tryd.underlying45 rfl (Ext.size _) io3 rfl rfl) rfl ⟨v2, rfl, HS2.out.grown g3 HN2.out, HO2.out, ?_⟩
    exact Hb2.out.grown g3 Hb2.out.size (fun k hk => by cases hk; exact Nat.le_refl _)
end Go.Proofs.YtdnjkjoioabhhaaDoor

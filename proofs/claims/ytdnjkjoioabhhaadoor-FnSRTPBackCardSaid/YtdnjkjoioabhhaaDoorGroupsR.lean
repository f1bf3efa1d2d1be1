/- impl.GroupsRead and the law FnGroupsBack. -/
import Derived.Test.YtdnjkjoioabhhaaDoorGroupsD
import Derived.Test.YtdnjkjoioabhhaaDoorRows
import Derived.LaidMore
import Derived.WalkSpells
namespace Go.Proofs.YtdnjkjoioabhhaaDoor
open Go.RowKit
set_option maxRecDepth 100000

def grL (ns : List Nat) : List UInt8 := extL 10 (vecL 2 (numsL 2 ns))
theorem grL_eq (ns : List Nat) : grL ns = be 2 10 ++ (be 2 (2 * ns.length + 2) ++ (be 2 (2 * ns.length) ++ numsL 2 ns)) := by
  simp [grL, extL, vecL, be_length, numsL_length, Nat.add_comm 2]
theorem nums_at : ∀ (ns : List Nat) (k : Nat) (h : k < ns.length), (∀ x ∈ ns, x < 65536) → nat (((numsL 2 ns).drop (2 * k)).take 2) = ns[k]
  | [], k, h, _ => by simp at h
  | n :: ns, 0, _, hx => by
    have e : numsL 2 (n :: ns) = be 2 n ++ numsL 2 ns := by simp [numsL]
    rw [e, Nat.mul_zero, List.drop_zero, List.take_left' (be_length _ _), nat_be 2 _ (by have := hx n (by simp); omega)]; rfl
  | n :: ns, k + 1, h, hx => by
    have e : numsL 2 (n :: ns) = be 2 n ++ numsL 2 ns := by simp [numsL]
    rw [e, Nat.mul_succ, Nat.add_comm, ← List.drop_drop, List.drop_left' (be_length _ _), nums_at ns k (by simpa using h) (fun x hxm => hx x (by simp [hxm]))]
    rfl
def GrGot (w : World) (ns : List Nat) (e : Ending) (w' : World) : Prop := ∃ v, e = .returned (.tuple #[.agg (extGr v).cells, .bool true]) ∧ Sl w' v (u16s ns) ∧ v.oneCell' = true ∧ Below w.heap.size w w'
set_option maxHeartbeats 3200000 in
theorem groupsRead_yes (w : World) (ns : List Nat) (hn1 : 1 ≤ ns.length) (hn2 : ns.length < 1000) (hc : ∀ x ∈ ns, [23, 24, 29].contains x = true) (hx : ∀ x ∈ ns, x < 65536) :
    Calls Tryd.prog 24 #[.string (bs (grL ns))] w (GrGot w ns) := by
  have um := fun (W : World) (g : Nat) (v1 : Value) (hB : Blk W g 116 [.slice none 0 0]) (hv : By W v1 (grL ns)) (hne : v1.ownBlock ≠ some g) =>
    groups_whole W g v1 (grL ns) ns hB hv hne hn1 hn2 hc (by rw [grL_eq]; simp [be_length, numsL_length]; omega)
      (by rw [grL_eq, List.take_left' (be_length _ _)]; rfl)
      (by rw [grL_eq, List.drop_left' (be_length _ _), List.take_left' (be_length _ _), nat_be 2 _ (by omega)])
      (by rw [grL_eq, show 4 = 2 + 2 by rfl, ← List.drop_drop, List.drop_left' (be_length _ _), List.drop_left' (be_length _ _), List.take_left' (be_length _ _), nat_be 2 _ (by omega)])
      (fun k h => by
        rw [grL_eq, show 6 + 2 * k = 2 + (2 + (2 + 2 * k)) by omega, ← List.drop_drop, List.drop_left' (be_length _ _), ← List.drop_drop, List.drop_left' (be_length _ _), ← List.drop_drop, List.drop_left' (be_length _ _)]
        exact nums_at ns k h hx)
  obtain ⟨l, hl⟩ : ∃ l, l = grL ns := ⟨_, rfl⟩
  rw [← hl] at um ⊢
  have UM := Lib.hid um
  clear um hl hc hx
  have kc := fun (w : World) (s : ByteArray) => run_to_bytes (P := Tryd.prog) 9 25 5 Tryd.underlying9 Tryd.underlying25 Tryd.underlying5 w s
  go_enter Tryd.func24, Tryd.ntmps24
  go_wp2_with (first
    | (go_at_call 62; go_loud (refine (UM.out _ _ _ (show Blk _ _ _ [.slice none 0 0] from (made2 w _ _ _ _).2.1) (By.to_bytes' _ _ l _ _ (by (try simp only [Lib.bytesWorld_size, World.size_drew, drewN_size, World.size_alloc, World.size_setCell] at *); first | done | omega) (grownCap_ge _ _ _ _)) (by simp [Value.ownBlock])).mono ?_); rintro e w1 ⟨rfl, v, hB1, hy1, hG1⟩; have io1 : objAt w1 w.heap.size = some (.cells Ext.zero.cells 45 (0, 0)) := (objAt_grown hG1 _ (by have := (made2 w (.cells Ext.zero.cells 45) (.cells #[.slice none 0 0] 116) 5 (bs l)).2.2.1; exact Nat.lt_of_lt_of_le (by omega) (Nat.le_of_eq this)) (by simp)).trans (made2 w _ _ _ _).1; have hlt1 : w.heap.size < w1.heap.size := (by have h1 := hG1.size; have h2 := (made2 w (.cells Ext.zero.cells 45) (.cells #[.slice none 0 0] 116) 5 (bs l)).2.2.1; exact Nat.lt_of_lt_of_le (by omega) (Nat.le_trans (Nat.le_of_eq h2) h1)); have Hb1 := Lib.hid ((made2 w _ _ _ _).2.2.2.grown hG1 (made2 w _ _ _ _).2.2.2.size (fun k hk => by cases hk; exact Nat.le_succ _)); have HB1 := Lib.hid hB1; have HY1 := Lib.hid hy1; clear hG1 hB1 hy1)
    | (go_at_call 63; refine (dataGroups _ _ _ ns HB1.out HY1.out hn2).mono ?_; rintro e w2 ⟨v2, rfl, hs2, ho2, hb2', hb2⟩; have io2 : objAt w2 w.heap.size = some (.cells Ext.zero.cells 45 (0, 0)) := (objAt_below hb2 _ hlt1).trans io1; have Hb2 := Lib.hid (Hb1.out.trans (hb2.mono Hb1.out.size)); have HS2 := Lib.hid hs2; have HO2 := Lib.hid ho2; have HN2 := Lib.hid (hb2' _ hlt1); clear hb2 io1 Hb1 HB1 HY1 hs2 ho2 hb2')
    | (have io := io2; refine wpList_store_whole ?hgd 45 (.tmp 2) (.tmp 16) ?ho w.heap.size (extGr v2).cells ?hx ?hy 45 Ext.zero.cells io (Ext.size _) rfl (extGr_one v2 HO2.out) ?hh; case ho => exact rfl))
  case hgd => rfl
  case hx => rfl
  case hy => rfl
  case hh =>
    intro w3 io3 g3
    go_wp2
    refine bodyPost_ret (ret_cell2 Tryd.results24 _ w3 w.heap.size (extGr v2).cells (.bool true) Tryd.underlying45 rfl (Ext.size _) io3 rfl rfl) rfl ⟨v2, rfl, HS2.out.grown g3 HN2.out, HO2.out, ?_⟩
    exact Hb2.out.grown g3 Hb2.out.size (fun k hk => by cases hk; exact Nat.le_refl _)
end Go.Proofs.YtdnjkjoioabhhaaDoor

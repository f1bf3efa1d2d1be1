/- Contract of impl.plain: byte slices as strings. -/
import Derived.Test.YtcggiljcimhfcaaDoorStrs
import Derived.Test.YtcggiljcimhfcaaDoorChecked
namespace Go.Proofs.YtcggiljcimhfcaaDoor
open Go.RowKit
set_option maxRecDepth 100000

theorem Tryd.infoString : (Tryd.prog.info? 9).map (fun i => (i.zero, i.size, i.bytes)) = some (some (.string (bs [])), 1, 16) := by kernel_rfl
def PlainPost (w : World) (ls : List (List UInt8)) (e : Ending) (w' : World) : Prop :=
  ∃ v, e = .returned v ∧ Sl w' v (strs ls) ∧ Below w.heap.size w w'
set_option maxHeartbeats 400000 in
theorem plain_any (w : World) (v0 : Value) (vs : List Value) (ls : List (List UInt8)) (hv : Sl w v0 vs) (hb : Bys w vs ls) (hl : vs.length ≤ 2147483647) :
    Calls Tryd.prog 24 #[v0] w (PlainPost w ls) := by
  obtain ⟨A, c, rfl, hlc, hr⟩ := hv
  obtain ⟨i0, hi0, hz0, hz1, hz2⟩ := info_parts Tryd.infoString
  have HR := Lib.hid hr
  have HB := Lib.hid hb
  clear hr hb
  go_enter Tryd.func24, Tryd.ntmps24
  go_wp2_with fail
  go_loopg [3, 8] (vs.length) (fun m v x wr => ∃ k : Nat, k ≤ vs.length ∧ m = vs.length - k ∧ x = .int .i64 (k : Int) ∧ Hid (wr.ownsRow w.heap.size 9 1 v k (strs (ls.take k))) ∧ Below w.heap.size w wr)
  case atStart => exact ⟨0, Nat.zero_le _, rfl, rfl, World.ownsRow_nil _ _ _ _, Below.refl _ _⟩
  case round =>
    obtain ⟨k, hk, rfl, rfl, Hown, hbr⟩ := hrel
    by_cases hlt : k < vs.length
    · obtain ⟨g, o, rfl, hc⟩ := HR.out (by omega)
      obtain ⟨vk, hvk⟩ : ∃ u, vs[k]? = some u := ⟨_, List.getElem?_eq_getElem hlt⟩
      obtain ⟨lk, hlk⟩ : ∃ u, ls[k]? = some u := ⟨_, List.getElem?_eq_getElem (by rw [HB.out.1]; exact hlt)⟩
      have hck := hc k hlt
      rw [show vs[k] = vk from Option.some.inj ((List.getElem?_eq_getElem hlt).symm.trans hvk)] at hck
      have c0 : wr.cell? ⟨g, o + k, none⟩ = some vk := (hbr.cell (World.block_lt_of_cell? w _ hck)).trans hck
      have hby := (HB.out.2 k vk lk hvk hlk).below hbr
      have e1 : strs (ls.take (k + 1)) = strs (ls.take k) ++ [.string (bs lk)] := by
        rw [List.take_add_one, hlk]; simp [strs]
      obtain ⟨A', c', e'⟩ := hby.len
      subst e'
      have HBy := Lib.hid hby
      have E1 := Lib.hid e1
      clear hc hck hvk hlk hby e1
      have hs := hbr.size
      go_wp2_with (first
        | (refine wpList_to_string rfl _ 26 9 5 rfl Tryd.underlying26 Tryd.underlying5 Tryd.underlying9 _ rfl lk HBy.out ?_)
        | (at_builtin; (refine wpList_append_one rfl _ _ 28 rfl w.heap.size 9 i0 _ 16 Tryd.underlying28 hi0 hz0 hz1 hz2 rfl _ k _ rfl (Hown.out.alloc _) wr.heap.size _ _ rfl (by simp [go_sem]; rfl) rfl (by simp only [maxLen]; omega) (by omega) (by (try simp only [Lib.bytesWorld_size, World.size_drew, drewN_size, World.size_alloc, World.size_setCell] at *); first | done | omega) ?_); intro v' w2 hown2 hg2; have H2 := Lib.hid hown2; have H3 := Lib.hid ((hbr.alloc hbr.size _).grown hg2 (by simp; omega) (fun k hk => (Hown.out.lt k hk).1)); clear hown2 hg2))
      go_roundg (vs.length - (k + 1))
      case measure => omega
      case rel => exact ⟨k + 1, by omega, rfl, by go_num, by rw [E1.out]; exact H2.out, H3.out⟩
    · obtain rfl : k = vs.length := by omega
      go_wp2
      go_ret
      refine ⟨_, rfl, ?_, hbr⟩
      have := Sl.of_own Hown.out
      rwa [List.take_of_length_le (by rw [HB.out.1]; exact Nat.le_refl _)] at this
end Go.Proofs.YtcggiljcimhfcaaDoor

/- Contracts of binary.BigEndian.Uint32 and util.BigEndianUint24. -/
import Derived.Test.YtdnjkjoioabhhaaDoorGet16
import Derived.Test.YtdnjkjoioabhhaaDoorPut16
import Derived.Test.YtdnjkjoioabhhaaDoorBig
namespace Go.Proofs.YtdnjkjoioabhhaaDoor
open Go.RowKit
set_option maxRecDepth 100000

/-- 'copy(d, x)' into a buffer from a place on, x longer than what is there. -/
theorem wpList_copy_long {P : Program} {w : World} {ops : Array Oper} {rest : List Oper} {o : Oper} {a : Act} {Q : Exit → Act → World → Prop} (hgd : o.guard = none) (d s : Operand) (dT sT : TypeId)
    (ho : o.op = .call { callee := .builtin .copy, args := #[d, s], argTypes := #[dT, sT] }) (elem : TypeId) (hu : P.underlying dT = some (.slice elem)) (hsz : (P.info? elem).map (·.size) = some 1)
    (dLen dCap : Nat) (v : Value) (x : List UInt8) (hs : a.eval s = v) (hv : By w v x)
    (g off : Nat) (hd : a.eval d = .slice (some ⟨g, off, none⟩) dLen dCap) (t : TypeId) (l : List UInt8) (hg : Blk w g t (l.map bv)) (h0 : 0 < dLen) (hx : dLen ≤ x.length) (hfit : off + dLen ≤ l.length)
    (h : ∀ w', Blk w' g t ((lay l off (x.take dLen)).map bv) → w.grownBy w' (some g) → wpList P ops Q rest (a.put o.dst (goInt dLen)) w') : wpList P ops Q (o :: rest) a w := by
  obtain ⟨A, c, rfl, hlc, hr⟩ := hv.parts
  obtain ⟨g', o', rfl, _, hr0⟩ := hr (by omega)
  have hl : ((x.take dLen).map bv).length = dLen := by simp; omega
  refine wpList_copy_own hgd d s dT sT ho elem hu hsz g off dLen dCap ⟨g', o', none⟩ x.length c hd hs (l.map bv).toArray t hg ((x.take dLen).map bv) (hl.trans (Nat.min_eq_right hx).symm) ?_ (by rw [hl]; simpa using hfit) (bvs_one _) ?_
  · intro j u hu
    have hj : j < dLen := by
      rcases Nat.lt_or_ge j dLen with h | h
      · exact h
      · rw [List.getElem?_eq_none (show ((x.take dLen).map bv).length ≤ j by omega)] at hu; cases hu
    rw [Addr.add_lit, hr0 j (by omega)]
    rw [List.getElem?_map, List.getElem?_take_of_lt hj, List.getElem?_eq_getElem (by omega)] at hu
    simpa [bv] using hu
  · have e : (((l.map bv).toArray.toList.take off ++ ((x.take dLen).map bv ++ (l.map bv).toArray.toList.drop (off + ((x.take dLen).map bv).length))).toArray) = ((lay l off (x.take dLen)).map bv).toArray := by
      simp [lay, List.map_take, List.map_drop]
    rw [e, hl]
    exact h _ (setRow_heap w g _ _ t _ hg) (setRow_grown _ _ _)
theorem get32 (w : World) (v : Value) (l : List UInt8) (hv : By w v l) (hl : 4 ≤ l.length) :
    Calls Tryd.prog 110 #[.agg #[], v] w fun e w' => e = .returned (.int .u32 ((nat (l.take 4) : Nat) : Int)) ∧ Below w.heap.size w w' := by
  obtain ⟨A, c, rfl, hlc, hr⟩ := hv.parts
  obtain ⟨g, o, rfl, hg, hr0⟩ := hr (by omega)
  obtain ⟨b0, b1, b2, b3, r, rfl⟩ : ∃ b0 b1 b2 b3 r, l = b0 :: b1 :: b2 :: b3 :: r := by
    match l, hl with | b0 :: b1 :: b2 :: b3 :: r, _ => exact ⟨b0, b1, b2, b3, r, rfl⟩
  have c0 : w.cell? ⟨g, o, none⟩ = some (.int .u8 (b0.toNat : Int)) := hr0 0 (by simp)
  have c1 : w.cell? ⟨g, o + 1, none⟩ = some (.int .u8 (b1.toNat : Int)) := hr0 1 (by simp)
  have c2 : w.cell? ⟨g, o + 2, none⟩ = some (.int .u8 (b2.toNat : Int)) := hr0 2 (by simp)
  have c3 : w.cell? ⟨g, o + 3, none⟩ = some (.int .u8 (b3.toNat : Int)) := hr0 3 (by simp)
  have h0 : b0.toNat < 256 := b0.toNat_lt
  have h1 : b1.toNat < 256 := b1.toNat_lt
  have h2 : b2.toNat < 256 := b2.toNat_lt
  have h3 : b3.toNat < 256 := b3.toNat_lt
  have e : ((nat ((b0 :: b1 :: b2 :: b3 :: r).take 4) : Nat) : Int) = (b3.toNat : Int) + (b2.toNat : Int) * 256 + (b1.toNat : Int) * 65536 + (b0.toNat : Int) * 16777216 := by simp [nat]; omega
  have E := Lib.hid e
  clear hr hr0 hv e
  go_enter Tryd.func110, Tryd.ntmps110
  go_wp2
  go_quiet (fail)
  go_wp2
  go_ret
  refine ⟨?_, by repeat (first | with_reducible exact Below.refl _ _ | with_reducible refine Below.drew ?_ | with_reducible refine Below.drewN ?_ _ | with_reducible refine Below.alloc ?_ (by (try simp only [Lib.bytesWorld_size, World.size_drew, drewN_size, World.size_alloc, World.size_setCell] at *); first | done | omega) _ | with_reducible refine Below.bytes ?_ (by (try simp only [Lib.bytesWorld_size, World.size_drew, drewN_size, World.size_alloc, World.size_setCell] at *); first | done | omega) _ _ | with_reducible refine Below.setCell ?_ (by (try simp only [Lib.bytesWorld_size, World.size_drew, drewN_size, World.size_alloc, World.size_setCell] at *); first | done | omega) _)⟩
  simp (disch := omega) only [u32_or8, u32_or16, u32_or24]
  rw [E.out]; rfl
theorem lay4 (x : List UInt8) (hx : x.length = 3) : lay (List.replicate 4 (0 : UInt8)) 1 x = 0 :: x := by
  match x, hx with | [a, b, c], _ => rfl
theorem nat_zero (x : List UInt8) : nat (0 :: x) = nat x := by
  simp [nat]
set_option maxHeartbeats 800000 in
theorem get24 (w : World) (v : Value) (l : List UInt8) (hv : By w v l) (hl : 3 ≤ l.length) :
    Calls Tryd.prog 101 #[v] w fun e w' => e = .returned (.int .u32 ((nat (l.take 3) : Nat) : Int)) ∧ Below w.heap.size w w' := by
  obtain ⟨A, c, rfl⟩ := hv.len
  have HV := Lib.hid hv
  clear hv
  have d1 : decide ((l.length : Int) < 3) = false := by simp; omega
  have hl3 : (l.take 3).length = 3 := by simp; omega
  go_enter Tryd.func101, Tryd.ntmps101
  go_wp2_with (first
    | (at_make; refine wpList_make_bytes _ rfl _ _ 25 rfl 5 Tryd.underlying25 Tryd.infoByte .i64 .i64 4 4 4 rfl rfl rfl rfl (by omega) ?_; intro w1 hB hb hz; have b1 : Buf w w.heap.size 5 (List.replicate 4 0) w1 := ⟨hB, hb, Nat.le_refl _⟩; clear hB hb hz)
    | (refine wpList_copy_long rfl (.tmp 9) (.tmp 10) 25 25 rfl 5 Tryd.underlying25 (by kernel_rfl) 3 _ _ l rfl (HV.out.below b1.below) w.heap.size 1 rfl 5 (List.replicate 4 0) b1.blk (by omega) hl (by simp) ?_; intro w3 h3 g3; have b3 := b1.grow h3 g3; rw [lay4 _ hl3] at b3; have y3 := b3.by 4 (by simp [hl3]); rw [List.length_cons, hl3] at y3; clear h3 g3)
    | (go_at_call 110; refine (get32 _ _ _ y3 (by simp [hl3])).mono ?_; rw [show (0 :: l.take 3 : List UInt8).take 4 = 0 :: l.take 3 from List.take_of_length_le (by simp [hl3]), nat_zero]; rintro e w4 ⟨rfl, hb4⟩))
  go_ret
  exact ⟨rfl, b3.below.trans (hb4.mono b3.below.size)⟩
end Go.Proofs.YtdnjkjoioabhhaaDoor

/- cryptobyte.String: bytes that are read from their start. -/
import Derived.Test.YtdnjkjoioabhhaaDoorNum
import Derived.Test.YtdnjkjoioabhhaaDoorChecked
import Derived.Laws.BitsLemmas
namespace Go.Proofs.YtdnjkjoioabhhaaDoor
open Go.RowKit
set_option maxRecDepth 100000

/-- v is a slice of bytes that is not nil, in a block below B. -/
def StrV (B : Nat) (W : World) (v : Value) (l : List UInt8) : Prop := ∃ g o c, v = .slice (some ⟨g, o, none⟩) l.length c ∧ g < B ∧ By W v l
/-- The blocks of p alone are changed. -/
structure Moved (p : Nat → Prop) (w w' : World) : Prop where
  os : w'.os = w.os
  tape : w'.tape = w.tape
  output : w'.output = w.output
  size : w.heap.size ≤ w'.heap.size
  block : ∀ k, k < w.heap.size → ¬ p k → w'.heap[k]? = w.heap[k]?
section
variable {B : Nat} {p q : Nat → Prop} {w w' w'' : World} {v : Value} {l : List UInt8} {g : Nat} {T : TypeId} {cs : List Value}
theorem Moved.refl (p : Nat → Prop) (w : World) : Moved p w w := ⟨rfl, rfl, rfl, Nat.le_refl _, fun _ _ _ => rfl⟩
theorem Moved.trans (h : Moved p w w') (k : Moved p w' w'') : Moved p w w'' :=
  ⟨k.os.trans h.os, k.tape.trans h.tape, k.output.trans h.output, Nat.le_trans h.size k.size, fun i hi hp => (k.block i (Nat.lt_of_lt_of_le hi h.size) hp).trans (h.block i hi hp)⟩
theorem Moved.mono (h : Moved p w w') (hpq : ∀ k, k < w.heap.size → p k → q k) : Moved q w w' := ⟨h.os, h.tape, h.output, h.size, fun k hk hq => h.block k hk (fun hp => hq (hpq k hk hp))⟩
theorem Moved.of_grown (h : w.grownBy w' (some g)) : Moved (· = g) w w' := ⟨h.os, h.tape, h.output, h.size, fun k hk hp => h.block k hk (fun e => hp (Option.some.inj e))⟩
theorem Moved.of_below (h : Below w.heap.size w w') : Moved p w w' := ⟨h.os, h.tape, h.output, h.size, fun k hk _ => h.block k hk⟩
theorem Moved.below (h : Moved p w w') (hB : B ≤ w.heap.size) (hp : ∀ k, k < w.heap.size → p k → B ≤ k) : Below B w w' := ⟨h.os, h.tape, h.output, h.size, fun k hk => h.block k (by omega) (fun hpk => by have := hp k (by omega) hpk; omega)⟩
theorem Moved.blk (h : Moved p w w') (hB : Blk w g T cs) (hp : ¬ p g) : Blk w' g T cs := (h.block g hB.lt hp).trans hB
theorem StrV.keep (h : StrV B w v l) (hk : ∀ a : Addr, a.block < B → w'.cell? a = w.cell? a) : StrV B w' v l := by
  obtain ⟨g, o, c, rfl, hg, hb⟩ := h
  obtain ⟨A, c', e, hc, hr⟩ := hb.parts
  injection e with e1 e2 e3
  subst e1 e3
  refine ⟨g, o, c, rfl, hg, By.mk hc fun h0 => ?_⟩
  obtain ⟨g', o', e', _, hr0⟩ := hr h0
  cases e'
  exact ⟨g, o, rfl, fun j hj => (hk _ hg).trans (hr0 j hj)⟩
theorem StrV.below (h : StrV B w v l) (hb : Below B w w') : StrV B w' v l := h.keep fun a ha => hb.cell ha
theorem StrV.moved (h : StrV B w v l) (hm : Moved p w w') (hB : B ≤ w.heap.size) (hp : ∀ k, k < w.heap.size → p k → B ≤ k) : StrV B w' v l := h.below (hm.below hB hp)
theorem StrV.ne (h : StrV B w v l) (hg : B ≤ g) : v.ownBlock ≠ some g := by
  obtain ⟨g', o, c, rfl, hg', _⟩ := h
  intro e
  have : g' = g := Option.some.inj e
  omega
theorem StrV.set (h : StrV B w v l) (hg : B ≤ g) (i : Nat) (u : Value) : StrV B (w.setCell ⟨g, i, none⟩ u) v l :=
  h.keep fun a ha => World.cell?_setCell_other _ _ _ _ (fun e => by have h1 := congrArg Addr.block e; simp only at h1; omega)
theorem StrV.by (h : StrV B w v l) : By w v l := by obtain ⟨_, _, _, _, _, h⟩ := h; exact h
end
def ReadOk (B : Nat) (w : World) (gs : Nat) (l : List UInt8) (n : Nat) (e : Ending) (w' : World) : Prop :=
  ∃ v1 v2, e = .returned v1 ∧ StrV B w' v1 (l.take n) ∧ Blk w' gs 186 [v2] ∧ StrV B w' v2 (l.drop n) ∧ w.grownBy w' (some gs)
set_option maxHeartbeats 800000 in
theorem str_read (B : Nat) (w : World) (gs : Nat) (v : Value) (l : List UInt8) (n : Nat) (hB : Blk w gs 186 [v]) (hv : StrV B w v l) (hgs : B ≤ gs) (hn : n ≤ l.length) (hl : l.length ≤ 4294967295) :
    Calls Tryd.prog 111 #[.pointer (some ⟨gs, 0, none⟩), .int .i64 (n : Int)] w (ReadOk B w gs l n) := by
  have HV := Lib.hid hv
  obtain ⟨g, o, c, rfl, hg, hby⟩ := hv
  obtain ⟨A, c', e, hc, _⟩ := hby.parts
  injection e with e1 e2 e3
  subst e1 e3
  have m0 : w.cell? ⟨gs, 0, none⟩ = some (.slice (some ⟨g, o, none⟩) l.length c) := hB.cell 0
  have f0 := hB.frozen 0
  have d1 : decide ((l.length : Int) < (n : Int)) = false := by simp; omega
  have i1 : (n : Int) ≤ (c : Int) := by omega
  have i2 : (n : Int) ≤ (l.length : Int) := by omega
  have HB := Lib.hid hB
  have HY := Lib.hid hby
  have hgg : g ≠ gs := by omega
  have HN := Lib.hid hn
  clear hB hby hn e2
  have far := fun u => HY.out.far (p := ⟨gs, 0, none⟩) (by intro e; exact hgg (Option.some.inj e)) u
  by_cases hcn : c = n
  · have e0 : l.drop n = [] := List.drop_eq_nil_of_le (by omega)
    have ht : l.take n = l := List.take_of_length_le (by omega)
    have E0 := Lib.hid e0
    have HT := Lib.hid ht
    have FAR := Lib.hid far
    clear e0 ht far
    subst hcn
    go_enter Tryd.func111, Tryd.ntmps111
    go_wp2
    go_ret
    have hlc : l.length = c := by have := HN.out; omega
    refine ⟨_, _, rfl, ?_, HB.out.set 0 _, ?_, grown_set (World.grownBy.refl _ _) _ _⟩
    · rw [HT.out]
      refine ⟨g, o, c, by rw [hlc] <;> rfl, hg, ?_⟩
      have := FAR.out (.slice (some ⟨g, o, none⟩) 0 0)
      rw [hlc] at this
      rw [hlc]
      exact this
    · rw [E0.out]; exact ⟨g, o, _, rfl, hg, Sl.nil _ _ _⟩
  · have FAR := Lib.hid far
    clear far
    go_enter Tryd.func111, Tryd.ntmps111
    go_wp2
    go_ret
    have hnl := HN.out
    refine ⟨_, _, rfl, ⟨g, o, c, by rw [List.length_take, Nat.min_eq_left hnl] <;> rfl, hg, ?_⟩, HB.out.set 0 _, ⟨g, o + n, c - n, by rw [List.length_drop] <;> rfl, hg, ?_⟩, grown_set (World.grownBy.refl _ _) _ _⟩
    · have := By.cut (FAR.out (.slice (some ⟨g, o + n, none⟩) (l.length - n) (c - n))) (a := 0) (b := n) (A' := some ⟨g, o, none⟩) (m := n) (c' := c) (by omega) hnl (by omega) (by omega) (fun _ g' o' e => by cases e; rfl)
      rw [Nat.sub_zero, List.drop_zero] at this
      exact this
    · have := By.cut (FAR.out (.slice (some ⟨g, o + n, none⟩) (l.length - n) (c - n))) (a := n) (b := l.length) (A' := some ⟨g, o + n, none⟩) (m := l.length - n) (c' := c - n) hnl (Nat.le_refl _) rfl rfl (fun _ g' o' e => by cases e; rfl)
      rw [List.take_of_length_le (by simp)] at this
      exact this
theorem str_short (B : Nat) (w : World) (gs : Nat) (v : Value) (l : List UInt8) (n : Nat) (hB : Blk w gs 186 [v]) (hv : StrV B w v l) (hn : l.length < n) (hn' : n ≤ 4294967295) :
    Calls Tryd.prog 111 #[.pointer (some ⟨gs, 0, none⟩), .int .i64 (n : Int)] w fun e w' => e = .returned (.slice none 0 0) ∧ w = w' := by
  obtain ⟨g, o, c, rfl, hg, hby⟩ := hv
  have m0 : w.cell? ⟨gs, 0, none⟩ = some (.slice (some ⟨g, o, none⟩) l.length c) := hB.cell 0
  have d1 : decide ((l.length : Int) < (n : Int)) = true := by simp; omega
  clear hB hby
  go_enter Tryd.func111, Tryd.ntmps111
  go_wp2
  go_ret
  exact ⟨rfl, rfl⟩
theorem str_empty (w : World) (A : Option Addr) (n c : Nat) : Calls Tryd.prog 107 #[.slice A n c] w fun e w' => e = .returned (.bool ((n : Int) == 0)) ∧ w = w' := by
  go_enter Tryd.func107, Tryd.ntmps107
  go_wp2
  go_ret
  exact ⟨rfl, rfl⟩
end Go.Proofs.YtdnjkjoioabhhaaDoor

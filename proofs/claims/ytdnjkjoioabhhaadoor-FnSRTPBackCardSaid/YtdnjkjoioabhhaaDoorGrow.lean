/- A byte buffer of the call's own that grows by append. -/
import Derived.Test.YtdnjkjoioabhhaaDoorBase
import Derived.Test.YtdnjkjoioabhhaaDoorPut16
import Derived.Lib.AppendStr
import Derived.Laws.OwnMore
namespace Go.Proofs.YtdnjkjoioabhhaaDoor
open Go.RowKit
set_option maxRecDepth 100000

/-- Since the call's world w: v is a buffer of the call's own that holds l; nothing of w is changed. -/
structure Grow (w : World) (e : TypeId) (v : Value) (l : List UInt8) (W : World) : Prop where
  own : W.ownsRow w.heap.size e 1 v l.length (l.map bv)
  below : Below w.heap.size w W
section
variable {P : Program} {w W W' : World} {e : TypeId} {v : Value} {l : List UInt8}
theorem Grow.drew (h : Grow w e v l W) : Grow w e v l W.drew := ⟨h.own.drew, h.below.drew⟩
theorem Grow.step (h : Grow w e v l W) (hb : Below W.heap.size W W') : Grow w e v l W' :=
  ⟨h.own.kept (row := none) (grown_below hb) (by cases v.ownBlock <;> simp), h.below.trans (hb.mono h.below.size)⟩
theorem Grow.alloc (h : Grow w e v l W) (o : Obj) : Grow w e v l (W.alloc o) := h.step ((Below.refl _ _).alloc (Nat.le_refl _) _)
theorem Grow.by (h : Grow w e v l W) : By W v l := Sl.of_own h.own
theorem Grow.nil (w : World) (e : TypeId) : Grow w e (.slice none 0 0) [] w := ⟨World.ownsRow_nil _ _ _ _, Below.refl _ _⟩
theorem Grow.nil' (hb : Below w.heap.size w W) (e : TypeId) : Grow w e (.slice none 0 0) [] W := ⟨World.ownsRow_nil _ _ _ _, hb⟩
/-- A literal '[]byte{..}'. -/
theorem Grow.lit (hb : Below w.heap.size w W) (l : List UInt8) (e : TypeId) (hm : l.length ≤ maxLen) : Grow w e (.slice (some ⟨W.heap.size, 0, none⟩) l.length l.length) l (W.alloc (.cells (l.map bv).toArray e)) :=
  ⟨by have := World.ownsRow_lit (base := w.heap.size) (size := 1) (e := e) W (l.map bv).toArray l.length hb.size hm (by simp); simpa using this, hb.alloc hb.size _⟩
/-- A buffer just made. -/
theorem Grow.of_blk {g : Nat} (hB : Blk W g e (l.map bv)) (hb : Below w.heap.size w W) (hg : w.heap.size ≤ g) (hm : l.length ≤ maxLen) : Grow w e (.slice (some ⟨g, 0, none⟩) l.length l.length) l W :=
  ⟨by have := hB.own (by simpa using hm) w.heap.size hg; simpa using this, hb⟩
theorem Grow.len (h : Grow w e v l W) : ∃ A c, v = .slice A l.length c := h.by.len
theorem Grow.form (h : Grow w e v l W) (hne : v ≠ .slice none 0 0) : ∃ g c, v = .slice (some ⟨g, 0, none⟩) l.length c ∧ w.heap.size ≤ g ∧ l.length ≤ c := by
  rcases h.own.2 with ⟨h0, _⟩ | ⟨g, c, cur, hv, hg, hc, hn, _⟩
  · exact absurd h0 hne
  · exact ⟨g, c, hv, hg, hn⟩
/-- The buffer's block, l's length under a name. -/
theorem Grow.row (h : Grow w e v l W) (n : Nat) (hn : l.length = n) (hl : 0 < n) : ∃ (g c : Nat) (cs : List Value), v = .slice (some ⟨g, 0, none⟩) n c ∧ n + cs.length = c ∧ w.heap.size ≤ g ∧ Blk W g e (l.map bv ++ cs) := by
  rcases h.own.2 with ⟨_, h0⟩ | ⟨g, c, cur, hv, hg, hc, hnc, _, hs, ht⟩
  · omega
  · rw [Nat.mul_one] at hs ht
    subst hn
    refine ⟨g, c, cur.toList.drop l.length, hv, by simp [hs]; omega, hg, ?_⟩
    unfold Blk
    rw [hc, ← ht, List.take_append_drop]
/-- The buffer seen as a block: whoever lays bytes into it. -/
theorem Grow.blk (h : Grow w e v l W) (hl : 0 < l.length) : ∃ (g c : Nat) (t : List UInt8), v = .slice (some ⟨g, 0, none⟩) l.length c ∧ l.length ≤ c ∧ w.heap.size ≤ g ∧ ∃ cs : List Value, cs.length = c - l.length ∧ Blk W g e (l.map bv ++ cs) ∧ t = [] := by
  rcases h.own.2 with ⟨_, h0⟩ | ⟨g, c, cur, hv, hg, hc, hn, _, hs, ht⟩
  · omega
  · rw [Nat.mul_one] at hs ht
    refine ⟨g, c, [], hv, hn, hg, cur.toList.drop l.length, by simp [hs], ?_, rfl⟩
    unfold Blk
    rw [hc, ← ht, List.take_append_drop]
end

theorem run_append_empty {P : Program} {w : World} (base : Nat) (t ty e : TypeId) (i : TypeInfo) (size c : Nat) (ht : P.underlying t = some (.slice e)) (hi : P.info? e = some i)
    (v : Value) (n : Nat) (xs : List Value) (hown : w.ownsRow base e size v n xs) :
    (Builtin.append_ #[t, t] ty #[v, .slice none 0 c]).run P w = .ok v w := by
  rcases hown.2 with ⟨rfl, rfl⟩ | ⟨g, cap, cur, rfl, _, _, hnc, _⟩
  · simp [Builtin.append_, run_underlying ht, sizeOf, typeInfo, hi, Builtin.lenOf, Builtin.firstCells]
  · simp [Builtin.append_, run_underlying ht, sizeOf, typeInfo, hi, Builtin.lenOf, Builtin.firstCells, hnc, storeCells]

/-- 'append(buf, x...)', x bytes. -/
theorem wpList_append_by {P : Program} {w W : World} {ops : Array Oper} {rest : List Oper} {o : Oper} {a : Act} {Q : Exit → Act → World → Prop} (hgd : Region.wanted o (yielded ops a.tmps) = true) (s x : Operand) (t : TypeId)
    (ho : o.op = .call { callee := .builtin .append, args := #[s, x], argTypes := #[t, t] }) (e : TypeId) (ht : P.underlying t = some (.slice e))
    (hi : (P.info? e).map (fun i => (i.zero, i.size, i.bytes)) = some (some (.int .u8 0), 1, 1))
    (v : Value) (l : List UInt8) (hs : a.eval s = v) (hown : Grow w e v l W) (u : Value) (l' : List UInt8) (hx : a.eval x = u) (hu : By W u l') (h63 : l.length + l'.length ≤ 140737488355328)
    (h : ∀ v' W', Grow w e v' (l ++ l') W' → wpList P ops Q rest (a.put o.dst v') W') : wpList P ops Q (o :: rest) a W := by
  obtain ⟨i, hi, hz0, hz1, hz2⟩ := info_parts hi
  obtain ⟨A, c, rfl, hlc, hr⟩ := hu.parts
  refine BigFrame.wpList_want hgd fun K hK => ?_
  have run : ∃ v' W', (Builtin.append_ #[t, t] o.type #[v, .slice A l'.length c]).run P W = .ok v' W' ∧ W'.ownsRow w.heap.size e 1 v' (l.length + l'.length) (l.map bv ++ l'.map bv) ∧ W.grownBy W' v.ownBlock := by
    by_cases h0 : 0 < l'.length
    · obtain ⟨g, k, rfl, hg, hc⟩ := hr h0
      obtain ⟨v', w', hr, h2, h3, _⟩ := run_append_own (P := P) W w.heap.size t o.type e i _ 1 1 ht hi hz0 hz1 hz2 rfl (by omega) v l.length (l.map bv) hown.own ⟨g, k, none⟩ l'.length c (l'.map bv) (by simp)
        (by intro j y hy
            have hj : j < l'.length := by
              rcases Nat.lt_or_ge j l'.length with h | h
              · exact h
              · rw [List.getElem?_eq_none (by simpa using h)] at hy; cases hy
            rw [Addr.add_lit, hc j hj]
            rw [List.getElem?_map, List.getElem?_eq_getElem hj] at hy
            simpa [bv] using hy) (bvs_one l') (by simp only [maxLen]; omega) (by omega) hown.below.size
      exact ⟨v', w', hr, h2, h3⟩
    · have h0' : l' = [] := List.eq_nil_of_length_eq_zero (by omega)
      subst h0'
      cases A with
      | none => exact ⟨v, W, run_append_empty w.heap.size t o.type e i 1 c ht hi v l.length (l.map bv) hown.own, by simpa using hown.own, World.grownBy.refl _ _⟩
      | some ad =>
        obtain ⟨v', w', hr, h2, h3, _⟩ := run_append_own (P := P) W w.heap.size t o.type e i _ 1 1 ht hi hz0 hz1 hz2 rfl (by omega) v l.length (l.map bv) hown.own ad 0 c [] (by simp) (by simp) (by simp) (by simp only [maxLen]; omega) (by omega) hown.below.size
        exact ⟨v', w', hr, by simpa using h2, h3⟩
  obtain ⟨v', W', hrun, h2, h3⟩ := run
  unfold Oper.wp execOp
  simp only [ho, resolve, invoke, builtin, Sem.run_bind, Sem.run_pure, Result.andThen_ok, List.map_toArray, List.map_cons, List.map_nil, hs, hx, hrun]
  exact hK _ _ (h v' W' ⟨by simpa using h2, hown.below.grown h3 hown.below.size (fun k hk => (hown.own.lt k hk).1)⟩)

/-- 'append(buf, s...)', s a string. -/
theorem wpList_append_str {P : Program} {w W : World} {ops : Array Oper} {rest : List Oper} {o : Oper} {a : Act} {Q : Exit → Act → World → Prop} (hgd : o.guard = none) (s x : Operand) (t u : TypeId)
    (ho : o.op = .call { callee := .builtin .append, args := #[s, x], argTypes := #[t, u] }) (e : TypeId) (ht : P.underlying t = some (.slice e)) (hu : P.underlying u = some .string)
    (hi : (P.info? e).map (fun i => (i.zero, i.size, i.bytes)) = some (some (.int .u8 0), 1, 1))
    (v : Value) (l : List UInt8) (hs : a.eval s = v) (hown : Grow w e v l W) (l' : List UInt8) (hx : a.eval x = .string (bs l')) (h63 : l.length + l'.length ≤ 140737488355328)
    (h : ∀ v' W', Grow w e v' (l ++ l') W' → (v' = .slice none 0 0 ↔ v = .slice none 0 0 ∧ l'.length = 0) → wpList P ops Q rest (a.put o.dst v') W') : wpList P ops Q (o :: rest) a W := by
  obtain ⟨i, hi, hz0, hz1, hz2⟩ := info_parts hi
  refine Lib.wpList_append_own_string W hgd s x t u ho w.heap.size e i ht hu hi hz0 hz1 hz2 v l.length (l.map bv) hs hown.own (bs l') hx (by simp only [maxLen, bs_size]; omega) (by simp only [bs_size]; omega) hown.below.size ?_
  intro v' W' h2 h3 h4
  have e1 : Lib.strCells (bs l') = l'.map bv := by simp [Lib.strCells, bs, bv]
  rw [e1, bs_size] at h2
  rw [bs_size] at h4
  exact h v' W' ⟨by simpa using h2, hown.below.grown h3 hown.below.size (fun k hk => (hown.own.lt k hk).1)⟩ h4
end Go.Proofs.YtdnjkjoioabhhaaDoor

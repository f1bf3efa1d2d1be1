/- 'append' of bytes of a type of their own. -/
import Derived.Test.YtdnjkjoioabhhaaDoorGrow
namespace Go.Proofs.YtdnjkjoioabhhaaDoor
open Go.RowKit
set_option maxRecDepth 100000

theorem append_types {P : Program} (t u ty : TypeId) {e e2 : TypeId} (ht : P.underlying t = some (.slice e)) (hu : P.underlying u = some (.slice e2)) (args : Array Value) (w : World) :
    (Builtin.append_ #[t, u] ty args).run P w = (Builtin.append_ #[t, t] ty args).run P w := by
  unfold Builtin.append_
  cases h0 : args[0]? with
  | none => simp
  | some s =>
    cases h1 : args[1]? with
    | none => simp
    | some x =>
      cases s <;> simp [Sem.run_bind, run_underlying ht, run_underlying hu]
/-- 'append(buf, x...)', x bytes. -/
theorem wpList_append_by2 {P : Program} {w W : World} {ops : Array Oper} {rest : List Oper} {o : Oper} {a : Act} {Q : Exit → Act → World → Prop} (hgd : Region.wanted o (yielded ops a.tmps) = true) (s x : Operand) (t u2 : TypeId)
    (ho : o.op = .call { callee := .builtin .append, args := #[s, x], argTypes := #[t, u2] }) (e : TypeId) (ht : P.underlying t = some (.slice e)) (e2 : TypeId) (hu2 : P.underlying u2 = some (.slice e2))
    (hi : (P.info? e).map (fun i => (i.zero, i.size, i.bytes)) = some (some (.int .u8 0), 1, 1))
    (v : Value) (l : List UInt8) (hs : a.eval s = v) (hown : Grow w e v l W) (u : Value) (l' : List UInt8) (hx : a.eval x = u) (hu : By W u l') (h63 : l.length + l'.length ≤ 140737488355328)
    (h : ∀ v' W', Grow w e v' (l ++ l') W' → wpList P ops Q rest (a.put o.dst v') W') : wpList P ops Q (o :: rest) a W := by
  obtain ⟨i, hi, hz0, hz1, hz2⟩ := info_parts hi
  obtain ⟨A, c, rfl, hlc, hr⟩ := hu.parts
  refine BigFrame.wpList_want hgd fun K hK => ?_
  have run : ∃ v' W', (Builtin.append_ #[t, t] o.type #[v, .slice A l'.length c]).run P W = .ok v' W' ∧ W'.ownsRow w.heap.size e 1 v' (l.length + l'.length) (l.map bv ++ l'.map bv) ∧ W.grownBy W' v.ownBlock := by
    by_cases h0 : 0 < l'.length
    · obtain ⟨g, k, rfl, hg, hc⟩ := hr h0
      obtain ⟨v', w', hr, h2, h3, _⟩ := run_append_own (P := P) W w.heap.size t o.type e i _ 1 1 ht hi hz0 hz1 hz2 rfl (by omega) v l.length (l.map bv) hown.own ⟨g, k, none⟩ l'.length c (l'.map bv) (by simp)
        (by intro j y hy
            have hj : j < l'.length := by
              rcases Nat.lt_or_ge j l'.length with h | h
              · exact h
              · rw [List.getElem?_eq_none (by simpa using h)] at hy; cases hy
            rw [Addr.add_lit, hc j hj]
            rw [List.getElem?_map, List.getElem?_eq_getElem hj] at hy
            simpa [bv] using hy) (bvs_one l') (by simp only [maxLen]; omega) (by omega) hown.below.size
      exact ⟨v', w', hr, h2, h3⟩
    · have h0' : l' = [] := List.eq_nil_of_length_eq_zero (by omega)
      subst h0'
      cases A with
      | none => exact ⟨v, W, run_append_empty w.heap.size t o.type e i 1 c ht hi v l.length (l.map bv) hown.own, by simpa using hown.own, World.grownBy.refl _ _⟩
      | some ad =>
        obtain ⟨v', w', hr, h2, h3, _⟩ := run_append_own (P := P) W w.heap.size t o.type e i _ 1 1 ht hi hz0 hz1 hz2 rfl (by omega) v l.length (l.map bv) hown.own ad 0 c [] (by simp) (by simp) (by simp) (by simp only [maxLen]; omega) (by omega) hown.below.size
        exact ⟨v', w', hr, by simpa using h2, h3⟩
  obtain ⟨v', W', hrun, h2, h3⟩ := run
  unfold Oper.wp execOp
  simp only [ho, resolve, invoke, builtin, Sem.run_bind, Sem.run_pure, Result.andThen_ok, List.map_toArray, List.map_cons, List.map_nil, hs, hx, append_types t u2 o.type ht hu2, hrun]
  exact hK _ _ (h v' W' ⟨by simpa using h2, hown.below.grown h3 hown.below.size (fun k hk => (hown.own.lt k hk).1)⟩)

end Go.Proofs.YtdnjkjoioabhhaaDoor

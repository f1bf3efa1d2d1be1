/- A step of a drawn region: 'copy' of bytes. -/
import Derived.Test.YtdnjkjoioabhhaaDoorBase
import Derived.Laws.CopyOwn
namespace Go.Proofs.YtdnjkjoioabhhaaDoor
open Go.RowKit
set_option maxRecDepth 100000

theorem wp_copy_ran {P : Program} (w : World) {o : Oper} {a : Act} {K : Act → World → Prop} {Q : Exit → Act → World → Prop} (d s : Operand) (t t' : TypeId)
    (ho : o.op = .call { callee := .builtin .copy, args := #[d, s], argTypes := #[t, t'] }) (v u : Value) (hd : a.eval d = v) (hs : a.eval s = u) {v' : Value} {w' : World}
    (hr : (Builtin.copy_ #[t, t'] o.type #[v, u]).run P w = .ok v' w') (h : K (a.put o.dst v') w') : o.wp P a w K Q := by
  unfold Oper.wp execOp
  simp only [ho, resolve, invoke, builtin, Sem.run_bind, Sem.run_pure, Result.andThen_ok, List.map_toArray, List.map_cons, List.map_nil, hd, hs, hr]
  exact h
theorem step_copy {P : Program} {W : World} {o : Oper} {A : Act} {K : Act → World → Prop} {Q : Exit → Act → World → Prop} (d s : Tmp) (dT sT : TypeId)
    (ho : o.op = .call { callee := .builtin .copy, args := #[.tmp d, .tmp s], argTypes := #[dT, sT] }) (elem : TypeId) (hu : P.underlying dT = some (.slice elem)) (hsz : (P.info? elem).map (·.size) = some 1)
    (dp : Option Addr) (dLen dCap : Nat) (hd : A.tmps[d]? = some (.slice dp dLen dCap)) (v : Value) (x : List UInt8) (hs : A.tmps[s]? = some v) (hv : By W v x)
    (g off : Nat) (t : TypeId) (l : List UInt8) (hg : Blk W g t (l.map bv)) (hdp : 0 < x.length → dp = some ⟨g, off, none⟩) (hx : x.length ≤ dLen) (hfit : off + x.length ≤ l.length)
    (h : ∀ w', Blk w' g t ((lay l off x).map bv) → W.grownBy w' (some g) → K (A.put o.dst (goInt x.length)) w') : o.wp P A W K Q := by
  have ed : A.eval (.tmp d) = .slice dp dLen dCap := by simp [Act.eval, hd]
  have es : A.eval (.tmp s) = v := by simp [Act.eval, hs]
  obtain ⟨Ax, c, rfl, hlc, hr⟩ := hv.parts
  by_cases h0 : 0 < x.length
  · obtain ⟨g', o', rfl, _, hr0⟩ := hr h0
    obtain rfl := hdp h0
    have hrun := run_copy_row (P := P) W dT sT o.type elem g off dLen dCap ⟨g', o', none⟩ x.length c (l.map bv).toArray t (x.map bv) hu hsz hg (by rw [List.length_map]; exact (Nat.min_eq_left hx).symm)
      (by intro j u hu
          have hj : j < x.length := by
            rcases Nat.lt_or_ge j x.length with h | h
            · exact h
            · simp [List.getElem?_eq_none (show (x.map bv).length ≤ j by simpa using h)] at hu
          rw [Addr.add_lit, hr0 j hj]; simpa [hj, bv] using hu) (by simpa using hfit) (bvs_one x)
    refine wp_copy_ran W _ _ _ _ ho _ _ ed es hrun ?_
    have e : (((l.map bv).toArray.toList.take off ++ x.map bv ++ (l.map bv).toArray.toList.drop (off + (x.map bv).length)).toArray) = ((lay l off x).map bv).toArray := by
      simp [lay, List.map_take, List.map_drop]
    rw [e]
    simpa using h _ (setRow_heap W g _ _ t _ hg) (setRow_grown _ _ _)
  · obtain rfl : x = [] := List.eq_nil_of_length_eq_zero (by omega)
    have hrun := run_copy_none (P := P) W dT sT o.type elem dp Ax dLen dCap 0 c hu hsz (by simp)
    refine wp_copy_ran W _ _ _ _ ho _ _ ed es hrun ?_
    exact h W (by simpa [lay] using hg) (World.grownBy.refl _ _)
end Go.Proofs.YtdnjkjoioabhhaaDoor

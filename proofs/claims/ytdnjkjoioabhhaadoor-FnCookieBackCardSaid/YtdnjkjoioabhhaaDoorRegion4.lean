/- The rule for a drawn region whose first operation alone can begin. -/
import Derived.Test.YtdnjkjoioabhhaaDoorRegion3
namespace Go.Proofs.YtdnjkjoioabhhaaDoor
open Go.RowKit
set_option maxRecDepth 100000

section
variable {P : Program} {ops : Array Oper} {Q : Exit → Act → World → Prop} {a : Act} {ds : List Nat} {G : Nat → Value → World → Prop} {Inv : World → Prop} {sk : List Nat}
def StepsOK4 (P : Program) (ops : Array Oper) (Q : Exit → Act → World → Prop) (a : Act) (ds : List Nat) (G : Nat → Value → World → Prop) (Inv : World → Prop) (sk : List Nat) : Nat → List Oper → Prop
  | _, [] => True
  | i, o :: r => (sk.contains i = false → i ≠ 0 → StepOK P ops Q a ds G Inv i o) ∧ StepsOK4 P ops Q a ds G Inv sk (i + 1) r
theorem StepsOK4.at_ : ∀ {l : List Oper} {k : Nat}, StepsOK4 P ops Q a ds G Inv sk k l → ∀ (i : Nat) (o : Oper), l[i]? = some o → sk.contains (k + i) = false → k + i ≠ 0 → StepOK P ops Q a ds G Inv (k + i) o
  | [], _, _, i, o, h => by simp at h
  | x :: l, k, hs, 0, o, h => by obtain rfl : x = o := by simpa using h
                                 exact hs.1
  | x :: l, k, hs, i + 1, o, h => by
    have := StepsOK4.at_ hs.2 i o (by simpa using h)
    rwa [show k + (i + 1) = k + 1 + i by omega]
theorem wp_region_first {id : Nat} {w : World} (hm : P.follows .mixedOrders = true) (ds : List Nat) (G : Nat → Value → World → Prop) (Inv : World → Prop) 
    (h1 : Region.ready .any ops (Array.replicate ops.size false) = [0]) (o0 : Oper) (ho0 : ops[0]? = some o0) (hg0 : o0.guard = none)
    (first : ∀ K : Act → World → Prop, (∀ v W', G 0 v W' → Inv W' → K (a.put o0.dst v) W') → o0.wp P a w.drew K Q)
    (sk : List Nat) (hguard : GuardsOK ops G sk 0 ops.toList)
    (hback : ((List.range ops.size).all fun i => ((ops[i]?).map fun o => o.after.toList.all fun e => decide (e.on < i) || !Region.binds .any e).getD true) = true)
    (hdst : (ops.toList.all fun o => match o.dst with | some d => ds.contains d && decide (d < a.tmps.size) | none => true) = true)
    (hnd : ((List.range ops.size).all fun i => (List.range ops.size).all fun j => i == j || (match (ops[i]?).bind (·.dst), (ops[j]?).bind (·.dst) with | some d, some d' => d != d' | _, _ => true)) = true)
    (steps : StepsOK4 P ops Q a ds G Inv sk 0 ops.toList)
    (fin : ∀ vf W, GoodAll G vf W 0 ops.toList → Inv W → (∀ (j : Nat) o, ops[j]? = some o → o.dst = none → ∃ v, G j v W) → Q .normal (fillAct a ds vf) W) : (Code.region id ops true).wp P Q a w := by
  have hops : ∀ (i : Nat), ops.toList[i]? = ops[i]? := fun i => by simp
  have go : ∀ (fuel : Nat) (L : Array Bool) (A : Act) (W : World), L.toList.count false ≤ fuel → RegAt ops a ds G Inv L A W → L[0]? = some true → wpAny P .any ops Q fuel L A W := by
    intro fuel
    have full : ∀ (L : Array Bool) (A : Act) (W : World), (∀ i, i < ops.size → L[i]? = some true) → RegAt ops a ds G Inv L A W → Q .normal A W := by
      intro L A W hall hr
      rw [act_eq hr.size hr.defers hr.base]
      refine fin _ W (GoodAll.mk_ fun i o d hi hd => ?_) hr.inv (fun j o hj hd => hr.nod j o hj hd (hall j (Array.getElem?_eq_some_iff.1 hj).1))
      rw [hops] at hi
      obtain ⟨v, hv, hg⟩ := hr.good i o d hi hd (hall i (Array.getElem?_eq_some_iff.1 hi).1)
      have : A.tmps.getD d undef = v := by simp [hv]
      simpa [this] using hg
    have stuck : ∀ (L : Array Bool), L.size = ops.size → Region.ready .any ops L = [] → ∀ i, i < ops.size → L[i]? = some true := by
      intro L hL hr i
      induction i using Nat.strongRecOn with
      | _ i ih =>
        intro hi
        have hLi : L[i]? = some (L[i]'(by omega)) := Array.getElem?_eq_getElem _
        cases hb : L[i]'(by omega) with
        | true => rw [hLi, hb]
        | false =>
          exfalso
          have hmem : i ∈ Region.ready .any ops L := by
            unfold Region.ready
            refine List.mem_filter.2 ⟨List.mem_range.2 hi, ?_⟩
            have ho : ops[i]? = some ops[i] := Array.getElem?_eq_getElem _
            have hbk := List.all_eq_true.1 hback i (List.mem_range.2 hi)
            rw [ho] at hbk ⊢
            simp only [Option.map_some, Option.getD_some] at hbk ⊢
            rw [Bool.and_eq_true]
            refine ⟨by simp [Array.getD, hL, hi, hb], ?_⟩
            rw [Array.all_eq_true_iff_forall_mem]
            intro e he
            have h1 := List.all_eq_true.1 hbk e (by simpa using he)
            cases hbe : Region.binds .any e with
            | false => simp
            | true =>
              rw [hbe, Bool.not_true, Bool.or_false] at h1
              have h2 := ih e.on (by simpa using h1) (by have := of_decide_eq_true h1; omega)
              simp [h2]
          rw [hr] at hmem; cases hmem
    induction fuel with
    | zero =>
      intro L A W hc hr _
      have hall : ∀ i, i < ops.size → L[i]? = some true := fun i hi => by
        have := all_of_count L.toList (by omega) i (by simpa [hr.len] using hi)
        simpa using this
      refine ⟨?_, full L A W hall hr⟩
      rw [Region.ready, List.filter_eq_nil_iff]
      intro i hi
      have := hall i (List.mem_range.1 hi)
      simp [this]
    | succ fuel ih =>
      intro L A W hc hr hl0
      refine ⟨fun he => full L A W (stuck L hr.len he) hr, fun i hi => ?_⟩
      obtain ⟨h1, h2⟩ := List.mem_filter.1 hi
      have hlt := List.mem_range.1 h1
      have ho : ops[i]? = some ops[i] := Array.getElem?_eq_getElem _
      rw [ho] at h2
      simp only [Option.map_some, Option.getD_some, Bool.and_eq_true] at h2
      have hLi : L[i]? = some false := by
        have h3 := h2.1
        have h4 : L[i]? = some (L[i]'(by rw [hr.len]; exact hlt)) := Array.getElem?_eq_getElem _
        rw [h4]; simp [Array.getD, hr.len, hlt] at h3; rw [h3]
      unfold wpOp
      rw [ho]
      dsimp only
      have hgd := hguard.at_ i ops[i] (by rw [hops]; exact ho)
      rw [Nat.zero_add] at hgd
      have hpre : ∀ (e : Edge), e ∈ ops[i].after.toList → Region.binds .any e = true → ∀ o d, ops[e.on]? = some o → o.dst = some d → ∃ v, A.tmps[d]? = some v ∧ G e.on v W := fun e he hbe o d ho' hd' => hr.good e.on o d ho' hd' (by
        have h5 := (Array.all_eq_true_iff_forall_mem.1 h2.2) e (by simpa using he)
        rw [hbe] at h5
        cases h6 : L[e.on]? with
        | none => simp [h6] at h5
        | some b => simp [h6] at h5; rw [h5])
      have hcont : ∀ v W', G i v W' → Inv W' → (∀ j u, G j u W → G j u W') → wpAny P .any ops Q fuel (L.setIfInBounds i true) (A.put ops[i].dst v) W' := by
        intro v W' hg hi' hk
        refine ih _ _ _ ?_ ?_ (by rw [Array.getElem?_setIfInBounds]; split <;> simp_all)
        · have := count_set_lt L.toList i (by simpa using hLi)
          simp only [Array.toList_setIfInBounds]; omega
        · have hdi := List.all_eq_true.1 hdst ops[i] (by simp)
          refine ⟨by simpa using hr.len, ?_, ?_, ?_, ?_, hi', ?_⟩
          · cases hd : ops[i].dst <;> simp [Act.put, hr.size]
          · cases hd : ops[i].dst <;> simp [Act.put, hr.defers]
          · intro t ht
            cases hd : ops[i].dst with
            | none => simpa [Act.put] using hr.base t ht
            | some d =>
              rw [hd] at hdi
              simp only [Bool.and_eq_true] at hdi
              have hne : d ≠ t := fun e => ht (by subst e; simpa using hdi.1)
              simp only [Act.put, Array.getElem?_setIfInBounds, hne, if_false]
              exact hr.base t ht
          · intro j o d hj hdj hlj
            by_cases hij : i = j
            · subst hij
              obtain rfl : ops[i] = o := Option.some.inj (ho.symm.trans hj)
              rw [hdj] at hdi
              simp only [Bool.and_eq_true, decide_eq_true_eq] at hdi
              refine ⟨v, ?_, hg⟩
              simp [Act.put, hdj, Array.getElem?_setIfInBounds, hr.size, hdi.2]
            · have hlj' : L[j]? = some true := by simpa [Array.getElem?_setIfInBounds, hij] using hlj
              obtain ⟨u, hu, hgu⟩ := hr.good j o d hj hdj hlj'
              refine ⟨u, ?_, hk j u hgu⟩
              cases hd : ops[i].dst with
              | none => simpa [Act.put] using hu
              | some d' =>
                have h7 := List.all_eq_true.1 (List.all_eq_true.1 hnd i (List.mem_range.2 hlt)) j (List.mem_range.2 (Array.getElem?_eq_some_iff.1 hj).1)
                rw [ho, hj] at h7
                simp only [Option.bind_some, hd, hdj] at h7
                have hne : d' ≠ d := by simpa [hij] using h7
                simp only [Act.put, Array.getElem?_setIfInBounds, hne, if_false]
                exact hu
          · intro j o hj hdj hlj
            by_cases hij : i = j
            · subst hij; exact ⟨v, hg⟩
            · have hlj' : L[j]? = some true := by simpa [Array.getElem?_setIfInBounds, hij] using hlj
              obtain ⟨u, hgu⟩ := hr.nod j o hj hdj hlj'
              exact ⟨u, hk j u hgu⟩
      have hwant : Region.wanted ops[i] (yielded ops A.tmps) = !(sk.contains i) := by
        unfold Region.wanted
        cases hgu : ops[i].guard with
        | none => simp only; rw [hgd.1 hgu]; rfl
        | some p =>
          obtain ⟨j, b⟩ := p
          obtain ⟨hany, ⟨o, d, ho', hd'⟩, hv, _⟩ := hgd.2 j b hgu
          obtain ⟨e, he, heb⟩ := List.any_eq_true.1 hany
          obtain ⟨hej', hbe⟩ := Bool.and_eq_true_iff.1 heb
          have hej : e.on = j := by simpa using hej'
          obtain ⟨v, hv1, hv2⟩ := hpre e he hbe o d (by rw [hej]; exact ho') hd'
          rw [hej] at hv2
          have := hv v W hv2
          simp only [yielded, ho', Option.bind_some, hd', hv1, this]
          cases sk.contains i <;> cases b <;> rfl
      cases hsk : sk.contains i with
      | true =>
        rw [hwant, hsk]
        simp only [Bool.not_true, Bool.false_eq_true, if_false]
        cases hgu : ops[i].guard with
        | none => rw [hgd.1 hgu] at hsk; cases hsk
        | some p =>
          obtain ⟨j, b⟩ := p
          obtain ⟨_, _, _, hu⟩ := hgd.2 j b hgu
          exact hcont undef W (hu hsk W) hr.inv (fun _ _ h => h)
      | false =>
        rw [hwant, hsk]
        simp only [Bool.not_false, if_true]
        have hstep := steps.at_ i ops[i] (by rw [hops]; exact ho)
        rw [Nat.zero_add] at hstep
        refine .inl (hstep hsk (fun e => by rw [e, hl0] at hLi; cases hLi) A W hr.inv hr.base (PredsAll.mk_ _ hpre) _ hcont)
  have hpos : 0 < ops.size := (Array.getElem?_eq_some_iff.1 ho0).1
  refine wp_region_any hm ?_
  have hstart : ∀ n, n = ops.size → wpAny P .any ops Q n (Array.replicate ops.size false) a w.drew := by
    intro n hn
    match n, hn with
    | 0, hn => omega
    | f + 1, hn =>
      refine ⟨fun he => absurd (h1.symm.trans he) (by simp), fun i hi => ?_⟩
      rw [h1] at hi
      obtain rfl : i = 0 := by simpa using hi
      unfold wpOp
      rw [ho0]
      dsimp only
      rw [show Region.wanted o0 (yielded ops a.tmps) = true by simp [Region.wanted, hg0], if_pos rfl]
      refine .inl (first _ fun v W' hg hi' => ?_)
      have hL0 : (Array.replicate ops.size false)[0]? = some false := by rw [Array.getElem?_replicate, if_pos hpos]
      have hLj : ∀ j, j ≠ 0 → ((Array.replicate ops.size false).setIfInBounds 0 true)[j]? ≠ some true := fun j hj h => by
        rw [Array.getElem?_setIfInBounds, if_neg (fun e => hj e.symm), Array.getElem?_replicate] at h
        split at h <;> simp at h
      have hdi := List.all_eq_true.1 hdst o0 (by rw [Array.mem_toList_iff]; exact Array.mem_of_getElem? ho0)
      refine go f _ _ _ ?_ ⟨by simp, ?_, ?_, ?_, ?_, hi', ?_⟩ (by rw [Array.getElem?_setIfInBounds]; simp [hpos])
      · have := count_set_lt (Array.replicate ops.size false).toList 0 (by rw [Array.getElem?_toList]; exact hL0)
        simp only [Array.toList_setIfInBounds]
        have hc : (Array.replicate ops.size false).toList.count false = ops.size := by simp [List.count_replicate]
        omega
      · cases hd : o0.dst <;> simp [Act.put]
      · cases hd : o0.dst <;> simp [Act.put]
      · intro t ht
        cases hd : o0.dst with
        | none => simp [Act.put]
        | some d =>
          rw [hd] at hdi
          simp only [Bool.and_eq_true] at hdi
          have hne : d ≠ t := fun e => ht (by subst e; simpa using hdi.1)
          simp only [Act.put, Array.getElem?_setIfInBounds, hne, if_false]
      · intro j o d hj hdj hlj
        by_cases hj0 : j = 0
        · subst hj0
          obtain rfl : o0 = o := Option.some.inj (ho0.symm.trans hj)
          rw [hdj] at hdi
          simp only [Bool.and_eq_true, decide_eq_true_eq] at hdi
          refine ⟨v, ?_, hg⟩
          simp [Act.put, hdj, Array.getElem?_setIfInBounds, hdi.2]
        · exact absurd hlj (hLj j hj0)
      · intro j o hj hdj hlj
        by_cases hj0 : j = 0
        · subst hj0; exact ⟨v, hg⟩
        · exact absurd hlj (hLj j hj0)
  exact hstart _ rfl
end
end Go.Proofs.YtdnjkjoioabhhaaDoor

/-
  A region that draws its order, walked once an operation (not once an order): each operation is shown to give a value of which G holds, in whatever world meets Inv, and to leave true what G says of the others.
-/
import Derived.Test.YtdnjkjoioabhhaaDoorBase
import Derived.Orders
namespace Go.Proofs.YtdnjkjoioabhhaaDoor
open Go.RowKit

theorem count_set_lt : ∀ (l : List Bool) (i : Nat), l[i]? = some false → (l.set i true).count false < l.count false
  | [], i, h => by simp at h
  | b :: l, 0, h => by
    have hb : b = false := by simpa using h
    subst hb; simp
  | b :: l, i + 1, h => by
    have := count_set_lt l i (by simpa using h)
    rw [List.set_cons_succ, List.count_cons, List.count_cons]; omega
theorem all_of_count : ∀ (l : List Bool), l.count false = 0 → ∀ i (_ : i < l.length), l[i]? = some true
  | [], _, i, h => by simp at h
  | b :: l, hc, i, h => by
    rw [List.count_cons] at hc
    match i with
    | 0 => cases b with | true => rfl | false => simp at hc
    | i + 1 => simpa using all_of_count l (by omega) i (by simpa using h)

/-- What is known of an operation's forerunners when it comes up. -/
def PredsAll (ops : Array Oper) (G : Nat → Value → World → Prop) (A : Act) (W : World) : List Edge → Prop
  | [] => True
  | e :: r => (Region.binds .any e = true → ∀ o d, ops[e.on]? = some o → o.dst = some d → ∃ v, A.tmps[d]? = some v ∧ G e.on v W) ∧ PredsAll ops G A W r
/-- One operation. -/
def StepOK (P : Program) (ops : Array Oper) (Q : Exit → Act → World → Prop) (a : Act) (ds : List Nat) (G : Nat → Value → World → Prop) (Inv : World → Prop) (i : Nat) (o : Oper) : Prop :=
  ∀ A W, Inv W → (∀ t, t ∉ ds → A.tmps[t]? = a.tmps[t]?) → PredsAll ops G A W o.after.toList →
    ∀ K : Act → World → Prop, (∀ v W', G i v W' → Inv W' → (∀ j u, G j u W → G j u W') → K (A.put o.dst v) W') → o.wp P A W K Q
def StepsOK (P : Program) (ops : Array Oper) (Q : Exit → Act → World → Prop) (a : Act) (ds : List Nat) (G : Nat → Value → World → Prop) (Inv : World → Prop) : Nat → List Oper → Prop
  | _, [] => True
  | i, o :: r => StepOK P ops Q a ds G Inv i o ∧ StepsOK P ops Q a ds G Inv (i + 1) r
/-- The values that a finished region leaves. -/
def GoodAll (G : Nat → Value → World → Prop) (vf : Nat → Value) (W : World) : Nat → List Oper → Prop
  | _, [] => True
  | i, o :: r => (∀ d, o.dst = some d → G i (vf d) W) ∧ GoodAll G vf W (i + 1) r
/-- The frame with the written slots filled. -/
def fillAct (a : Act) (ds : List Nat) (vf : Nat → Value) : Act := { tmps := ds.foldl (fun t d => t.setIfInBounds d (vf d)) a.tmps, defers := a.defers }

section
variable {P : Program} {ops : Array Oper} {Q : Exit → Act → World → Prop} {a : Act} {ds : List Nat} {G : Nat → Value → World → Prop} {Inv : World → Prop}
theorem StepsOK.at_ : ∀ {l : List Oper} {k : Nat}, StepsOK P ops Q a ds G Inv k l → ∀ (i : Nat) (o : Oper), l[i]? = some o → StepOK P ops Q a ds G Inv (k + i) o
  | [], _, _, i, o, h => by simp at h
  | x :: l, k, hs, 0, o, h => by obtain rfl : x = o := by simpa using h
                                 exact hs.1
  | x :: l, k, hs, i + 1, o, h => by
    have := StepsOK.at_ hs.2 i o (by simpa using h)
    rwa [show k + (i + 1) = k + 1 + i by omega]
theorem GoodAll.mk_ {vf : Nat → Value} {W : World} : ∀ {l : List Oper} {k : Nat}, (∀ (i : Nat) (o : Oper) (d : Nat), l[i]? = some o → o.dst = some d → G (k + i) (vf d) W) → GoodAll G vf W k l
  | [], _, _ => trivial
  | x :: l, k, h => ⟨fun d hd => by simpa using h 0 x d rfl hd, GoodAll.mk_ fun i o d hi hd => by
      have := h (i + 1) o d (by simpa using hi) hd
      rwa [show k + (i + 1) = k + 1 + i by omega] at this⟩
theorem PredsAll.mk_ {A : Act} {W : World} : ∀ (l : List Edge), (∀ e ∈ l, Region.binds .any e = true → ∀ o d, ops[e.on]? = some o → o.dst = some d → ∃ v, A.tmps[d]? = some v ∧ G e.on v W) → PredsAll ops G A W l
  | [], _ => trivial
  | e :: l, h => ⟨h e (by simp), PredsAll.mk_ l fun e' he => h e' (by simp [he])⟩

/-- What holds of the frame and the world when the operations that are listed have come up. -/
structure RegAt (ops : Array Oper) (a : Act) (ds : List Nat) (G : Nat → Value → World → Prop) (Inv : World → Prop) (L : Array Bool) (A : Act) (W : World) : Prop where
  len : L.size = ops.size
  size : A.tmps.size = a.tmps.size
  defers : A.defers = a.defers
  base : ∀ t, t ∉ ds → A.tmps[t]? = a.tmps[t]?
  good : ∀ (j : Nat) o d, ops[j]? = some o → o.dst = some d → L[j]? = some true → ∃ v, A.tmps[d]? = some v ∧ G j v W
  inv : Inv W
  nod : ∀ (j : Nat) o, ops[j]? = some o → o.dst = none → L[j]? = some true → ∃ v, G j v W

theorem fold_get (vf : Nat → Value) : ∀ (ds : List Nat) (t : Array Value) (k : Nat), k < t.size → (ds.foldl (fun t d => t.setIfInBounds d (vf d)) t)[k]? = if k ∈ ds then some (vf k) else t[k]?
  | [], t, k, _ => by simp
  | d :: ds, t, k, hk => by
    rw [List.foldl_cons, fold_get vf ds _ k (by simpa using hk), Array.getElem?_setIfInBounds]
    by_cases h1 : k ∈ ds
    · simp [h1]
    · by_cases h2 : d = k
      · subst h2; simp [h1, hk]
      · simp [h1, h2, Ne.symm h2]
theorem fold_size (vf : Nat → Value) : ∀ (ds : List Nat) (t : Array Value), (ds.foldl (fun t d => t.setIfInBounds d (vf d)) t).size = t.size
  | [], t => rfl
  | d :: ds, t => by rw [List.foldl_cons, fold_size vf ds]; simp
theorem act_eq {A : Act} (hs : A.tmps.size = a.tmps.size) (hd : A.defers = a.defers) (hb : ∀ t, t ∉ ds → A.tmps[t]? = a.tmps[t]?) : A = fillAct a ds (fun d => A.tmps.getD d undef) := by
  cases A with
  | mk tm df =>
    simp only at hs hd hb
    unfold fillAct
    subst hd
    congr 1
    apply Array.ext_getElem?
    intro k
    by_cases hk : k < tm.size
    · rw [fold_get _ _ _ _ (by omega)]
      by_cases h : k ∈ ds
      · rw [if_pos h]; simp [hk]
      · rw [if_neg h]; exact hb k h
    · rw [Array.getElem?_eq_none (by omega), Array.getElem?_eq_none (by rw [fold_size]; omega)]

theorem wp_region_inv2 {id : Nat} {w : World} (hm : P.follows .mixedOrders = true) (ds : List Nat) (G : Nat → Value → World → Prop) (Inv : World → Prop) (h0 : Inv w.drew)
    (hguard : (ops.toList.all fun o => o.guard.isNone) = true)
    (hback : ((List.range ops.size).all fun i => ((ops[i]?).map fun o => o.after.toList.all fun e => decide (e.on < i) || !Region.binds .any e).getD true) = true)
    (hdst : (ops.toList.all fun o => match o.dst with | some d => ds.contains d && decide (d < a.tmps.size) | none => true) = true)
    (hnd : ((List.range ops.size).all fun i => (List.range ops.size).all fun j => i == j || (match (ops[i]?).bind (·.dst), (ops[j]?).bind (·.dst) with | some d, some d' => d != d' | _, _ => true)) = true)
    (steps : StepsOK P ops Q a ds G Inv 0 ops.toList)
    (fin : ∀ vf W, GoodAll G vf W 0 ops.toList → Inv W → (∀ (j : Nat) o, ops[j]? = some o → o.dst = none → ∃ v, G j v W) → Q .normal (fillAct a ds vf) W) : (Code.region id ops true).wp P Q a w := by
  have hops : ∀ (i : Nat), ops.toList[i]? = ops[i]? := fun i => by simp
  have go : ∀ (fuel : Nat) (L : Array Bool) (A : Act) (W : World), L.toList.count false ≤ fuel → RegAt ops a ds G Inv L A W → wpAny P .any ops Q fuel L A W := by
    intro fuel
    have full : ∀ (L : Array Bool) (A : Act) (W : World), (∀ i, i < ops.size → L[i]? = some true) → RegAt ops a ds G Inv L A W → Q .normal A W := by
      intro L A W hall hr
      rw [act_eq hr.size hr.defers hr.base]
      refine fin _ W (GoodAll.mk_ fun i o d hi hd => ?_) hr.inv (fun j o hj hd => hr.nod j o hj hd (hall j (Array.getElem?_eq_some_iff.1 hj).1))
      rw [hops] at hi
      obtain ⟨v, hv, hg⟩ := hr.good i o d hi hd (hall i (Array.getElem?_eq_some_iff.1 hi).1)
      have : A.tmps.getD d undef = v := by simp [hv]
      simpa [this] using hg
    have stuck : ∀ (L : Array Bool), L.size = ops.size → Region.ready .any ops L = [] → ∀ i, i < ops.size → L[i]? = some true := by
      intro L hL hr i
      induction i using Nat.strongRecOn with
      | _ i ih =>
        intro hi
        have hLi : L[i]? = some (L[i]'(by omega)) := Array.getElem?_eq_getElem _
        cases hb : L[i]'(by omega) with
        | true => rw [hLi, hb]
        | false =>
          exfalso
          have hmem : i ∈ Region.ready .any ops L := by
            unfold Region.ready
            refine List.mem_filter.2 ⟨List.mem_range.2 hi, ?_⟩
            have ho : ops[i]? = some ops[i] := Array.getElem?_eq_getElem _
            have hbk := List.all_eq_true.1 hback i (List.mem_range.2 hi)
            rw [ho] at hbk ⊢
            simp only [Option.map_some, Option.getD_some] at hbk ⊢
            rw [Bool.and_eq_true]
            refine ⟨by simp [Array.getD, hL, hi, hb], ?_⟩
            rw [Array.all_eq_true_iff_forall_mem]
            intro e he
            have h1 := List.all_eq_true.1 hbk e (by simpa using he)
            cases hbe : Region.binds .any e with
            | false => simp
            | true =>
              rw [hbe, Bool.not_true, Bool.or_false] at h1
              have h2 := ih e.on (by simpa using h1) (by have := of_decide_eq_true h1; omega)
              simp [h2]
          rw [hr] at hmem; cases hmem
    induction fuel with
    | zero =>
      intro L A W hc hr
      have hall : ∀ i, i < ops.size → L[i]? = some true := fun i hi => by
        have := all_of_count L.toList (by omega) i (by simpa [hr.len] using hi)
        simpa using this
      refine ⟨?_, full L A W hall hr⟩
      rw [Region.ready, List.filter_eq_nil_iff]
      intro i hi
      have := hall i (List.mem_range.1 hi)
      simp [this]
    | succ fuel ih =>
      intro L A W hc hr
      refine ⟨fun he => full L A W (stuck L hr.len he) hr, fun i hi => ?_⟩
      obtain ⟨h1, h2⟩ := List.mem_filter.1 hi
      have hlt := List.mem_range.1 h1
      have ho : ops[i]? = some ops[i] := Array.getElem?_eq_getElem _
      rw [ho] at h2
      simp only [Option.map_some, Option.getD_some, Bool.and_eq_true] at h2
      have hLi : L[i]? = some false := by
        have h3 := h2.1
        have h4 : L[i]? = some (L[i]'(by rw [hr.len]; exact hlt)) := Array.getElem?_eq_getElem _
        rw [h4]; simp [Array.getD, hr.len, hlt] at h3; rw [h3]
      unfold wpOp
      rw [ho]
      have hgn : ops[i].guard = none := by
        have := List.all_eq_true.1 hguard ops[i] (by simp)
        simpa using this
      have hstep := steps.at_ i ops[i] (by rw [hops]; exact ho)
      rw [Nat.zero_add] at hstep
      simp only [Region.wanted, hgn, if_true]
      refine .inl (hstep A W hr.inv hr.base ?_ _ ?_)
      · refine PredsAll.mk_ _ fun e he hbe o d ho' hd' => hr.good e.on o d ho' hd' ?_
        have h5 := (Array.all_eq_true_iff_forall_mem.1 h2.2) e (by simpa using he)
        rw [hbe] at h5
        cases h6 : L[e.on]? with
        | none => simp [h6] at h5
        | some b => simp [h6] at h5; rw [h5]
      · intro v W' hg hi' hk
        refine ih _ _ _ ?_ ?_
        · have := count_set_lt L.toList i (by simpa using hLi)
          simp only [Array.toList_setIfInBounds]; omega
        · have hdi := List.all_eq_true.1 hdst ops[i] (by simp)
          refine ⟨by simpa using hr.len, ?_, ?_, ?_, ?_, hi', ?_⟩
          · cases hd : ops[i].dst <;> simp [Act.put, hr.size]
          · cases hd : ops[i].dst <;> simp [Act.put, hr.defers]
          · intro t ht
            cases hd : ops[i].dst with
            | none => simpa [Act.put] using hr.base t ht
            | some d =>
              rw [hd] at hdi
              simp only [Bool.and_eq_true] at hdi
              have hne : d ≠ t := fun e => ht (by subst e; simpa using hdi.1)
              simp only [Act.put, Array.getElem?_setIfInBounds, hne, if_false]
              exact hr.base t ht
          · intro j o d hj hdj hlj
            by_cases hij : i = j
            · subst hij
              obtain rfl : ops[i] = o := Option.some.inj (ho.symm.trans hj)
              rw [hdj] at hdi
              simp only [Bool.and_eq_true, decide_eq_true_eq] at hdi
              refine ⟨v, ?_, hg⟩
              simp [Act.put, hdj, Array.getElem?_setIfInBounds, hr.size, hdi.2]
            · have hlj' : L[j]? = some true := by simpa [Array.getElem?_setIfInBounds, hij] using hlj
              obtain ⟨u, hu, hgu⟩ := hr.good j o d hj hdj hlj'
              refine ⟨u, ?_, hk j u hgu⟩
              cases hd : ops[i].dst with
              | none => simpa [Act.put] using hu
              | some d' =>
                have h7 := List.all_eq_true.1 (List.all_eq_true.1 hnd i (List.mem_range.2 hlt)) j (List.mem_range.2 (Array.getElem?_eq_some_iff.1 hj).1)
                rw [ho, hj] at h7
                simp only [Option.bind_some, hd, hdj] at h7
                have hne : d' ≠ d := by simpa [hij] using h7
                simp only [Act.put, Array.getElem?_setIfInBounds, hne, if_false]
                exact hu
          · intro j o hj hdj hlj
            by_cases hij : i = j
            · subst hij; exact ⟨v, hg⟩
            · have hlj' : L[j]? = some true := by simpa [Array.getElem?_setIfInBounds, hij] using hlj
              obtain ⟨u, hgu⟩ := hr.nod j o hj hdj hlj'
              exact ⟨u, hk j u hgu⟩
  refine wp_region_any hm (go ops.size _ a _ ?_ ⟨by simp, rfl, rfl, fun _ _ => rfl, ?_, h0, ?_⟩)
  · simp [List.count_replicate]
  · intro j o d _ _ h
    rw [Array.getElem?_replicate] at h
    split at h <;> simp at h
  · intro j o _ _ h
    rw [Array.getElem?_replicate] at h
    split at h <;> simp at h
theorem wp_region_inv {id : Nat} {w : World} (hm : P.follows .mixedOrders = true) (ds : List Nat) (G : Nat → Value → World → Prop) (Inv : World → Prop) (h0 : Inv w.drew)
    (hguard : (ops.toList.all fun o => o.guard.isNone) = true)
    (hback : ((List.range ops.size).all fun i => ((ops[i]?).map fun o => o.after.toList.all fun e => decide (e.on < i) || !Region.binds .any e).getD true) = true)
    (hdst : (ops.toList.all fun o => match o.dst with | some d => ds.contains d && decide (d < a.tmps.size) | none => true) = true)
    (hnd : ((List.range ops.size).all fun i => (List.range ops.size).all fun j => i == j || (match (ops[i]?).bind (·.dst), (ops[j]?).bind (·.dst) with | some d, some d' => d != d' | _, _ => true)) = true)
    (steps : StepsOK P ops Q a ds G Inv 0 ops.toList)
    (fin : ∀ vf W, GoodAll G vf W 0 ops.toList → Inv W → Q .normal (fillAct a ds vf) W) : (Code.region id ops true).wp P Q a w :=
  wp_region_inv2 hm ds G Inv h0 hguard hback hdst hnd steps (fun vf W h1 h2 _ => fin vf W h1 h2)
end
/-- Since the call's world w: the block g has this object, and nothing of w is changed. -/
structure Own (w : World) (g : Nat) (o : Obj) (W : World) : Prop where
  obj : objAt W g = some o
  lt : g < W.heap.size
  below : Below w.heap.size w W
theorem Own.step {w : World} {g : Nat} {o : Obj} {W W' : World} (h : Own w g o W) (hb : Below W.heap.size W W') : Own w g o W' :=
  ⟨(objAt_below hb _ h.lt).trans h.obj, Nat.lt_of_lt_of_le h.lt hb.size, h.below.trans (hb.mono h.below.size)⟩
theorem Own.cell {w : World} {g : Nat} {cs : Array Value} {t : TypeId} {fr : Nat × Nat} {W : World} (h : Own w g (.cells cs t fr) W) (i : Nat) : W.cell? ⟨g, i, none⟩ = cs[i]? := cell_of_obj h.obj i
theorem Own.new (w : World) (o : Obj) : Own w w.heap.size o (w.alloc o) := ⟨heap_alloc_new w o, by simp, (Below.refl _ _).alloc (Nat.le_refl _) _⟩
theorem Own.drew {w : World} {g : Nat} {o : Obj} {W : World} (h : Own w g o W) : Own w g o W.drew := ⟨h.obj, h.lt, h.below.drew⟩
theorem Own.drewN {w : World} {g : Nat} {o : Obj} {W : World} (h : Own w g o W) (n : Nat) : Own w g o (W.drewN n) := ⟨h.obj, h.lt, Below.drewN h.below n⟩
/-- Nothing of w is changed. -/
structure Kept (w W : World) : Prop where
  below : Below w.heap.size w W
theorem Kept.step {w W W' : World} (h : Kept w W) (hb : Below W.heap.size W W') : Kept w W' := ⟨h.below.trans (hb.mono h.below.size)⟩
theorem Kept.drew {w W : World} (h : Kept w W) : Kept w W.drew := ⟨h.below.drew⟩
end Go.Proofs.YtdnjkjoioabhhaaDoor

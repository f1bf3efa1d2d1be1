/- Opening parameters: structs by value, slices of integers and of strings. -/
import Derived.Test.YtdnjkjoioabhhaaDoorBase
import Derived.SliceStrings
import Derived.ChangeSame
namespace Go.Proofs.YtdnjkjoioabhhaaDoor
open Go.RowKit Go.ChangeShapes Go.WideShapes
set_option maxRecDepth 100000

section
variable {H : Type} {enc : TypeId × Value → H} {P : Program} {W : World} {base : Nat} {sp : Nat → Bool} {held : Bool}

/-- The cells of a struct that is given by value: each field's, as the claim trod them. -/
theorem open_agg {r : Reach} {b0 : Nat} {t : TypeId} {fs : Array Field} {v : Value} {d : DataW H} {ps : List MemPlace} (ht : P.underlying t = some (.struct fs)) (hval : Value.okWide P W r b0 t v)
    (hd : DataW.Trod enc P W base sp held t v d ps) :
    ∃ cs : Array Value, v = .agg cs ∧ cs.size = P.cellsOf t ∧ Row.okWide P W r b0 t cs ∧ ∃ n, ∀ (i : Nat) f, fs[i]? = some f → ∃ y, DataW.trod enc P W base sp held n f.type ((cs.toList.drop f.offset).take (P.cellsOf f.type)) = some y := by
  simp only [Value.okWide, ht] at hval
  obtain ⟨cs, rfl, hs, hrow⟩ := hval
  obtain ⟨m, hm⟩ := hd
  obtain ⟨xs, n, _, _, _, hl, hf⟩ := DataW.trod_struct ht hm
  refine ⟨cs, rfl, hs, hrow, n, fun i f hi => ?_⟩
  have h := hf i f hi
  obtain ⟨hi', _⟩ := Array.getElem?_eq_some_iff.1 hi
  exact ⟨xs[i]'(by omega), by rw [show cs.toList = (Value.agg cs).cells.toList from rfl, h]; exact List.getElem?_eq_getElem _⟩

theorem one_of_take {l : List Value} {o : Nat} {v : Value} (h : (l.drop o).take 1 = [v]) : l[o]? = some v := by
  have := congrArg (·[0]?) h
  simpa using this
theorem fld_int {n o : Nat} {t : TypeId} {k : IntKind} {l : List Value} (h : ∃ y, DataW.trod enc P W base sp held n t ((l.drop o).take (P.cellsOf t)) = some y) (hc : P.cellsOf t = 1) (hu : P.underlying t = some (.int k)) :
    ∃ z, l[o]? = some (.int k z) ∧ (Lit.int k z).wf = true := by
  obtain ⟨y, hy⟩ := h
  obtain ⟨z, hcs, _, hw⟩ := DataW.trod_int hu hy
  rw [hc] at hcs
  exact ⟨z, one_of_take hcs, hw⟩
theorem fld_string {n o : Nat} {t : TypeId} {l : List Value} (h : ∃ y, DataW.trod enc P W base sp held n t ((l.drop o).take (P.cellsOf t)) = some y) (hc : P.cellsOf t = 1) (hu : P.underlying t = some .string) :
    ∃ s : ByteArray, l[o]? = some (.string s) ∧ s.size ≤ maxLen := by
  obtain ⟨y, hy⟩ := h
  obtain ⟨z, hcs, _, hw⟩ := DataW.trod_string hu hy
  rw [hc] at hcs
  exact ⟨z, one_of_take hcs, hw⟩
theorem fld_bool {n o : Nat} {t : TypeId} {l : List Value} (h : ∃ y, DataW.trod enc P W base sp held n t ((l.drop o).take (P.cellsOf t)) = some y) (hc : P.cellsOf t = 1) (hu : P.underlying t = some .bool) :
    ∃ b : Bool, l[o]? = some (.bool b) := by
  obtain ⟨y, hy⟩ := h
  obtain ⟨z, hcs, _⟩ := DataW.trod_bool hu hy
  rw [hc] at hcs
  exact ⟨z, one_of_take hcs⟩

theorem spot_none {r : Reach} {b0 : Nat} {t e : TypeId} {a : Addr} {n c : Nat} (ht : P.underlying t = some (.slice e)) (h : Value.okWide P W r b0 t (.slice (some a) n c)) : a.spot = none := by
  simp only [Value.okWide, ht, Cell.okWide, Cell.ok] at h
  exact h.2.2.2.1
/-- A parameter that is a slice of integers. -/
theorem open_sl_ints {r : Reach} {b0 : Nat} {t e : TypeId} {k : IntKind} {v : Value} {d : DataW H} {ps : List MemPlace} (ht : P.underlying t = some (.slice e)) (he : P.underlying e = some (.int k)) (hc : P.cellsOf e = 1)
    (hval : Value.okWide P W r b0 t v) (hd : DataW.Trod enc P W base sp held t v d ps) :
    ∃ zs : List Int, Sl W v (zs.map (.int k ·)) ∧ (∀ z ∈ zs, (Lit.int k z).wf = true) ∧ zs.length ≤ maxLen := by
  obtain ⟨a, n, c, rfl⟩ := okWide_slice ht hval
  obtain ⟨m, hm⟩ := hd
  rcases open_ints ht he hc hm with ⟨h, _⟩ | ⟨a', n', c', zs, h, _, hl, hmx, hlen, _, hcell, hwf⟩
  · obtain ⟨rfl, rfl, rfl⟩ : a = none ∧ n = 0 ∧ c = 0 := by simpa [Value.cells] using h
    exact ⟨[], Sl.nil _ _ _, fun _ h => by simp at h, by simp⟩
  · obtain ⟨rfl, rfl, rfl⟩ : a = some a' ∧ n = n' ∧ c = c' := by simpa [Value.cells] using h
    have hs := spot_none ht hval
    have hn : n ≤ zs.length := by rw [hlen]; split <;> omega
    have h1 : (zs.take n).length = n := by simp; omega
    refine ⟨zs.take n, ⟨some a', c, by simp; omega, by simp; omega, fun _ => ⟨a'.block, a'.off, ?_, fun j hj => ?_⟩⟩, fun z hz => hwf z (List.mem_of_mem_take hz), by omega⟩
    · cases a'; simp_all
    · have hj' : j < n := by simp at hj; omega
      have := hcell j (by omega)
      have e : a'.add j = ⟨a'.block, a'.off + j, none⟩ := by
        unfold Addr.add; split
        · cases a'; simp_all
        · rfl
      rw [e] at this
      rw [this]
      simp [List.getD_eq_getElem?_getD, List.getElem?_eq_getElem (show j < zs.length by omega)]
/-- A parameter that is a slice of bytes. -/
theorem open_by {r : Reach} {b0 : Nat} {t e : TypeId} {v : Value} {d : DataW H} {ps : List MemPlace} (ht : P.underlying t = some (.slice e)) (he : P.underlying e = some (.int .u8)) (hc : P.cellsOf e = 1)
    (hval : Value.okWide P W r b0 t v) (hd : DataW.Trod enc P W base sp held t v d ps) : ∃ l : List UInt8, By W v l ∧ l.length ≤ maxLen := by
  obtain ⟨zs, h, hw, hl⟩ := open_sl_ints ht he hc hval hd
  have : ∃ l : List UInt8, zs = l.map fun b => (b.toNat : Int) := by
    clear h hl
    induction zs with
    | nil => exact ⟨[], rfl⟩
    | cons z zs ih =>
      obtain ⟨b, rfl⟩ := byte_ex (hw z (by simp))
      obtain ⟨l, rfl⟩ := ih fun z hz => hw z (by simp [hz])
      exact ⟨b :: l, rfl⟩
  obtain ⟨l, rfl⟩ := this
  have e2 : l.map bv = (l.map fun b => (b.toNat : Int)).map (.int .u8 ·) := by simp [bv_eq]
  exact ⟨l, by unfold By; rw [e2]; exact h, by simpa using hl⟩
/-- A parameter that is a slice of strings. -/
theorem open_sl_strings {r : Reach} {b0 : Nat} {t e : TypeId} {v : Value} {d : DataW H} {ps : List MemPlace} (ht : P.underlying t = some (.slice e)) (he : P.underlying e = some .string) (hc : P.cellsOf e = 1)
    (hval : Value.okWide P W r b0 t v) (hd : DataW.Trod enc P W base sp held t v d ps) :
    ∃ ls : List (List UInt8), Sl W v (ls.map fun l => .string (bs l)) ∧ (∀ l ∈ ls, l.length ≤ maxLen) ∧ ls.length ≤ maxLen := by
  obtain ⟨a, n, c, rfl⟩ := okWide_slice ht hval
  obtain ⟨m, hm⟩ := hd
  rcases open_strings ht he hc hm with ⟨h, _⟩ | ⟨a', n', c', zs, h, _, hl, hmx, hlen, _, hcell, hwf⟩
  · obtain ⟨rfl, rfl, rfl⟩ : a = none ∧ n = 0 ∧ c = 0 := by simpa [Value.cells] using h
    exact ⟨[], Sl.nil _ _ _, fun _ h => by simp at h, by simp⟩
  · obtain ⟨rfl, rfl, rfl⟩ : a = some a' ∧ n = n' ∧ c = c' := by simpa [Value.cells] using h
    have hs := spot_none ht hval
    have hn : n ≤ zs.length := by rw [hlen]; split <;> omega
    refine ⟨(zs.take n).map fun s => s.data.toList, ⟨some a', c, by simp; omega, by simp; omega, fun _ => ⟨a'.block, a'.off, ?_, fun j hj => ?_⟩⟩, ?_, by simp; omega⟩
    · cases a'; simp_all
    · have hj' : j < n := by simp at hj; omega
      have := hcell j (by omega)
      have e : a'.add j = ⟨a'.block, a'.off + j, none⟩ := by
        unfold Addr.add; split
        · cases a'; simp_all
        · rfl
      rw [e] at this
      rw [this]
      simp [List.getD_eq_getElem?_getD, List.getElem?_eq_getElem (show j < zs.length by omega), bs]
    · intro l hl
      obtain ⟨s, hs, rfl⟩ := List.mem_map.1 hl
      have := hwf s (List.mem_of_mem_take hs)
      simpa using this
end
end Go.Proofs.YtdnjkjoioabhhaaDoor

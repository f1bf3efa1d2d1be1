/- Words for byte strings, readable slices and owned byte buffers, and the laws that the walks of this claim's texts use: plain Lean over any program. -/
import Derived.WalkKit
import Derived.WalkLawsBesides
import Derived.ProofKit
import Derived.OpenShut
import Derived.ShutString
import Derived.Lib.ConvBytes
import Derived.Lib.Hide
import Derived.Laws.CopyOwn
import Derived.Deep.QuietTactic
import Derived.BigQuiet
import Derived.StillTailTactics
import Derived.Deep.RegionLaw
import Derived.Deep.LoopGhost
import Derived.Deep.DeepFit
import Derived.Deep.DeepMust
import Derived.Deep.RegionHeld3
namespace Go.Proofs.YtdnjkjoioabhhaaDoor
open Go.RowKit

/-! ## Byte strings -/
/-- The string of a list of bytes. -/
def bs (l : List UInt8) : ByteArray := ⟨l.toArray⟩
/-- A byte as a value. -/
def bv (b : UInt8) : Value := .int .u8 (b.toNat : Int)
theorem bv_eq (b : UInt8) : bv b = .int .u8 (b.toNat : Int) := rfl
theorem bs_ex (s : ByteArray) : ∃ l, s = bs l := ⟨s.data.toList, by cases s; simp [bs]⟩
@[go_sem] theorem bs_size (l : List UInt8) : (bs l).size = l.length := by simp [bs, ByteArray.size]
@[go_sem] theorem bs_toList (l : List UInt8) : (bs l).toList = l := by simp [bs]
theorem bs_data (l : List UInt8) : (bs l).data.toList = l := by simp [bs]
@[go_sem] theorem bs_data' (l : List UInt8) : (bs l).data = l.toArray := rfl
@[go_sem] theorem bs_append (a b : List UInt8) : bs a ++ bs b = bs (a ++ b) := ByteArray.mk_append_mk a b
@[go_sem] theorem bs_extract (l : List UInt8) (a b : Nat) : (bs l).extract a b = bs ((l.drop a).take (b - a)) := ByteArray.extract_mk l a b
theorem bs_inj {a b : List UInt8} (h : bs a = bs b) : a = b := by have := congrArg ByteArray.toList h; simpa [bs_toList] using this
theorem bs_lit (a : Array UInt8) : (ByteArray.mk a) = bs a.toList := by simp [bs]
@[go_sem] theorem bs_empty : (ByteArray.mk #[]) = bs [] := rfl
theorem bs_get (l : List UInt8) (i : Nat) (h : i < (bs l).size) : (bs l)[i] = l[i]'(by simpa [bs_size] using h) := by simp [bs, ByteArray.getElem_eq_getElem_data]
theorem bv_one (b : UInt8) : (bv b).oneCell' = true := rfl
theorem bvs_one (l : List UInt8) : ∀ u ∈ l.map bv, u.oneCell' = true := by
  intro u hu; obtain ⟨_, _, rfl⟩ := List.mem_map.1 hu; rfl

theorem byte_ex {x : Int} (h : (Lit.int .u8 x).wf = true) : ∃ b : UInt8, x = (b.toNat : Int) := by
  have h' : 0 ≤ x ∧ x ≤ 255 := by simpa [Lit.wf, IntKind.min, IntKind.max, IntKind.signed, IntKind.bits] using h
  refine ⟨UInt8.ofNat x.toNat, ?_⟩
  simp; omega
theorem nat_ex {x : Int} (h : 0 ≤ x) : ∃ n : Nat, x = (n : Int) := ⟨x.toNat, by omega⟩
theorem byte_eq (a b : UInt8) : ((a.toNat : Int) == (b.toNat : Int)) = (a == b) := by
  rw [Bool.eq_iff_iff]; simp only [beq_iff_eq]
  exact ⟨fun h => UInt8.toNat_inj.1 (by omega), fun h => by rw [h]⟩

/-! ## Slices that read as a list -/
/-- v is a slice (nil let in) whose cells, one an element, hold xs. -/
def Sl (w : World) (v : Value) (xs : List Value) : Prop :=
  ∃ A c, v = .slice A xs.length c ∧ xs.length ≤ c ∧ (0 < xs.length → ∃ g o, A = some ⟨g, o, none⟩ ∧ ∀ j (h : j < xs.length), w.cell? ⟨g, o + j, none⟩ = some xs[j])
/-- v is a slice of bytes. -/
def By (w : World) (v : Value) (l : List UInt8) : Prop := Sl w v (l.map bv)

section
variable {w w' : World} {v : Value} {xs : List Value} {l : List UInt8}
theorem Sl.keep (h : Sl w v xs) (hk : ∀ a : Addr, a.block < w.heap.size → w'.cell? a = w.cell? a) : Sl w' v xs := by
  obtain ⟨A, c, rfl, hc, h⟩ := h
  refine ⟨A, c, rfl, hc, fun hp => ?_⟩
  obtain ⟨g, o, hA, h0⟩ := h hp
  refine ⟨g, o, hA, fun j hj => ?_⟩
  have h1 := h0 j hj
  rw [hk _ (World.block_lt_of_cell? w _ h1)]
  exact h1
theorem Sl.below (h : Sl w v xs) (hb : Below w.heap.size w w') : Sl w' v xs := h.keep fun _ ha => hb.cell ha
theorem Sl.nil (w : World) (c : Nat) (A : Option Addr) : Sl w (.slice A 0 c) [] := ⟨A, c, rfl, Nat.zero_le _, fun h => absurd h (by simp)⟩
theorem Sl.of_own {B : Nat} {e : TypeId} {n : Nat} (h : w.ownsRow B e 1 v n xs) : Sl w v xs := by
  have hn : xs.length = n := by simpa using h.1
  subst hn
  rcases h.2 with ⟨rfl, hz⟩ | ⟨g, cap, cur, rfl, hB, hg, hnc, hcm, hcs, htake⟩
  · exact ⟨none, 0, by rw [hz], by omega, fun hp => absurd hp (by omega)⟩
  · refine ⟨_, _, rfl, hnc, fun _ => ⟨g, 0, rfl, fun j hj => ?_⟩⟩
    have := h.cells (g := g) rfl j xs[j] (List.getElem?_eq_getElem hj)
    simpa [Addr.add_lit] using this
theorem Sl.len (h : Sl w v xs) : ∃ A c, v = .slice A xs.length c := by obtain ⟨A, c, h, _⟩ := h; exact ⟨A, c, h⟩
/-- A cut x[a:b]. -/
theorem Sl.cut {A : Option Addr} {n c : Nat} (h : Sl w (.slice A n c) xs) {a b : Nat} (hab : a ≤ b) (hb : b ≤ n) {A' : Option Addr} {m c' : Nat}
    (hm : m = b - a) (hc' : c' = c - a) (hA : a < b → ∀ g o, A = some ⟨g, o, none⟩ → A' = some ⟨g, o + a, none⟩) : Sl w (.slice A' m c') ((xs.drop a).take (b - a)) := by
  obtain ⟨A0, c0, e, hc, h⟩ := h
  obtain ⟨rfl, rfl, rfl⟩ : A = A0 ∧ n = xs.length ∧ c = c0 := by injection e with e1 e2 e3; exact ⟨e1, e2, e3⟩
  have hl : ((xs.drop a).take (b - a)).length = b - a := by simp; omega
  refine ⟨A', c', by rw [hl, hm], by omega, fun hp => ?_⟩
  obtain ⟨g, o, hA0, h0⟩ := h (by omega)
  refine ⟨g, o + a, hA (by omega) g o hA0, fun j hj => ?_⟩
  have := h0 (a + j) (by omega)
  rw [show o + a + j = o + (a + j) by omega, this]
  simp
theorem By.keep (h : By w v l) (hk : ∀ a : Addr, a.block < w.heap.size → w'.cell? a = w.cell? a) : By w' v l := Sl.keep h hk
theorem By.below (h : By w v l) (hb : Below w.heap.size w w') : By w' v l := Sl.below h hb
theorem By.below' {W : World} (h : By W v l) (hb : Below W.heap.size W w') (hw : w = w') : By w v l := by subst hw; exact Sl.below h hb
theorem By.alloc (h : By w v l) (o : Obj) : By (w.alloc o) v l := h.keep fun a ha => World.cell?_alloc_lt w o a ha
theorem By.drew (h : By w v l) : By w.drew v l := h
theorem Sl.alloc (h : Sl w v xs) (o : Obj) : Sl (w.alloc o) v xs := h.keep fun a ha => World.cell?_alloc_lt w o a ha
theorem By.len (h : By w v l) : ∃ A c, v = .slice A l.length c := by obtain ⟨A, c, h, _⟩ := h; exact ⟨A, c, by simpa using h⟩
/-- What a byte slice is, laid open. -/
theorem By.parts (h : By w v l) : ∃ A c, v = .slice A l.length c ∧ l.length ≤ c ∧ (0 < l.length → ∃ g o, A = some ⟨g, o, none⟩ ∧ g < w.heap.size ∧ ∀ j (h : j < l.length), w.cell? ⟨g, o + j, none⟩ = some (.int .u8 (l[j].toNat : Int))) := by
  obtain ⟨A, c, h, hc, hr⟩ := h
  refine ⟨A, c, by simpa using h, by simpa using hc, fun hp => ?_⟩
  obtain ⟨g, o, hA, hr0⟩ := hr (by simpa using hp)
  have hr' : ∀ j (h : j < l.length), w.cell? ⟨g, o + j, none⟩ = some (.int .u8 (l[j].toNat : Int)) := fun j hj => by
    have := hr0 j (by simpa using hj); simpa [bv] using this
  exact ⟨g, o, hA, World.block_lt_of_cell? w _ (hr' 0 hp), hr'⟩
theorem By.mk {A : Option Addr} {c : Nat} (hc : l.length ≤ c) (h : 0 < l.length → ∃ g o, A = some ⟨g, o, none⟩ ∧ ∀ j (h : j < l.length), w.cell? ⟨g, o + j, none⟩ = some (.int .u8 (l[j].toNat : Int))) : By w (.slice A l.length c) l := by
  refine ⟨A, c, by simp, by simpa using hc, fun hp => ?_⟩
  obtain ⟨g, o, hA, h⟩ := h (by simpa using hp)
  exact ⟨g, o, hA, fun j hj => by simpa [bv] using h j (by simpa using hj)⟩
theorem By.far (h : By w v l) {p : Addr} (hp : v.ownBlock ≠ some p.block) (u : Value) : By (w.setCell p u) v l := by
  obtain ⟨A, c, rfl, hlc, hr⟩ := h.parts
  refine By.mk hlc fun h0 => ?_
  obtain ⟨g, o, rfl, _, hr0⟩ := hr h0
  refine ⟨g, o, rfl, fun j hj => ?_⟩
  rw [World.cell?_setCell_other _ _ _ _ (fun e => hp (by rw [e]; rfl))]
  exact hr0 j hj
theorem By.cut {A : Option Addr} {n c : Nat} (h : By w (.slice A n c) l) {a b : Nat} (hab : a ≤ b) (hb : b ≤ n) {A' : Option Addr} {m c' : Nat}
    (hm : m = b - a) (hc' : c' = c - a) (hA : a < b → ∀ g o, A = some ⟨g, o, none⟩ → A' = some ⟨g, o + a, none⟩) : By w (.slice A' m c') ((l.drop a).take (b - a)) := by
  have := Sl.cut (xs := l.map bv) h hab hb hm hc' hA
  unfold By
  simpa [List.map_take, List.map_drop] using this
end

/-- Values that read as byte slices, one by one. -/
def Bys (w : World) (vs : List Value) (ls : List (List UInt8)) : Prop :=
  ls.length = vs.length ∧ ∀ (k : Nat) v l, vs[k]? = some v → ls[k]? = some l → By w v l
theorem Bys.nil (w : World) : Bys w [] [] := ⟨rfl, fun _ _ _ h => by simp at h⟩
theorem Bys.snoc {w : World} {vs : List Value} {ls : List (List UInt8)} {v : Value} {l : List UInt8} (h : Bys w vs ls) (hv : By w v l) : Bys w (vs ++ [v]) (ls ++ [l]) := by
  refine ⟨by simp [h.1], fun k u m hu hm => ?_⟩
  rcases Nat.lt_trichotomy k vs.length with hk | hk | hk
  · rw [List.getElem?_append_left hk] at hu; rw [List.getElem?_append_left (by rw [h.1]; exact hk)] at hm; exact h.2 k u m hu hm
  · subst hk
    have e1 : v = u := by simpa using hu
    have e2 : l = m := by rw [← h.1] at hm; simpa using hm
    subst e1; subst e2; exact hv
  · rw [List.getElem?_eq_none (by simp; omega)] at hu; cases hu
theorem Bys.keep {w w' : World} {vs : List Value} {ls : List (List UInt8)} (h : Bys w vs ls) (hk : ∀ v l, By w v l → By w' v l) : Bys w' vs ls := ⟨h.1, fun k v l a b => hk v l (h.2 k v l a b)⟩
theorem Bys.below {w w' : World} {vs : List Value} {ls : List (List UInt8)} (h : Bys w vs ls) (hb : Below w.heap.size w w') : Bys w' vs ls := h.keep fun _ _ h => h.below hb

/-! ## '[]byte(s)', 'string(b)' -/
section
variable {P : Program}
/-- '[]byte(s)': the walk takes it as a rule. -/
theorem run_to_bytes (src dst e : TypeId) {u : TypeDesc} (hs : P.underlying src = some u) (hd : P.underlying dst = some (.slice e)) (he : P.underlying e = some (.int .u8)) (w : World) (s : ByteArray) :
    (convert src dst (.string s)).run P w = .ok (.slice (some ⟨w.heap.size, 0, none⟩) s.size (grownCap w s.size 0 e)) (Lib.bytesWorld w e s) :=
  Lib.run_convert_string_bytes w src dst e s hs hd he
theorem below_bytes (w : World) (e : TypeId) (s : ByteArray) : Below w.heap.size w (Lib.bytesWorld w e s) :=
  ⟨rfl, rfl, rfl, by rw [Lib.bytesWorld_size]; omega, fun k hk => Lib.bytesWorld_at_old w e s k hk⟩
theorem Below.bytes {B : Nat} {a w : World} (h : Below B a w) (hB : B ≤ w.heap.size) (e : TypeId) (s : ByteArray) : Below B a (Lib.bytesWorld w e s) :=
  h.trans ((below_bytes w e s).mono hB)
theorem By.bytes (w : World) (e : TypeId) (l : List UInt8) (c : Nat) (hc : l.length ≤ c) : By (Lib.bytesWorld w e (bs l)) (.slice (some ⟨w.heap.size, 0, none⟩) l.length c) l :=
  By.mk hc fun _ => ⟨_, _, rfl, fun j hj => by
    have := Lib.bytesWorld_cell w e (bs l) j (by rwa [bs_size])
    rw [Nat.zero_add, this]; simp [bs_data', hj]⟩
theorem By.to_bytes (w : World) (e : TypeId) (l : List UInt8) : By (Lib.bytesWorld w e (bs l)) (.slice (some ⟨w.heap.size, 0, none⟩) l.length (grownCap w l.length 0 e)) l :=
  By.bytes w e l _ (grownCap_ge _ _ _ _)
theorem By.to_bytes' (w : World) (e : TypeId) (l : List UInt8) (k c : Nat) (hk : k = w.heap.size) (hc : l.length ≤ c) : By (Lib.bytesWorld w e (bs l)) (.slice (some ⟨k, 0, none⟩) l.length c) l := by
  subst hk; exact By.bytes w e l _ hc
attribute [go_sem] Lib.bytesWorld_size Lib.bytesWorld_old

@[go_sem] theorem bytes_frozen (w : World) (e : TypeId) (s : ByteArray) (b o : Nat) (h : b < w.heap.size) : (Lib.bytesWorld w e s).frozen? ⟨b, o, none⟩ = w.frozen? ⟨b, o, none⟩ :=
  World.frozen?_of_block (Lib.bytesWorld_at_old w e s b h)

theorem run_to_string {w : World} {v : Value} {l : List UInt8} (h : By w v l) (src dst e : TypeId) (hs : P.underlying src = some (.slice e)) (he : P.underlying e = some (.int .u8)) (hd : P.underlying dst = some .string) :
    (convert src dst v).run P w = .ok (.string (bs l)) w := by
  obtain ⟨A, c, rfl, hc, hr⟩ := h.parts
  by_cases h0 : 0 < l.length
  · obtain ⟨g, o, rfl, _, hr0⟩ := hr h0
    rw [run_convert_bytes_arg w src e hs he g o l.length c (l.map fun b => (b.toNat : Int)) (by simp) (fun i hi => by rw [hr0 i hi]; simp [List.getD, hi]) dst hd]
    congr 2
    simp [strOfNums, bs]
    refine (List.map_congr_left (g := id) fun a _ => ?_).trans (List.map_id _)
    simp
  · obtain rfl : l = [] := List.eq_nil_of_length_eq_zero (by omega)
    rw [run_convert_bytes_string w src dst e _ _ c hs he hd]
    rcases A with _ | a
    · simp [Conv.bytesToString, bs]; rfl
    · rw [run_bytesToString w a _ c [] (by simp [loadCells, loadCellsFrom])]; rfl

/-- 'string(b)' as an operation of the walk. -/
theorem wpList_to_string {w : World} {ops : Array Oper} {rest : List Oper} {o : Oper} {a : Act} {Q : Exit → Act → World → Prop} (hgd : Region.wanted o (yielded ops a.tmps) = true) (x : Operand) (src dst e : TypeId)
    (ho : o.op = .convert src dst x) (hs : P.underlying src = some (.slice e)) (he : P.underlying e = some (.int .u8)) (hd : P.underlying dst = some .string)
    (v : Value) (hx : a.eval x = v) (l : List UInt8) (hv : By w v l) (h : wpList P ops Q rest (a.put o.dst (.string (bs l))) w) : wpList P ops Q (o :: rest) a w := by
  refine BigFrame.wpList_want hgd fun K hK => ?_
  have hrun := run_to_string (P := P) hv src dst e hs he hd
  unfold Oper.wp
  simp [execOp, ho, hx, hrun, Result.andThen]
  exact hK _ _ h
end

/-- What a contract's 'Below' gives the walk: old cells and old marks read as before. -/
theorem bcell {W w1 : World} (hb : Below W.heap.size W w1) : (∀ b o, b < W.heap.size → w1.cell? ⟨b, o, none⟩ = W.cell? ⟨b, o, none⟩) ∧ (∀ b o, b < W.heap.size → w1.frozen? ⟨b, o, none⟩ = W.frozen? ⟨b, o, none⟩) :=
  ⟨fun b o h => hb.cell (p := ⟨b, o, none⟩) h, fun b o h => hb.frozen (p := ⟨b, o, none⟩) h⟩

/-! ## A whole struct loaded from its block -/
/-- What lies at a block's number. (A name of its own: simp would turn 'heap[g]?' wherever it knows a bound on g.) -/
def objAt (w : World) (g : Nat) : Option Obj := w.heap[g]?
theorem Below.drewN {B : Nat} {a w : World} (h : Below B a w) (n : Nat) : Below B a (w.drewN n) := ⟨h.os, h.tape, h.output, h.size, h.block⟩
theorem drewN_size (w : World) (n : Nat) : (w.drewN n).heap.size = w.heap.size := rfl
theorem objAt_eq (w : World) (g : Nat) : objAt w g = w.heap[g]? := rfl
@[go_sem] theorem objAt_new (w : World) (o : Obj) : objAt (w.alloc o) w.heap.size = some o := heap_alloc_new w o
@[go_sem] theorem objAt_alloc (w : World) (o : Obj) (k : Nat) (h : k < w.heap.size) : objAt (w.alloc o) k = objAt w k := Below.heap_alloc w o k h
@[go_sem] theorem objAt_drew (w : World) (k : Nat) : objAt w.drew k = objAt w k := rfl
@[go_sem] theorem objAt_bytes (w : World) (e : TypeId) (s : ByteArray) (k : Nat) (h : k < w.heap.size) : objAt (Lib.bytesWorld w e s) k = objAt w k := Lib.bytesWorld_at_old w e s k h
theorem objAt_below {W w1 : World} (hb : Below W.heap.size W w1) : ∀ k, k < W.heap.size → objAt w1 k = objAt W k := hb.block
theorem cell_of_obj {w : World} {g : Nat} {cs : Array Value} {t : TypeId} {fr : Nat × Nat} (h : objAt w g = some (.cells cs t fr)) (i : Nat) : w.cell? ⟨g, i, none⟩ = cs[i]? := cell_of_row w g i cs t fr h
def cellsOf : Option Obj → Array Value | some (.cells cs _ _) => cs | _ => #[]
def rowOK (P : Program) (ty : TypeId) : Option Obj → Bool
  | some (.cells cs _ _) => ((P.info? ty).map (·.size) == some cs.size) && (match P.underlying ty with | some (.struct _) => true | some (.array _ _) => true | _ => false)
  | _ => false
@[go_sem] theorem cellsOf_some (cs : Array Value) (t : TypeId) (fr : Nat × Nat) : cellsOf (some (.cells cs t fr)) = cs := rfl
theorem load_whole {P : Program} (w : World) (g : Nat) (ty : TypeId) (h : rowOK P ty (objAt w g) = true) : (loadVar ty ⟨g, 0, none⟩).run P w = .ok (.agg (cellsOf (objAt w g))) w := by
  unfold rowOK at h
  split at h
  · rename_i cs t fr he
    simp only [Bool.and_eq_true, beq_iff_eq] at h
    rw [he]
    cases hu : P.underlying ty with
    | none => simp [hu] at h
    | some d => exact run_loadVar_row w g t ty cs fr d he hu (by have := h.2; rw [hu] at this; cases d <;> simp_all) h.1
  · cases h
/-- A load, behind a name that the walk opens only where no rule on whole blocks fits. -/
def loadW (ty : TypeId) (v : Value) : Sem Value := Instr.loadAt ty v
attribute [irreducible] loadW
@[go_sem ↓] theorem loadAt_W (ty : TypeId) (v : Value) : Instr.loadAt ty v = loadW ty v := by unfold loadW; rfl
@[go_sem] theorem run_loadW {P : Program} (w : World) (ty : TypeId) (v : Value) : (loadW ty v).run P w = (do let a ← Instr.sureAddr v; loadVar ty a : Sem Value).run P w := by unfold loadW; rfl
/-- The block that a pointer to a whole variable leads to. -/
def blkOf : Value → Nat | .pointer (some a) => a.block | _ => 0
@[go_sem] theorem blkOf_ptr (a : Addr) : blkOf (.pointer (some a)) = a.block := rfl
def wholeOK (P : Program) (w : World) (ty : TypeId) : Value → Bool
  | .pointer (some ⟨g, 0, none⟩) => rowOK P ty (objAt w g)
  | _ => false
@[go_sem] theorem wholeOK_ptr (P : Program) (w : World) (ty : TypeId) (g : Nat) : wholeOK P w ty (.pointer (some ⟨g, 0, none⟩)) = rowOK P ty (objAt w g) := rfl
/-- A struct (or an array) loaded whole: the walk takes it where 'rowOK' of the block is known. -/
@[go_sem ↓] theorem run_load_whole {P : Program} (w : World) (ty : TypeId) (v : Value) (h : wholeOK P w ty v = true) : (loadW ty v).run P w = .ok (.agg (cellsOf (objAt w (blkOf v)))) w := by
  unfold wholeOK at h
  split at h
  · rename_i g
    have := load_whole (P := P) w g ty h
    rw [run_loadW]
    simp [Instr.sureAddr, this, blkOf]
  · cases h
theorem rowOK_mk {P : Program} {ty : TypeId} {cs : Array Value} {d : TypeDesc} (hu : P.underlying ty = some d) (hd : (match d with | .struct _ | .array _ _ => true | _ => false) = true) (hs : (P.info? ty).map (·.size) = some cs.size) (t : TypeId) (fr : Nat × Nat) :
    rowOK P ty (some (.cells cs t fr)) = true := by
  unfold rowOK; rw [hs, hu]; cases d <;> simp_all
/-! ## An owned buffer of bytes -/
/-- Block g is a row of cells that nobody shares, of element type e: just cs. -/
def Blk (w : World) (g : Nat) (e : TypeId) (cs : List Value) : Prop := w.heap[g]? = some (.cells cs.toArray e (0, 0))
/-- Bytes laid over others from a place on. -/
def lay (l : List UInt8) (o : Nat) (x : List UInt8) : List UInt8 := l.take o ++ x ++ l.drop (o + x.length)
theorem lay_length (l : List UInt8) (o : Nat) (x : List UInt8) (h : o + x.length ≤ l.length) : (lay l o x).length = l.length := by simp [lay]; omega

section
variable {w w' : World} {g : Nat} {e : TypeId} {cs : List Value}
theorem Blk.lt (h : Blk w g e cs) : g < w.heap.size := (Array.getElem?_eq_some_iff.1 h).1
theorem Blk.cell (h : Blk w g e cs) (i : Nat) : w.cell? ⟨g, i, none⟩ = cs[i]? := by
  have := cell_of_row w g i cs.toArray e (0, 0) h; simpa using this
theorem Blk.cell_lt (h : Blk w g e cs) (i : Nat) (hi : i < cs.length) : ∃ u, w.cell? ⟨g, i, none⟩ = some u := ⟨cs[i], by rw [h.cell, List.getElem?_eq_getElem hi]⟩
theorem Blk.frozen (h : Blk w g e cs) (i : Nat) : w.frozen? ⟨g, i, none⟩ = false := by unfold Blk at h; simp [World.frozen?, h]
theorem Blk.alloc (h : Blk w g e cs) (o : Obj) : Blk (w.alloc o) g e cs := (Below.heap_alloc w o g h.lt).trans h
theorem Blk.drew (h : Blk w g e cs) : Blk w.drew g e cs := h
theorem Blk.far (h : Blk w g e cs) {p : Addr} (hp : g ≠ p.block) (u : Value) : Blk (w.setCell p u) g e cs := (Below.heap_setCell w p u g hp).trans h
theorem Blk.set (h : Blk w g e cs) (i : Nat) (u : Value) : Blk (w.setCell ⟨g, i, none⟩ u) g e (cs.set i u) := by
  unfold Blk at h ⊢; simp [World.setCell, Array.getElem?_modify, h]
theorem Blk.below {B : Nat} (h : Blk w g e cs) (hb : Below B w w') (hg : g < B) : Blk w' g e cs := (hb.block g hg).trans h
theorem Blk.new (w : World) (e : TypeId) (cs : List Value) : Blk (w.alloc (.cells cs.toArray e)) w.heap.size e cs := heap_alloc_new w _
theorem Blk.new' (w : World) (e : TypeId) (cs : List Value) (k : Nat) (hk : k = w.heap.size) : Blk (w.alloc (.cells cs.toArray e)) k e cs := by subst hk; exact Blk.new w e cs
theorem Blk.setb {l : List UInt8} (h : Blk w g e (l.map bv)) (i : Nat) (b : UInt8) : Blk (w.setCell ⟨g, i, none⟩ (bv b)) g e ((l.set i b).map bv) := by
  rw [List.map_set]; exact h.set i _
theorem Blk.by {l : List UInt8} (h : Blk w g e (l.map bv)) (c : Nat) (hc : l.length ≤ c) : By w (.slice (some ⟨g, 0, none⟩) l.length c) l :=
  By.mk hc fun _ => ⟨g, 0, rfl, fun j hj => by rw [Nat.zero_add, h.cell]; simp [hj, bv]⟩
/-- A part of a buffer, read. -/
theorem Blk.by_part {l : List UInt8} (h : Blk w g e (l.map bv)) (o m c : Nat) (ho : o + m ≤ l.length) (hc : m ≤ c) : By w (.slice (some ⟨g, o, none⟩) m c) ((l.drop o).take m) := by
  have hl : ((l.drop o).take m).length = m := by simp; omega
  have := By.mk (w := w) (A := some ⟨g, o, none⟩) (c := c) (l := (l.drop o).take m) (by omega) (fun _ => ⟨g, o, rfl, fun j hj => by
    rw [h.cell]; simp at hj ⊢; simp [bv, show o + j < l.length by omega]⟩)
  rwa [hl] at this
theorem Blk.own {l : List Value} (h : Blk w g e l) (hm : l.length ≤ maxLen) (B : Nat) (hB : B ≤ g) : w.ownsRow B e 1 (.slice (some ⟨g, 0, none⟩) l.length l.length) l.length l :=
  ⟨by simp, .inr ⟨g, _, l.toArray, rfl, hB, h, Nat.le_refl _, hm, by simp, by simp⟩⟩
end

/-- 'make([]byte, n)'. -/
theorem wpList_make_bytes {P : Program} (w : World) {ops : Array Oper} {rest : List Oper} {o : Oper} {a : Act} {Q : Exit → Act → World → Prop}
    (hg : Region.wanted o (yielded ops a.tmps) = true) (l c : Operand) (t : TypeId) (hop : o.op = Op.makeSlice t l c) (e : TypeId) (h1 : P.underlying t = some (.slice e))
    (hi : (P.info? e).map (fun i => (i.zero, i.size, i.bytes)) = some (some (.int .u8 0), 1, 1))
    (kl kc : IntKind) (L C : Int) (n : Nat) (hl : a.eval l = .int kl L) (hc : a.eval c = .int kc C) (hL : L = (n : Int)) (hC : C = (n : Int)) (b2 : n ≤ 281474976710656)
    (hK : ∀ w', Blk w' w.heap.size e ((List.replicate n (0 : UInt8)).map bv) → Below w.heap.size w w' → w'.heap.size = w.heap.size + 1 → wpList P ops Q rest (a.put o.dst (.slice (some ⟨w.heap.size, 0, none⟩) n n)) w') :
    wpList P ops Q (o :: rest) a w := by
  obtain ⟨i, hi0, hz, hs, hb⟩ := info_parts hi
  refine BigFrame.wpList_want hg fun K hK' => ?_
  have hrun := run_make (P := P) w t e i (.int .u8 0) h1 hi0 hz kl kc (n : Int) (n : Int) (by omega) (Int.le_refl _) (by rw [hb]; omega) (by omega)
  simp only [Int.toNat_natCast] at hrun
  subst hL
  subst hC
  unfold Oper.wp
  simp [execOp, hop, hl, hc, hrun, Result.andThen]
  refine hK' _ _ (hK _ ?_ ((Below.refl _ _).alloc (Nat.le_refl _) _) (by simp))
  show (w.alloc _).heap[w.heap.size]? = _
  rw [heap_alloc_new]
  congr 2
  simp [madeCells, hs]
  apply Array.ext
  · simp
  · intro j h1 h2; simp [bv, Value.cells, Nat.mod_one]
/-- 'append(s, x)', x one element in a block of its own. -/
theorem wpList_append_one {P : Program} {w : World} {ops : Array Oper} {rest : List Oper} {o : Oper} {a : Act} {Q : Exit → Act → World → Prop} (hgd : Region.wanted o (yielded ops a.tmps) = true) (s x : Operand) (t : TypeId)
    (ho : o.op = .call { callee := .builtin .append, args := #[s, x], argTypes := #[t, t] })
    (base : Nat) (e : TypeId) (i : TypeInfo) (z : Value) (bytes : Nat) (ht : P.underlying t = some (.slice e)) (hi : P.info? e = some i) (hz : i.zero = some z)
    (hsize : i.size = 1) (hby : i.bytes = bytes) (hzs : z.cells.size = 1)
    (v : Value) (n : Nat) (xs : List Value) (hs : a.eval s = v) (hown : w.ownsRow base e 1 v n xs)
    (k : Nat) (u : Value) (c : Nat) (hx : a.eval x = .slice (some ⟨k, 0, none⟩) 1 c) (hu : w.cell? ⟨k, 0, none⟩ = some u) (h1 : u.oneCell' = true)
    (h63 : n + 1 ≤ maxLen) (hbytes : (n + 1) * bytes ≤ 140737488355328) (hbase : base ≤ w.heap.size)
    (h : ∀ v' w', w'.ownsRow base e 1 v' (n + 1) (xs ++ [u]) → w.grownBy w' v.ownBlock → wpList P ops Q rest (a.put o.dst v') w') : wpList P ops Q (o :: rest) a w := by
  refine BigFrame.wpList_want hgd fun K hK => ?_
  obtain ⟨v', w', hr, h2, h3, _⟩ := run_append_own (P := P) w base t o.type e i z 1 bytes ht hi hz hsize hby hzs (by omega) v n xs hown ⟨k, 0, none⟩ 1 c [u] rfl
    (by intro j y hy; cases j with | zero => rw [Addr.add_lit, Nat.zero_add, hu]; simpa using hy | succ j => simp at hy) (by simpa using h1) h63 hbytes hbase
  unfold Oper.wp execOp
  simp only [ho, resolve, invoke, builtin, Sem.run_bind, Sem.run_pure, Result.andThen_ok, List.map_toArray, List.map_cons, List.map_nil, hs, hx, hr]
  exact hK _ _ (h v' w' h2 h3)
theorem grown_set {w w' : World} {g : Nat} (h : w.grownBy w' (some g)) (i : Nat) (u : Value) : w.grownBy (w'.setCell ⟨g, i, none⟩ u) (some g) :=
  ⟨h.os, h.tape, h.output, by simpa using h.size, fun k hk hne => (Below.heap_setCell _ _ _ _ (fun e => hne (by rw [e]))).trans (h.block k hk hne)⟩
theorem grown_alloc {w w' : World} {r : Option Nat} (h : w.grownBy w' r) (o : Obj) : w.grownBy (w'.alloc o) r :=
  ⟨h.os, h.tape, h.output, by simp; have := h.size; omega, fun k hk hne => (Below.heap_alloc _ _ _ (Nat.lt_of_lt_of_le hk h.size)).trans (h.block k hk hne)⟩
theorem grown_drew {w w' : World} {r : Option Nat} (h : w.grownBy w' r) : w.grownBy w'.drew r := ⟨h.os, h.tape, h.output, h.size, h.block⟩
theorem grown_trans {w w1 w2 : World} {r : Option Nat} (h : w.grownBy w1 r) (k : w1.grownBy w2 r) : w.grownBy w2 r :=
  ⟨k.os.trans h.os, k.tape.trans h.tape, k.output.trans h.output, Nat.le_trans h.size k.size, fun i hi hne => (k.block i (Nat.lt_of_lt_of_le hi h.size) hne).trans (h.block i hi hne)⟩
theorem grown_below {w w' : World} {r : Option Nat} (h : Below w.heap.size w w') : w.grownBy w' r := ⟨h.os, h.tape, h.output, h.size, fun k hk _ => h.block k hk⟩
/-- The world of a walk under a new name, of which only F is known. -/
theorem wp_abs {P : Program} {c : Code} {Q : Exit → Act → World → Prop} {a : Act} {w : World} (F : World → Prop) (hF : F w) (h : ∀ w', F w' → c.wp P Q a w') : c.wp P Q a w := h w hF
theorem wpList_abs {P : Program} {ops : Array Oper} {l : List Oper} {Q : Exit → Act → World → Prop} {a : Act} {w : World} (F : World → Prop) (hF : F w) (h : ∀ w', F w' → wpList P ops Q l a w') : wpList P ops Q l a w := h w hF
theorem setRow_grown (w : World) (g : Nat) (cs : Array Value) : w.grownBy (w.setRow g cs) (some g) :=
  ⟨rfl, rfl, rfl, by simp [World.setRow], fun k _ hk => setRow_other w g k cs (fun e => hk (by rw [e]))⟩
/-- 'copy(d, x)' into a buffer from a place on, x no longer than what is there. -/
theorem wpList_copy_bytes {P : Program} {w : World} {ops : Array Oper} {rest : List Oper} {o : Oper} {a : Act} {Q : Exit → Act → World → Prop} (hgd : o.guard = none) (d s : Operand) (dT sT : TypeId)
    (ho : o.op = .call { callee := .builtin .copy, args := #[d, s], argTypes := #[dT, sT] }) (elem : TypeId) (hu : P.underlying dT = some (.slice elem)) (hsz : (P.info? elem).map (·.size) = some 1)
    (dp : Option Addr) (dLen dCap : Nat) (hd : a.eval d = .slice dp dLen dCap) (v : Value) (x : List UInt8) (hs : a.eval s = v) (hv : By w v x)
    (g off : Nat) (t : TypeId) (l : List UInt8) (hg : Blk w g t (l.map bv)) (hdp : 0 < x.length → dp = some ⟨g, off, none⟩) (hx : x.length ≤ dLen) (hfit : off + x.length ≤ l.length)
    (h : ∀ w', Blk w' g t ((lay l off x).map bv) → w.grownBy w' (some g) → wpList P ops Q rest (a.put o.dst (goInt x.length)) w') : wpList P ops Q (o :: rest) a w := by
  obtain ⟨A, c, rfl, hlc, hr⟩ := hv.parts
  by_cases h0 : 0 < x.length
  · obtain ⟨g', o', rfl, _, hr0⟩ := hr h0
    obtain rfl := hdp h0
    refine wpList_copy_own hgd d s dT sT ho elem hu hsz g off dLen dCap ⟨g', o', none⟩ x.length c hd hs (l.map bv).toArray t hg (x.map bv) (by rw [List.length_map]; exact (Nat.min_eq_left hx).symm) ?_ (by simpa using hfit) (bvs_one x) ?_
    · intro j u hu
      have hj : j < x.length := by
        rcases Nat.lt_or_ge j x.length with h | h
        · exact h
        · simp [List.getElem?_eq_none (show (x.map bv).length ≤ j by simpa using h)] at hu
      rw [Addr.add_lit, hr0 j hj]; simpa [hj, bv] using hu
    · have e : (((l.map bv).toArray.toList.take off ++ (x.map bv ++ (l.map bv).toArray.toList.drop (off + (x.map bv).length))).toArray) = ((lay l off x).map bv).toArray := by
        simp [lay, List.map_take, List.map_drop]
      rw [e]
      simpa using h _ (setRow_heap w g _ _ t _ hg) (setRow_grown _ _ _)
  · obtain rfl : x = [] := List.eq_nil_of_length_eq_zero (by omega)
    refine wpList_copy_nothing hgd d s dT sT ho elem hu hsz dp A dLen dCap 0 c hd hs (by simp) ?_
    exact h w (by simpa [lay] using hg) (World.grownBy.refl _ _)
theorem Blk.set3 {w : World} {g : Nat} {e : TypeId} {l : List UInt8} (h : Blk w g e (l.map bv)) (x0 x1 x2 : UInt8) :
    Blk (((w.setCell ⟨g, 0, none⟩ (.int .u8 (x0.toNat : Int))).setCell ⟨g, 1, none⟩ (.int .u8 (x1.toNat : Int))).setCell ⟨g, 2, none⟩ (.int .u8 (x2.toNat : Int))) g e ((((l.set 0 x0).set 1 x1).set 2 x2).map bv) :=
  ((h.setb 0 x0).setb 1 x1).setb 2 x2
end Go.Proofs.YtdnjkjoioabhhaaDoor

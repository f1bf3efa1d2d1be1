/- A handshake header as a parameter. -/
import Derived.Test.YtdnjkjoioabhhaaDoorOpenHdr
import Derived.Test.YtdnjkjoioabhhaaDoorHandM
namespace Go.Proofs.YtdnjkjoioabhhaaDoor
open Go.RowKit
set_option maxRecDepth 100000
open Go.ChangeShapes Go.WideShapes
theorem array5 (cs : Array Value) (hs : cs.size = 5) {a b c d e : Value} (h0 : cs.toList[0]? = some a) (h1 : cs.toList[1]? = some b) (h2 : cs.toList[2]? = some c) (h3 : cs.toList[3]? = some d) (h4 : cs.toList[4]? = some e) : cs = #[a, b, c, d, e] := by
  cases cs with | mk l => match l, hs with | [_, _, _, _, _], _ => simp_all
theorem u32_ex {z : Int} (h : (Lit.int .u32 z).wf = true) : ∃ n : Nat, z = (n : Int) ∧ n < 4294967296 := by
  have h' : 0 ≤ z ∧ z ≤ 4294967295 := by simpa [Lit.wf, IntKind.min, IntKind.max, IntKind.signed, IntKind.bits] using h
  exact ⟨z.toNat, by omega, by omega⟩
def HH.ok (h : HH) : Prop := h.ln < 4294967296 ∧ h.sq < 65536 ∧ h.off < 4294967296 ∧ h.fl < 4294967296
theorem open_hh {H : Type} {enc : TypeId × Value → H} {W : World} {base : Nat} {sp : Nat → Bool} {held : Bool} {r : Reach} {b0 : Nat} {v : Value} {d : DataW H} {ps : List MemPlace}
    (hval : Value.okWide Tryd.prog W r b0 71 v) (hd : DataW.Trod enc Tryd.prog W base sp held 71 v d ps) : ∃ h : HH, v = .agg h.cells ∧ h.ok := by
  obtain ⟨cs, rfl, hs, _, n, hf⟩ := open_agg Tryd.underlying71 hval hd
  obtain ⟨z0, e0, w0⟩ := fld_int (hf 0 _ rfl) (by kernel_rfl) Tryd.underlying5
  obtain ⟨z1, e1, w1⟩ := fld_int (hf 1 _ rfl) (by kernel_rfl) Tryd.underlying23
  obtain ⟨z2, e2, w2⟩ := fld_int (hf 2 _ rfl) (by kernel_rfl) Tryd.underlying29
  obtain ⟨z3, e3, w3⟩ := fld_int (hf 3 _ rfl) (by kernel_rfl) Tryd.underlying23
  obtain ⟨z4, e4, w4⟩ := fld_int (hf 4 _ rfl) (by kernel_rfl) Tryd.underlying23
  obtain ⟨b0, rfl⟩ := byte_ex w0
  obtain ⟨n1, rfl, l1⟩ := u32_ex w1
  obtain ⟨n2, rfl, l2⟩ := u16_ex w2
  obtain ⟨n3, rfl, l3⟩ := u32_ex w3
  obtain ⟨n4, rfl, l4⟩ := u32_ex w4
  exact ⟨⟨b0, n1, n2, n3, n4⟩, congrArg Value.agg (array5 cs (hs.trans (by kernel_rfl)) e0 e1 e2 e3 e4), l1, l2, l3, l4⟩
end Go.Proofs.YtdnjkjoioabhhaaDoor

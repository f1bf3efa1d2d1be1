/- A record's header as a parameter. -/
import Derived.Test.YtdnjkjoioabhhaaDoorOpen
import Derived.Test.YtdnjkjoioabhhaaDoorHdrData
namespace Go.Proofs.YtdnjkjoioabhhaaDoor
open Go.RowKit
set_option maxRecDepth 100000
open Go.ChangeShapes Go.WideShapes
theorem array7 (cs : Array Value) (hs : cs.size = 7) {a b c d e f g : Value} (h0 : cs.toList[0]? = some a) (h1 : cs.toList[1]? = some b) (h2 : cs.toList[2]? = some c) (h3 : cs.toList[3]? = some d) (h4 : cs.toList[4]? = some e)
    (h5 : cs.toList[5]? = some f) (h6 : cs.toList[6]? = some g) : cs = #[a, b, c, d, e, f, g] := by
  cases cs with | mk l => match l, hs with | [_, _, _, _, _, _, _], _ => simp_all
theorem u16_ex {z : Int} (h : (Lit.int .u16 z).wf = true) : ∃ n : Nat, z = (n : Int) ∧ n < 65536 := by
  have h' : 0 ≤ z ∧ z ≤ 65535 := by simpa [Lit.wf, IntKind.min, IntKind.max, IntKind.signed, IntKind.bits] using h
  exact ⟨z.toNat, by omega, by omega⟩
theorem u64_ex {z : Int} (h : (Lit.int .u64 z).wf = true) : ∃ n : Nat, z = (n : Int) ∧ n < 18446744073709551616 := by
  have h' : 0 ≤ z ∧ z ≤ 18446744073709551615 := by simpa [Lit.wf, IntKind.min, IntKind.max, IntKind.signed, IntKind.bits] using h
  exact ⟨z.toNat, by omega, by omega⟩
def Hdr.ok (h : Hdr) : Prop := h.sq < 18446744073709551616 ∧ h.ep < 65536 ∧ h.ln < 65536 ∧ h.cid.length ≤ maxLen
theorem open_hdr {H : Type} {enc : TypeId × Value → H} {W : World} {base : Nat} {sp : Nat → Bool} {held : Bool} {r : Reach} {b0 : Nat} {v : Value} {d : DataW H} {ps : List MemPlace}
    (hval : Value.okWide Tryd.prog W r b0 48 v) (hd : DataW.Trod enc Tryd.prog W base sp held 48 v d ps) : ∃ h : Hdr, v = .agg h.cells ∧ h.ok := by
  obtain ⟨cs, rfl, hs, _, n, hf⟩ := open_agg Tryd.underlying48 hval hd
  obtain ⟨z0, e0, w0⟩ := fld_int (hf 0 _ rfl) (by kernel_rfl) Tryd.underlying5
  obtain ⟨z1, e1, w1⟩ := fld_int (hf 1 _ rfl) (by kernel_rfl) Tryd.underlying5
  obtain ⟨z2, e2, w2⟩ := fld_int (hf 2 _ rfl) (by kernel_rfl) Tryd.underlying5
  obtain ⟨z3, e3, w3⟩ := fld_int (hf 3 _ rfl) (by kernel_rfl) Tryd.underlying29
  obtain ⟨z4, e4, w4⟩ := fld_int (hf 4 _ rfl) (by kernel_rfl) Tryd.underlying46
  obtain ⟨z5, e5, w5⟩ := fld_int (hf 5 _ rfl) (by kernel_rfl) Tryd.underlying29
  obtain ⟨s6, e6, w6⟩ := fld_string (hf 6 _ rfl) (by kernel_rfl) Tryd.underlying9
  obtain ⟨b0, rfl⟩ := byte_ex w0
  obtain ⟨b1, rfl⟩ := byte_ex w1
  obtain ⟨b2, rfl⟩ := byte_ex w2
  obtain ⟨n3, rfl, l3⟩ := u16_ex w3
  obtain ⟨n4, rfl, l4⟩ := u64_ex w4
  obtain ⟨n5, rfl, l5⟩ := u16_ex w5
  obtain ⟨l, rfl⟩ := bs_ex s6
  exact ⟨⟨b0, b1, b2, n3, n4, n5, l⟩, congrArg Value.agg (array7 cs (hs.trans (by kernel_rfl)) e0 e1 e2 e3 e4 e5 e6), l4, l3, l5, by rwa [bs_size] at w6⟩
end Go.Proofs.YtdnjkjoioabhhaaDoor

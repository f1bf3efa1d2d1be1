/- Contract of binary.BigEndian.Uint16. -/
import Derived.Test.YtdnjkjoioabhhaaDoorNum
import Derived.Test.YtdnjkjoioabhhaaDoorChecked
import Derived.Lib.EndianBits
namespace Go.Proofs.YtdnjkjoioabhhaaDoor
open Go.RowKit
set_option maxRecDepth 100000

theorem get16 (w : World) (v : Value) (l : List UInt8) (hv : By w v l) (hl : 2 ≤ l.length) :
    Calls Tryd.prog 89 #[.agg #[], v] w fun e w' => e = .returned (.int .u16 ((nat (l.take 2) : Nat) : Int)) ∧ Below w.heap.size w w' := by
  obtain ⟨A, c, rfl, hlc, hr⟩ := hv.parts
  obtain ⟨g, o, rfl, hg, hr0⟩ := hr (by omega)
  obtain ⟨b0, b1, r, rfl⟩ : ∃ b0 b1 r, l = b0 :: b1 :: r := by
    match l, hl with | b0 :: b1 :: r, _ => exact ⟨b0, b1, r, rfl⟩
  have c0 : w.cell? ⟨g, o, none⟩ = some (.int .u8 (b0.toNat : Int)) := hr0 0 (by simp)
  have c1 : w.cell? ⟨g, o + 1, none⟩ = some (.int .u8 (b1.toNat : Int)) := hr0 1 (by simp)
  have d0 : ∀ ob, (w.alloc ob).drew.cell? ⟨g, o, none⟩ = some (.int .u8 (b0.toNat : Int)) := fun ob => (World.cell?_alloc_lt w ob _ hg).trans c0
  have d1 : ∀ ob, (w.alloc ob).drew.cell? ⟨g, o + 1, none⟩ = some (.int .u8 (b1.toNat : Int)) := fun ob => (World.cell?_alloc_lt w ob _ hg).trans c1
  have h0 : b0.toNat < 256 := b0.toNat_lt
  have h1 : b1.toNat < 256 := b1.toNat_lt
  have e : ((nat ((b0 :: b1 :: r).take 2) : Nat) : Int) = (b1.toNat : Int) + (b0.toNat : Int) * 256 := by simp [nat]; omega
  have E := Lib.hid e
  clear hr hr0 hv e
  go_enter Tryd.func89, Tryd.ntmps89
  go_wp2
  go_region
  all_goals
    go_wp2
    go_ret
    refine ⟨?_, by repeat (first | with_reducible exact Below.refl _ _ | with_reducible refine Below.drew ?_ | with_reducible refine Below.drewN ?_ _ | with_reducible refine Below.alloc ?_ (by (try simp only [Lib.bytesWorld_size, World.size_drew, drewN_size, World.size_alloc, World.size_setCell] at *); first | done | omega) _ | with_reducible refine Below.bytes ?_ (by (try simp only [Lib.bytesWorld_size, World.size_drew, drewN_size, World.size_alloc, World.size_setCell] at *); first | done | omega) _ _ | with_reducible refine Below.setCell ?_ (by (try simp only [Lib.bytesWorld_size, World.size_drew, drewN_size, World.size_alloc, World.size_setCell] at *); first | done | omega) _)⟩
    simp (disch := omega) only [u16_or8]
    rw [E.out]; rfl
end Go.Proofs.YtdnjkjoioabhhaaDoor

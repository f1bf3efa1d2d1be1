/- cryptobyte.String: what stands behind its length. -/
import Derived.Test.YtdnjkjoioabhhaaDoorStr
import Derived.Test.YtdnjkjoioabhhaaDoorRegion
import Derived.Lib.EndianBits
import Derived.WalkSpells
namespace Go.Proofs.YtdnjkjoioabhhaaDoor
open Go.RowKit
set_option maxRecDepth 100000

def LPOk (B : Nat) (w : World) (gs go : Nat) (l : List UInt8) (k M : Nat) (e : Ending) (w' : World) : Prop :=
  e = .returned (.bool true) ∧ (∃ v2, Blk w' gs 186 [v2] ∧ StrV B w' v2 (l.drop (k + M))) ∧ (∃ v3, Blk w' go 186 [v3] ∧ StrV B w' v3 ((l.drop k).take M)) ∧ Moved (fun b => b = gs ∨ b = go) w w'
theorem nat_take_succ (lb : List UInt8) (j : Nat) (hj : j < lb.length) : nat (lb.take (j + 1)) = nat (lb.take j) * 256 + (lb[j]).toNat := by
  rw [List.take_add_one, List.getElem?_eq_getElem hj, nat_append]
  simp [nat]
theorem u32_step (N b : Nat) (hN : N < 16777216) (hb : b < 256) : bits .or .u32 ((N : Int) * 256) (b : Int) = (N : Int) * 256 + (b : Int) :=
  bits_join .u32 32 (by decide) wraps_u32 8 _ _ (by omega) (by omega) (by omega) (by omega) (by omega) (by omega)
set_option maxHeartbeats 3200000 in
theorem str_lp (B : Nat) (w : World) (gs go : Nat) (v vo : Value) (l : List UInt8) (k M : Nat) (hB : Blk w gs 186 [v]) (hv : StrV B w v l) (hgs : B ≤ gs) (hBo : Blk w go 186 [vo]) (hgo : B ≤ go) (hne : go ≠ gs)
    (hBw : B ≤ w.heap.size) (hk : k ≤ 3) (hk1 : 1 ≤ k) (hM : nat (l.take k) = M) (hn : k + M ≤ l.length) (hl : l.length ≤ 4294967295) :
    Calls Tryd.prog 112 #[.pointer (some ⟨gs, 0, none⟩), .int .i64 (k : Int), .pointer (some ⟨go, 0, none⟩)] w (LPOk B w gs go l k M) := by
  obtain ⟨lb, hlb⟩ : ∃ lb, lb = l.take k := ⟨_, rfl⟩
  have hlk : lb.length = k := by rw [hlb]; simp; omega
  have hnl : nat lb = M := by rw [hlb, hM]
  have rd : Calls Tryd.prog 111 #[.pointer (some ⟨gs, 0, none⟩), .int .i64 (k : Int)] w (fun e w' => ∃ g1 o1 c1 v2, e = .returned (.slice (some ⟨g1, o1, none⟩) lb.length c1) ∧ g1 < B ∧ By w' (.slice (some ⟨g1, o1, none⟩) lb.length c1) lb ∧ Blk w' gs 186 [v2] ∧ StrV B w' v2 (l.drop k) ∧ w.grownBy w' (some gs)) := by
    refine (str_read B w gs v l k hB hv hgs (by omega) hl).mono ?_
    rintro e w' ⟨v1, v2, rfl, ⟨g1, o1, c1, rfl, hg1, hb1⟩, h2, h3, h4⟩
    rw [← hlb] at hb1 ⊢
    exact ⟨g1, o1, c1, v2, rfl, hg1, hb1, h2, h3, h4⟩
  have rd2 : ∀ (W : World) (v2 : Value), Blk W gs 186 [v2] → StrV B W v2 (l.drop k) → Calls Tryd.prog 111 #[.pointer (some ⟨gs, 0, none⟩), .int .i64 (M : Int)] W (fun e w' => ∃ g1 o1 n1 c1 v3, e = .returned (.slice (some ⟨g1, o1, none⟩) n1 c1) ∧ StrV B w' (.slice (some ⟨g1, o1, none⟩) n1 c1) ((l.drop k).take M) ∧ Blk w' gs 186 [v3] ∧ StrV B w' v3 (l.drop (k + M)) ∧ W.grownBy w' (some gs)) := by
    intro W v2 h1 h2
    refine (str_read B W gs v2 (l.drop k) M h1 h2 hgs (by simp; omega) (by simp; omega)).mono ?_
    rintro e w' ⟨v1, v3, rfl, hv1, h2, h3, h4⟩
    have hv1' := hv1
    obtain ⟨g1, o1, c1, rfl, hg1, hb1⟩ := hv1
    rw [List.drop_drop] at h3
    exact ⟨g1, o1, _, c1, v3, rfl, hv1', h2, h3, h4⟩
  have RD := Lib.hid rd
  have RD2 := Lib.hid rd2
  have HLK := Lib.hid hlk
  have HNL := Lib.hid hnl
  have HBO := Lib.hid hBo
  have hMl : M ≤ 4294967295 := by omega
  have x1 : IntKind.i64.wrap (M : Int) = (M : Int) := by simp [IntKind.wrap, IntKind.bits, IntKind.signed]; omega
  have hlk3 : lb.length ≤ 3 := by omega
  clear hB hv rd rd2 hlk hnl hM hlb hn hBo hl
  have qe := fun (w : World) (a : Option Addr) (n c : Nat) => Lib.run_eql_slice_nil (P := Tryd.prog) w 25 5 a n c 0 0 Tryd.underlying25
  have qn := fun (w : World) (a : Option Addr) (n c : Nat) => run_neq_slice_nil_any (P := Tryd.prog) w 25 5 a n c 0 0 Tryd.underlying25
  go_enter Tryd.func112, Tryd.ntmps112
  go_wp2_with (go_at_call 111; refine RD.out.mono ?_; rintro e w1 ⟨g1, o1, c1, v2, rfl, hg1, hb1, h2, h3, h4⟩; have HB1 := Lib.hid hb1; have H2 := Lib.hid h2; have H3 := Lib.hid h3; have H4 := Lib.hid h4; clear hb1 h2 h3 h4 RD)
  go_loopg [8, 10, 19] lb.length (fun m x8 _ x19 wr => ∃ j : Nat, j ≤ lb.length ∧ m = lb.length - j ∧ x19 = .int .i64 (j : Int) ∧ x8 = .int .u32 ((nat (lb.take j) : Nat) : Int) ∧ wr = w1)
  case atStart => exact ⟨0, Nat.zero_le _, rfl, rfl, rfl, rfl⟩
  case round =>
    obtain ⟨j, hj, rfl, rfl, rfl, rfl⟩ := hrel
    by_cases hlt : j < lb.length
    · have c0 : wr.cell? ⟨g1, o1 + j, none⟩ = some (.int .u8 ((lb[j]).toNat : Int)) := by
        obtain ⟨A, c, e, _, hr⟩ := HB1.out.parts
        obtain ⟨g', o', e', _, hr0⟩ := hr (by omega)
        injection e with e1 _ _
        rw [e'] at e1
        cases e1
        exact hr0 j hlt
      obtain ⟨N, hN⟩ : ∃ N, N = nat (lb.take j) := ⟨_, rfl⟩
      obtain ⟨b, hb⟩ : ∃ b, b = (lb[j]).toNat := ⟨_, rfl⟩
      have hN24 : N < 16777216 := by
        rw [hN]; have := nat_lt (lb.take j); have h2 : (lb.take j).length ≤ 2 := by simp; omega
        have := Nat.pow_le_pow_right (n := 256) (by omega) h2; omega
      have hb8 : b < 256 := by rw [hb]; exact (lb[j]).toNat_lt
      have hs : nat (lb.take (j + 1)) = N * 256 + b := by rw [nat_take_succ lb j hlt, hN, hb]
      rw [← hb] at c0
      rw [← hN]
      have st := u32_step N b hN24 hb8
      have w32 : IntKind.u32.wrap ((N : Int) * 256) = (N : Int) * 256 := by simp [IntKind.wrap, IntKind.bits, IntKind.signed]; omega
      have HS := Lib.hid hs
      clear hs hN hb
      go_wp2_with fail
      go_roundg (lb.length - (j + 1))
      case measure => omega
      case rel => refine ⟨j + 1, by omega, rfl, by go_num, ?_, rfl⟩; rw [HS.out]; go_num
    · have hjl : j = lb.length := by omega
      have hnj : nat (lb.take j) = M := by rw [hjl, List.take_length, HNL.out]
      rw [hnj]
      clear hnj
      subst hjl
      go_wp2_with (go_at_call 111; refine (RD2.out _ _ H2.out H3.out).mono ?_; rintro e w2 ⟨g3, o3, n3, c3, v4, rfl, hv3, hB4, hv4, hG4⟩; have BO := (hG4.block go (by have := HBO.out.lt; have := H4.out.size; omega) (fun e => hne (Option.some.inj e))).trans ((H4.out.block go HBO.out.lt (fun e => hne (Option.some.inj e))).trans HBO.out); have bo : Blk w2 go 186 [vo] := BO; have b0 := bo.cell 0; have f0 := bo.frozen 0; have HBO2 := Lib.hid bo; have HV3 := Lib.hid hv3; have HB4 := Lib.hid hB4; have HV4 := Lib.hid hv4; have HG4 := Lib.hid hG4; clear BO bo hv3 hB4 hv4 hG4 RD2)
      go_ret
      refine ⟨rfl, ⟨v4, HB4.out.far (fun e => hne e.symm) _, HV4.out.set hgo _ _⟩, ⟨_, HBO2.out.set 0 _, HV3.out.set hgo _ _⟩, ?_⟩
      exact (((Moved.of_grown H4.out).mono (fun _ _ h => .inl h)).trans ((Moved.of_grown HG4.out).mono (fun _ _ h => .inl h))).trans ((Moved.of_grown (grown_set (World.grownBy.refl _ _) _ _)).mono (fun _ _ h => .inr h))
theorem str_lp16 (B : Nat) (w : World) (gs go : Nat) (v vo : Value) (l : List UInt8) (M : Nat) (hB : Blk w gs 186 [v]) (hv : StrV B w v l) (hgs : B ≤ gs) (hBo : Blk w go 186 [vo]) (hgo : B ≤ go) (hne : go ≠ gs)
    (hBw : B ≤ w.heap.size) (hM : nat (l.take 2) = M) (hn : 2 + M ≤ l.length) (hl : l.length ≤ 4294967295) :
    Calls Tryd.prog 106 #[.pointer (some ⟨gs, 0, none⟩), .pointer (some ⟨go, 0, none⟩)] w (LPOk B w gs go l 2 M) := by
  have LP := Lib.hid (str_lp B w gs go v vo l 2 M hB hv hgs hBo hgo hne hBw (by omega) (by omega) hM hn hl)
  clear hB hv hBo hM hn hl
  go_enter Tryd.func106, Tryd.ntmps106
  go_wp2_with (go_at_call 112; refine LP.out.mono ?_; rintro e w1 ⟨rfl, h1, h2, h3⟩)
  go_ret
  exact ⟨rfl, h1, h2, h3⟩
def U16Ok (B : Nat) (w : World) (gs gt : Nat) (l : List UInt8) (e : Ending) (w' : World) : Prop :=
  e = .returned (.bool true) ∧ (∃ v2, Blk w' gs 186 [v2] ∧ StrV B w' v2 (l.drop 2)) ∧ Blk w' gt 29 [.int .u16 ((nat (l.take 2) : Nat) : Int)] ∧ Moved (fun b => b = gs ∨ b = gt) w w'
theorem u16_step (a b : Nat) (ha : a < 256) (hb : b < 256) : bits .or .u16 ((a : Int) * 256) (b : Int) = (a : Int) * 256 + (b : Int) :=
  bits_join .u16 16 (by decide) wraps_u16 8 _ _ (by omega) (by omega) (by omega) (by omega) (by omega) (by omega)
set_option maxHeartbeats 3200000 in
theorem str_u16 (B : Nat) (w : World) (gs gt : Nat) (v ut : Value) (l : List UInt8) (hB : Blk w gs 186 [v]) (hv : StrV B w v l) (hgs : B ≤ gs) (hBt : Blk w gt 29 [ut]) (hgt : B ≤ gt) (hne : gt ≠ gs)
    (hBw : B ≤ w.heap.size) (hn : 2 ≤ l.length) (hl : l.length ≤ 4294967295) :
    Calls Tryd.prog 104 #[.pointer (some ⟨gs, 0, none⟩), .pointer (some ⟨gt, 0, none⟩)] w (U16Ok B w gs gt l) := by
  obtain ⟨a, b, r, rfl⟩ : ∃ a b r, l = a :: b :: r := by
    match l, hn with | a :: b :: r, _ => exact ⟨a, b, r, rfl⟩
  have rd : Calls Tryd.prog 111 #[.pointer (some ⟨gs, 0, none⟩), .int .i64 2] w (fun e w' => ∃ g1 o1 c1 v2, e = .returned (.slice (some ⟨g1, o1, none⟩) 2 c1) ∧ g1 < B ∧ w'.cell? ⟨g1, o1, none⟩ = some (.int .u8 (a.toNat : Int)) ∧ w'.cell? ⟨g1, o1 + 1, none⟩ = some (.int .u8 (b.toNat : Int)) ∧ Blk w' gs 186 [v2] ∧ StrV B w' v2 r ∧ w.grownBy w' (some gs)) := by
    refine (str_read B w gs v (a :: b :: r) 2 hB hv hgs hn hl).mono ?_
    rintro e w' ⟨v1, v2, rfl, ⟨g1, o1, c1, rfl, hg1, hb1⟩, h2, h3, h4⟩
    obtain ⟨A, c, e, _, hr⟩ := hb1.parts
    obtain ⟨g', o', e', _, hr0⟩ := hr (by simp)
    injection e with e1 _ _
    rw [e'] at e1
    cases e1
    exact ⟨g1, o1, c1, v2, rfl, hg1, hr0 0 (by simp), hr0 1 (by simp), h2, h3, h4⟩
  obtain ⟨x, hx⟩ : ∃ x, x = a.toNat := ⟨_, rfl⟩
  obtain ⟨y, hy⟩ : ∃ y, y = b.toNat := ⟨_, rfl⟩
  have hx8 : x < 256 := by rw [hx]; exact a.toNat_lt
  have hy8 : y < 256 := by rw [hy]; exact b.toNat_lt
  have hxy : nat ((a :: b :: r).take 2) = x * 256 + y := by rw [hx, hy]; simp [nat]
  rw [← hx, ← hy] at rd
  have RD := Lib.hid rd
  have HXY := Lib.hid hxy
  have HBT := Lib.hid hBt
  have st := u16_step x y hx8 hy8
  have w16 : IntKind.u16.wrap ((x : Int) * 256) = (x : Int) * 256 := by simp [IntKind.wrap, IntKind.bits, IntKind.signed]; omega
  have w16x : IntKind.u16.wrap (x : Int) = (x : Int) := by simp [IntKind.wrap, IntKind.bits, IntKind.signed]; omega
  have w16y : IntKind.u16.wrap (y : Int) = (y : Int) := by simp [IntKind.wrap, IntKind.bits, IntKind.signed]; omega
  have w16z : IntKind.u16.wrap ((x : Int) * 256 + (y : Int)) = (x : Int) * 256 + (y : Int) := by simp [IntKind.wrap, IntKind.bits, IntKind.signed]; omega
  clear hB hv rd hBt hxy hx hy hn hl
  have qe := fun (w : World) (a : Option Addr) (n c : Nat) => Lib.run_eql_slice_nil (P := Tryd.prog) w 25 5 a n c 0 0 Tryd.underlying25
  have qn := fun (w : World) (a : Option Addr) (n c : Nat) => run_neq_slice_nil_any (P := Tryd.prog) w 25 5 a n c 0 0 Tryd.underlying25
  go_enter Tryd.func104, Tryd.ntmps104
  go_wp2_with (go_at_call 111; refine RD.out.mono ?_; rintro e w1 ⟨g1, o1, c1, v2, rfl, hg1, k0, k1, h2, h3, h4⟩; have H2 := Lib.hid h2; have H3 := Lib.hid h3; have H4 := Lib.hid h4; have bt : Blk w1 gt 29 [ut] := (h4.block gt HBT.out.lt (fun e => hne (Option.some.inj e))).trans HBT.out; have HBT1 := Lib.hid bt; have hgl : g1 < w1.heap.size := World.block_lt_of_cell? w1 _ k0; clear h2 h3 h4 RD bt)
  have K0 := Lib.hid k0
  have K1 := Lib.hid k1
  have hgg : g1 ≠ gt := by omega
  clear k0 k1
  refine wp_region_inv2 (by kernel_rfl) [10, 11, 12, 13, 14, 15, 16, 17, 18, 19, 20, 21] (fun i v W => match i with
    | 0 => v = .pointer (some ⟨gt, 0, none⟩)
    | 1 => v = .slice (some ⟨g1, o1, none⟩) 2 c1
    | 2 => v = .pointer (some ⟨g1, o1, none⟩)
    | 3 => v = .int .u8 (x : Int)
    | 4 => v = .int .u16 (x : Int)
    | 5 => v = .int .u16 ((x : Int) * 256)
    | 6 => v = .slice (some ⟨g1, o1, none⟩) 2 c1
    | 7 => v = .pointer (some ⟨g1, o1 + 1, none⟩)
    | 8 => v = .int .u8 (y : Int)
    | 9 => v = .int .u16 (y : Int)
    | 10 => v = .int .u16 ((x : Int) * 256 + (y : Int))
    | 11 => v = .pointer (some ⟨gt, 0, none⟩)
    | 12 => W.cell? ⟨gt, 0, none⟩ = some (.int .u16 ((x : Int) * 256 + (y : Int)))
    | _ => True) (fun W => Hid (∃ u, Blk W gt 29 [u]) ∧ Hid (w1.grownBy W (some gt))) ?hinv0 (by kernel_rfl) (by kernel_rfl) (by kernel_rfl) (by kernel_rfl) ?hsteps ?hfin
  case hinv0 => exact ⟨⟨_, HBT1.out.drew⟩, grown_drew (World.grownBy.refl _ _)⟩
  case hsteps =>
    refine ⟨?_, ?_, ?_, ?_, ?_, ?_, ?_, ?_, ?_, ?_, ?_, ?_, ?_, trivial⟩
    · intro A W hI hb hp K hK; (repeat (obtain ⟨hq, hp⟩ := hp; first | (obtain ⟨_, hv, rfl⟩ := hq rfl _ _ rfl rfl; clear hq) | (obtain ⟨_, hv, hg⟩ := hq rfl _ _ rfl rfl; clear hq) | clear hq)); clear hp; have b1 := hb 1 (by decide); clear hb; go_simp; exact hK _ _ rfl hI (fun _ _ h => h)
    · intro A W hI hb hp K hK; (repeat (obtain ⟨hq, hp⟩ := hp; first | (obtain ⟨_, hv, rfl⟩ := hq rfl _ _ rfl rfl; clear hq) | (obtain ⟨_, hv, hg⟩ := hq rfl _ _ rfl rfl; clear hq) | clear hq)); clear hp; have b1 := hb 5 (by decide); clear hb; go_simp; exact hK _ _ rfl hI (fun _ _ h => h)
    · intro A W hI hb hp K hK; (repeat (obtain ⟨hq, hp⟩ := hp; first | (obtain ⟨_, hv, rfl⟩ := hq rfl _ _ rfl rfl; clear hq) | (obtain ⟨_, hv, hg⟩ := hq rfl _ _ rfl rfl; clear hq) | clear hq)); clear hp; clear hb; go_simp; exact hK _ _ rfl hI (fun _ _ h => h)
    · intro A W hI hb hp K hK; (repeat (obtain ⟨hq, hp⟩ := hp; first | (obtain ⟨_, hv, rfl⟩ := hq rfl _ _ rfl rfl; clear hq) | (obtain ⟨_, hv, hg⟩ := hq rfl _ _ rfl rfl; clear hq) | clear hq)); clear hp; clear hb; have c0 := (World.cell?_of_block (a := ⟨g1, o1, none⟩) (hI.2.out.block g1 hgl (fun e => hgg (Option.some.inj e)))).trans K0.out; go_simp; exact hK _ _ rfl hI (fun _ _ h => h)
    · intro A W hI hb hp K hK; (repeat (obtain ⟨hq, hp⟩ := hp; first | (obtain ⟨_, hv, rfl⟩ := hq rfl _ _ rfl rfl; clear hq) | (obtain ⟨_, hv, hg⟩ := hq rfl _ _ rfl rfl; clear hq) | clear hq)); clear hp; clear hb; go_simp; exact hK _ _ rfl hI (fun _ _ h => h)
    · intro A W hI hb hp K hK; (repeat (obtain ⟨hq, hp⟩ := hp; first | (obtain ⟨_, hv, rfl⟩ := hq rfl _ _ rfl rfl; clear hq) | (obtain ⟨_, hv, hg⟩ := hq rfl _ _ rfl rfl; clear hq) | clear hq)); clear hp; clear hb; go_simp; exact hK _ _ rfl hI (fun _ _ h => h)
    · intro A W hI hb hp K hK; (repeat (obtain ⟨hq, hp⟩ := hp; first | (obtain ⟨_, hv, rfl⟩ := hq rfl _ _ rfl rfl; clear hq) | (obtain ⟨_, hv, hg⟩ := hq rfl _ _ rfl rfl; clear hq) | clear hq)); clear hp; have b1 := hb 5 (by decide); clear hb; go_simp; exact hK _ _ rfl hI (fun _ _ h => h)
    · intro A W hI hb hp K hK; (repeat (obtain ⟨hq, hp⟩ := hp; first | (obtain ⟨_, hv, rfl⟩ := hq rfl _ _ rfl rfl; clear hq) | (obtain ⟨_, hv, hg⟩ := hq rfl _ _ rfl rfl; clear hq) | clear hq)); clear hp; clear hb; go_simp; exact hK _ _ rfl hI (fun _ _ h => h)
    · intro A W hI hb hp K hK; (repeat (obtain ⟨hq, hp⟩ := hp; first | (obtain ⟨_, hv, rfl⟩ := hq rfl _ _ rfl rfl; clear hq) | (obtain ⟨_, hv, hg⟩ := hq rfl _ _ rfl rfl; clear hq) | clear hq)); clear hp; clear hb; have c0 := (World.cell?_of_block (a := ⟨g1, o1 + 1, none⟩) (hI.2.out.block g1 hgl (fun e => hgg (Option.some.inj e)))).trans K1.out; go_simp; exact hK _ _ rfl hI (fun _ _ h => h)
    · intro A W hI hb hp K hK; (repeat (obtain ⟨hq, hp⟩ := hp; first | (obtain ⟨_, hv, rfl⟩ := hq rfl _ _ rfl rfl; clear hq) | (obtain ⟨_, hv, hg⟩ := hq rfl _ _ rfl rfl; clear hq) | clear hq)); clear hp; clear hb; go_simp; exact hK _ _ rfl hI (fun _ _ h => h)
    · intro A W hI hb hp K hK; (repeat (obtain ⟨hq, hp⟩ := hp; first | (obtain ⟨_, hv, rfl⟩ := hq rfl _ _ rfl rfl; clear hq) | (obtain ⟨_, hv, hg⟩ := hq rfl _ _ rfl rfl; clear hq) | clear hq)); clear hp; clear hb; go_simp; exact hK _ _ rfl hI (fun _ _ h => h)
    · intro A W hI hb hp K hK; (repeat (obtain ⟨hq, hp⟩ := hp; first | (obtain ⟨_, hv, rfl⟩ := hq rfl _ _ rfl rfl; clear hq) | (obtain ⟨_, hv, hg⟩ := hq rfl _ _ rfl rfl; clear hq) | clear hq)); clear hp; clear hb; go_simp; exact hK _ _ rfl hI (fun _ _ h => h)
    · intro A W hI hb hp K hK; (repeat (obtain ⟨hq, hp⟩ := hp; first | (obtain ⟨_, hv, rfl⟩ := hq rfl _ _ rfl rfl; clear hq) | (obtain ⟨_, hv, hg⟩ := hq rfl _ _ rfl rfl; clear hq) | clear hq)); clear hp; clear hb; obtain ⟨⟨u, hE⟩, hG⟩ := hI; have c1 : W.cell? ⟨gt, 0, none⟩ = some u := hE.cell 0; have f1 := hE.frozen 0; go_simp; refine hK undef _ ?_ ⟨⟨_, hE.set 0 _⟩, grown_set hG 0 _⟩ (fun j u hg => by revert hg; dsimp only; split <;> first | exact id | exact fun _ => (hE.set 0 (.int .u16 ((x : Int) * 256 + (y : Int)))).cell 0 | (intro h; simpa [go_sem] using h)); exact (hE.set 0 (.int .u16 ((x : Int) * 256 + (y : Int)))).cell 0
  case hfin =>
    intro vf W hgd hI hno
    obtain ⟨_, f2⟩ := hno 12 _ rfl rfl
    obtain ⟨⟨u, hE⟩, hG⟩ := hI
    obtain rfl : u = .int .u16 ((x : Int) * 256 + (y : Int)) := Option.some.inj ((hE.cell 0).symm.trans f2)
    clear hgd hno f2
    simp only [fillAct, List.foldl_cons, List.foldl_nil, List.setIfInBounds_toArray, List.set_cons_zero, List.set_cons_succ]
    have HE := Lib.hid hE
    clear hE
    go_wp2
    go_ret
    have hG' : w1.grownBy W (some gt) := hG
    refine ⟨rfl, ⟨v2, (hG'.block gs H2.out.lt (fun e => hne (Option.some.inj e).symm)).trans H2.out, ?_⟩, ?_, ?_⟩
    · exact H3.out.moved (Moved.of_grown hG') (by have := H4.out.size; omega) (fun k _ e => by rw [e]; exact hgt)
    · have := HE.out
      rw [HXY.out]
      exact this
    · exact ((Moved.of_grown H4.out).mono (fun _ _ h => .inl h)).trans ((Moved.of_grown hG').mono (fun _ _ h => .inr h))
end Go.Proofs.YtdnjkjoioabhhaaDoor

/- Contract of recordlayer.ContentAwareUnpackDatagram, of a datagram of whole records. -/
import Derived.Test.YtcggiljcimhfcaaDoorFramed
import Derived.Test.YtcggiljcimhfcaaDoorGet16
import Derived.Test.YtcggiljcimhfcaaDoorPlain
namespace Go.Proofs.YtcggiljcimhfcaaDoor
open Go.RowKit
set_option maxRecDepth 100000

/-- A record with something in it; a connection ID of q bytes where its kind is 25. -/
def Rec (cl : Nat) (r : List UInt8) : Prop := ∃ k sq cid c, r = frameL k 1 sq cid c ∧ 1 ≤ c.length ∧ c.length ≤ 65535 ∧ cid.length = if k = 25 then cl else 0
/-- What the cutting needs of a record. -/
theorem Rec.parts {cl : Nat} {r : List UInt8} (h : Rec cl r) : ∃ (k : UInt8) (q n : Nat), q = (if k = 25 then cl else 0) ∧ 1 ≤ n ∧ n ≤ 65535 ∧ r.length = 13 + q + n ∧ r[0]? = some k ∧ (r.drop (11 + q)).take 2 = be 2 n := by
  obtain ⟨k, sq, cid, c, rfl, h1, h2, h3⟩ := h
  refine ⟨k, cid.length, c.length, h3, h1, h2, frameL_length _ _ _ _ _, by simp [frameL, headL, frameHdr], ?_⟩
  have e : frameL k 1 sq cid c = ([k, 254, 253] ++ be 2 1 ++ be 6 sq ++ cid) ++ (be 2 c.length ++ c) := by simp [frameL, headL, frameHdr]
  rw [e, List.drop_append, List.take_append]
  have l1 : ([k, 254, 253] ++ be 2 1 ++ be 6 sq ++ cid).length = 11 + cid.length := by simp [be_length]; omega
  rw [List.drop_of_length_le (by omega), l1]
  simp [be_length]
theorem Tryd.infoBytes : (Tryd.prog.info? 26).map (fun i => (i.zero, i.size, i.bytes)) = some (some (.slice none 0 0), 1, 24) := by kernel_rfl
theorem flat_split (R : List (List UInt8)) (j : Nat) (h : j < R.length) : R.flatten = (R.take j).flatten ++ (R[j] ++ (R.drop (j + 1)).flatten) := by
  have e : R = R.take j ++ (R[j] :: R.drop (j + 1)) := by rw [← List.drop_eq_getElem_cons, List.take_append_drop]
  have := congrArg List.flatten e
  rwa [List.flatten_append, List.flatten_cons] at this
theorem owns_below {w w' : World} {B : Nat} {e : TypeId} {v : Value} {n : Nat} {xs : List Value} (h : w.ownsRow B e 1 v n xs) (hb : Below w.heap.size w w') : w'.ownsRow B e 1 v n xs :=
  h.kept (row := none) (grown_below hb) (by cases v.ownBlock <;> simp)
def UnpackPost (w : World) (R : List (List UInt8)) (e : Ending) (w' : World) : Prop :=
  ∃ v vs, e = .returned (.tuple #[v, .nilIface]) ∧ Sl w' v vs ∧ Bys w' vs R ∧ Below w.heap.size w w'
set_option maxHeartbeats 1600000 in
theorem unpackCID (w : World) (v0 : Value) (R : List (List UInt8)) (cl : Nat) (hv : By w v0 R.flatten) (hcl0 : 0 < R.length → cl ≤ 255) (hR : ∀ r ∈ R, Rec cl r) (hl : R.flatten.length ≤ 2147483647) (hRl : R.length ≤ 2147483647) :
    Calls Tryd.prog 22 #[v0, .int .i64 (cl : Int)] w (UnpackPost w R) := by
  have hl' := hl
  obtain ⟨l, hL⟩ : ∃ l, l = R.flatten := ⟨_, rfl⟩
  rw [← hL] at hv hl
  obtain ⟨A, cp, rfl, hlc, hr⟩ := hv.parts
  obtain ⟨i0, hi0, hz0, hz1, hz2⟩ := info_parts Tryd.infoBytes
  have HR := Lib.hid hr
  have HV := Lib.hid hv
  have HL := Lib.hid hL
  clear hr hv hL hl'
  go_enter Tryd.func22, Tryd.ntmps22
  go_wp2_with fail
  go_loopg [6, 7, 8, 9, 10] R.length (fun m v x _ _ _ wr => ∃ (j off : Nat) (vs : List Value), j ≤ R.length ∧ m = R.length - j ∧ Hid (off = (R.take j).flatten.length) ∧ x = .int .i64 (off : Int) ∧
    Hid (wr.ownsRow w.heap.size 26 1 v j vs) ∧ Hid (Bys w vs (R.take j)) ∧ Below w.heap.size w wr)
  case atStart => exact ⟨0, 0, [], Nat.zero_le _, rfl, rfl, rfl, ⟨rfl, .inr ⟨w.heap.size, 0, #[], rfl, Nat.le_refl _, heap_alloc_new w _, by omega, by simp [maxLen], rfl, rfl⟩⟩, Bys.nil _, (Below.refl _ _).alloc (Nat.le_refl _) _⟩
  case round =>
    obtain ⟨j, off, vs, hj, rfl, Ho, rfl, Hown, Hbys, hbr⟩ := hrel
    by_cases hlt : j < R.length
    rotate_left
    · obtain rfl : j = R.length := by omega
      have ho : off = l.length := by rw [Ho.out, HL.out, List.take_length]
      subst ho
      have d0 : ((l.length : Int) != (l.length : Int)) = false := by simp
      go_wp2
      go_ret2
      refine ⟨_, vs, rfl, Sl.of_own Hown.out, ?_, hbr⟩
      have := Hbys.out.below hbr
      rwa [List.take_length] at this
    have hcl := hcl0 (by omega)
    obtain ⟨K, q, n, hq, hn1, hn2, hlen, hK0, hcut⟩ := (hR R[j] (List.getElem_mem hlt)).parts
    have hfl := flat_split R j hlt
    rw [← HL.out] at hfl
    have hoff := Ho.out
    obtain ⟨pre, hpre⟩ : ∃ x, x = (R.take j).flatten := ⟨_, rfl⟩
    obtain ⟨post, hpost⟩ : ∃ x, x = (R.drop (j + 1)).flatten := ⟨_, rfl⟩
    obtain ⟨r, hr⟩ : ∃ x, x = R[j] := ⟨_, rfl⟩
    rw [← hpre, ← hpost, ← hr] at hfl
    rw [← hpre] at hoff
    rw [← hr] at hlen hK0 hcut
    have hll : l.length = off + r.length + post.length := by rw [hfl, hoff]; simp; omega
    obtain ⟨g, o, rfl, hg, hc⟩ := HR.out (by omega)
    have hrow : r = (l.drop off).take r.length := by rw [hfl, hoff]; simp
    have hat : l[off]? = some K := by rw [hfl, hoff, List.getElem?_append_right (Nat.le_refl _), Nat.sub_self, List.getElem?_append_left (by omega)]; exact hK0
    have hnat : nat ((l.drop (off + (11 + q))).take 2) = n := by
      have e : (l.drop (off + (11 + q))).take 2 = be 2 n := by
        rw [← List.drop_drop, show l.drop off = r ++ post by rw [hfl, hoff]; simp, List.drop_append, List.take_append]
        rw [hcut]; simp [be_length, hlen]; omega
      rw [e, nat_be 2 n (by omega)]
    have c0 : wr.cell? ⟨g, o + off, none⟩ = some (.int .u8 (K.toNat : Int)) := by
      rw [hbr.cell (p := ⟨g, o + off, none⟩) hg, hc off (by omega)]
      rw [List.getElem?_eq_getElem (by omega)] at hat
      rw [Option.some.inj hat]
    have HB := Lib.hid (HV.out.below hbr)
    obtain ⟨P, hP⟩ : ∃ P, P = 13 + q + n := ⟨_, rfl⟩
    have HN := Lib.hid hnat
    have HW := Lib.hid hrow
    have HK := Lib.hid (And.intro hr (And.intro hlen hP))
    have hoP : off + P ≤ l.length := by omega
    have hP1 : 14 + q ≤ P := by omega
    have hP2 : P ≤ 65803 + q := by omega
    clear hll hlen hc hfl hoff hat hnat hrow hK0 hcut hr hpre hpost
    have d0 : ((l.length : Int) != (off : Int)) = true := by rw [bne_iff_ne]; omega
    have n16 : n < 65536 := by omega
    by_cases hk : K = 25
    · obtain rfl : q = cl := by rw [hq, if_pos hk]
      clear hq
      have d1 : ((K.toNat : Int) == 25) = true := by subst hk; rfl
      clear hk
      have d2 : decide ((l.length : Int) - (off : Int) ≤ 13 + (q : Int)) = false := by simp; omega
      obtain ⟨ix, hix⟩ : ∃ x, x = 11 + q := ⟨_, rfl⟩
      rw [← hix] at HN
      have hxl : off + ix + 2 ≤ l.length := by omega
      obtain ⟨S, hS⟩ : ∃ S, S = off + ix := ⟨_, rfl⟩
      rw [← hS] at HN
      have hSl : (S : Int) ≤ (l.length : Int) := by omega
      have hSc : ¬ cp = S := by omega
      have hS2 : S + 2 ≤ l.length := by omega
      have x1 : IntKind.i64.wrap ((off : Int) + (11 + (q : Int))) = (S : Int) := by simp [IntKind.wrap, IntKind.bits, IntKind.signed]; omega
      have x2 : IntKind.i64.wrap (n : Int) = (n : Int) := by simp [IntKind.wrap, IntKind.bits, IntKind.signed]; omega
      have x3 : IntKind.i64.wrap (13 + (q : Int) + (n : Int)) = (P : Int) := by simp [IntKind.wrap, IntKind.bits, IntKind.signed]; omega
      have HI := Lib.hid (And.intro hix (And.intro hP hS))
      clear hix hP hS hxl
      go_wp2_with fail
      refine wp_region_inv (by kernel_rfl) [34, 35, 36, 37, 38, 39, 40, 41, 42, 43, 10] (fun i v W => match i with
    | 0 => v = .int .i64 (13 + (q : Int) : Int)
    | 1 => v = .agg #[]
    | 2 => v = .slice (some ⟨g, o, none⟩) l.length cp
    | 3 => v = .int .i64 (off : Int)
    | 4 => v = .int .i64 (11 + (q : Int) : Int)
    | 5 => v = .int .i64 ((S : Int) : Int)
    | 6 => By W v (l.drop S)
    | 7 => v = .int .u16 ((n : Int) : Int)
    | 8 => v = .int .i64 ((n : Int) : Int)
    | 9 => v = .int .i64 ((P : Int) : Int)
    | 10 => v = .int .i64 ((P : Int) : Int)
    | _ => True) (Kept wr) ?hinv0 (by kernel_rfl) (by kernel_rfl) (by kernel_rfl) (by kernel_rfl) ?hsteps ?hfin
      case hinv0 => exact ⟨(Below.refl _ _).drew⟩
      case hsteps =>
        refine ⟨?_, ?_, ?_, ?_, ?_, ?_, ?_, ?_, ?_, ?_, ?_, trivial⟩
        · intro A W hI hb hp K hK; (repeat (obtain ⟨hq, hp⟩ := hp; first | (obtain ⟨_, hv, rfl⟩ := hq rfl _ _ rfl rfl; clear hq) | (obtain ⟨_, hv, hg⟩ := hq rfl _ _ rfl rfl; clear hq) | clear hq)); clear hp; have b1 := hb 8 (by decide); clear hb; go_simp; exact hK _ _ rfl hI (fun _ _ h => h)
        · intro A W hI hb hp K hK; (repeat (obtain ⟨hq, hp⟩ := hp; first | (obtain ⟨_, hv, rfl⟩ := hq rfl _ _ rfl rfl; clear hq) | (obtain ⟨_, hv, hg⟩ := hq rfl _ _ rfl rfl; clear hq) | clear hq)); clear hp; clear hb; go_simp; exact hK _ _ rfl hI (fun _ _ h => h)
        · intro A W hI hb hp K hK; (repeat (obtain ⟨hq, hp⟩ := hp; first | (obtain ⟨_, hv, rfl⟩ := hq rfl _ _ rfl rfl; clear hq) | (obtain ⟨_, hv, hg⟩ := hq rfl _ _ rfl rfl; clear hq) | clear hq)); clear hp; have b1 := hb 0 (by decide); clear hb; go_simp; exact hK _ _ rfl hI (fun _ _ h => h)
        · intro A W hI hb hp K hK; (repeat (obtain ⟨hq, hp⟩ := hp; first | (obtain ⟨_, hv, rfl⟩ := hq rfl _ _ rfl rfl; clear hq) | (obtain ⟨_, hv, hg⟩ := hq rfl _ _ rfl rfl; clear hq) | clear hq)); clear hp; have b1 := hb 7 (by decide); clear hb; go_simp; exact hK _ _ rfl hI (fun _ _ h => h)
        · intro A W hI hb hp K hK; (repeat (obtain ⟨hq, hp⟩ := hp; first | (obtain ⟨_, hv, rfl⟩ := hq rfl _ _ rfl rfl; clear hq) | (obtain ⟨_, hv, hg⟩ := hq rfl _ _ rfl rfl; clear hq) | clear hq)); clear hp; have b1 := hb 9 (by decide); clear hb; go_simp; exact hK _ _ rfl hI (fun _ _ h => h)
        · intro A W hI hb hp K hK; (repeat (obtain ⟨hq, hp⟩ := hp; first | (obtain ⟨_, hv, rfl⟩ := hq rfl _ _ rfl rfl; clear hq) | (obtain ⟨_, hv, hg⟩ := hq rfl _ _ rfl rfl; clear hq) | clear hq)); clear hp; clear hb; go_simp; exact hK _ _ rfl hI (fun _ _ h => h)
        · intro A W hI hb hp K hK; (repeat (obtain ⟨hq, hp⟩ := hp; first | (obtain ⟨_, hv, rfl⟩ := hq rfl _ _ rfl rfl; clear hq) | (obtain ⟨_, hv, hg⟩ := hq rfl _ _ rfl rfl; clear hq) | clear hq)); clear hp; clear hb; have hb := HB.out.below hI.below; go_simp; exact hK _ _ (by have := hb.cut (a := S) (b := l.length) (A' := some ⟨g, o + S, none⟩) (m := l.length - S) (c' := cp - S) (by omega) (Nat.le_refl _) rfl rfl (fun _ g' o' e => by cases e; rfl); rwa [List.take_of_length_le (by simp)] at this) hI (fun _ _ h => h)
        · intro A W hI hb hp K hK; (repeat (obtain ⟨hq, hp⟩ := hp; first | (obtain ⟨_, hv, rfl⟩ := hq rfl _ _ rfl rfl; clear hq) | (obtain ⟨_, hv, hg⟩ := hq rfl _ _ rfl rfl; clear hq) | clear hq)); clear hp; clear hb; go_simp; refine (get16 _ _ _ hg (by simp; omega)).mono ?_; rintro e w1 ⟨rfl, hb1⟩; rw [HN.out]; exact hK _ _ rfl (hI.step hb1) (fun j u hg => by revert hg; dsimp only; split <;> first | exact id | exact fun h => By.below h hb1)
        · intro A W hI hb hp K hK; (repeat (obtain ⟨hq, hp⟩ := hp; first | (obtain ⟨_, hv, rfl⟩ := hq rfl _ _ rfl rfl; clear hq) | (obtain ⟨_, hv, hg⟩ := hq rfl _ _ rfl rfl; clear hq) | clear hq)); clear hp; clear hb; go_simp; exact hK _ _ rfl hI (fun _ _ h => h)
        · intro A W hI hb hp K hK; (repeat (obtain ⟨hq, hp⟩ := hp; first | (obtain ⟨_, hv, rfl⟩ := hq rfl _ _ rfl rfl; clear hq) | (obtain ⟨_, hv, hg⟩ := hq rfl _ _ rfl rfl; clear hq) | clear hq)); clear hp; clear hb; go_simp; exact hK _ _ rfl hI (fun _ _ h => h)
        · intro A W hI hb hp K hK; (repeat (obtain ⟨hq, hp⟩ := hp; first | (obtain ⟨_, hv, rfl⟩ := hq rfl _ _ rfl rfl; clear hq) | (obtain ⟨_, hv, hg⟩ := hq rfl _ _ rfl rfl; clear hq) | clear hq)); clear hp; clear hb; go_simp; exact hK _ _ rfl hI (fun _ _ h => h)
      case hfin =>
        intro vf W hgd hI
        have e10 : vf 10 = _ := hgd.2.2.2.2.2.2.2.2.2.2.1 10 rfl
        simp only [fillAct, List.foldl_cons, List.foldl_nil, List.setIfInBounds_toArray, List.set_cons_zero, List.set_cons_succ]
        rw [e10]
        have i3 : IntKind.i64.wrap ((off : Int) + (P : Int)) = (off : Int) + (P : Int) := by simp [IntKind.wrap, IntKind.bits, IntKind.signed]; omega
        have i4 : decide ((l.length : Int) < (off : Int) + (P : Int)) = false := by simp; omega
        have i5 : (0 : Int) ≤ (off : Int) + (P : Int) := by omega
        have i6 : (off : Int) + (P : Int) ≤ (cp : Int) := by omega
        have i7 : (off : Int) ≤ max ((off : Int) + (P : Int)) 0 := by omega
        have i8 : ¬ cp = off := by omega
        have hbW : Below w.heap.size w W := hbr.trans (hI.below.mono hbr.size)
        have HB2 := Lib.hid (HB.out.below hI.below)
        have hWs := hbW.size
        have Hown2 : Hid (W.ownsRow w.heap.size 26 1 u6 j vs) := owns_below Hown.out hI.below
        clear Hown HB c0 hbr hgd e10
        go_wp2_with (at_builtin; go_loud (refine wpList_append_one rfl _ _ 64 rfl w.heap.size 26 i0 _ 24 Tryd.underlying64 hi0 hz0 hz1 hz2 rfl _ j vs rfl (Hown2.out.alloc _) W.heap.size _ _ rfl (by simp [go_sem]; rfl) rfl (by simp only [maxLen]; omega) (by omega) (by (try simp only [Lib.bytesWorld_size, World.size_drew, drewN_size, World.size_alloc, World.size_setCell] at *); first | done | omega) ?_); intro v' w2 hown2 hg2; have H2 := Lib.hid hown2; have H3 := Lib.hid ((hbW.alloc hbW.size _).grown hg2 (by simp; omega) (fun k hk => (Hown2.out.lt k hk).1)); clear hown2 hg2)
        go_roundg (R.length - (j + 1))
        case measure => omega
        case rel =>
          obtain ⟨hr, hlr, hPP⟩ := HK.out
          have hrl : r.length = P := hlr.trans hPP.symm
          have e1 : R.take (j + 1) = R.take j ++ [r] := by rw [List.take_add_one, List.getElem?_eq_getElem hlt, ← hr]; rfl
          refine ⟨j + 1, off + P, _, by omega, rfl, ?_, by go_num, H2.out, ?_, H3.out⟩
          · show _ = _
            rw [e1, List.flatten_append, List.length_append, ← Ho.out]; simp [hrl]
          · show Bys _ _ _
            rw [e1]
            refine Bys.snoc Hbys.out ?_
            have hw := HW.out
            rw [hw, hrl]
            have := HV.out.cut (a := off) (b := off + P) (A' := some ⟨g, o + off, none⟩) (m := P) (c' := cp - off) (by omega) hoP (by omega) rfl (fun _ g' o' e => by cases e; rfl)
            rw [Nat.add_sub_cancel_left] at this
            exact this
    · obtain rfl : q = 0 := by rw [hq, if_neg hk]
      have d1 : ((K.toNat : Int) == 25) = false := by
        rw [beq_eq_false_iff_ne]; intro h; apply hk; apply UInt8.toNat_inj.1; have : K.toNat = 25 := by exact_mod_cast h
        simpa using this
      clear hq hk
      have d2 : decide ((l.length : Int) - (off : Int) ≤ 13) = false := by simp; omega
      obtain ⟨ix, hix⟩ : ∃ x, x = 11 := ⟨_, rfl⟩
      rw [Nat.add_zero, ← hix] at HN
      have hxl : off + ix + 2 ≤ l.length := by omega
      obtain ⟨S, hS⟩ : ∃ S, S = off + ix := ⟨_, rfl⟩
      rw [← hS] at HN
      have hSl : (S : Int) ≤ (l.length : Int) := by omega
      have hSc : ¬ cp = S := by omega
      have hS2 : S + 2 ≤ l.length := by omega
      have x1 : IntKind.i64.wrap ((off : Int) + ((11 : Int))) = (S : Int) := by simp [IntKind.wrap, IntKind.bits, IntKind.signed]; omega
      have x2 : IntKind.i64.wrap (n : Int) = (n : Int) := by simp [IntKind.wrap, IntKind.bits, IntKind.signed]; omega
      have x3 : IntKind.i64.wrap ((13 : Int) + (n : Int)) = (P : Int) := by simp [IntKind.wrap, IntKind.bits, IntKind.signed]; omega
      have HI := Lib.hid (And.intro hix (And.intro hP hS))
      clear hix hP hS hxl
      go_wp2_with fail
      refine wp_region_inv (by kernel_rfl) [34, 35, 36, 37, 38, 39, 40, 41, 42, 43, 10] (fun i v W => match i with
    | 0 => v = .int .i64 ((13 : Int) : Int)
    | 1 => v = .agg #[]
    | 2 => v = .slice (some ⟨g, o, none⟩) l.length cp
    | 3 => v = .int .i64 (off : Int)
    | 4 => v = .int .i64 ((11 : Int) : Int)
    | 5 => v = .int .i64 ((S : Int) : Int)
    | 6 => By W v (l.drop S)
    | 7 => v = .int .u16 ((n : Int) : Int)
    | 8 => v = .int .i64 ((n : Int) : Int)
    | 9 => v = .int .i64 ((P : Int) : Int)
    | 10 => v = .int .i64 ((P : Int) : Int)
    | _ => True) (Kept wr) ?hinv0 (by kernel_rfl) (by kernel_rfl) (by kernel_rfl) (by kernel_rfl) ?hsteps ?hfin
      case hinv0 => exact ⟨(Below.refl _ _).drew⟩
      case hsteps =>
        refine ⟨?_, ?_, ?_, ?_, ?_, ?_, ?_, ?_, ?_, ?_, ?_, trivial⟩
        · intro A W hI hb hp K hK; (repeat (obtain ⟨hq, hp⟩ := hp; first | (obtain ⟨_, hv, rfl⟩ := hq rfl _ _ rfl rfl; clear hq) | (obtain ⟨_, hv, hg⟩ := hq rfl _ _ rfl rfl; clear hq) | clear hq)); clear hp; have b1 := hb 8 (by decide); clear hb; go_simp; exact hK _ _ rfl hI (fun _ _ h => h)
        · intro A W hI hb hp K hK; (repeat (obtain ⟨hq, hp⟩ := hp; first | (obtain ⟨_, hv, rfl⟩ := hq rfl _ _ rfl rfl; clear hq) | (obtain ⟨_, hv, hg⟩ := hq rfl _ _ rfl rfl; clear hq) | clear hq)); clear hp; clear hb; go_simp; exact hK _ _ rfl hI (fun _ _ h => h)
        · intro A W hI hb hp K hK; (repeat (obtain ⟨hq, hp⟩ := hp; first | (obtain ⟨_, hv, rfl⟩ := hq rfl _ _ rfl rfl; clear hq) | (obtain ⟨_, hv, hg⟩ := hq rfl _ _ rfl rfl; clear hq) | clear hq)); clear hp; have b1 := hb 0 (by decide); clear hb; go_simp; exact hK _ _ rfl hI (fun _ _ h => h)
        · intro A W hI hb hp K hK; (repeat (obtain ⟨hq, hp⟩ := hp; first | (obtain ⟨_, hv, rfl⟩ := hq rfl _ _ rfl rfl; clear hq) | (obtain ⟨_, hv, hg⟩ := hq rfl _ _ rfl rfl; clear hq) | clear hq)); clear hp; have b1 := hb 7 (by decide); clear hb; go_simp; exact hK _ _ rfl hI (fun _ _ h => h)
        · intro A W hI hb hp K hK; (repeat (obtain ⟨hq, hp⟩ := hp; first | (obtain ⟨_, hv, rfl⟩ := hq rfl _ _ rfl rfl; clear hq) | (obtain ⟨_, hv, hg⟩ := hq rfl _ _ rfl rfl; clear hq) | clear hq)); clear hp; have b1 := hb 9 (by decide); clear hb; go_simp; exact hK _ _ rfl hI (fun _ _ h => h)
        · intro A W hI hb hp K hK; (repeat (obtain ⟨hq, hp⟩ := hp; first | (obtain ⟨_, hv, rfl⟩ := hq rfl _ _ rfl rfl; clear hq) | (obtain ⟨_, hv, hg⟩ := hq rfl _ _ rfl rfl; clear hq) | clear hq)); clear hp; clear hb; go_simp; exact hK _ _ rfl hI (fun _ _ h => h)
        · intro A W hI hb hp K hK; (repeat (obtain ⟨hq, hp⟩ := hp; first | (obtain ⟨_, hv, rfl⟩ := hq rfl _ _ rfl rfl; clear hq) | (obtain ⟨_, hv, hg⟩ := hq rfl _ _ rfl rfl; clear hq) | clear hq)); clear hp; clear hb; have hb := HB.out.below hI.below; go_simp; exact hK _ _ (by have := hb.cut (a := S) (b := l.length) (A' := some ⟨g, o + S, none⟩) (m := l.length - S) (c' := cp - S) (by omega) (Nat.le_refl _) rfl rfl (fun _ g' o' e => by cases e; rfl); rwa [List.take_of_length_le (by simp)] at this) hI (fun _ _ h => h)
        · intro A W hI hb hp K hK; (repeat (obtain ⟨hq, hp⟩ := hp; first | (obtain ⟨_, hv, rfl⟩ := hq rfl _ _ rfl rfl; clear hq) | (obtain ⟨_, hv, hg⟩ := hq rfl _ _ rfl rfl; clear hq) | clear hq)); clear hp; clear hb; go_simp; refine (get16 _ _ _ hg (by simp; omega)).mono ?_; rintro e w1 ⟨rfl, hb1⟩; rw [HN.out]; exact hK _ _ rfl (hI.step hb1) (fun j u hg => by revert hg; dsimp only; split <;> first | exact id | exact fun h => By.below h hb1)
        · intro A W hI hb hp K hK; (repeat (obtain ⟨hq, hp⟩ := hp; first | (obtain ⟨_, hv, rfl⟩ := hq rfl _ _ rfl rfl; clear hq) | (obtain ⟨_, hv, hg⟩ := hq rfl _ _ rfl rfl; clear hq) | clear hq)); clear hp; clear hb; go_simp; exact hK _ _ rfl hI (fun _ _ h => h)
        · intro A W hI hb hp K hK; (repeat (obtain ⟨hq, hp⟩ := hp; first | (obtain ⟨_, hv, rfl⟩ := hq rfl _ _ rfl rfl; clear hq) | (obtain ⟨_, hv, hg⟩ := hq rfl _ _ rfl rfl; clear hq) | clear hq)); clear hp; clear hb; go_simp; exact hK _ _ rfl hI (fun _ _ h => h)
        · intro A W hI hb hp K hK; (repeat (obtain ⟨hq, hp⟩ := hp; first | (obtain ⟨_, hv, rfl⟩ := hq rfl _ _ rfl rfl; clear hq) | (obtain ⟨_, hv, hg⟩ := hq rfl _ _ rfl rfl; clear hq) | clear hq)); clear hp; clear hb; go_simp; exact hK _ _ rfl hI (fun _ _ h => h)
      case hfin =>
        intro vf W hgd hI
        have e10 : vf 10 = _ := hgd.2.2.2.2.2.2.2.2.2.2.1 10 rfl
        simp only [fillAct, List.foldl_cons, List.foldl_nil, List.setIfInBounds_toArray, List.set_cons_zero, List.set_cons_succ]
        rw [e10]
        have i3 : IntKind.i64.wrap ((off : Int) + (P : Int)) = (off : Int) + (P : Int) := by simp [IntKind.wrap, IntKind.bits, IntKind.signed]; omega
        have i4 : decide ((l.length : Int) < (off : Int) + (P : Int)) = false := by simp; omega
        have i5 : (0 : Int) ≤ (off : Int) + (P : Int) := by omega
        have i6 : (off : Int) + (P : Int) ≤ (cp : Int) := by omega
        have i7 : (off : Int) ≤ max ((off : Int) + (P : Int)) 0 := by omega
        have i8 : ¬ cp = off := by omega
        have hbW : Below w.heap.size w W := hbr.trans (hI.below.mono hbr.size)
        have HB2 := Lib.hid (HB.out.below hI.below)
        have hWs := hbW.size
        have Hown2 : Hid (W.ownsRow w.heap.size 26 1 u6 j vs) := owns_below Hown.out hI.below
        clear Hown HB c0 hbr hgd e10
        go_wp2_with (at_builtin; go_loud (refine wpList_append_one rfl _ _ 64 rfl w.heap.size 26 i0 _ 24 Tryd.underlying64 hi0 hz0 hz1 hz2 rfl _ j vs rfl (Hown2.out.alloc _) W.heap.size _ _ rfl (by simp [go_sem]; rfl) rfl (by simp only [maxLen]; omega) (by omega) (by (try simp only [Lib.bytesWorld_size, World.size_drew, drewN_size, World.size_alloc, World.size_setCell] at *); first | done | omega) ?_); intro v' w2 hown2 hg2; have H2 := Lib.hid hown2; have H3 := Lib.hid ((hbW.alloc hbW.size _).grown hg2 (by simp; omega) (fun k hk => (Hown2.out.lt k hk).1)); clear hown2 hg2)
        go_roundg (R.length - (j + 1))
        case measure => omega
        case rel =>
          obtain ⟨hr, hlr, hPP⟩ := HK.out
          have hrl : r.length = P := hlr.trans hPP.symm
          have e1 : R.take (j + 1) = R.take j ++ [r] := by rw [List.take_add_one, List.getElem?_eq_getElem hlt, ← hr]; rfl
          refine ⟨j + 1, off + P, _, by omega, rfl, ?_, by go_num, H2.out, ?_, H3.out⟩
          · show _ = _
            rw [e1, List.flatten_append, List.length_append, ← Ho.out]; simp [hrl]
          · show Bys _ _ _
            rw [e1]
            refine Bys.snoc Hbys.out ?_
            have hw := HW.out
            rw [hw, hrl]
            have := HV.out.cut (a := off) (b := off + P) (A' := some ⟨g, o + off, none⟩) (m := P) (c' := cp - off) (by omega) hoP (by omega) rfl (fun _ g' o' e => by cases e; rfl)
            rw [Nat.add_sub_cancel_left] at this
            exact this
end Go.Proofs.YtcggiljcimhfcaaDoor

/- spec.Varint; A reader with a limit; The specification's bytes: multihashes, identifiers; The specification's sections; The specification's header; The specification's file of version 1; where its sections begin; the entries that are generated; Identifiers told; a section's head read; A header read by impl.HdRead. (A part of the proof of this: for every input laws.FnIxMakeHeads returns true and its arguments read as they did, the listed package variables being what the program lays) -/
import Derived.Test.YtochgglejmfelaaGreatDoorSlZ
import Derived.Test.YtochgglejmfelaaGreatDoorG19
import Derived.Test.YtochgglejmfelaaGreatDoorG10
import Derived.Test.YtochgglejmfelaaGreatDoorG14
import Derived.Test.YtochgglejmfelaaGreatDoorG04
import Derived.Stop.Asserts
import Derived.Test.YtochgglejmfelaaGreatDoorG11
import Derived.Test.YtochgglejmfelaaGreatDoorG17
set_option linter.unusedVariables false
set_option linter.unusedSimpArgs false
namespace Go.Sl
open Go
section
variable {x : Cx} {ops : Array Oper} {k : List KI} {s : Slots} {H HS : HP} {fuel : Nat} {listed : Array Bool}
theorem wpAnyH_mono {P : Program} {md : Region.Mode} {Q : Exit → Act → World → Prop} {S S' : World → Prop} (hS : ∀ w, S' w → S w) : ∀ (fuel : Nat) (listed : Array Bool) (a : Act) (w : World), wpAnyH P md ops Q S' fuel listed a w → wpAnyH P md ops Q S fuel listed a w
  | 0, _, _, _, h => h
  | fuel + 1, _, _, _, h => ⟨h.1, fun i hi => wpOp_mono (fun a' w' h' => ⟨hS _ h'.1, wpAnyH_mono hS fuel _ a' w' h'.2⟩) (h.2 i hi)⟩
/-- More is kept from here on. -/
theorem d_more (HS' : HP) (hsub : HS'.Sublist H) (hHS : ∀ p ∈ HS, p ∈ HS') (h : DO x ops k HS' fuel listed s H) : DO x ops k HS fuel listed s H := fun a w hs _ =>
  wpAnyH_mono (fun w hw => ⟨fun p hp => hw.heap p (hHS p hp), hw.glob, hw.fr⟩) _ _ _ _ (h a w hs (hs.less (fun _ _ hv => hv) hsub))
end
end Go.Sl
namespace Go.Proofs
open Go Go.Sl Tryz
set_option maxRecDepth 100000
set_option maxHeartbeats 1000000
theorem snoc_byte {u : List UInt8} {i : Nat} {b : UInt8} {z : Int} (hb : u[i]? = some b) (hz : z = b.toNat) : B (u.take (i + 1)) = B (u.take i) ++ [.int .u8 z] := by
  obtain ⟨hi, rfl⟩ := List.getElem?_eq_some_iff.1 hb
  rw [List.take_succ_eq_append_getElem hi, B_append, hz]
  rfl
theorem wrap8 {q : Nat} (h : q < 128) : IntKind.u8.wrap (q : Int) = (q : Int) := by
  simp [IntKind.wrap, IntKind.bits, IntKind.signed]
  omega
section
variable {G : HP} {x : Nat}
theorem varint_is (hx : x < 18446744073709551616) : Ctr prog 37 [.int .u64 (x : Nat)] G [] (fun r H' => Osl 5 1 r (uv x).length (B (uv x)) H') := by
  have hp := uv_pos x
  have h10 := uv_le x
  refine fn_enter 19 func37 rfl ntmps37 rfl ?_
  intro w0
  refine gn 12 ?_
  refine c_loop (X := Nat × Value × HP) (fun y => [(0, .int .u64 (x / 128 ^ y.1 : Nat)), (3, y.2.1)]) (fun y => y.2.2) (fun y => Osl 5 1 y.2.1 y.1 (B ((uv x).take y.1)) y.2.2 ∧ y.1 < (uv x).length) (fun y => (uv x).length - y.1) (0, .slice none 0 0, []) ⟨.nil, hp⟩ (sub_cons (by show some _ = some _; simp) aK) (.refl _) ?_
  rintro ⟨i, v, HS⟩ ⟨ho, hi'⟩
  simp only at ho hi' ⊢
  refine gn 7 ?_
  refine c_ifp rfl (fun h1 => ?_) (fun h1 => ?_)
  · have hm : i + 1 < (uv x).length := by
      apply Decidable.byContradiction
      intro hc
      have := (uv_last hx (by omega : i + 1 = (uv x).length)).1
      omega
    obtain ⟨h2, h3⟩ := uv_mid hm
    refine gn 9 ?_
    rw [or128 _ (x / 128 ^ i) rfl]
    refine oL (l_bs1 runUnderlying72 sizeOf5 zeroValue5 rfl rfl rfl) ?_; intro g10 _
    refine oL (l_append (sz := 1) (m := 1) (news := [.int .u8 ((128 + x / 128 ^ i % 128 : Nat) : Int)]) underlying72 (info_of typeInfo5) rfl rfl rfl rfl rfl rfl ho (List.perm_append_comm (l₁ := [_]) (l₂ := HS)) (.blk underlying72 (.inl (.head _)) (.take .done) (by simp [Value.oneCell'])) (by show _ * 1 ≤ _; omega) (by omega)) ?_
    rintro ⟨v2, HS2⟩ ho2
    simp only at ho2 ⊢
    refine gn 5 ?_
    refine oX (e_shrk 7 rfl rfl rfl (by decide)) ?_
    refine gn 3 ?_
    refine n_round' (y := (i, v, HS)) (i + 1, v2, HS2) (by show (uv x).length - (i + 1) < (uv x).length - i; omega) ⟨?_, hm⟩ (sub_cons (by rw [← div_step]; rfl) aK) _ (.refl _) (List.sublist_append_left HS2 _)
    show Osl 5 1 v2 (i + 1) (B ((uv x).take (i + 1))) HS2
    rw [snoc_byte h3 (ofNat_z (by omega))]
    exact ho2
  · skip
    have hm : i + 1 = (uv x).length := by
      apply Decidable.byContradiction
      intro hc
      have := (uv_mid (x := x) (by omega : i + 1 < (uv x).length)).1
      omega
    obtain ⟨h2, h3, -⟩ := uv_last hx hm
    refine gn 10 ?_
    refine oL (l_bs1 runUnderlying72 sizeOf5 zeroValue5 rfl rfl rfl) ?_; intro g17 _
    rw [wrap8 h2]
    refine oL (l_append (sz := 1) (m := 1) (news := [.int .u8 ((x / 128 ^ i : Nat) : Int)]) underlying72 (info_of typeInfo5) rfl rfl rfl rfl rfl rfl ho (List.perm_append_comm (l₁ := [_]) (l₂ := HS)) (.blk underlying72 (.inl (.head _)) (.take .done) (by simp [Value.oneCell'])) (by show _ * 1 ≤ _; omega) (by omega)) ?_
    rintro ⟨v2, HS2⟩ ho2
    simp only at ho2 ⊢
    refine gn 4 ?_
    refine WR.less (fun _ _ h => h) (List.sublist_append_left HS2 _) ?_
    refine r_fn1 results37 rfl ?_
    show Osl 5 1 v2 _ _ HS2
    rw [← snoc_byte h3 (ofNat_z (Nat.lt_trans h2 (by decide))), hm, List.take_length] at ho2
    exact ho2
end
end Go.Proofs
namespace Go.Proofs
open Go Go.Sl Tryz
set_option maxRecDepth 100000
set_option maxHeartbeats 1000000
section
variable {G : HP} {gr gs gl n cap i lo hi : Nat} {bs : List UInt8} {rest : List Value}
theorem toBufL_is {gD : Nat} : Ctr prog 159 [.iface 271 (.pointer (some ⟨gl, 0, none⟩)), .slice (some ⟨gD, 0, none⟩) 0 64] G [] (fun r H' => ∃ gB, r = .pointer (some ⟨gB, 0, none⟩) ∧ H' = [(gB, C [.nilIface, .iface 271 (.pointer (some ⟨gl, 0, none⟩)), .slice (some ⟨gD, 0, none⟩) 0 64] 277)]) := by
  refine fn_enter 21 func159 rfl ntmps159 rfl ?_
  intro w0
  refine gn 9 ?_
  refine oX (e_ta (r := .tuple #[.nilIface, .bool false]) rfl (fun w => run_typeAssert_lacksB underlying158 (by kernel_rfl) (by kernel_rfl) _ _ w)) ?_
  refine gn 19 ?_
  refine oX (eB [.nilIface, .iface 271 (.pointer (some ⟨gl, 0, none⟩)), .slice (some ⟨gD, 0, none⟩) 0 64]) ?_
  refine oB ?_; intro g20 _
  refine gn 4 ?_
  refine r_fn1 results159 rfl ?_
  exact ⟨_, rfl, rfl⟩
theorem limRd_is {gb ob L cb m : Nat} {pl : List Value} {e : TypeId} (hD : (gs, DB bs rest lo hi) ∈ G) (hn : bs.length = n) (hc : n ≤ cap) (h63 : cap < 9223372036854775808) (hL : 0 < L) (hLm : L ≤ m) (hm : m < 9223372036854775808) (hi' : i + L ≤ n) (hp : ob + L ≤ pl.length) :
    Ctr prog 393 [.pointer (some ⟨gl, 0, none⟩), .slice (some ⟨gb, ob, none⟩) L cb] G [(gl, C [RV gr, .int .i64 (m : Nat)] 273), (gr, RB gs n cap i), (gb, C pl e)] (fun r H' => r = .tuple #[.int .i64 (L : Nat), .nilIface] ∧ H' = [(gl, C [RV gr, .int .i64 (m - L : Nat)] 273), (gr, RB gs n cap (i + L)), (gb, C (pl.take ob ++ B ((bs.drop i).take L) ++ pl.drop (ob + L)) e)]) := by
  have hrd := read_any (G := G) (gr := gr) (gb := gb) (ob := ob) (L := L) (cb := cb) (k := L) (pl := pl) (e := e) hD hn hc h63 (show i < n by omega) (Nat.min_eq_right (by omega)) hp
  refine fn_enter 42 func393 rfl ntmps393 rfl ?_
  intro w0
  refine gn 16 ?_
  refine c_ifp rfl (fun h => absurd h (by omega)) (fun _ => ?_)
  refine gn 14 ?_
  refine c_ifp rfl (fun h => absurd h (by omega)) (fun _ => ?_)
  refine gn 9 ?_
  refine oL (lI hrd rfl rfl (.cons (.tail .head) (.cons (.tail .head) .nil))) ?_
  rintro ⟨r, H'⟩ ⟨rfl, rfl⟩
  simp only [List.cons_append, List.nil_append]
  refine gn 17 ?_
  refine oT ?_; intro _ _
  refine gn 3 ?_
  refine WR.sel (.cons (.tail (.tail .head)) (.cons .head (.cons .head .nil))) ?_
  refine r_fn (l := [.tmp 4, .tmp 5]) results393 rfl rfl ?_
  exact ⟨rfl, rfl⟩
def limF {gb ob L cb m : Nat} {pl : List Value} {e : TypeId} (hD : (gs, DB bs rest lo hi) ∈ G) (hn : bs.length = n) (hc : n ≤ cap) (h63 : cap < 9223372036854775808) (hL : 0 < L) (hLm : L ≤ m) (hm : m < 9223372036854775808) (hi' : i + L ≤ n) (hp : ob + L ≤ pl.length) : RdF G 271 (.pointer (some ⟨gl, 0, none⟩)) (.slice (some ⟨gb, ob, none⟩) L cb) L [(gl, C [RV gr, .int .i64 (m : Nat)] 273), (gr, RB gs n cap i), (gb, C pl e)] [(gl, C [RV gr, .int .i64 (m - L : Nat)] 273), (gr, RB gs n cap (i + L)), (gb, C (pl.take ob ++ B ((bs.drop i).take L) ++ pl.drop (ob + L)) e)] where
  f := 393
  rv := .pointer (some ⟨gl, 0, none⟩)
  hf := call393
  hm := by intro w; kernel_rfl
  hn := by intro w; kernel_rfl
  hc := limRd_is hD hn hc h63 hL hLm hm hi' hp
theorem bufLB_is {gB gD k m : Nat} {p q : List Value} {z : Value} {b : UInt8} (hD : (gs, DB bs rest lo hi) ∈ G) (hn : bs.length = n) (hc : n ≤ cap) (h63 : cap < 9223372036854775808) (hb : bs[k]? = some b) (hm1 : 0 < m) (hm : m < 9223372036854775808) (hpq : p.length + (q.length + 1) = 64) :
    Ctr prog 394 [.pointer (some ⟨gB, 0, none⟩)] G [(gB, C [.nilIface, .iface 271 (.pointer (some ⟨gl, 0, none⟩)), .slice (some ⟨gD, 0, none⟩) p.length 64] 277), (gD, C (p ++ z :: q) 5), (gl, C [RV gr, .int .i64 (m : Nat)] 273), (gr, RB gs n cap k)] (fun r H' => r = .tuple #[.int .u8 (b.toNat : Nat), .nilIface] ∧ H' = [(gB, C [.nilIface, .iface 271 (.pointer (some ⟨gl, 0, none⟩)), .slice (some ⟨gD, 0, none⟩) (p.length + 1) 64] 277), (gD, C (p ++ .int .u8 (b.toNat : Nat) :: q) 5), (gl, C [RV gr, .int .i64 (m - 1 : Nat)] 273), (gr, RB gs n cap (k + 1))]) := by
  have hk := (List.getElem?_eq_some_iff.1 hb).1
  have hbt : (bs.drop k).take 1 = [b] := by
    obtain ⟨h1, rfl⟩ := List.getElem?_eq_some_iff.1 hb
    rw [List.drop_eq_getElem_cons h1]; rfl
  refine fn_enter 60 func394 rfl ntmps394 rfl ?_
  intro w0
  refine gn 27 ?_
  refine oZ ?_; intro g7 _
  refine gn 4 ?_
  refine c_regiong [5] (by kernel_rfl) ?_
  refine lg [0, 1, 2, 1003, 4] ?_
  refine gL 5 rfl (lC (fullG_is (limF (gl := gl) (gr := gr) (gb := g7) (ob := 0) (L := 1) (cb := 1) (m := m) (pl := [.int .u8 0]) (e := 243) (i := k) hD hn hc h63 (by decide) hm1 hm (by omega) (by decide)) (by decide) (by decide) (by decide)) rfl (.cons (.tail (.tail (.tail .head))) (.cons (.tail (.tail (.tail .head))) (.cons .head .nil)))) ?_
  rintro ⟨r, H'⟩ ⟨rfl, rfl⟩
  simp only [List.cons_append, List.nil_append, hbt]
  rw [show List.take 0 [Value.int .u8 0] ++ B [b] ++ List.drop (0 + 1) [Value.int .u8 0] = [.int .u8 (b.toNat : Nat)] from rfl]
  refine ld [6, 7, 8, 9, 10] ?_
  refine gn 12 ?_
  refine c_regiont ([(g7, C [.int .u8 (b.toNat : Nat)] 243), (gB, C [.nilIface, .iface 271 (.pointer (some ⟨gl, 0, none⟩)), .slice (some ⟨gD, 0, none⟩) p.length 64] 277)]) [11] (by kernel_rfl) (.cons _ (.cons _ (.cons_cons _ (.cons_cons _ (List.nil_sublist _))))) ?_
  refine lt [0, 1, 2, 3, 1004, 5, 1006] ?_
  refine kL 7 rfl (l_bs1 runUnderlying72 sizeOf5 zeroValue5 rfl rfl rfl) ?_
  intro g54 _
  refine kL 8 rfl (l_appR (sz := 1) (m := 1) (L := p ++ .int .u8 (b.toNat : Nat) :: q) underlying72 (info_of typeInfo5) rfl rfl rfl rfl (.tail (.tail (.tail (.tail (.tail .head))))) (by simp; omega) (by omega) (.inr rfl) (.blk underlying72 (.inl (.head _)) (.take .done) (by simp [Value.oneCell'])) (by simp)) ?_
  rintro ⟨⟩ -
  refine lt [9, 10] ?_
  refine tT 11 ?_
  intro _ _
  refine gn 11 ?_
  refine WR.sel (.cons (.tail (.tail (.tail (.tail .head)))) (.cons (.tail (.tail (.tail (.tail .head)))) (.cons (.tail .head) (.cons (.tail .head) .nil)))) ?_
  refine r_fn (l := [.tmp 2, .tmp 3]) results394 rfl rfl ?_
  exact ⟨rfl, rfl⟩
/-- A reader with a limit over a bytes.Reader. -/
def crdL {N : Nat} (hD : (gs, DB bs rest lo hi) ∈ G) (hn : bs.length = n) (hc : n ≤ cap) (h63 : cap < 9223372036854775808) (hN : i + N ≤ n) : CRd G 271 (.pointer (some ⟨gl, 0, none⟩)) (fun k => [(gl, C [RV gr, .int .i64 (N - k : Nat)] 273), (gr, RB gs n cap (i + k))]) ((bs.drop i).take N) where
  dir := .nilIface
  fb := .iface 271 (.pointer (some ⟨gl, 0, none⟩))
  hto := fun _ => toBufL_is
  hby := fun gB gD p q z k b hb hpq => by
    have hk : k < N := by
      have := (List.getElem?_eq_some_iff.1 hb).1
      rw [List.length_take] at this
      omega
    rw [List.getElem?_take_of_lt hk, List.getElem?_drop] at hb
    exact bufLB_is (m := N - k) hD hn hc h63 hb (by omega) (by omega) hpq
  hrd := fun k L gb ob cb pl h1 hL h2 => by
    rw [List.length_take, List.length_drop] at h1
    have hkL : k + L ≤ N := by omega
    have e : (((bs.drop i).take N).drop k).take L = (bs.drop (i + k)).take L := by
      rw [List.drop_take, List.drop_drop, List.take_take, Nat.min_eq_left (by omega)]
    rw [e]
    have hr := limF (gl := gl) (gr := gr) (gb := gb) (ob := ob) (cb := cb) (i := i + k) (L := L) (m := N - k) (pl := pl) (e := 5) hD hn hc h63 hL (by omega) (by omega) (by omega) h2
    refine ⟨hr.f, hr.rv, hr.hf, hr.hm, hr.hn, hr.hc.perm (aP) (fun v K hK => ?_)⟩
    obtain ⟨rfl, rfl⟩ := hK
    refine ⟨_, ?_, rfl, rfl⟩
    rw [show N - (k + L) = N - k - L by omega, ← Nat.add_assoc]
    exact aP
end
end Go.Proofs
namespace Go.Proofs
open Go Go.Sl Tryz
set_option maxRecDepth 100000
set_option maxHeartbeats 1000000
theorem uv_one : uv 1 = [1] := by decide
section
variable {G : HP} {h : Nat} {d : List UInt8} {x : En}
theorem mhBytes_is (hh : h < 18446744073709551616) (hd : d.length ≤ 1000) : Ctr prog 151 [.int .u64 (h : Nat), S d] G [] (fun r H' => r = S (mhB h d) ∧ H' = []) := by
  have u1 := uv_le h
  have u2 := uv_le d.length
  refine fn_enter 16 func151 rfl ntmps151 rfl ?_
  intro w0
  refine gn 6 ?_
  refine c_regiond ([]) (by kernel_rfl) (by first | exact List.Sublist.refl _ | exact List.nil_sublist _ | (repeat constructor)) ?_
  refine ld [0, 3, 4, 5, 9] ?_
  refine dL 1 rfl (lC (varint_is hh) rfl .nil) ?_
  rintro ⟨v1, H1⟩ ho1
  simp only [List.append_nil] at ho1 ⊢
  refine d_more (H1) (List.Sublist.refl _) aG ?_
  refine dX 2 rfl (e_bsO underlying72 underlying5 underlying9 ho1 (fun _ h => h) rfl) ?_
  refine dL 6 rfl (lC (varint_is (x := d.length) (by omega)) rfl .nil) ?_
  rintro ⟨v2, H2⟩ ho2
  simp only at ho2 ⊢
  refine d_more (H2 ++ H1) (List.Sublist.refl _) aG ?_
  refine dX 7 rfl (e_bsO underlying72 underlying5 underlying9 ho2 (fun _ h => List.mem_append_left _ h) rfl) ?_
  refine dX 8 rfl (e_sadd rfl rfl aN) ?_
  refine dX 10 rfl (e_sadd rfl rfl aN) ?_
  refine ld [11] ?_
  refine gn 3 ?_
  refine WR.sel .nil ?_
  refine r_fn1 results151 rfl ?_
  refine ⟨?_, rfl⟩
  simp [mhB, S]
theorem cidBytes_is (ht : Tidy x) (hf : EnFit x) (hd : x.d.length ≤ 200) : Ctr prog 83 [.agg (cC x).toArray] G [] (fun r H' => r = S (cidB x) ∧ H' = []) := by
  obtain ⟨v, c, h, d, o⟩ := x
  obtain ⟨_, _, hc0, hc1, hh0, hh1, _, _⟩ := hf
  simp only at hc0 hc1 hh0 hh1 hd
  simp only [Tidy] at ht
  obtain ⟨c, rfl⟩ := Int.eq_ofNat_of_zero_le hc0
  obtain ⟨h, rfl⟩ := Int.eq_ofNat_of_zero_le hh0
  show Ctr prog 83 [.agg #[.int .u64 v, .int .u64 c, .int .u64 h, S d]] G [] (fun r H' => r = S (cidB ⟨v, c, h, d, o⟩) ∧ H' = [])
  refine fn_enter 24 func83 rfl ntmps83 rfl ?_
  intro w0
  refine gn 2 ?_
  refine oB ?_; intro g1 _
  refine gn 11 ?_
  have hvv : v = 0 ∨ v = 1 := by rcases ht with ⟨h1, _⟩ | ⟨h1, _⟩ <;> omega
  refine c_ifp rfl (fun h5 => ?_) (fun h5 => ?_)
  · have hh : h < 18446744073709551616 := by omega
    refine gn 6 ?_
    refine oL (lC (mhBytes_is hh (by omega)) rfl .nil) ?_
    rintro ⟨r, H'⟩ ⟨rfl, rfl⟩
    simp only [List.nil_append]
    refine gn 4 ?_
    refine WR.sel .nil ?_
    refine r_fn1 results83 rfl ?_
    refine ⟨?_, rfl⟩
    have hv0 : v = 0 := by simpa using h5
    obtain ⟨-, -, h18, -⟩ : v = 0 ∧ (c : Int) = 112 ∧ (h : Int) = 18 ∧ d.length = 32 := by
      rcases ht with h1 | ⟨h1, _⟩
      · exact h1
      · omega
    obtain rfl : h = 18 := by omega
    simp [cidB, hv0]
  · skip
    have hv1 : v = 1 := by
      have : ¬ v = 0 := by simpa using h5
      omega
    have u0 := uv_le 1
    have u1 := uv_le c
    have u2 := uv_le h
    have u3 := mhB_length h d
    have u4 := uv_le d.length
    refine gn 3 ?_
    refine c_regiond ([(g1, C [.int .u64 v, .int .u64 c, .int .u64 h, S d] 25)]) (by kernel_rfl) (by first | exact List.Sublist.refl _ | exact List.nil_sublist _ | (repeat constructor)) ?_
    refine ld [2, 3, 7, 8, 9, 10] ?_
    refine dL 0 rfl (lC (varint_is (x := 1) (by omega)) rfl .nil) ?_
    rintro ⟨v1, H1⟩ ho1
    simp only at ho1 ⊢
    refine d_more (H1 ++ [(g1, C [.int .u64 v, .int .u64 c, .int .u64 h, S d] 25)]) (List.Sublist.refl _) aG ?_
    refine dX 1 rfl (e_bsO underlying72 underlying5 underlying9 ho1 (fun _ h => List.mem_append_left _ h) rfl) ?_
    refine dL 4 rfl (lC (varint_is (x := c) (by omega)) rfl .nil) ?_
    rintro ⟨v2, H2⟩ ho2
    simp only at ho2 ⊢
    refine d_more (H2 ++ (H1 ++ [(g1, C [.int .u64 v, .int .u64 c, .int .u64 h, S d] 25)])) (List.Sublist.refl _) aG ?_
    refine dX 5 rfl (e_bsO underlying72 underlying5 underlying9 ho2 (fun _ h => List.mem_append_left _ h) rfl) ?_
    refine dX 6 rfl (e_sadd rfl rfl aN) ?_
    refine dL 11 rfl (lC (mhBytes_is (h := h) (d := d) (by omega) (by omega)) rfl .nil) ?_
    rintro ⟨r, H'⟩ ⟨rfl, rfl⟩
    simp only [List.nil_append]
    refine dX 12 rfl (e_sadd rfl rfl aN) ?_
    refine ld [13] ?_
    refine gn 3 ?_
    refine WR.sel .nil ?_
    refine r_fn1 results83 rfl ?_
    refine ⟨?_, rfl⟩
    simp [cidB, hv1, uv_one]
end
end Go.Proofs
namespace Go.Proofs
open Go Go.Sl Tryz
set_option maxRecDepth 100000
set_option maxHeartbeats 1000000
section
variable {G : HP} {x : En} {dat : List UInt8}
theorem section_is (hx : CidOk x) (hd : dat.length ≤ 1000000) : Ctr prog 50 [.agg #[.int .u64 x.v, .int .u64 x.c, .int .u64 x.h, S x.d, S dat]] G [] (fun r H' => r = S (secB (x, dat)) ∧ H' = []) := by
  have hcl := cidB_len hx.ht hx.hd
  have u1 := uv_le ((cidB x).length + dat.length)
  refine fn_enter 21 func50 rfl ntmps50 rfl ?_
  intro w0
  refine gn 2 ?_
  refine oB ?_; intro g1 _
  refine gn 7 ?_
  refine oL (lC (cidBytes_is hx.ht hx.hf hx.hd) rfl .nil) ?_
  rintro ⟨r, H'⟩ ⟨rfl, rfl⟩
  simp only [List.nil_append]
  refine gn 4 ?_
  refine c_regiond ([(g1, C [.int .u64 x.v, .int .u64 x.c, .int .u64 x.h, S x.d, S dat] 98)]) (by kernel_rfl) (by first | exact List.Sublist.refl _ | exact List.nil_sublist _ | (repeat constructor)) ?_
  refine ld [0, 1, 2, 3, 4, 5, 6, 9, 11, 12] ?_
  refine dL 7 rfl (lC (varint_is (x := (cidB x).length + dat.length) (by omega)) rfl .nil) ?_
  rintro ⟨v1, H1⟩ ho1
  simp only at ho1 ⊢
  refine d_more (H1 ++ [(g1, C [.int .u64 x.v, .int .u64 x.c, .int .u64 x.h, S x.d, S dat] 98)]) (List.Sublist.refl _) aG ?_
  refine dX 8 rfl (e_bsO underlying72 underlying5 underlying9 ho1 (fun _ h => List.mem_append_left _ h) rfl) ?_
  refine dX 10 rfl (e_sadd rfl rfl aN) ?_
  refine dX 13 rfl (e_sadd rfl rfl aN) ?_
  refine ld [14] ?_
  refine gn 3 ?_
  refine WR.sel .nil ?_
  refine r_fn1 results50 rfl ?_
  refine ⟨?_, rfl⟩
  simp [secB]
theorem or5_all : (List.range 8).all (fun m => (List.range 32).all fun k => ib .or .u8 (IntKind.u8.wrap (((m : Nat) : Int) * 2 ^ min (Int.toNat 5) IntKind.u8.bits)) ((k : Nat) : Int) == ((m * 32 + k : Nat) : Int)) = true := by decide +kernel
theorem or5 {m k : Nat} (hm : m < 8) (hk : k < 32) : ib .or .u8 (IntKind.u8.wrap (((m : Nat) : Int) * 2 ^ min (Int.toNat 5) IntKind.u8.bits)) ((k : Nat) : Int) = ((m * 32 + k : Nat) : Int) := by
  have h1 := List.all_eq_true.1 or5_all m (List.mem_range.2 hm)
  have h2 := List.all_eq_true.1 h1 k (List.mem_range.2 hk)
  exact eq_of_beq h2
theorem byteV {k : Nat} (h : k < 256) : Value.int .u8 ((k : Nat) : Int) = Value.int .u8 ((UInt8.ofNat k).toNat : Int) := by
  rw [ofNat_z h]
theorem head_is {m n : Nat} (hm : m < 8) (hn : n < 256) : Ctr prog 81 [.int .u8 (m : Nat), .int .u64 (n : Nat)] G [] (fun r H' => r = S (hdB (m * 32) n) ∧ H' = []) := by
  have o1 : ib .or .u8 (IntKind.u8.wrap (((m : Nat) : Int) * 2 ^ min (Int.toNat 5) IntKind.u8.bits)) 24 = ((m * 32 + 24 : Nat) : Int) := or5 (m := m) (k := 24) hm (by decide)
  refine fn_enter 75 func81 rfl ntmps81 rfl ?_
  intro w0
  refine gn 21 ?_
  refine c_ifp rfl (fun h1 => ?_) (fun h1 => ?_)
  · have o2 := or5 (m := m) (k := n) hm (by omega)
    refine gn 6 ?_
    rw [o2, byteV (k := m * 32 + n) (by omega)]
    refine oL (l_bs1 runUnderlying72 sizeOf5 zeroValue5 rfl rfl rfl) ?_; intro g17 _
    refine oX (e_bs (bs := [UInt8.ofNat (m * 32 + n)]) underlying72 underlying5 underlying9 rfl (.inl (.head _)) (.take .done)) ?_
    refine gn 4 ?_
    refine WR.sel .nil ?_
    refine r_fn1 results81 rfl ?_
    exact ⟨by rw [hdB, if_pos (by omega)], rfl⟩
  · skip
    refine gn 7 ?_
    refine c_ifp rfl (fun h2 => ?_) (fun h2 => ?_)
    · refine gn 6 ?_
      rw [o1, byteV (k := m * 32 + 24) (by omega), byteV (k := n) hn]
      refine oL (l_bs (l := B [UInt8.ofNat (m * 32 + 24), UInt8.ofNat n]) runUnderlying72 sizeOf5 zeroValue5 rfl rfl rfl rfl (by kernel_rfl)) ?_
      intro g26 _
      refine oX (e_bs (bs := [UInt8.ofNat (m * 32 + 24), UInt8.ofNat n]) underlying72 underlying5 underlying9 rfl (.inl (.head _)) (.take (.take .done))) ?_
      refine gn 4 ?_
      refine WR.sel .nil ?_
      refine r_fn1 results81 rfl ?_
      exact ⟨by rw [hdB, if_neg (by omega)], rfl⟩
    · omega
end
end Go.Proofs
namespace Go.Proofs
open Go Go.Sl Tryz
set_option maxRecDepth 100000
set_option maxHeartbeats 1000000
/-- A row of things, each of so many cells. -/
inductive RwS {α : Type} (f : α → List Value) (sz : Nat) (H : HP) : Value → List α → Prop where
  | emp {A : Option Addr} {cap : Nat} : RwS f sz H (.slice A 0 cap) []
  | blk {l : List α} {L : List Value} {g off n cap : Nat} {e : TypeId} {fr : Nat × Nat} (hm : (g, Obj.cells L.toArray e fr) ∈ H) (hn : l.length = n) (hc : ∀ i (h : i < l.length), CutL L (off + i * sz) sz (f l[i])) : RwS f sz H (.slice (some ⟨g, off, none⟩) n cap) l
theorem hdB_len (b n : Nat) : (hdB b n).length ≤ 2 := by
  unfold hdB; split <;> simp
theorem RwS.shape {α : Type} {f : α → List Value} {sz : Nat} {H : HP} {v : Value} {l : List α} (h : RwS f sz H v l) : ∃ A cap, v = .slice A l.length cap := by
  cases h with
  | emp => exact ⟨_, _, rfl⟩
  | blk hm hn hc => rw [hn]; exact ⟨_, _, rfl⟩
theorem RwS.at {α : Type} {f : α → List Value} {sz : Nat} {H : HP} {A : Option Addr} {n c : Nat} {l : List α} (h : RwS f sz H (.slice A n c) l) {i : Nat} (hi : i < l.length) : ∃ (g off : Nat) (L : List Value) (e : TypeId) (fr : Nat × Nat), A = some ⟨g, off, none⟩ ∧ (g, Obj.cells L.toArray e fr) ∈ H ∧ CutL L (off + i * sz) sz (f l[i]) := by
  generalize hv : Value.slice A n c = v0 at h
  cases h with
  | emp => simp at hi
  | blk hm hn hc =>
    injection hv with h1 h2 h3
    exact ⟨_, _, _, _, _, h1, hm, hc i hi⟩
theorem RwS.mono {α : Type} {f : α → List Value} {sz : Nat} {H K : HP} {v : Value} {l : List α} (h : RwS f sz H v l) (hs : ∀ p ∈ H, p ∈ K) : RwS f sz K v l := by
  cases h with
  | emp => exact .emp
  | blk hm hn hc => exact .blk (hs _ hm) hn hc
section
variable {G : HP} {x : En} {xs : List En} {vr : Value}
theorem link_is (hx : CidOk x) : Ctr prog 82 [.agg (cC x).toArray] G [] (fun r H' => r = S (linkB x) ∧ H' = []) := by
  have hcl := cidB_len hx.ht hx.hd
  show Ctr prog 82 [.agg #[.int .u64 x.v, .int .u64 x.c, .int .u64 x.h, S x.d]] G [] (fun r H' => r = S (linkB x) ∧ H' = [])
  refine fn_enter 16 func82 rfl ntmps82 rfl ?_
  intro w0
  refine gn 2 ?_
  refine oB ?_; intro g1 _
  refine gn 6 ?_
  refine oL (lC (cidBytes_is hx.ht hx.hf hx.hd) rfl .nil) ?_
  rintro ⟨r, H'⟩ ⟨rfl, rfl⟩
  simp only [List.nil_append]
  refine gn 5 ?_
  refine oL (lC (head_is (m := 6) (n := 42) (by decide) (by decide)) rfl .nil) ?_
  rintro ⟨r, H'⟩ ⟨rfl, rfl⟩
  simp only [List.nil_append]
  refine gn 4 ?_
  refine oL (lC (head_is (m := 2) (n := (cidB x).length + 1) (by decide) (by omega)) rfl .nil) ?_
  rintro ⟨r, H'⟩ ⟨rfl, rfl⟩
  simp only [List.nil_append]
  have hb := hdB_len 64 ((cidB x).length + 1)
  have hc := hdB_len 192 42
  refine oX (e_sadd rfl rfl aN) ?_
  refine oX (e_sadd rfl rfl aN) ?_
  refine gn 1 ?_
  refine oX (e_sadd rfl rfl aN) ?_
  refine gn 4 ?_
  refine WR.sel .nil ?_
  refine r_fn1 results82 rfl ?_
  refine ⟨?_, rfl⟩
  have e1 : hdB (6 * 32) 42 = [216, 42] := by decide
  rw [e1]
  simp [linkB]
theorem linkB_len (hx : CidOk x) : (linkB x).length ≤ 240 := by
  have h1 := cidB_len hx.ht hx.hd
  have h2 := hdB_len 64 ((cidB x).length + 1)
  simp only [linkB, List.length_cons, List.length_append]
  omega
theorem links_len : ∀ {xs : List En}, (∀ x ∈ xs, CidOk x) → (xs.flatMap linkB).length ≤ xs.length * 240
  | [], _ => by simp
  | x :: xs, h => by
    have h1 := linkB_len (h x (.head _))
    have h2 := links_len (xs := xs) fun y hy => h y (.tail _ hy)
    simp only [List.flatMap_cons, List.length_append, List.length_cons]
    omega
theorem headB_len (h : ∀ x ∈ xs, CidOk x) : (headB xs).length ≤ xs.length * 240 + 30 := by
  have h1 := links_len h
  have h2 := hdB_len 128 xs.length
  have h3 : rootsT.length = 5 := rfl
  have h4 : versT.length = 7 := rfl
  simp only [headB, List.length_cons, List.length_append, List.length_nil, h3, h4]
  omega
theorem headerBytes_is (hv : RwS cC 4 G vr xs) (hn : xs.length ≤ 200) (hok : ∀ x ∈ xs, CidOk x) : Ctr prog 49 [vr, .int .u64 1] G [] (fun r H' => r = S (hedB xs) ∧ H' = []) := by
  obtain ⟨A0, c0, rfl⟩ := hv.shape
  have hll := links_len hok
  have e1 : hdB (5 * 32) 2 = [162] := by decide
  have e2 : hdB (3 * 32) 5 = [101] := by decide
  have e3 : hdB (3 * 32) 7 = [103] := by decide
  have e4 : hdB (0 * 32) 1 = [1] := by decide
  have hb := hdB_len 128 xs.length
  refine fn_enter 42 func49 rfl ntmps49 rfl ?_
  intro w0
  refine gn 7 ?_
  refine oL (lC (head_is (m := 5) (n := 2) (by decide) (by decide)) rfl .nil) ?_
  rintro ⟨r, H'⟩ ⟨rfl, rfl⟩
  simp only [List.nil_append]
  rw [e1]
  refine oL (lC (head_is (m := 3) (n := 5) (by decide) (by decide)) rfl .nil) ?_
  rintro ⟨r, H'⟩ ⟨rfl, rfl⟩
  simp only [List.nil_append]
  rw [e2]
  refine oX (e_sadd rfl rfl aN) ?_
  refine oX (e_sadd rfl rfl aN) ?_
  refine gn 3 ?_
  refine oL (lC (head_is (m := 4) (n := xs.length) (by decide) (by omega)) rfl .nil) ?_
  rintro ⟨r, H'⟩ ⟨rfl, rfl⟩
  simp only [List.nil_append]
  refine oX (e_sadd rfl rfl aN) ?_
  refine gn 12 ?_
  obtain ⟨p0, hp0⟩ : ∃ p0 : List UInt8, p0 = [162] ++ [101] ++ [114, 111, 111, 116, 115] ++ hdB (4 * 32) xs.length := ⟨_, rfl⟩
  rw [← hp0]
  have hpl : p0.length ≤ 9 := by
    have h1 := hdB_len (4 * 32) xs.length
    rw [hp0]
    simp only [List.length_append, List.length_cons, List.length_nil]
    omega
  refine c_loop (X := Nat) (fun i => [(1, .int .u64 1), (5, S (p0 ++ (xs.take i).flatMap linkB)), (17, .slice A0 xs.length c0), (18, .int .i64 xs.length), (19, .int .i64 i)]) (fun _ => []) (fun i => i ≤ xs.length) (fun i => xs.length - i) 0 (Nat.zero_le _) (sub_cons rfl (sub_cons (by show some (S p0) = some (S (p0 ++ [])); rw [List.append_nil]) aK)) (.refl _) ?_
  intro i hi0
  refine gn 6 ?_
  refine c_ifp rfl (fun h2 => ?_) (fun h2 => ?_)
  · have hi3 : i < xs.length := by omega
    obtain ⟨gS, off, LS, eS, frS, rfl, hmS, hcS⟩ := hv.at hi3
    have hx := hok xs[i] (List.getElem_mem _)
    have hl1 := linkB_len hx
    have hl2 := links_len (xs := xs.take i) fun x hx => hok x (List.mem_of_mem_take hx)
    have hl3 : (xs.take i).length ≤ 200 := by rw [List.length_take]; omega
    refine gn 8 ?_
    refine oZ ?_; intro g7 _
    refine oL (l_storea sizeOf25 rfl rfl rfl (by simp [cC, Value.oneCell']) .head (.take (.take (.take (.take .done)))) nofrs0) ?_
    intro _ _
    refine gn 5 ?_
    refine oL (lC (link_is hx) rfl .nil) ?_
    rintro ⟨r, H'⟩ ⟨rfl, rfl⟩
    simp only [List.nil_append]
    refine oX (e_sadd rfl rfl aN) ?_
    refine gn 8 ?_
    refine n_round' (y := i) (i + 1) (by omega) (by omega) (sub_cons rfl (sub_cons ?_ aK)) _ (.refl _) (List.nil_sublist _)
    show some (S (p0 ++ (xs.take i).flatMap linkB ++ linkB xs[i])) = some (S (p0 ++ (xs.take (i + 1)).flatMap linkB))
    rw [List.take_succ_eq_append_getElem hi3, List.flatMap_append, List.append_assoc]
    simp
  · skip
    obtain rfl : i = xs.length := by omega
    rw [List.take_length]
    refine gn 8 ?_
    refine oL (lC (head_is (m := 3) (n := 7) (by decide) (by decide)) rfl .nil) ?_
    rintro ⟨r, H'⟩ ⟨rfl, rfl⟩
    simp only [List.nil_append]
    rw [e3]
    refine oX (e_sadd rfl rfl aN) ?_
    refine gn 1 ?_
    refine oL (lC (head_is (m := 0) (n := 1) (by decide) (by decide)) rfl .nil) ?_
    rintro ⟨r, H'⟩ ⟨rfl, rfl⟩
    simp only [List.nil_append]
    rw [e4]
    refine oX (e_sadd rfl rfl aN) ?_
    refine oX (e_sadd rfl rfl aN) ?_
    have hH : p0 ++ xs.flatMap linkB ++ ([103] ++ [118, 101, 114, 115, 105, 111, 110] ++ [1]) = headB xs := by
      rw [hp0]
      simp [headB, rootsT, versT]
    have hHl := headB_len hok
    rw [hH]
    refine gn 8 ?_
    refine oL (lC (varint_is (x := (headB xs).length) (by omega)) rfl .nil) ?_
    rintro ⟨v1, H1⟩ ho1
    simp only [List.append_nil] at ho1 ⊢
    have u1 := uv_le (headB xs).length
    refine oX (e_bsO underlying72 underlying5 underlying9 ho1 (fun _ h => h) rfl) ?_
    refine gn 1 ?_
    refine oX (e_sadd rfl rfl aN) ?_
    refine gn 4 ?_
    refine WR.sel .nil ?_
    refine r_fn1 results49 rfl ?_
    refine ⟨?_, rfl⟩
    simp [hedB]
end
end Go.Proofs
namespace Go.Proofs
open Go Go.Sl Tryz
set_option maxRecDepth 100000
set_option maxHeartbeats 1000000
def bC (b : Blk) : List Value := cC b.1 ++ [S b.2]
structure BlkOk (b : Blk) : Prop where
  hx : CidOk b.1
  hd : b.2.length ≤ 32768
theorem secB_len {b : Blk} (h : BlkOk b) : (secB b).length ≤ 33100 := by
  have h1 := cidB_len h.hx.ht h.hx.hd
  have h2 := uv_le ((cidB b.1).length + b.2.length)
  have h3 := h.hd
  simp only [secB, List.length_append]
  omega
theorem secs_len : ∀ {bs : List Blk}, (∀ b ∈ bs, BlkOk b) → (bs.flatMap secB).length ≤ bs.length * 33100
  | [], _ => by simp
  | x :: xs, h => by
    have h1 := secB_len (h x (.head _))
    have h2 := secs_len (bs := xs) fun y hy => h y (.tail _ hy)
    simp only [List.flatMap_cons, List.length_append, List.length_cons]
    omega
theorem hedB_len {xs : List En} (h : ∀ x ∈ xs, CidOk x) : (hedB xs).length ≤ xs.length * 240 + 40 := by
  have h1 := headB_len h
  have h2 := uv_le (headB xs).length
  simp only [hedB, List.length_append]
  omega
section
variable {G : HP} {xs : List En} {blks : List Blk} {vr vb : Value} {ib : Bool}
theorem car1_is (hv : RwS cC 4 G vr xs) (hn : xs.length ≤ 200) (hok : ∀ x ∈ xs, CidOk x) (hvb : RwS bC 5 G vb blks) (hnb : blks.length ≤ 1000) (hbk : ∀ b ∈ blks, BlkOk b) : Ctr prog 24 [.agg #[vr, vb]] G [] (fun r H' => r = S (hedB xs ++ blks.flatMap secB) ∧ H' = []) := by
  have hhl := hedB_len hok
  obtain ⟨A0, c0, rfl⟩ := hvb.shape
  refine fn_enter 22 func24 rfl ntmps24 rfl ?_
  intro w0
  refine gn 2 ?_
  refine oB ?_; intro g1 _
  refine gn 7 ?_
  refine oL (lC (headerBytes_is hv hn hok) rfl .nil) ?_
  rintro ⟨r, H'⟩ ⟨rfl, rfl⟩
  simp only [List.nil_append]
  refine gn 13 ?_
  refine WC.less (fun _ _ h => h) (List.nil_sublist _) ?_
  refine c_loop (X := Nat) (fun i => [(3, S (hedB xs ++ (blks.take i).flatMap secB)), (10, .slice A0 blks.length c0), (11, .int .i64 blks.length), (12, .int .i64 i)]) (fun _ => []) (fun i => i ≤ blks.length) (fun i => blks.length - i) 0 (Nat.zero_le _) (sub_cons (by show some (S (hedB xs)) = some (S (hedB xs ++ [])); rw [List.append_nil]) aK) (.refl _) ?_
  intro i hi0
  refine gn 6 ?_
  refine c_ifp rfl (fun h2 => ?_) (fun h2 => ?_)
  · have hi3 : i < blks.length := by omega
    obtain ⟨gS, off, LS, eS, frS, rfl, hmS, hcS⟩ := hvb.at hi3
    have hx := hbk blks[i] (List.getElem_mem _)
    have hl1 : (secB (blks[i].1, blks[i].2)).length ≤ 33100 := secB_len hx
    have hl2 := secs_len (bs := blks.take i) fun x hx => hbk x (List.mem_of_mem_take hx)
    have hl3 : (blks.take i).length ≤ 1000 := by rw [List.length_take]; omega
    have hsd := hx.hd
    refine gn 8 ?_
    refine oZ ?_; intro g5 _
    refine oL (l_storea sizeOf98 rfl rfl rfl (by simp [bC, cC, Value.oneCell']) .head (.take (.take (.take (.take (.take .done))))) nofrs0) ?_
    intro _ _
    refine gn 5 ?_
    refine oL (lC (section_is hx.hx (by omega)) rfl .nil) ?_
    rintro ⟨r, H'⟩ ⟨rfl, rfl⟩
    simp only [List.nil_append]
    refine oX (e_sadd rfl rfl aN) ?_
    refine gn 8 ?_
    refine n_round' (y := i) (i + 1) (by omega) (by omega) (sub_cons ?_ aK) _ (.refl _) (List.nil_sublist _)
    show some (S (hedB xs ++ (blks.take i).flatMap secB ++ secB blks[i])) = some (S (hedB xs ++ (blks.take (i + 1)).flatMap secB))
    rw [List.take_succ_eq_append_getElem hi3, List.flatMap_append, List.append_assoc]
    simp
  · skip
    obtain rfl : i = blks.length := by omega
    rw [List.take_length]
    refine gn 12 ?_
    refine r_fn1 results24 rfl ?_
    exact ⟨rfl, rfl⟩
/-- Where sections begin, and where the last ends. -/
def placeL : Nat → List Blk → List Nat
  | p, [] => [p]
  | p, b :: bs => p :: placeL (p + (secB b).length) bs
theorem placeL_len : ∀ (p : Nat) (l : List Blk), (placeL p l).length = l.length + 1
  | _, [] => rfl
  | p, b :: l => by simp [placeL, placeL_len]
theorem placeL_at : ∀ (p : Nat) (l : List Blk) (i : Nat) (h : i < (placeL p l).length), (placeL p l)[i] = p + ((l.take i).flatMap secB).length
  | p, [], 0, h => by simp [placeL]
  | p, [], i + 1, h => by simp [placeL] at h
  | p, b :: l, 0, h => by simp [placeL]
  | p, b :: l, i + 1, h => by
    have := placeL_at (p + (secB b).length) l i (by simpa [placeL] using h)
    simp only [placeL, List.getElem_cons_succ, this, List.take_succ_cons, List.flatMap_cons, List.length_append]
    omega
theorem placeL_snoc (p : Nat) : ∀ (l : List Blk) (b : Blk), placeL p (l ++ [b]) = placeL p l ++ [p + ((l ++ [b]).flatMap secB).length] := by
  intro l
  induction l generalizing p with
  | nil => intro b; simp [placeL]
  | cons a l ih =>
    intro b
    simp only [List.cons_append, placeL, ih]
    simp [Nat.add_assoc]
theorem places_is (hv : RwS cC 4 G vr xs) (hn : xs.length ≤ 200) (hok : ∀ x ∈ xs, CidOk x) (hvb : RwS bC 5 G vb blks) (hnb : blks.length ≤ 1000) (hbk : ∀ b ∈ blks, BlkOk b) : Ctr prog 48 [.agg #[vr, vb]] G [] (fun r H' => Osl 3 1 r (blks.length + 1) (V .i64 ((placeL (hedB xs).length blks).map fun k : Nat => (k : Int))) H') := by
  have hhl := hedB_len hok
  obtain ⟨A0, c0, rfl⟩ := hvb.shape
  refine fn_enter 31 func48 rfl ntmps48 rfl ?_
  intro w0
  refine gn 2 ?_
  refine oB ?_; intro g1 _
  refine gn 7 ?_
  refine oL (lC (headerBytes_is hv hn hok) rfl .nil) ?_
  rintro ⟨r, H'⟩ ⟨rfl, rfl⟩
  simp only [List.nil_append]
  refine gn 7 ?_
  refine oL (l_bs1 runUnderlying99 sizeOf3 zeroValue3 rfl rfl rfl) ?_; intro g12 _
  refine gn 13 ?_
  refine WC.less (fun _ _ h => h) (.cons_cons _ (List.nil_sublist _)) ?_
  obtain ⟨p0, hp0⟩ : ∃ p0, p0 = (hedB xs).length := ⟨_, rfl⟩
  rw [← hp0] at hhl ⊢
  refine c_loop (X := Nat × Value × HP) (fun y => [(3, .int .i64 (p0 + ((blks.take y.1).flatMap secB).length : Nat)), (4, y.2.1), (14, .slice A0 blks.length c0), (15, .int .i64 blks.length), (16, .int .i64 y.1)]) (fun y => y.2.2) (fun y => y.1 ≤ blks.length ∧ Osl 3 1 y.2.1 (y.1 + 1) (V .i64 ((placeL p0 (blks.take y.1)).map fun k : Nat => (k : Int))) y.2.2) (fun y => blks.length - y.1) (0, .slice (some ⟨g12, 0, none⟩) 1 1, [(g12, C [.int .i64 p0] 3)]) ⟨Nat.zero_le _, .own (xs := [.int .i64 p0]) (rest := []) (lo := 0) (hi := 0) rfl rfl (Nat.le_refl _) (by decide) (.inr rfl)⟩ aK (.refl _) ?_
  rintro ⟨i, v, HS⟩ ⟨hi0, ho⟩
  simp only at hi0 ho ⊢
  refine gn 6 ?_
  refine c_ifp rfl (fun h2 => ?_) (fun h2 => ?_)
  · have hi3 : i < blks.length := by omega
    obtain ⟨gS, off, LS, eS, frS, rfl, hmS, hcS⟩ := hvb.at hi3
    have hx := hbk blks[i] (List.getElem_mem _)
    have hl1 : (secB (blks[i].1, blks[i].2)).length ≤ 33100 := secB_len hx
    have hl2 := secs_len (bs := blks.take i) fun x hx => hbk x (List.mem_of_mem_take hx)
    have hl3 : (blks.take i).length ≤ 1000 := by rw [List.length_take]; omega
    have hsd := hx.hd
    refine gn 8 ?_
    refine oZ ?_; intro g6 _
    refine oL (l_storea sizeOf98 rfl rfl rfl (by simp [bC, cC, Value.oneCell']) .head (.take (.take (.take (.take (.take .done))))) nofrs0) ?_
    intro _ _
    refine gn 6 ?_
    refine oL (lC (section_is hx.hx (by omega)) rfl .nil) ?_
    rintro ⟨r, H'⟩ ⟨rfl, rfl⟩
    simp only [List.nil_append]
    have hq : p0 + ((blks.take i).flatMap secB).length + (secB (blks[i].1, blks[i].2)).length = p0 + ((blks.take (i + 1)).flatMap secB).length := by
      rw [List.take_succ_eq_append_getElem hi3, List.flatMap_append, List.length_append]
      simp [Nat.add_assoc]
    refine gn 8 ?_
    refine oL (l_bs1 runUnderlying99 sizeOf3 zeroValue3 rfl rfl rfl) ?_; intro g27 _
    rw [hq]
    refine oL (l_append (sz := 1) (m := 1) (news := [.int .i64 (p0 + ((blks.take (i + 1)).flatMap secB).length : Nat)]) underlying99 (info_of typeInfo3) rfl rfl rfl rfl rfl rfl ho (List.perm_append_comm (l₁ := [_, _]) (l₂ := HS)) (.blk underlying99 (.inl (.head _)) (.take .done) (by simp [Value.oneCell'])) (by show _ * 8 ≤ _; omega) (by omega)) ?_
    rintro ⟨v2, HS2⟩ ho2
    simp only at ho2 ⊢
    refine gn 8 ?_
    refine n_round' (y := (i, v, HS)) (i + 1, v2, HS2) (by show blks.length - (i + 1) < blks.length - i; omega) ⟨by show i + 1 ≤ blks.length; omega, ?_⟩ aK _ (.refl _) (List.sublist_append_left HS2 _)
    show Osl 3 1 v2 (i + 1 + 1) (V .i64 ((placeL p0 (blks.take (i + 1))).map fun k : Nat => (k : Int))) HS2
    have e := placeL_snoc p0 (blks.take i) blks[i]
    rw [← List.take_succ_eq_append_getElem hi3] at e
    rw [e, List.map_append]
    simpa [V] using ho2
  · skip
    obtain rfl : i = blks.length := by omega
    rw [List.take_length] at ho
    refine gn 12 ?_
    refine r_fn1 results48 rfl ?_
    exact ho
end
end Go.Proofs
namespace Go.Proofs
open Go Go.Sl Tryz
set_option maxRecDepth 100000
set_option maxHeartbeats 1000000
theorem e_bsB {x : Cx} {s : Slots} {H K : HP} {d : Nat} {p : Operand} {ty t t' e : TypeId} {pos : String} {af : Array Edge} {gd' : Option (Nat × Bool)} {v : Value} {bs : List UInt8} (hU : x.P.underlying t = some (.slice e)) (hU8 : x.P.underlying e = some (.int .u8)) (hU' : x.P.underlying t' = some .string) (hb : BS K v bs) (hK : ∀ p ∈ K, p ∈ H) (hp : ev s p = some v) : Ex x s H ⟨some d, .convert t t' p, ty, pos, af, gd'⟩ (S bs) := by
  cases hb with
  | @emp A cap =>
    cases A with
    | none => exact e_bsn hU hU8 hU' hp
    | some a =>
      intro ac w hs
      have h := run_convert_bytes_back w t t' e a cap [] hU hU8 hU' (fun j hj => absurd hj (by simp))
      simp only [List.length_nil] at h
      simp only [execOp, hs.eval hp, Sem.run_bind, h, Result.andThen_ok, Sem.run_pure]
  | @blk g off n cap l e' fr _ hm hc hn h63 => exact e_bsE hU hU8 hU' hp (.inl (hK _ hm)) hc
section
variable {G : HP} {x : En}
theorem cidOut_is (hx : CidOk x) : CtrP prog 55 [.agg #[S (cidB x)]] G (.agg (cC x).toArray) := by
  have hcl := cidB_len hx.ht hx.hd
  refine fn_enter 31 func55 rfl ntmps55 rfl ?_
  intro w0
  refine gn 2 ?_
  refine oB ?_; intro g1 _
  refine oZ ?_; intro g2 _
  refine gn 5 ?_
  refine oL (lC (prefix_is hx.ht hx.hf hx.hd) rfl .nil) ?_
  rintro ⟨r, H'⟩ ⟨rfl, rfl⟩
  simp only [List.nil_append]
  refine oZ ?_; intro g3 _
  refine oL (l_storea sizeOf173 rfl rfl rfl (by simp [Value.oneCell']) .head (.take (.take (.take (.take .done)))) nofrs0) ?_
  intro _ _
  refine gn 5 ?_
  refine oL (lC (hash_is hx.ht hx.hf hx.hd) rfl .nil) ?_
  rintro ⟨r, H'⟩ ⟨y, off, n, cap, rfl, rfl, hcut2, hnc, hcap⟩
  simp only [List.cons_append, List.nil_append]
  have hh : x.h.toNat < 9223372036854775808 := by rcases hx.ht with ⟨_, _, h, _⟩ | ⟨_, _, h⟩ <;> omega
  have hDc := Ctr.subG (G := G ++ [(y.g, Ob (B (cidB x)) y 5)]) (Decode_is (G := [(y.g, Ob (B (cidB x)) y 5)]) hh (show x.d.length ≤ 1000 by have := hx.hd; omega) (.head _) hcut2 hnc hcap) (fun p hp => List.mem_append_right _ hp)
  refine oL (lJ (HJ := [(y.g, Ob (B (cidB x)) y 5)]) hDc rfl .nil (by simp)) ?_
  rintro ⟨r, H'⟩ ⟨gd, dv, rfl, ⟨A, c, rfl⟩, hbs, rfl⟩
  simp only [List.cons_append, List.nil_append]
  refine gn 18 ?_
  refine c_regiong [14] (by kernel_rfl) ?_
  refine lg [0, 1001, 2, 1003, 4, 5, 6, 1007, 8, 9, 10, 1011] ?_
  have hh0 : ((x.h.toNat : Nat) : Int) = x.h := Int.toNat_of_nonneg hx.hf.h0
  refine gE 12 rfl (e_bsB underlying72 underlying5 underlying9 hbs (fun p hp => by rcases List.mem_singleton.1 hp with rfl; exact .tail _ (.head _)) rfl) ?_
  rw [hh0]
  refine gM 13 rfl (eB [.int .u64 x.v, .int .u64 x.c, .int .u64 x.h, S x.d]) ?_
  refine gL 14 rfl (l_storea sizeOf25 rfl rfl rfl (by simp [Value.oneCell']) (.tail (.tail (.tail .head))) (.take (.take (.take (.take .done)))) nofrs0) ?_
  intro _ _
  refine gn 3 ?_
  refine r_fnx results55 (.cella isAgg25 sizeOf25 rfl aM (.take (.take (.take (.take .done)))) .nil) .nil rfl ?_
  exact ⟨rfl, rfl⟩
end
section
variable {G : HP} {gr gs n cap i lo hi : Nat} {bs tl dat : List UInt8} {rest : List Value} {x : En} {b : Blk}
theorem limit_is {N : Nat} : Ctr prog 89 [RV gr, .int .i64 (N : Nat)] G [] (fun r H' => ∃ gl, r = .iface 271 (.pointer (some ⟨gl, 0, none⟩)) ∧ H' = [(gl, C [RV gr, .int .i64 (N : Nat)] 273)]) := by
  refine fn_enter 10 func89 rfl ntmps89 rfl ?_
  intro w0
  refine gn 9 ?_
  refine oX (eB [RV gr, .int .i64 (N : Nat)]) ?_
  refine oB ?_; intro g8 _
  refine gn 5 ?_
  refine r_fn1 results89 rfl ?_
  exact ⟨_, rfl, rfl⟩
theorem nodeHead_is (hx : BlkOk b) (hD : (gs, DB bs rest lo hi) ∈ G) (hn : bs.length = n) (hc : n ≤ cap) (h63 : cap < 9223372036854775808) (hbs : bs.drop i = secB b ++ tl) (hi' : i ≤ n) :
    Ctr prog 53 [RV gr, .bool false, .int .u64 1048576] G [(gr, RB gs n cap i)] (fun r H' => r = .tuple #[.agg #[S (cidB b.1)], .int .u64 b.2.length, .nilIface] ∧ H' = [(gr, RB gs n cap (i + (secB b).length - b.2.length))]) := by
  have hcl := cidB_len hx.hx.ht hx.hx.hd
  have hsd := hx.hd
  have hl := congrArg List.length hbs
  simp only [secB, List.length_append, List.length_drop] at hl
  have hbs1 : bs.drop i = uv ((cidB b.1).length + b.2.length) ++ (cidB b.1 ++ (b.2 ++ tl)) := by rw [hbs]; simp [secB]
  have hbs2 : (bs.drop (i + (uv ((cidB b.1).length + b.2.length)).length)).take ((cidB b.1).length + b.2.length) = cidB b.1 ++ b.2 := by
    rw [← List.drop_drop, hbs1, List.drop_left, ← List.append_assoc, List.take_left' (by rw [List.length_append])]
  obtain ⟨L, hL⟩ : ∃ L, L = (cidB b.1).length + b.2.length := ⟨_, rfl⟩
  rw [← hL] at hbs1 hbs2 hl
  have hup := uv_pos L
  refine fn_enter 62 func53 rfl ntmps53 rfl ?_
  intro w0
  refine gn 2 ?_
  refine oZ ?_; intro g6 _
  refine gn 7 ?_
  refine oX (e_blt (r := .int .u64 1048576) rfl (by intro w; kernel_rfl)) ?_
  refine gn 8 ?_
  refine oL (lC (ldSize_is (L := L) (mx := 1048576) hD hn (by omega) hbs1 (show L ≤ 1048576 by omega) (by decide)) rfl (.cons (.tail .head) .nil)) ?_
  rintro ⟨r, H'⟩ ⟨rfl, rfl⟩
  simp only [List.cons_append, List.nil_append]
  refine gn 24 ?_
  refine c_ifp rfl (fun h => absurd h (by omega)) (fun _ => ?_)
  refine gn 7 ?_
  refine oL (lC limit_is rfl .nil) ?_
  rintro ⟨r, H'⟩ ⟨gl, rfl, rfl⟩
  simp only [List.cons_append, List.nil_append]
  refine gn 6 ?_
  have hcr := cidR_is (crdL (gl := gl) (gr := gr) (i := i + (uv L).length) (N := L) hD hn hc h63 (by omega)) hbs2 hx.hx.ht hx.hx.hf hx.hx.hd
  refine oL (lC hcr rfl (.cons .head (.cons .head .nil))) ?_
  rintro ⟨r, H'⟩ ⟨rfl, rfl⟩
  simp only [List.cons_append, List.nil_append]
  refine gn 4 ?_
  refine oZ ?_; intro g16 _
  refine gn 1 ?_
  refine oL (l_storea sizeOf111 rfl rfl rfl (by simp [Value.oneCell']) .head (.take .done) nofrs0) ?_
  intro _ _
  refine gn 20 ?_
  refine oL (l_storea sizeOf111 rfl rfl rfl (by simp [Value.oneCell']) (.tail (.tail (.tail .head))) (.take .done) nofrs0) ?_
  intro _ _
  refine gn 5 ?_
  refine r_fnx results53 (.cella isAgg111 sizeOf111 rfl aM (.take .done) (.tmp rfl (.tmp rfl .nil))) (.cons (.tail (.tail .head)) .nil) rfl ?_
  refine ⟨?_, ?_⟩
  · have e : ((L : Nat) : Int) - (((cidB b.1).length : Nat) : Int) = ((b.2.length : Nat) : Int) := by omega
    rw [e]
    rfl
  · have e : i + (secB b).length - b.2.length = i + (uv L).length + (cidB b.1).length := by
      simp only [secB, List.length_append, ← hL]
      omega
    rw [e]
theorem seHead_is (hx : BlkOk b) (hbs : bs = secB b ++ tl) (hl : bs.length ≤ 100000000) :
    CtrP prog 26 [S bs, .bool false, .int .u64 1048576] G (.tuple #[.agg (cC b.1).toArray, .int .u64 b.2.length, .int .i64 ((secB b).length - b.2.length : Nat), .int .u8 0]) := by
  have hs2 : (secB b).length ≤ bs.length := by rw [hbs, List.length_append]; omega
  refine fn_enter 44 func26 rfl ntmps26 rfl ?_
  intro w0
  refine gn 2 ?_
  refine oZ ?_; intro g6 _
  refine gn 8 ?_
  refine oL (l_sbc underlying9 underlying72 underlying5 rfl rfl (by simp; omega) rfl rfl) ?_
  rintro ⟨gs, cap, rest, lo, hi⟩ hy
  refine oL (lC newReader_is rfl .nil) ?_
  rintro ⟨r, H'⟩ ⟨gr, rfl, rfl⟩
  simp only [List.cons_append, List.nil_append]
  refine gn 9 ?_
  refine oL (lJ (HJ := [(gs, DB bs rest lo hi)]) (nodeHead_is (i := 0) (tl := tl) hx (List.mem_append_right _ (.head _)) rfl hy.le hy.lt hbs (Nat.zero_le _)) rfl (.cons .head .nil) (by simp)) ?_
  rintro ⟨r, H'⟩ ⟨rfl, rfl⟩
  simp only [List.cons_append, List.nil_append]
  refine gn 4 ?_
  refine oZ ?_; intro g11 _
  refine oL (l_storea sizeOf111 rfl rfl rfl (by simp [Value.oneCell']) .head (.take .done) nofrs0) ?_
  intro _ _
  refine gn 17 ?_
  refine oL (lC (cidOut_is hx.hx) rfl .nil) ?_
  rintro ⟨r, H'⟩ ⟨rfl, rfl⟩
  simp only [List.nil_append, Nat.zero_add]
  refine gn 4 ?_
  refine oL (lJ (HJ := [(gr, RB gs bs.length cap ((secB b).length - b.2.length))]) (rlen_is (List.mem_append_right _ (.head _)) (by omega) (by omega)) rfl .nil (by simp)) ?_
  rintro ⟨r, H'⟩ ⟨rfl, rfl⟩
  simp only [List.nil_append]
  refine gn 1 ?_
  refine oL (l_storea sizeOf25 rfl rfl rfl (by simp [cC, Value.oneCell']) (.tail (.tail (.tail .head))) (.take (.take (.take (.take .done)))) nofrs0) ?_
  intro _ _
  refine gn 6 ?_
  refine r_fnx results26 (.cella isAgg25 sizeOf25 rfl aM (.take (.take (.take (.take .done)))) (.tmp rfl (.tmp rfl (.tmp rfl .nil)))) .nil rfl ?_
  refine ⟨?_, rfl⟩
  rw [show bs.length - (bs.length - ((secB b).length - b.2.length)) = (secB b).length - b.2.length by omega]
  rfl
end
end Go.Proofs
namespace Go.Proofs
open Go Go.Sl Tryz
set_option maxRecDepth 100000
set_option maxHeartbeats 1000000
theorem flat_cut {α : Type} {f : α → List Value} {sz : Nat} (hf : ∀ x, (f x).length = sz) (rest : List Value) : ∀ {l : List α} {i : Nat} (h : i < l.length), CutL (l.flatMap f ++ rest) (i * sz) sz (f l[i])
  | a :: l, 0, _ => by
    have := CutL.of (l := (a :: l).flatMap f ++ rest) (i := 0 * sz) (n := sz) (by simp [hf])
    rw [Nat.zero_mul, List.drop_zero, List.flatMap_cons, List.append_assoc, List.take_left' (hf a)] at this
    rw [Nat.zero_mul, List.flatMap_cons, List.append_assoc]
    exact this
  | a :: l, i + 1, h => by
    have := flat_cut hf rest (l := l) (i := i) (by simpa using h)
    rw [Nat.succ_mul, List.flatMap_cons, List.append_assoc, Nat.add_comm]
    have h2 := cut_skip (f a) this
    rw [hf a] at h2
    exact h2
theorem _root_.Go.Sl.Osl.rw {α : Type} {f : α → List Value} {sz n : Nat} {e : TypeId} {v : Value} {H : HP} {l : List α} (h : Osl e sz v n (l.flatMap f) H) (hn : l.length = n) (hf : ∀ x, (f x).length = sz) : RwS f sz H v l := by
  generalize hx : l.flatMap f = xs at h
  cases h with
  | nil =>
    have : l = [] := List.eq_nil_of_length_eq_zero hn
    subst this
    exact .emp
  | own h1 h2 h3 h4 h5 =>
    subst hx
    refine .blk (.head _) hn fun i hi => ?_
    rw [Nat.zero_add]
    exact flat_cut hf _ hi
section
variable {G : HP} {xs : List En} {bs tl : List UInt8} {gE : Addr} {t3 : List Value} {e3 : TypeId} {f3 : Nat × Nat}
theorem cidsOut_is {vr : Value} (hv : RwS (fun x : En => [S (cidB x)]) 1 G vr xs) (hn : xs.length ≤ 200) (hok : ∀ x ∈ xs, CidOk x) : Ctr prog 52 [vr] G [] (fun r H' => Osl 25 4 r xs.length (xs.flatMap cC) H') := by
  obtain ⟨A0, c0, rfl⟩ := hv.shape
  refine fn_enter 19 func52 rfl ntmps52 rfl ?_
  intro w0
  refine gn 19 ?_
  refine c_loop (X := Nat × Value × HP) (fun y => [(3, y.2.1), (6, .slice A0 xs.length c0), (7, .int .i64 xs.length), (8, .int .i64 y.1)]) (fun y => y.2.2) (fun y => y.1 ≤ xs.length ∧ Osl 25 4 y.2.1 y.1 ((xs.take y.1).flatMap cC) y.2.2) (fun y => xs.length - y.1) (0, .slice none 0 0, []) ⟨Nat.zero_le _, .nil⟩ aK (.refl _) ?_
  rintro ⟨i, v, HS⟩ ⟨hi0, ho⟩
  simp only at hi0 ho ⊢
  refine gn 6 ?_
  refine c_ifp rfl (fun h2 => ?_) (fun h2 => ?_)
  · have hi3 : i < xs.length := by omega
    obtain ⟨gS, off, LS, eS, frS, rfl, hmS, hcS⟩ := hv.at hi3
    have hx := hok xs[i] (List.getElem_mem _)
    refine gn 8 ?_
    refine oZ ?_; intro g5 _
    refine oL (l_storea sizeOf111 rfl rfl rfl (by simp [Value.oneCell']) .head (.take .done) nofrs0) ?_
    intro _ _
    refine gn 5 ?_
    refine oL (lC (cidOut_is hx) rfl .nil) ?_
    rintro ⟨r, H'⟩ ⟨rfl, rfl⟩
    simp only [List.nil_append]
    refine oL (l_bs (l := cC xs[i]) runUnderlying44 sizeOf25 zeroValue25 rfl rfl rfl rfl (by kernel_rfl)) ?_
    intro g15 _
    refine oL (l_append (sz := 4) (m := 1) (news := cC xs[i]) underlying44 (info_of typeInfo25) rfl rfl rfl rfl rfl rfl ho (List.perm_append_comm (l₁ := [_, _]) (l₂ := HS)) (.blk underlying44 (.inl (.head _)) (.take (.take (.take (.take .done)))) (by simp [cC, Value.oneCell'])) (by show _ * 40 ≤ _; omega) (by omega)) ?_
    rintro ⟨v2, HS2⟩ ho2
    simp only at ho2 ⊢
    refine gn 8 ?_
    refine n_round' (y := (i, v, HS)) (i + 1, v2, HS2) (by show xs.length - (i + 1) < xs.length - i; omega) ⟨by show i + 1 ≤ xs.length; omega, ?_⟩ aK _ (.refl _) (List.sublist_append_left HS2 _)
    show Osl 25 4 v2 (i + 1) ((xs.take (i + 1)).flatMap cC) HS2
    rw [List.take_succ_eq_append_getElem hi3, List.flatMap_append]
    simpa using ho2
  · skip
    obtain rfl : i = xs.length := by omega
    rw [List.take_length] at ho
    refine gn 12 ?_
    refine r_fn1 results52 rfl ?_
    exact ho
theorem hdRead_is (hE : (3, Obj.cells (EV gE :: t3).toArray e3 f3) ∈ G) (hbs : bs = hedB xs ++ tl) (hl : bs.length ≤ 100000000) (hn : xs.length ≤ 200) (hok : ∀ x ∈ xs, CidOk x) :
    Ctr prog 25 [S bs, .int .u64 1048576] G [] (fun r H' => ∃ v, r = .tuple #[v, .int .u64 1, .int .i64 (hedB xs).length, .bool true]) := by
  have hhl := headB_len hok
  have hle : (hedB xs).length ≤ bs.length := by rw [hbs, List.length_append]; omega
  refine fn_enter 37 func25 rfl ntmps25 rfl ?_
  intro w0
  refine gn 11 ?_
  refine oL (l_sbc underlying9 underlying72 underlying5 rfl rfl (by simp; omega) rfl rfl) ?_
  rintro ⟨gs, cap, rest, lo, hi⟩ hy
  refine oL (lC newReader_is rfl .nil) ?_
  rintro ⟨r, H'⟩ ⟨gr, rfl, rfl⟩
  simp only [List.cons_append, List.nil_append]
  refine gn 8 ?_
  refine oL (lJ (HJ := [(gs, DB bs rest lo hi)]) (readHeader_is (i := 0) (mx := 1048576) (tl := tl) (List.mem_append_right _ (.head _)) (List.mem_append_left _ hE) rfl hy.le hy.lt (Nat.zero_le _) hbs hn hok (by omega) (by decide) (by omega)) rfl (.cons .head .nil) (by simp)) ?_
  rintro ⟨r, H'⟩ ⟨gh, vr, HR, rfl, hor, rfl⟩
  simp only [List.cons_append, List.nil_append, Nat.zero_add]
  refine gn 18 ?_
  refine c_regiond ([(gr, RB gs bs.length cap (hedB xs).length), (gh, C [vr, .int .u64 1] 109)]) (by kernel_rfl) (.cons_cons _ (.cons_cons _ (List.nil_sublist _))) ?_
  refine ld [0, 1, 2, 3, 5, 6, 7, 8, 9, 10, 11] ?_
  have hrw : RwS (fun x : En => [S (cidB x)]) 1 HR vr xs := Osl.rw (f := fun x : En => [S (cidB x)]) (l := xs) (by rw [← List.map_eq_flatMap]; exact hor) rfl (fun _ => rfl)
  refine dL 4 rfl (lJ (HJ := HR) (cidsOut_is (hrw.mono fun p hp => List.mem_append_right _ hp) hn hok) rfl .nil (fun p hp => .tail _ (.tail _ (List.mem_append_left _ hp)))) ?_
  rintro ⟨vo, HO⟩ hoo
  simp only
  refine dL 12 rfl (lJ (HJ := [(gr, RB gs bs.length cap (hedB xs).length)]) (rlen_is (List.mem_append_right _ (.head _)) (by omega) (by omega)) rfl .nil (fun p hp => by rcases List.mem_singleton.1 hp with rfl; exact List.mem_append_right _ (.head _))) ?_
  rintro ⟨r, H'⟩ ⟨rfl, rfl⟩
  simp only [List.nil_append]
  refine ld [13, 14, 15, 16, 17] ?_
  refine gn 3 ?_
  refine r_fn (l := [.tmp 4, .tmp 5, .tmp 6, .tmp 7]) results25 rfl rfl ?_
  refine ⟨vo, ?_⟩
  rw [show bs.length - (bs.length - (hedB xs).length) = (hedB xs).length by omega]
end
end Go.Proofs

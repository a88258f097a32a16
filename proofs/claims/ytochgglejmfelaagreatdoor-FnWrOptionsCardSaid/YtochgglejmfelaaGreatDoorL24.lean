/- The header of a file of version 2, read; What begins a file of version 2, decoded and read; The records that are made of a file of either version; The specification's file of version 2. (A part of the proof of this: for every input laws.FnWrOptions returns true and its arguments read as they did, the listed package variables being what the program lays) -/
import Derived.Test.YtochgglejmfelaaGreatDoorLSlZ
import Derived.Test.YtochgglejmfelaaGreatDoorL15
import Derived.Test.YtochgglejmfelaaGreatDoorL18
import Derived.Test.YtochgglejmfelaaGreatDoorL12
import Derived.Test.YtochgglejmfelaaGreatDoorL09
import Derived.Test.YtochgglejmfelaaGreatDoorL19
import Derived.Test.YtochgglejmfelaaGreatDoorL04
import Derived.Test.YtochgglejmfelaaGreatDoorL21
set_option linter.unusedVariables false
set_option linter.unusedSimpArgs false
namespace Go.Proofs
open Go Go.Sl Tryz
set_option maxRecDepth 100000
set_option maxHeartbeats 1000000
theorem cutBz {l : List UInt8} {i n : Nat} (h : i + n ≤ l.length) : CutL (B l) i n (B ((l.drop i).take n)) := by
  have := CutL.of (l := B l) (i := i) (n := n) (by rw [B_length]; exact h)
  rwa [show (B ((l.drop i).take n)) = ((B l).drop i).take n by simp [B, List.map_drop, List.map_take]]
section
variable {G : HP} {g gr gs gh n cap i off cap2 a b c lo hi : Nat} {bs l tl t16 : List UInt8} {rest : List Value} {z0 z1 z2 z3 z4 : Value} {e : TypeId} {fr : Nat × Nat}
theorem u64o_is {v : Value} {L : List Value} {b0 b1 b2 b3 b4 b5 b6 b7 : UInt8} (hm : (g, .cells L.toArray e fr) ∈ G) (hcut : CutL L off 8 (B [b0, b1, b2, b3, b4, b5, b6, b7])) : CtrP prog 214 [v, .slice (some ⟨g, off, none⟩) 8 cap] G (.int .u64 (le [b0, b1, b2, b3, b4, b5, b6, b7] : Nat)) := by
  have h0 := b0.toNat_lt
  have h1 := b1.toNat_lt
  have h2 := b2.toNat_lt
  have h3 := b3.toNat_lt
  have h4 := b4.toNat_lt
  have h5 := b5.toNat_lt
  have h6 := b6.toNat_lt
  have h7 := b7.toNat_lt
  have c0 := byte_at (i := 0) hcut rfl rfl
  have c1 := byte_at (i := 1) hcut rfl rfl
  have c2 := byte_at (i := 2) hcut rfl rfl
  have c3 := byte_at (i := 3) hcut rfl rfl
  have c4 := byte_at (i := 4) hcut rfl rfl
  have c5 := byte_at (i := 5) hcut rfl rfl
  have c6 := byte_at (i := 6) hcut rfl rfl
  have c7 := byte_at (i := 7) hcut rfl rfl
  refine fn_enter 54 func214 rfl ntmps214 rfl ?_
  intro w0
  refine gn 2 ?_
  refine oB ?_; intro g2 _
  refine gn 62 ?_
  refine WR.less (fun _ _ h => h) (List.nil_sublist _) ?_
  refine r_fn1 results214 rfl ?_
  refine ⟨?_, rfl⟩
  show Value.int _ _ = Value.int _ _
  congr 1
  rw [or_sh rfl 8 8 rfl (by decide) (by omega) (by show _ < 2 ^ 64; omega), or_sh rfl 16 16 rfl (by decide) (by omega) (by show _ < 2 ^ 64; omega), or_sh rfl 24 24 rfl (by decide) (by omega) (by show _ < 2 ^ 64; omega), or_sh rfl 32 32 rfl (by decide) (by omega) (by show _ < 2 ^ 64; omega), or_sh rfl 40 40 rfl (by decide) (by omega) (by show _ < 2 ^ 64; omega), or_sh rfl 48 48 rfl (by decide) (by omega) (by show _ < 2 ^ 64; omega), or_sh rfl 56 56 rfl (by decide) (by omega) (by show _ < 2 ^ 64; omega)]
  simp only [le]
  omega
theorem u64at_is {v : Value} (hm : (g, C (B l) 5) ∈ G) (h : off + 8 ≤ l.length) : CtrP prog 214 [v, .slice (some ⟨g, off, none⟩) 8 cap] G (.int .u64 (le ((l.drop off).take 8) : Nat)) := by
  have hc := cutBz (l := l) (i := off) (n := 8) h
  obtain ⟨b0, b1, b2, b3, b4, b5, b6, b7, hb⟩ := take8 (l := l.drop off) (by rw [List.length_drop]; omega)
  rw [hb] at hc ⊢
  exact u64o_is hm hc
theorem le_app8 {k : Nat} {l : List UInt8} (hk : k < 18446744073709551616) : le ((lowB (k : Nat) 8 ++ l).take 8) = k := by
  rw [List.take_left' (lowB_length _ _), le_lowB8 k hk]
theorem chFrom_is (hD : (gs, DB bs rest lo hi) ∈ G) (hn : bs.length = n) (hc : n ≤ cap) (h63 : cap < 9223372036854775808) (hi' : i + 16 ≤ n) :
    Ctr prog 213 [.pointer (some ⟨gh, 0, none⟩), RV gr] G [(gr, RB gs n cap i), (gh, C [z0, z1, z2, z3, z4] 202)] (fun r H' => ∃ u v : Int, r = .tuple #[.int .i64 16, .nilIface] ∧ H' = [(gr, RB gs n cap (i + 16)), (gh, C [.int .u64 u, .int .u64 v, z2, z3, z4] 202)]) := by
  obtain ⟨q, hq⟩ : ∃ q, q = (bs.drop i).take 16 := ⟨_, rfl⟩
  have hql : q.length = 16 := by rw [hq, List.length_take, List.length_drop]; omega
  refine fn_enter 37 func213 rfl ntmps213 rfl ?_
  intro w0
  refine gn 8 ?_
  refine oL (l_mks (l := List.replicate 16 (.int .u8 0)) underlying72 (info_of typeInfo5) rfl rfl rfl rfl (by decide) (by decide) (by decide) (by decide) (made_one (.int .u8 0) 16 rfl)) ?_
  intro gb _
  refine gn 7 ?_
  refine oL (lC (readFull_is (i := i) (L := 16) hD hn hc h63 hi' (by decide) rfl) rfl (.cons (.tail .head) (.cons .head .nil))) ?_
  rintro ⟨r, H'⟩ ⟨rfl, rfl⟩
  simp only [List.cons_append, List.nil_append]
  rw [← hq]
  refine gn 24 ?_
  refine c_regiong [4, 7] (by kernel_rfl) ?_
  refine lg [0] ?_
  refine gM 1 rfl (e_load0 isAgg294 sizeOf294 rfl) ?_
  refine lg [2, 3] ?_
  refine gL 4 rfl (lJ (HJ := [(gb, C (B q) 5)]) (u64at_is (List.mem_append_right _ (.head _)) (by rw [hql]; decide)) rfl .nil (by simp)) ?_
  rintro ⟨r, H'⟩ ⟨rfl, rfl⟩
  simp only [List.nil_append]
  refine ld [5, 6] ?_
  refine dT 7 ?_
  intro _ _
  refine gn 3 ?_
  refine c_regiong [4, 7] (by kernel_rfl) ?_
  refine lg [0] ?_
  refine gM 1 rfl (e_load0 isAgg294 sizeOf294 rfl) ?_
  refine lg [2, 3] ?_
  refine gL 4 rfl (lJ (HJ := [(gb, C (B q) 5)]) (u64at_is (List.mem_append_right _ (.head _)) (by rw [hql]; decide)) rfl .nil (by simp)) ?_
  rintro ⟨r, H'⟩ ⟨rfl, rfl⟩
  simp only [List.nil_append]
  refine ld [5, 6] ?_
  refine dT 7 ?_
  intro _ _
  refine gn 10 ?_
  refine WR.sel (.cons .head (.cons (.tail .head) .nil)) ?_
  refine r_fn (l := [.tmp 4, .tmp 5]) results213 rfl rfl ?_
  exact ⟨_, _, rfl, rfl⟩
theorem hdrFrom_is (hD : (gs, DB bs rest lo hi) ∈ G) (hn : bs.length = n) (hc : n ≤ cap) (h63 : cap < 9223372036854775808) (hbs : bs.drop i = t16 ++ (lowB (a : Nat) 8 ++ (lowB (b : Nat) 8 ++ (lowB (c : Nat) 8 ++ tl)))) (ht : t16.length = 16) (ha : 51 ≤ a) (ha2 : a < 9223372036854775808) (hb : 0 < b) (hb2 : b < 9223372036854775808) (hc2 : c < 9223372036854775808) :
    Ctr prog 165 [.pointer (some ⟨gh, 0, none⟩), RV gr] G [(gr, RB gs n cap i), (gh, C [z0, z1, z2, z3, z4] 202)] (fun r H' => ∃ u v : Int, r = .tuple #[.int .i64 40, .nilIface] ∧ H' = [(gr, RB gs n cap (i + 40)), (gh, C [.int .u64 u, .int .u64 v, .int .u64 a, .int .u64 b, .int .u64 c] 202)]) := by
  have hlen := congrArg List.length hbs
  simp only [List.length_drop, List.length_append, lowB_length, ht] at hlen
  have e16 : bs.drop (i + 16) = lowB (a : Nat) 8 ++ (lowB (b : Nat) 8 ++ (lowB (c : Nat) 8 ++ tl)) := by rw [← List.drop_drop, hbs, List.drop_left' ht]
  obtain ⟨q, hq⟩ : ∃ q, q = (bs.drop (i + 16)).take 24 := ⟨_, rfl⟩
  have hqe : q = lowB (a : Nat) 8 ++ (lowB (b : Nat) 8 ++ lowB (c : Nat) 8) := by
    rw [hq, e16, ← List.append_assoc, ← List.append_assoc, ← List.append_assoc]
    exact List.take_left' (by simp [lowB_length])
  have hql : q.length = 24 := by rw [hqe]; simp [lowB_length]
  have k0 : le ((q.drop 0).take 8) = a := by rw [hqe]; exact le_app8 (by omega)
  have k1 : le ((q.drop 8).take 8) = b := by rw [hqe, List.drop_left' (lowB_length _ _)]; exact le_app8 (by omega)
  have k2 : le ((q.drop 16).take 8) = c := by
    rw [hqe, ← List.append_assoc, List.drop_left' (by simp [lowB_length]), List.take_of_length_le (by rw [lowB_length]; exact Nat.le_refl _)]
    exact le_lowB8 c (by omega)
  refine fn_enter 79 func165 rfl ntmps165 rfl ?_
  intro w0
  refine gn 12 ?_
  refine oL (lC (chFrom_is hD hn hc h63 (by omega)) rfl (.cons .head (.cons .head .nil))) ?_
  rintro ⟨r, H'⟩ ⟨u, v, rfl, rfl⟩
  simp only [List.cons_append, List.nil_append]
  refine gn 19 ?_
  refine oL (l_mks (l := List.replicate 24 (.int .u8 0)) underlying72 (info_of typeInfo5) rfl rfl rfl rfl (by decide) (by decide) (by decide) (by decide) (made_one (.int .u8 0) 24 rfl)) ?_
  intro gb _
  refine gn 7 ?_
  refine oL (lC (readFull_is (i := i + 16) (L := 24) hD hn hc h63 (by omega) (by decide) rfl) rfl (.cons (.tail .head) (.cons .head .nil))) ?_
  rintro ⟨r, H'⟩ ⟨rfl, rfl⟩
  simp only [List.cons_append, List.nil_append]
  rw [← hq]
  refine gn 26 ?_
  refine c_regiong [3] (by kernel_rfl) ?_
  refine gM 0 rfl (e_load0 isAgg294 sizeOf294 rfl) ?_
  refine lg [1, 2] ?_
  refine gL 3 rfl (lJ (HJ := [(gb, C (B q) 5)]) (u64at_is (List.mem_append_right _ (.head _)) (by rw [hql]; decide)) rfl .nil (by simp)) ?_
  rintro ⟨r, H'⟩ ⟨rfl, rfl⟩
  simp only [List.nil_append]
  rw [k0]
  refine ld [4] ?_
  refine gn 3 ?_
  refine c_regiong [3] (by kernel_rfl) ?_
  refine gM 0 rfl (e_load0 isAgg294 sizeOf294 rfl) ?_
  refine lg [1, 2] ?_
  refine gL 3 rfl (lJ (HJ := [(gb, C (B q) 5)]) (u64at_is (List.mem_append_right _ (.head _)) (by rw [hql]; decide)) rfl .nil (by simp)) ?_
  rintro ⟨r, H'⟩ ⟨rfl, rfl⟩
  simp only [List.nil_append]
  rw [show le ((q.drop (0 + Int.toNat 8 * 1)).take 8) = b from k1]
  refine ld [4] ?_
  refine gn 3 ?_
  refine c_regiong [3] (by kernel_rfl) ?_
  refine gM 0 rfl (e_load0 isAgg294 sizeOf294 rfl) ?_
  refine lg [1, 2] ?_
  refine gL 3 rfl (lJ (HJ := [(gb, C (B q) 5)]) (u64at_is (List.mem_append_right _ (.head _)) (by rw [hql]; decide)) rfl .nil (by simp)) ?_
  rintro ⟨r, H'⟩ ⟨rfl, rfl⟩
  simp only [List.nil_append]
  rw [show le ((q.drop (0 + Int.toNat 16 * 1)).take 8) = c from k2]
  refine ld [4] ?_
  refine gn 10 ?_
  refine c_ifp rfl (fun h => absurd h (by omega)) (fun _ => ?_)
  refine gn 10 ?_
  refine c_ifp rfl (fun h => absurd h (by omega)) (fun _ => ?_)
  refine gn 10 ?_
  refine c_ifp rfl (fun h => absurd h (by omega)) (fun _ => ?_)
  refine gn 8 ?_
  refine oT ?_; intro _ _
  refine gn 8 ?_
  refine oT ?_; intro _ _
  refine gn 8 ?_
  refine oT ?_; intro _ _
  refine gn 10 ?_
  refine WR.sel (.cons .head (.cons (.tail .head) .nil)) ?_
  refine r_fn (l := [.tmp 4, .tmp 5]) results165 rfl rfl ?_
  exact ⟨_, _, rfl, rfl⟩
/-- To an offset from the beginning. -/
theorem seekS_is {d : Nat} (h63 : d < 9223372036854775808) :
    Ctr prog 290 [.pointer (some ⟨gr, 0, none⟩), .int .i64 d, .int .i64 0] G [(gr, RB gs n cap i)] (fun r H' => r = .tuple #[.int .i64 d, .nilIface] ∧ H' = [(gr, RB gs n cap d)]) := by
  refine fn_enter 42 func290 rfl ntmps290 rfl ?_
  intro w0
  refine gn 11 ?_
  refine oT ?_; intro _ _
  refine gn 34 ?_
  refine c_ifp rfl (fun h => absurd h (by omega)) (fun _ => ?_)
  refine gn 8 ?_
  refine oT ?_; intro _ _
  refine gn 10 ?_
  refine r_fn (l := [.tmp 6, .tmp 7]) results290 rfl rfl ?_
  exact ⟨rfl, rfl⟩
end
end Go.Proofs
namespace Go.Proofs
open Go Go.Sl Tryz
set_option maxRecDepth 100000
set_option maxHeartbeats 1000000
section
variable {G HB : HP} {ga gd gS gL gr gs gq gt gh ns nl n cap i k m L mx lo hi base : Nat} {ph a b l0 l1 : Int} {bs tl : List UInt8} {rest pl : List Value} {e : TypeId} {gE : Addr} {t3 : List Value} {e3 : TypeId} {f3 : Nat × Nat} {ty ln st y bo it ui fl tg ta v0 ver : Value}
theorem hMp_is (hS : SkR ga gq gr gs n cap i HB) (hD : (gs, DB bs rest lo hi) ∈ G) (hE : (3, Obj.cells (EV gE :: t3).toArray e3 f3) ∈ G) (hn : bs.length = n) (hc : n ≤ cap) (h63 : cap < 9223372036854775808) :
    Ctr prog 223 [.pointer (some ⟨gd, 0, none⟩), .int .u8 161, .pointer (some ⟨gt, 0, none⟩)] G ((gd, DcO ga gS gL 0 0 ph) :: (gt, TkO ty ln st y bo it ui fl tg ta) :: (gS, StO a b) :: (gL, LfO l0 l1) :: HB) (fun r H' => ∃ HB', r = .tuple #[.bool false, .nilIface] ∧ SkR ga gq gr gs n cap i HB' ∧ H' = (gd, DcO ga gS gL 1 1 5) :: (gt, TkO (.int .u8 123) (.int .i64 1) st y bo it ui fl tg ta) :: (gS, StO ph b) :: (gL, LfO 1 l1) :: HB') := by
  have hu := decL_is (gd := gd) (gS := gS) (gL := gL) (ns := 0) (nl := 0) (ph := ph) (base := 160) (k := 1) hS hD hE hn hc h63 (by decide) (by decide) (by decide) (fun h => absurd h (by decide))
  refine fn_enter 335 func223 rfl ntmps223 rfl ?_
  intro w0
  refine gn 171 ?_
  refine oL (lC hu rfl (.cons .head (Sel.appR [_, _, _] HB))) ?_
  rintro ⟨r, H'⟩ ⟨HB', rfl, h1, rfl⟩
  refine o_perm List.perm_append_comm ?_
  simp only [List.cons_append, List.nil_append]
  refine gn 12 ?_
  refine oT ?_; intro _ _
  refine gn 8 ?_
  refine oT ?_; intro _ _
  refine gn 10 ?_
  refine oL (l_bs1 runUnderlying99 sizeOf3 zeroValue3 rfl rfl rfl) ?_; intro g153 _
  refine oL (l_appR (sz := 1) (m := 1) (news := [.int .i64 1]) underlying99 (info_of typeInfo3) rfl rfl rfl rfl (.tail (.tail (.tail .head))) rfl (by decide) (.inr rfl) (.blk underlying99 (.inl (.head _)) (.take .done) (by simp [Value.oneCell'])) rfl) ?_
  rintro ⟨⟩ -
  refine gn 2 ?_
  refine oT ?_; intro _ _
  refine gn 5 ?_
  refine oL (lC (push_is (ns := 0) (p := 5) (.inl rfl)) rfl (.cons (.tail (.tail (.tail (.tail .head)))) (.cons (.tail (.tail .head)) .nil))) ?_
  rintro ⟨r, H''⟩ rfl
  simp only [List.cons_append, List.nil_append]
  refine gn 10 ?_
  refine WR.sel (.cons .head (.cons (.tail (.tail .head)) (.cons .head (.cons (.tail .head) (Sel.appR [_] HB'))))) ?_
  refine r_fn (l := [.tmp 6, .tmp 7]) results223 rfl rfl ?_
  exact ⟨_, rfl, h1, rfl⟩
theorem hUp_is (hS : SkR ga gq gr gs n cap i HB) (hD : (gs, DB bs rest lo hi) ∈ G) (hE : (3, Obj.cells (EV gE :: t3).toArray e3 f3) ∈ G) (hn : bs.length = n) (hc : n ≤ cap) (h63 : cap < 9223372036854775808) :
    Ctr prog 223 [.pointer (some ⟨gd, 0, none⟩), .int .u8 2, .pointer (some ⟨gt, 0, none⟩)] G ((gd, DcO ga gS gL ns nl ph) :: (gt, TkO ty ln st y bo it ui fl tg ta) :: HB) (fun r H' => ∃ HB', r = .tuple #[.bool true, .nilIface] ∧ SkR ga gq gr gs n cap i HB' ∧ H' = (gd, DcO ga gS gL ns nl ph) :: (gt, TkO (.int .u8 117) ln st y bo it (.int .u64 2) fl tg ta) :: HB') := by
  have hu := decU_is (gd := gd) (gS := gS) (gL := gL) (ns := ns) (nl := nl) (ph := ph) (base := 0) (k := 2) hS hD hE hn hc h63 (by decide) (by decide) (by decide) (fun h => absurd h (by decide))
  refine fn_enter 335 func223 rfl ntmps223 rfl ?_
  intro w0
  refine gn 107 ?_
  refine oT ?_; intro _ _
  refine gn 7 ?_
  refine oL (lC hu rfl (.cons .head (Sel.appR [_] HB))) ?_
  rintro ⟨r, H'⟩ ⟨HB', rfl, h1, rfl⟩
  refine o_perm List.perm_append_comm ?_
  simp only [List.cons_append, List.nil_append]
  refine gn 5 ?_
  refine oT ?_; intro _ _
  refine gn 11 ?_
  refine WR.sel (.cons (.tail .head) (.cons .head (Sel.all HB'))) ?_
  refine r_fn (l := [.tmp 6, .tmp 7]) results223 rfl rfl ?_
  exact ⟨_, rfl, h1, rfl⟩
theorem s1p_is (hS : SkR ga gq gr gs n cap i HB) (hD : (gs, DB bs rest lo hi) ∈ G) (hE : (3, Obj.cells (EV gE :: t3).toArray e3 f3) ∈ G) (hn : bs.length = n) (hc : n ≤ cap) (h63 : cap < 9223372036854775808) (hb : bs[i]? = some 161) :
    Ctr prog 203 [.pointer (some ⟨gd, 0, none⟩), .pointer (some ⟨gt, 0, none⟩)] G ((gd, DcO ga gS gL 0 0 0) :: (gt, TkO ty ln st y bo it ui fl tg ta) :: (gS, StO a b) :: (gL, LfO l0 l1) :: HB) (fun r H' => ∃ HB', r = .tuple #[.bool false, .nilIface] ∧ SkR ga gq gr gs n cap (i + 1) HB' ∧ H' = (gd, DcO ga gS gL 1 1 5) :: (gt, TkO (.int .u8 123) (.int .i64 1) st y bo it ui fl (.bool false) ta) :: (gS, StO 0 b) :: (gL, LfO 1 l1) :: HB') := by
  have hr := readn1_is hS hD hE hn hc h63 hb
  refine fn_enter 27 func203 rfl ntmps203 rfl ?_
  intro w0
  refine gn 12 ?_
  refine oL (lI hr rfl rfl (Sel.appR [_, _, _, _] HB)) ?_
  rintro ⟨r, H1⟩ ⟨rfl, h1⟩
  refine o_perm List.perm_append_comm ?_
  simp only [List.cons_append, List.nil_append]
  refine gn 22 ?_
  refine oT ?_; intro _ _
  refine gn 7 ?_
  refine oL (lC (hMp_is h1 hD hE hn hc h63) rfl (Sel.all _)) ?_
  rintro ⟨r, H2⟩ ⟨HB2, rfl, h2, rfl⟩
  simp only [List.append_nil]
  refine gn 7 ?_
  refine r_fn (l := [.tmp 4, .tmp 5]) results203 rfl rfl ?_
  exact ⟨_, rfl, h2, rfl⟩
theorem Ss1p_is (hS : SkR ga gq gr gs n cap i HB) (hD : (gs, DB bs rest lo hi) ∈ G) (hE : (3, Obj.cells (EV gE :: t3).toArray e3 f3) ∈ G) (hn : bs.length = n) (hc : n ≤ cap) (h63 : cap < 9223372036854775808) (hb : bs[i]? = some 161) :
    Ctr prog 154 [.pointer (some ⟨gd, 0, none⟩), .pointer (some ⟨gt, 0, none⟩)] G ((gd, DcO ga gS gL 0 0 0) :: (gt, TkO ty ln st y bo it ui fl tg ta) :: (gS, StO a b) :: (gL, LfO l0 l1) :: HB) (fun r H' => ∃ HB', r = .tuple #[.bool false, .nilIface] ∧ SkR ga gq gr gs n cap (i + 1) HB' ∧ H' = (gd, DcO ga gS gL 1 1 5) :: (gt, TkO (.int .u8 123) (.int .i64 1) st y bo it ui fl (.bool false) ta) :: (gS, StO 0 b) :: (gL, LfO 1 l1) :: HB') := by
  refine fn_enter 99 func154 rfl ntmps154 rfl ?_
  intro w0
  refine gn 26 ?_
  refine oL (lC (s1p_is hS hD hE hn hc h63 hb) rfl (Sel.all _)) ?_
  rintro ⟨r, H1⟩ ⟨HB2, rfl, h2, rfl⟩
  simp only [List.append_nil]
  refine gn 33 ?_
  refine r_fn (l := [.tmp 4, .tmp 5]) results154 rfl rfl ?_
  exact ⟨_, rfl, h2, rfl⟩
theorem s6p_is (hS : SkR ga gq gr gs n cap i HB) (hD : (gs, DB bs rest lo hi) ∈ G) (hE : (3, Obj.cells (EV gE :: t3).toArray e3 f3) ∈ G) (hn : bs.length = n) (hc : n ≤ cap) (h63 : cap < 9223372036854775808) (hb : bs[i]? = some 2) :
    Ctr prog 209 [.pointer (some ⟨gd, 0, none⟩), .pointer (some ⟨gt, 0, none⟩)] G ((gd, DcO ga gS gL 1 1 6) :: (gt, TkO ty ln st y bo it ui fl tg ta) :: (gS, StO a b) :: (gL, LfO l0 l1) :: HB) (fun r H' => ∃ HB', r = .tuple #[.bool false, .nilIface] ∧ SkR ga gq gr gs n cap (i + 1) HB' ∧ H' = (gd, DcO ga gS gL 1 1 5) :: (gt, TkO (.int .u8 117) ln st y bo it (.int .u64 2) fl (.bool false) ta) :: (gS, StO a b) :: (gL, LfO l0 l1) :: HB') := by
  have hr := readn1_is hS hD hE hn hc h63 hb
  refine fn_enter 32 func209 rfl ntmps209 rfl ?_
  intro w0
  refine gn 12 ?_
  refine oL (lI hr rfl rfl (Sel.appR [_, _, _, _] HB)) ?_
  rintro ⟨r, H1⟩ ⟨rfl, h1⟩
  refine o_perm List.perm_append_comm ?_
  simp only [List.cons_append, List.nil_append]
  refine gn 22 ?_
  refine oT ?_; intro _ _
  refine gn 7 ?_
  refine oT ?_; intro _ _
  refine gn 7 ?_
  refine oL (lC (hUp_is h1 hD hE hn hc h63) rfl (.cons .head (.cons .head (Sel.appR [_, _] H1)))) ?_
  rintro ⟨r, H2⟩ ⟨HB2, rfl, h2, rfl⟩
  simp only [List.cons_append]
  refine gn 14 ?_
  refine WR.sel (.cons .head (.cons .head (Sel.mid2 HB2 _ _))) ?_
  refine r_fn (l := [.tmp 4, .tmp 5]) results209 rfl rfl ?_
  exact ⟨_, rfl, h2, rfl⟩
theorem Ss6p_is (hS : SkR ga gq gr gs n cap i HB) (hD : (gs, DB bs rest lo hi) ∈ G) (hE : (3, Obj.cells (EV gE :: t3).toArray e3 f3) ∈ G) (hn : bs.length = n) (hc : n ≤ cap) (h63 : cap < 9223372036854775808) (hb : bs[i]? = some 2) :
    Ctr prog 154 [.pointer (some ⟨gd, 0, none⟩), .pointer (some ⟨gt, 0, none⟩)] G ((gd, DcO ga gS gL 1 1 6) :: (gt, TkO ty ln st y bo it ui fl tg ta) :: (gS, StO a b) :: (gL, LfO l0 l1) :: HB) (fun r H' => ∃ HB', r = .tuple #[.bool false, .nilIface] ∧ SkR ga gq gr gs n cap (i + 1) HB' ∧ H' = (gd, DcO ga gS gL 1 1 5) :: (gt, TkO (.int .u8 117) ln st y bo it (.int .u64 2) fl (.bool false) ta) :: (gS, StO a b) :: (gL, LfO l0 l1) :: HB') := by
  refine fn_enter 99 func154 rfl ntmps154 rfl ?_
  intro w0
  refine gn 68 ?_
  refine oL (lC (s6p_is hS hD hE hn hc h63 hb) rfl (Sel.all _)) ?_
  rintro ⟨r, H1⟩ ⟨HB2, rfl, h2, rfl⟩
  simp only [List.append_nil]
  refine gn 33 ?_
  refine r_fn (l := [.tmp 4, .tmp 5]) results154 rfl rfl ?_
  exact ⟨_, rfl, h2, rfl⟩
/-- What begins a file of version 2, behind its length. -/
def headP : List UInt8 := 161 :: 103 :: (versT ++ [2])
def hedP : List UInt8 := uv headP.length ++ headP
theorem decP_is (hD : (gs, DB bs rest lo hi) ∈ G) (hE : (3, Obj.cells (EV gE :: t3).toArray e3 f3) ∈ G) (hn : bs.length = n) (hc : n ≤ cap) (h63 : cap < 9223372036854775808) (hbs : bs = headP) (h1v : v0.oneCell' = true) :
    Ctr prog 85 [.slice (some ⟨gs, 0, none⟩) n cap, .pointer (some ⟨gh, 0, none⟩)] G [(gh, C [v0, ver] 109)] (fun r H' => r = .nilIface ∧ H' = [(gh, C [v0, .int .u64 2] 109)]) := by
  have e0 : bs[0]? = some 161 := by rw [hbs]; rfl
  have e5 : bs[1]? = some (UInt8.ofNat (96 + hx 7)) := by rw [hbs]; rfl
  have e6 : (bs.drop (1 + 1)).take 7 = versT := by rw [hbs]; rfl
  have e7 : bs[1 + 1 + 7]? = some 2 := by rw [hbs]; rfl
  have hnp : n = 10 := by rw [← hn, hbs]; rfl
  refine fn_enter 91 func85 rfl ntmps85 rfl ?_
  intro w0
  refine gn 7 ?_
  refine oX (eB [.bool true, .bool false, .int .i64 0, .bool false, .bool false, .bool false, .bool false]) ?_
  refine gn 1 ?_
  refine oL (lC newReader_is rfl .nil) ?_
  rintro ⟨r, H'⟩ ⟨gr, rfl, rfl⟩
  simp only [List.cons_append, List.nil_append]
  refine gn 1 ?_
  refine oL (lC nDec_is rfl .nil) ?_
  rintro ⟨r, H'⟩ ⟨gd, ga, gq, gS, gL, rfl, rfl⟩
  simp only [List.cons_append, List.nil_append]
  have hS0 : SkR ga gq gr gs n cap 0 [(ga, C (SkL (.iface 361 (.pointer (some ⟨gq, 0, none⟩))) (List.replicate 32 (.int .u8 0)) (.int .i64 0) (.slice none 0 0) (.bool false)) 368), (gq, C [RV gr, .int .u8 0, .int .u8 0, .int .u8 0] 363), (gr, RB gs n cap 0)] := .mk (by simp) (.inl rfl)
  refine o_perm (show List.Perm _ ((gh, C [v0, ver] 109) :: (gd, DcO ga gS gL 0 0 0) :: (gS, StO 0 0) :: (gL, LfO 0 0) :: [(ga, C (SkL (.iface 361 (.pointer (some ⟨gq, 0, none⟩))) (List.replicate 32 (.int .u8 0)) (.int .i64 0) (.slice none 0 0) (.bool false)) 368), (gq, C [RV gr, .int .u8 0, .int .u8 0, .int .u8 0] 363), (gr, RB gs n cap 0)]) from (List.perm_append_comm (l₁ := [_, _, _, _, _, _]) (l₂ := [_]))) ?_
  generalize [(ga, C (SkL (.iface 361 (.pointer (some ⟨gq, 0, none⟩))) (List.replicate 32 (.int .u8 0)) (.int .i64 0) (.slice none 0 0) (.bool false)) 368), (gq, C [RV gr, .int .u8 0, .int .u8 0, .int .u8 0] 363), (gr, RB gs n cap 0)] = HB0 at *
  refine gn 5 ?_
  refine oZ ?_; intro g6 _
  refine gn 5 ?_
  refine oL (lC (Ss1p_is hS0 hD hE hn hc h63 e0) rfl (.cons (.tail (.tail .head)) (.cons .head (.cons (.tail .head) (.cons (.tail .head) (Sel.appR [_] HB0)))))) ?_
  rintro ⟨r, H'⟩ ⟨HB1, rfl, hS1, rfl⟩
  refine o_perm List.perm_append_comm ?_
  simp only [List.cons_append, List.nil_append]
  refine gn 41 ?_
  refine c_rounds 3 ?_
  refine gn 13 ?_
  refine oX (eB [.int .u8 0, .int .i64 0, S [], .slice none 0 0, .bool false, .int .i64 0, .int .u64 0, .float .f64 0, .bool false, .int .i64 0]) ?_
  refine oL (l_storea sizeOf255 rfl rfl rfl (by simp [Value.oneCell']) aU (.take (.take (.take (.take (.take (.take (.take (.take (.take (.take .done)))))))))) nofrs0) ?_
  intro _ _
  refine gn 6 ?_
  have hs2' := fun z0 z1 z2 z3 z4 z5 z6 z7 z8 z9 => Ss2_is (gd := gd) (gt := g6) (gS := gS) (gL := gL) (a := 0) (b := 0) (l1 := 0) (ty := z0) (ln := z1) (st := z2) (y := z3) (bo := z4) (it := z5) (ui := z6) (fl := z7) (tg := z8) (ta := z9) (m := 0) (k := 7) hS1 hD hE hn hc h63 (by decide) e5 (by decide) (by decide) (by omega)
  refine oL (lC (hs2' _ _ _ _ _ _ _ _ _ _) rfl (.cons (.tail .head) (.cons (.tail .head) (.cons (.tail .head) (.cons (.tail .head) (Sel.appR [_] HB1)))))) ?_
  rintro ⟨r, H'⟩ ⟨HB4, rfl, hS4, rfl⟩
  refine o_perm List.perm_append_comm ?_
  simp only [List.cons_append, List.nil_append]
  rw [e6]
  refine gn 42 ?_
  refine oX (eB [.int .u8 0, .int .i64 0, S [], .slice none 0 0, .bool false, .int .i64 0, .int .u64 0, .float .f64 0, .bool false, .int .i64 0]) ?_
  refine oL (l_storea sizeOf255 rfl rfl rfl (by simp [Value.oneCell']) aU (.take (.take (.take (.take (.take (.take (.take (.take (.take (.take .done)))))))))) nofrs0) ?_
  intro _ _
  refine gn 6 ?_
  refine oL (lC (Ss6p_is hS4 hD hE hn hc h63 e7) rfl (.cons (.tail .head) (.cons (.tail .head) (.cons (.tail .head) (.cons (.tail .head) (Sel.appR [_] HB4)))))) ?_
  rintro ⟨r, H'⟩ ⟨HB5, rfl, hS5, rfl⟩
  refine o_perm List.perm_append_comm ?_
  simp only [List.cons_append, List.nil_append]
  refine gn 32 ?_
  refine oT ?_; intro _ _
  refine gn 3 ?_
  refine n_rounds ?_
  refine gn 13 ?_
  refine oX (eB [.int .u8 0, .int .i64 0, S [], .slice none 0 0, .bool false, .int .i64 0, .int .u64 0, .float .f64 0, .bool false, .int .i64 0]) ?_
  refine oL (l_storea sizeOf255 rfl rfl rfl (by simp [Value.oneCell']) aU (.take (.take (.take (.take (.take (.take (.take (.take (.take (.take .done)))))))))) nofrs0) ?_
  intro _ _
  refine gn 6 ?_
  refine oL (lC Ss7_is rfl (.cons (.tail .head) (.cons (.tail .head) (.cons (.tail .head) (.cons (.tail .head) (Sel.appR [_] HB5)))))) ?_
  rintro ⟨r, H'⟩ ⟨rfl, rfl⟩
  refine o_perm List.perm_append_comm ?_
  simp only [List.cons_append, List.nil_append]
  refine gn 32 ?_
  refine WR.sel (.cons .head .nil) ?_
  refine r_fn1 results85 rfl ?_
  exact ⟨rfl, rfl⟩
theorem readPragma_is (hD : (gs, DB bs rest lo hi) ∈ G) (hE : (3, Obj.cells (EV gE :: t3).toArray e3 f3) ∈ G) (hn : bs.length = n) (hc : n ≤ cap) (h63 : cap < 9223372036854775808) (hi' : i ≤ n) (hbs : bs.drop i = hedP ++ tl) (hL : 10 ≤ mx) (hmx : mx < 9223372036854775808) (hn48 : n ≤ 281474976710656) :
    Ctr prog 51 [RV gr, .int .u64 (mx : Nat)] G [(gr, RB gs n cap i)] (fun r H' => ∃ gh, r = .tuple #[.pointer (some ⟨gh, 0, none⟩), .nilIface] ∧ H' = [(gr, RB gs n cap (i + 11)), (gh, C [.slice none 0 0, .int .u64 2] 109)]) := by
  have hlen := congrArg List.length hbs
  rw [List.length_drop, List.length_append, show hedP.length = 11 from rfl] at hlen
  refine fn_enter 28 func51 rfl ntmps51 rfl ?_
  intro w0
  refine gn 10 ?_
  refine oL (lC (ldRead_is (body := headP) (tl := tl) hD hn hc h63 hi' (by rw [hbs, hedP, List.append_assoc]) rfl (by decide) hL hmx hn48) rfl (.cons .head .nil)) ?_
  rintro ⟨r, H'⟩ ⟨gb, rfl, rfl⟩
  simp only [List.cons_append, List.nil_append]
  refine gn 19 ?_
  refine oZ ?_; intro g8 _
  refine gn 6 ?_
  refine oL (lJ (HJ := [(gb, DB headP [] 0 0)]) (decP_is (v0 := .slice none 0 0) (List.mem_append_right _ (.head _)) (List.mem_append_left _ hE) rfl (Nat.le_refl _) (by decide) rfl rfl) rfl (.cons .head .nil) (by intro p hp; rcases List.mem_singleton.1 hp with rfl; simp [DB])) ?_
  rintro ⟨r, H'⟩ ⟨rfl, rfl⟩
  refine o_perm List.perm_append_comm ?_
  simp only [List.cons_append, List.nil_append]
  refine gn 19 ?_
  refine WR.sel (.cons .head (.cons (.tail .head) .nil)) ?_
  refine r_fn (l := [.tmp 4, .tmp 5]) results51 rfl rfl ?_
  exact ⟨_, rfl, rfl⟩
end
end Go.Proofs
namespace Go.Proofs
open Go Go.Sl Tryz
set_option maxRecDepth 100000
set_option maxHeartbeats 1000000
/-- A file of version 2: its header. -/
structure V2 (bs : List UInt8) (D Z : Nat) : Prop where
  ex : ∃ (t16 tl : List UInt8) (iO : Nat), t16.length = 16 ∧ iO < 9223372036854775808 ∧ bs = hedP ++ (t16 ++ (lowB (D : Nat) 8 ++ (lowB (Z : Nat) 8 ++ (lowB (iO : Nat) 8 ++ tl))))
  hD : 51 ≤ D ∧ D < 9223372036854775808
  hS : 0 < Z ∧ Z < 9223372036854775808
/-- A file: where its data begin, how many bytes they are said to have. -/
inductive Fl (bs : List UInt8) (D Z : Nat) : Prop where
  | one (hD : D = 0) (hS : Z = 0)
  | two (h : V2 bs D Z)
section
variable {G HI : HP} {gr gs n cap i d lo hi p0 D Z : Nat} {bs tl : List UInt8} {rest : List Value} {xs : List En} {blks : List Blk} {gE : Addr} {t3 : List Value} {e3 : TypeId} {f3 : Nat × Nat} {tv : TypeId} {v vo : Value} {b0 ib b2 b3 b4 b5 : Bool} {a6 a7 cd : Int} {R : HP → Prop}
theorem readAny_is (hF : Fl bs D Z) (hpay : bs.drop D = hedB xs ++ tl) (hD : (gs, DB bs rest lo hi) ∈ G) (hE : (3, Obj.cells (EV gE :: t3).toArray e3 f3) ∈ G) (hn : bs.length = n) (hc : n ≤ cap) (h63 : cap < 9223372036854775808) (hN : xs.length ≤ 200) (hok : ∀ x ∈ xs, CidOk x) (hh : (headB xs).length ≤ 33554432) (hn40 : n ≤ 1099511627776) :
    Ctr prog 51 [RV gr, .int .u64 33554432] G [(gr, RB gs n cap 0)] (fun r H' => ∃ (gh : Nat) (vr : Value) (HR : HP) (ver : Int) (p1 : Nat), r = .tuple #[.pointer (some ⟨gh, 0, none⟩), .nilIface] ∧ ((D = 0 ∧ Z = 0 ∧ ver = 1 ∧ p1 = D + (hedB xs).length) ∨ (V2 bs D Z ∧ ver = 2 ∧ p1 = 11)) ∧ H' = (gr, RB gs n cap p1) :: (gh, C [vr, .int .u64 ver] 109) :: HR) := by
  cases hF with
  | one h1 h2 =>
    subst h1
    refine Ctr.perm (readHeader_is (i := 0) (mx := 33554432) (tl := tl) hD hE hn hc h63 (Nat.zero_le _) hpay hN hok hh (by decide) (by omega)) (List.Perm.refl _) ?_
    rintro r H' ⟨gh, v, HR, rfl, -, rfl⟩
    exact ⟨_, .refl _, gh, v, HR, 1, _, rfl, .inl ⟨rfl, h2, rfl, rfl⟩, rfl⟩
  | two h =>
    obtain ⟨t16, t2, iO, -, -, hbs⟩ := h.ex
    refine Ctr.perm (readPragma_is (i := 0) (mx := 33554432) hD hE hn hc h63 (Nat.zero_le _) (by rw [List.drop_zero]; exact hbs) (by decide) (by decide) (by omega)) (List.Perm.refl _) ?_
    rintro r H' ⟨gh, rfl, rfl⟩
    exact ⟨_, .refl _, gh, _, [], 2, 11, rfl, .inr ⟨h, rfl, rfl⟩, rfl⟩
theorem loadIx_is (hF : Fl bs D Z) (hpay : bs.drop D = hedB xs ++ (blks.flatMap secB ++ tl)) (htl : Z = 0 ∨ blks = [] → tl = []) (hS : Z = 0 ∨ Z = (hedB xs).length + (blks.flatMap secB).length) (hDn : D ≤ n)
    (hO : OptA G b0 ib b2 b3 b4 b5 a6 a7 vo cd) (hD : (gs, DB bs rest lo hi) ∈ G) (hE : (3, Obj.cells (EV gE :: t3).toArray e3 f3) ∈ G) (hn : bs.length = n) (hc : n ≤ cap) (h63 : cap < 9223372036854775808) (hn40 : n ≤ 1099511627776)
    (hN : xs.length ≤ 200) (hok : ∀ x ∈ xs, CidOk x) (hbk : ∀ b ∈ blks, CidOk b.1) (hnb : blks.length ≤ 1000) (hh : (headB xs).length ≤ 33554432)
    (hL : LdI G tv v HI (keepE ib (genE (hedB xs).length blks)) R) :
    Ctr prog 95 [.iface tv v, RV gr, vo] G ((gr, RB gs n cap 0) :: HI) (fun r H' => r = .nilIface ∧ ∃ Hl, R Hl ∧ H' = (gr, RB gs n cap (D + ((hedB xs).length + (blks.flatMap secB).length))) :: Hl) := by
  obtain ⟨p0, hp0⟩ : ∃ p0, p0 = (hedB xs).length := ⟨_, rfl⟩
  have hrd := readAny_is (gr := gr) hF hpay hD hE hn hc h63 hN hok hh hn40
  rw [← hp0] at hL hrd hS ⊢
  have hdp : bs.drop (D + p0) = blks.flatMap secB ++ tl := by rw [← List.drop_drop, hpay, hp0, List.drop_left]
  have hpl := congrArg List.length hpay
  rw [List.length_drop, List.length_append, List.length_append, hn, ← hp0] at hpl
  have hNz : D + (p0 + (blks.flatMap secB).length) ≤ n := by omega
  refine fn_enter 193 func95 rfl ntmps95 rfl ?_
  intro w0
  refine gn 8 ?_
  refine oL (lC (apply_is hO) rfl .nil) ?_
  rintro ⟨r, H'⟩ ⟨rfl, rfl⟩
  simp only [List.nil_append]
  refine oZ ?_; intro g7 _
  refine oL (l_storea sizeOf187 rfl rfl rfl (by simp [Value.oneCell']) aU (.take (.take (.take (.take (.take (.take (.take (.take (.take (.take (.take (.take (.take .done))))))))))))) nofrs0) ?_
  intro _ _
  refine gn 5 ?_
  refine o_pure rfl call164 (toSeek_is) rfl rfl ?_
  refine gn 8 ?_
  refine oL (lC hrd rfl (.cons (.tail .head) .nil)) ?_
  rintro ⟨r, H'⟩ ⟨gh, vr, HR, ver, p1, rfl, hV, rfl⟩
  refine o_perm List.perm_middle ?_
  simp only [List.cons_append]
  refine gn 32 ?_
  refine c_cut (X := Unit) (fun _ => [(0, .iface tv v), (7, .pointer (some ⟨g7, 0, none⟩)), (8, RV gr), (11, .int .i64 Z), (12, .int .i64 D)]) (fun _ => (g7, C (OpL (.int .u64 a6) (.int .u64 a7) (.int .u64 (if cd = 0 then 1025 else cd)) (.bool b0) (.int .u64 2048) (.bool ib) (.bool b2) (.bool b3) (.int .u64 9223372036854775807) (.bool b4) (.bool b5) (.int .u64 33554432) (.int .u64 8388608)) 187) :: (gr, RB gs n cap (D + p0)) :: HI) (fun _ => True) ?_ ?_
  · skip
    rcases hV with ⟨hD0, hS0, rfl, rfl⟩ | ⟨hV, rfl, rfl⟩
    · refine gn 10 ?_
      exact n_cut' () trivial (sub_cons rfl (sub_cons rfl (sub_cons rfl (sub_cons (by rw [hS0]; rfl) (sub_cons (by rw [hD0]; rfl) sub_nil))))) (.refl _) (.cons_cons _ (.cons_cons _ (.cons _ (List.sublist_append_right HR HI))))
    · skip
      obtain ⟨t16, t2, iO, ht16, hiO, hbs⟩ := hV.ex
      have hD51 := hV.hD
      have hS63 := hV.hS
      have hb11 : bs.drop 11 = t16 ++ (lowB (D : Nat) 8 ++ (lowB (Z : Nat) 8 ++ (lowB (iO : Nat) 8 ++ t2))) := by rw [hbs]; exact List.drop_left' rfl
      refine gn 17 ?_
      refine oZ ?_; intro g13 _
      refine gn 5 ?_
      refine oL (lC (hdrFrom_is (i := 11) hD hn hc h63 hb11 ht16 hD51.1 hD51.2 hS63.1 hS63.2 hiO) rfl (.cons (.tail (.tail .head)) (.cons .head .nil))) ?_
      rintro ⟨r, H'⟩ ⟨u, w, rfl, rfl⟩
      simp only [List.cons_append, List.nil_append]
      refine gn 25 ?_
      refine c_ifp rfl (fun h => absurd h (by omega)) (fun _ => ?_)
      refine gn 10 ?_
      refine c_ifp rfl (fun h => absurd h (by omega)) (fun _ => ?_)
      refine gn 8 ?_
      refine oL (lI (seekS_is (d := D) (by omega)) rfl rfl (.cons .head .nil)) ?_
      rintro ⟨r, H'⟩ ⟨rfl, rfl⟩
      simp only [List.cons_append, List.nil_append]
      refine gn 37 ?_
      refine oL (lC (readHeader_is (i := D) (mx := 33554432) (tl := blks.flatMap secB ++ tl) hD hE hn hc h63 hDn hpay hN hok hh (by decide) (by omega)) rfl (.cons .head .nil)) ?_
      rintro ⟨r, H'⟩ ⟨gh2, vr2, HR2, rfl, -, rfl⟩
      simp only [List.cons_append]
      rw [← hp0]
      refine gn 29 ?_
      exact n_cut' () trivial aK (show List.Perm _ ((g7, _) :: (gr, _) :: (((gh2, _) :: (g13, _) :: (gh, _) :: (HR2 ++ HR)) ++ HI) ) from aP) (.cons_cons _ (.cons_cons _ (List.sublist_append_right _ HI)))
  rintro ⟨⟩ -
  refine gn 10 ?_
  refine oL (lI (seek_is (i := D + p0) (by omega)) rfl rfl (.cons (.tail .head) .nil)) ?_
  rintro ⟨r, H'⟩ ⟨rfl, rfl⟩
  simp only [List.cons_append, List.nil_append]
  refine gn 26 ?_
  refine oL (l_mks (l := []) underlying182 (info_of typeInfo184) rfl rfl rfl rfl (by decide) (by decide) (by decide) (by decide) (by kernel_rfl)) ?_
  intro gR _
  refine gn 4 ?_
  refine c_cut (X := Value × HP) (fun y => [(0, .iface tv v), (18, y.1)]) (fun y => (gr, RB gs n cap (D + (p0 + (blks.flatMap secB).length))) :: (y.2 ++ HI)) (fun y => Osl 184 2 y.1 (keepE ib (genE p0 blks)).length ((keepE ib (genE p0 blks)).flatMap recV) y.2) ?_ ?_
  · skip
    refine gn 1 ?_
    refine c_loop (X := Nat × Value × HP) (fun y => [(0, .iface tv v), (7, .pointer (some ⟨g7, 0, none⟩)), (8, RV gr), (11, .int .i64 Z), (12, .int .i64 D), (17, .int .i64 (p0 + ((blks.take y.1).flatMap secB).length : Nat)), (18, y.2.1)]) (fun y => (g7, C (OpL (.int .u64 a6) (.int .u64 a7) (.int .u64 (if cd = 0 then 1025 else cd)) (.bool b0) (.int .u64 2048) (.bool ib) (.bool b2) (.bool b3) (.int .u64 9223372036854775807) (.bool b4) (.bool b5) (.int .u64 33554432) (.int .u64 8388608)) 187) :: (gr, RB gs n cap (D + (p0 + ((blks.take y.1).flatMap secB).length))) :: (y.2.2 ++ HI)) (fun y => y.1 ≤ blks.length ∧ (Z ≠ 0 → 0 < y.1 → y.1 < blks.length) ∧ Osl 184 2 y.2.1 (keepE ib (genE p0 (blks.take y.1))).length ((keepE ib (genE p0 (blks.take y.1))).flatMap recV) y.2.2) (fun y => blks.length - y.1) (0, .slice (some ⟨gR, 0, none⟩) 0 0, [(gR, C [] 184)]) ⟨Nat.zero_le _, fun _ h => absurd h (Nat.lt_irrefl 0), .own (xs := []) (rest := []) rfl rfl (Nat.le_refl _) (by decide) (.inr rfl)⟩ (sub_cons rfl (sub_cons rfl (sub_cons rfl (sub_cons rfl (sub_cons rfl (sub_cons (by show some (Value.int .i64 ((D + p0 - D : Nat) : Int)) = some _; rw [Nat.add_sub_cancel_left]; rfl) aK)))))) (show List.Perm ((gR, C [] 184) :: (gr, RB gs n cap (D + p0)) :: (g7, _) :: HI) ((g7, _) :: (gr, RB gs n cap (D + p0)) :: (gR, C [] 184) :: HI) from aP) ?_
    rintro ⟨j, sv, HS⟩ ⟨hj, hjS, ho⟩
    simp only at hj hjS ho ⊢
    obtain ⟨q, hq⟩ : ∃ q, q = p0 + ((blks.take j).flatMap secB).length := ⟨_, rfl⟩
    rw [← hq]
    refine gn 4 ?_
    by_cases hlt : j < blks.length
    · have hsx := hbk blks[j] (List.getElem_mem hlt)
      have hcl := cidB_len hsx.ht hsx.hd
      have hdq : bs.drop (D + q) = secB blks[j] ++ ((blks.drop (j + 1)).flatMap secB ++ tl) := by rw [hq, ← Nat.add_assoc, ← List.drop_drop, hdp, sflat_split hlt, List.append_assoc, List.drop_left, List.append_assoc]
      have hlq := congrArg List.length hdq
      rw [List.length_drop, List.length_append, List.length_append] at hlq
      have hfs : ((blks.take (j + 1)).flatMap secB).length = ((blks.take j).flatMap secB).length + (secB blks[j]).length := by rw [sflat_succ hlt, List.length_append]
      have hgs : genE p0 (blks.take (j + 1)) = genE p0 (blks.take j) ++ [{ blks[j].1 with o := (q : Nat) }] := by rw [List.take_succ_eq_append_getElem hlt, genE_snoc, hq]
      have hks := keepE_snoc ib (genE p0 (blks.take j)) { blks[j].1 with o := (q : Nat) }
      rw [← hgs] at hks
      have hkl : (keepE ib (genE p0 (blks.take j))).length ≤ 1000 := by
        have h1 := List.length_filter_le (fun x : En => ib || decide (x.h ≠ 0)) (genE p0 (blks.take j))
        rw [genE_len, List.length_take] at h1
        simp only [keepE]
        omega
      generalize blks[j] = bj at *
      obtain ⟨x, dat⟩ := bj
      simp only at hsx hcl hks
      have hseq : secB (x, dat) = uv ((cidB x).length + dat.length) ++ (cidB x ++ dat) := rfl
      have hslen : (secB (x, dat)).length = (uv ((cidB x).length + dat.length)).length + ((cidB x).length + dat.length) := by rw [hseq]; simp
      obtain ⟨L, hL0⟩ : ∃ L, L = (cidB x).length + dat.length := ⟨_, rfl⟩
      rw [← hL0] at hseq hslen
      have hup := uv_pos L
      have h1b : bs.drop (D + q) = uv L ++ (cidB x ++ (dat ++ ((blks.drop (j + 1)).flatMap secB ++ tl))) := by rw [hdq, hseq]; simp
      have h2b : bs.drop (D + q + (uv L).length) = cidB x ++ (dat ++ ((blks.drop (j + 1)).flatMap secB ++ tl)) := by rw [← List.drop_drop, h1b, List.drop_left]
      refine oL (lC (readU_is (x := L) (rdB (gr := gr) (cap := cap) (i := D + q) hD hn (by omega)) (by omega) h1b) rfl (.cons (.tail .head) .nil)) ?_
      rintro ⟨r, H'⟩ ⟨rfl, rfl⟩
      refine o_perm (.swap _ _ _) ?_
      simp only [List.cons_append, List.nil_append]
      refine gn 24 ?_
      refine c_ifp rfl (fun h => absurd h (by omega)) (fun _ => ?_)
      refine gn 5 ?_
      refine oL (lC (cidR_is (crdR (gr := gr) (i := D + q + (uv L).length) hD hn hc h63 (by omega)) h2b hsx.ht hsx.hf hsx.hd) rfl (.cons (.tail .head) .nil)) ?_
      rintro ⟨r, H'⟩ ⟨rfl, rfl⟩
      refine o_perm (.swap _ _ _) ?_
      simp only [List.cons_append, List.nil_append]
      refine gn 4 ?_
      refine oZ ?_; intro g22 _
      refine gn 1 ?_
      refine oL (l_storea sizeOf111 rfl rfl rfl (by simp [Value.oneCell']) aU (.take .done) nofrs0) ?_
      intro _ _
      refine gn 14 ?_
      refine c_cut (X := Value × HP) (fun y => [(0, .iface tv v), (7, .pointer (some ⟨g7, 0, none⟩)), (8, RV gr), (11, .int .i64 Z), (12, .int .i64 D), (18, y.1), (19, .int .u64 L), (21, .int .i64 (cidB x).length)]) (fun y => (g7, C (OpL (.int .u64 a6) (.int .u64 a7) (.int .u64 (if cd = 0 then 1025 else cd)) (.bool b0) (.int .u64 2048) (.bool ib) (.bool b2) (.bool b3) (.int .u64 9223372036854775807) (.bool b4) (.bool b5) (.int .u64 33554432) (.int .u64 8388608)) 187) :: (gr, RB gs n cap (D + q + (uv L).length + (cidB x).length)) :: (y.2 ++ HI)) (fun y => Osl 184 2 y.1 (keepE ib (genE p0 (blks.take (j + 1)))).length ((keepE ib (genE p0 (blks.take (j + 1)))).flatMap recV) y.2) ?_ ?_
      · have hA : ∀ s2 HS2, Osl 184 2 s2 ((keepE ib (genE p0 (blks.take j))).length + 1) ((keepE ib (genE p0 (blks.take j))).flatMap recV ++ [S (cidB x), .int .u64 (q : Nat)]) HS2 → Osl 184 2 s2 (keepE ib (genE p0 (blks.take j)) ++ [{ x with o := (q : Nat) }]).length ((keepE ib (genE p0 (blks.take j)) ++ [{ x with o := (q : Nat) }]).flatMap recV) HS2 := fun s2 HS2 h => by
          rw [List.length_append, List.flatMap_append, List.flatMap_cons, List.flatMap_nil, List.append_nil]
          exact h
        refine gn 5 ?_
        refine o_split 139 rfl (fun hib => ?_) (fun hib => ?_)
        · refine gn 18 ?_
          refine c_ifp rfl (fun h => absurd h (by omega)) (fun _ => ?_)
          refine gn 7 ?_
          refine oX (eB [S (cidB x), .int .u64 (q : Nat)]) ?_
          refine oL (l_bs (l := [S (cidB x), .int .u64 (q : Nat)]) runUnderlying182 sizeOf184 zeroValue184 rfl rfl rfl rfl (by kernel_rfl)) ?_
          intro g162 _
          refine oL (l_append (sz := 2) (m := 1) (news := [S (cidB x), .int .u64 (q : Nat)]) underlying182 (info_of typeInfo184) rfl rfl rfl rfl rfl rfl ho (perm_mid [_, _, _, _] HS HI) (.blk underlying182 (.inl (.head _)) (.take (.take .done)) (by simp [Value.oneCell'])) (by show _ * 24 ≤ _; omega) (by omega)) ?_
          rintro ⟨s2, HS2⟩ ho2
          simp only at ho2 ⊢
          refine gn 2 ?_
          exact n_cut' (s2, HS2) (by show Osl 184 2 s2 _ _ HS2; rw [hks, if_pos (by rw [hib]; rfl)]; exact hA _ _ ho2) aK (perm_mid HS2 [_, _, _, _] HI) (.cons _ (.cons _ (List.Sublist.refl _)))
        · skip
          refine gn 1 ?_
          refine oL (lC (prefix_is hsx.ht hsx.hf hsx.hd) rfl .nil) ?_
          rintro ⟨r, H'⟩ ⟨rfl, rfl⟩
          simp only [List.nil_append]
          refine oX (e_field runUnderlying173 rfl isAgg23 rfl rfl) ?_
          refine gn 4 ?_
          refine c_ifp rfl (fun hx0 => ?_) (fun hx0 => ?_)
          · refine gn 10 ?_
            refine c_ifp rfl (fun h => absurd h (by omega)) (fun _ => ?_)
            refine gn 7 ?_
            refine oX (eB [S (cidB x), .int .u64 (q : Nat)]) ?_
            refine oL (l_bs (l := [S (cidB x), .int .u64 (q : Nat)]) runUnderlying182 sizeOf184 zeroValue184 rfl rfl rfl rfl (by kernel_rfl)) ?_
            intro g162 _
            refine oL (l_append (sz := 2) (m := 1) (news := [S (cidB x), .int .u64 (q : Nat)]) underlying182 (info_of typeInfo184) rfl rfl rfl rfl rfl rfl ho (perm_mid [_, _, _, _] HS HI) (.blk underlying182 (.inl (.head _)) (.take (.take .done)) (by simp [Value.oneCell'])) (by show _ * 24 ≤ _; omega) (by omega)) ?_
            rintro ⟨s2, HS2⟩ ho2
            simp only at ho2 ⊢
            refine gn 2 ?_
            exact n_cut' (s2, HS2) (by show Osl 184 2 s2 _ _ HS2; rw [hks, if_pos (by rw [hib]; simpa using hx0)]; exact hA _ _ ho2) aK (perm_mid HS2 [_, _, _, _] HI) (.cons _ (.cons _ (List.Sublist.refl _)))
          · skip
            refine gn 1 ?_
            exact n_cut' (sv, HS) (by show Osl 184 2 sv _ _ HS; rw [hks, if_neg (by rw [hib]; simpa using hx0), List.append_nil]; exact ho) aK (.refl _) (.cons _ (List.Sublist.refl _))
      rintro ⟨s2, HS2⟩ ho2
      simp only at ho2 ⊢
      refine gn 15 ?_
      rw [show L - (cidB x).length = dat.length by omega]
      refine oL (lI (seekD_is (i := D + q + (uv L).length + (cidB x).length) (d := dat.length) (by omega)) rfl rfl (.cons (.tail .head) .nil)) ?_
      rintro ⟨r, H'⟩ ⟨rfl, rfl⟩
      refine o_perm (.swap _ _ _) ?_
      simp only [List.cons_append, List.nil_append]
      rw [show D + q + (uv L).length + (cidB x).length + dat.length = D + (p0 + ((blks.take (j + 1)).flatMap secB).length) by rw [hfs]; omega]
      have hsub : D + (p0 + ((blks.take (j + 1)).flatMap secB).length) - D = p0 + ((blks.take (j + 1)).flatMap secB).length := by omega
      have hmr : ∀ h : j + 1 < blks.length, ((blks.take (j + 1)).flatMap secB).length < (blks.flatMap secB).length := fun h => by
        have e := congrArg List.length (sflat_split h)
        rw [List.length_append, List.length_append] at e
        have := uv_pos ((cidB blks[j + 1].1).length + blks[j + 1].2.length)
        simp only [secB, List.length_append] at e
        omega
      refine gn 29 ?_
      refine o_splitp 182 rfl (fun h9 => ?_) (fun h9 => ?_)
      · have hS0 : Z ≠ 0 := by omega
        refine gn 6 ?_
        refine c_ifp rfl (fun h10 => ?_) (fun h10 => ?_)
        · have hj1 : blks.take (j + 1) = blks := by
            rcases Nat.lt_or_ge (j + 1) blks.length with h | h
            · have := hmr h
              omega
            · exact List.take_of_length_le h
          rw [hj1] at ho2 ⊢
          refine gn 4 ?_
          exact n_cut' (s2, HS2) ho2 aK (.refl _) (.cons _ (List.Sublist.refl _))
        · skip
          have hj2 : j + 1 < blks.length := by
            rcases Nat.lt_or_ge (j + 1) blks.length with h | h
            · exact h
            · rw [List.take_of_length_le h] at h10
              omega
          refine gn 2 ?_
          exact n_round' (y := (j, sv, HS)) (j + 1, s2, HS2) (by show blks.length - (j + 1) < blks.length - j; omega) ⟨by show j + 1 ≤ blks.length; omega, fun _ _ => hj2, ho2⟩ (sub_cons rfl (sub_cons rfl (sub_cons rfl (sub_cons rfl (sub_cons rfl (sub_cons (by show some (Value.int .i64 ((D + (p0 + ((blks.take (j + 1)).flatMap secB).length) - D : Nat) : Int)) = some _; rw [hsub]) aK)))))) _ (.refl _) (List.Sublist.refl _)
      · skip
        have hS0 : Z = 0 := by omega
        refine gn 9 ?_
        exact n_round' (y := (j, sv, HS)) (j + 1, s2, HS2) (by show blks.length - (j + 1) < blks.length - j; omega) ⟨by show j + 1 ≤ blks.length; omega, fun h => absurd hS0 h, ho2⟩ (sub_cons rfl (sub_cons rfl (sub_cons rfl (sub_cons rfl (sub_cons rfl (sub_cons (by show some (Value.int .i64 ((D + (p0 + ((blks.take (j + 1)).flatMap secB).length) - D : Nat) : Int)) = some _; rw [hsub]) aK)))))) _ (.refl _) (List.Sublist.refl _)
    · skip
      obtain rfl : j = blks.length := by omega
      rw [List.take_length] at hq ho
      have htl0 : tl = [] := htl (by
        rcases Nat.eq_zero_or_pos blks.length with h | h
        · exact .inr (List.eq_nil_of_length_eq_zero h)
        · left
          rcases Nat.eq_zero_or_pos Z with h0 | h0
          · exact h0
          · exact absurd (hjS (by omega) h) (Nat.lt_irrefl _))
      rw [htl0, List.length_nil] at hpl
      have hDq : D + q = n := by omega
      rw [hDq]
      refine oL (lC (readU_end hE) rfl (.cons (.tail .head) .nil)) ?_
      rintro ⟨r, H'⟩ ⟨rfl, rfl⟩
      refine o_perm (.swap _ _ _) ?_
      simp only [List.cons_append, List.nil_append]
      refine gn 20 ?_
      refine oX (e_ieq_same runUnderlying80 (typeInfo260) rfl (runUnderlying260) (sizeOf262) (by decide) rfl rfl) ?_
      refine gn 9 ?_
      exact n_cut' (sv, HS) ho aK (.refl _) (by rw [show D + (p0 + (blks.flatMap secB).length) = n by omega]; exact .cons _ (List.Sublist.refl _))
  rintro ⟨sv, HS⟩ ho
  simp only at ho ⊢
  refine gn 6 ?_
  refine oL (l_calli0 hL.hf hL.hm (hL.hc _ _ ho) rfl rfl rfl (Sel.appR [_] (HS ++ HI))) ?_
  rintro ⟨r, H'⟩ ⟨rfl, hR⟩
  refine o_perm List.perm_append_comm ?_
  simp only [List.cons_append, List.nil_append]
  refine gn 18 ?_
  refine r_fn1 results95 rfl ?_
  exact ⟨rfl, H', hR, rfl⟩
end
end Go.Proofs
namespace Go.Proofs
open Go Go.Sl Tryz
set_option maxRecDepth 100000
set_option maxHeartbeats 1000000
theorem set_low {n : Int} {i : Nat} (h : i < 8) : SetAt (B (lowB n i) ++ List.replicate (8 - i) (.int .u8 0)) (0 + Int.toNat ((i : Nat) : Int) * 1) (.int .u8 ((lowb n i).toNat : Int)) (B (lowB n (i + 1)) ++ List.replicate (8 - (i + 1)) (.int .u8 0)) := by
  obtain ⟨j, hj⟩ : ∃ j, 8 - i = j + 1 := ⟨7 - i, by omega⟩
  have hk : 8 - (i + 1) = j := by omega
  rw [hj, hk, List.replicate_succ, lowB_succ, B_append, List.append_assoc]
  have := SetAt.app' (l := .int .u8 0 :: List.replicate j (.int .u8 0)) (k := 0) (v := .int .u8 ((lowb n i).toNat : Int)) .head (B (lowB n i))
  rw [B_length, lowB_length] at this
  simpa [B] using this
theorem _root_.Go.Sl.TlOk.own {y : Tl} {e : TypeId} {L : List Value} {n : Nat} (h : TlOk 1 n y) (hL : L.length = n) : Osl e 1 (.slice (some ⟨y.g, 0, none⟩) n y.cap) n L [(y.g, Ob L y e)] :=
  .own (by rw [hL, Nat.mul_one]) h.rest h.le h.lt h.mark
theorem B_zero (p : List UInt8) (j : Nat) : B (p ++ List.replicate j 0) ++ [Value.int .u8 0] = B (p ++ List.replicate (j + 1) 0) := by
  show B (p ++ List.replicate j 0) ++ B [0] = _
  rw [← B_append, List.append_assoc, ← List.replicate_succ']
section
variable {G : HP} {n a b d e : Int} {p q m : Nat} {dat ix : List UInt8}
theorem little_is : CtrP prog 112 [.int .u64 n] G (S (lowB n 8)) := by
  refine fn_enter 19 func112 rfl ntmps112 rfl ?_
  intro w0
  refine gn 7 ?_
  refine oZ ?_; intro g3 _
  refine gn 9 ?_
  refine c_loop (X := Nat) (fun i => [(0, .int .u64 n), (3, .pointer (some ⟨g3, 0, none⟩)), (5, .int .i64 i)]) (fun i => [(g3, C (B (lowB n i) ++ List.replicate (8 - i) (.int .u8 0)) 297)]) (fun i => i ≤ 8) (fun i => 8 - i) 0 (Nat.zero_le _) aK (.refl _) ?_
  intro i hi
  refine gn 6 ?_
  refine c_ifp rfl (fun h1 => ?_) (fun h1 => ?_)
  · refine gn 17 ?_
    refine oX (e_as (r := .int .u8 ((lowb n i).toNat : Int)) (e_conv runUnderlying23 runUnderlying5 rfl) (congrArg (Value.int .u8) (low_eq n i (by omega)))) ?_
    refine gn 1 ?_
    refine oL (l_store sizeOf5 rfl rfl rfl .head (set_low (by omega)) nofr0) ?_
    intro _ _
    refine gn 7 ?_
    refine n_round' (y := i) (i + 1) (by omega) (by omega) aK _ (.refl _) (List.Sublist.refl _)
  · skip
    obtain rfl : i = 8 := by omega
    refine gn 8 ?_
    refine oX (e_bsE (bs := lowB n 8) underlying72 underlying5 underlying9 rfl (.inl (.head _)) (CutL.all (by rw [B_length, lowB_length]))) ?_
    refine gn 4 ?_
    refine WR.sel .nil ?_
    refine r_fn1 results112 rfl ?_
    exact ⟨rfl, rfl⟩
/-- A header's bytes. -/
def headV (a b c d e : Int) : List UInt8 := lowB a 8 ++ (lowB b 8 ++ (lowB c 8 ++ (lowB d 8 ++ lowB e 8)))
theorem headV_len (a b c d e : Int) : (headV a b c d e).length = 40 := by simp [headV, lowB_length]
theorem headBytes_is {c : Int} : CtrP prog 62 [.agg #[.int .u64 a, .int .u64 b, .int .u64 c, .int .u64 d, .int .u64 e]] G (S (headV a b c d e)) := by
  have l1 := lowB_length a 8
  have l2 := lowB_length b 8
  have l3 := lowB_length c 8
  have l4 := lowB_length d 8
  have l5 := lowB_length e 8
  refine fn_enter 22 func62 rfl ntmps62 rfl ?_
  intro w0
  refine gn 2 ?_
  refine oB ?_; intro g1 _
  refine gn 7 ?_
  refine q_pure rfl call112 (little_is) rfl rfl ?_
  refine gn 2 ?_
  refine q_pure rfl call112 (little_is) rfl rfl ?_
  refine qX (e_sadd rfl rfl aN) ?_
  refine gn 2 ?_
  refine q_pure rfl call112 (little_is) rfl rfl ?_
  refine qX (e_sadd rfl rfl aN) ?_
  refine gn 2 ?_
  refine q_pure rfl call112 (little_is) rfl rfl ?_
  refine qX (e_sadd rfl rfl aN) ?_
  refine gn 2 ?_
  refine q_pure rfl call112 (little_is) rfl rfl ?_
  refine qX (e_sadd rfl rfl aN) ?_
  refine gn 4 ?_
  refine WR.sel .nil ?_
  refine r_fn1 results62 rfl ?_
  exact ⟨by simp [headV], rfl⟩
theorem newHead_is (hm : m ≤ 1000000000) : CtrP prog 32 [.int .u64 (m : Nat)] G (.agg #[.int .u64 0, .int .u64 0, .int .u64 51, .int .u64 (m : Nat), .int .u64 (51 + (m : Nat))]) := by
  refine fn_enter 7 func32 rfl ntmps32 rfl ?_
  intro w0
  refine gn 2 ?_
  refine oZ ?_; intro g2 _
  refine gn 7 ?_
  refine oX (eB [.int .u64 0, .int .u64 0, .int .u64 51, .int .u64 (m : Nat), .int .u64 (51 + (m : Nat))]) ?_
  refine oL (l_storea sizeOf67 rfl rfl rfl (by simp [Value.oneCell']) .head (.take (.take (.take (.take (.take .done))))) nofrs0) ?_
  intro _ _
  refine gn 3 ?_
  refine r_fnx results32 (.cella isAgg67 sizeOf67 rfl (.inl (.head _)) (.take (.take (.take (.take (.take .done))))) .nil) .nil rfl ?_
  exact ⟨rfl, rfl⟩
theorem fileBytes_is {iO : Int} (hp : p ≤ 1000) (hq : q ≤ 1000) (hd : dat.length ≤ 1000000000) (hx : ix.length ≤ 1000000000) (hi : (iO = 0 ∧ q = 0) ∨ iO = (51 + p + dat.length + q : Nat)) : CtrP prog 31 [.agg #[.int .u64 a, .int .u64 b, .int .u64 (51 + (p : Nat)), .int .u64 d, .int .u64 iO], S dat, S ix] G (S (hedP ++ (headV a b (51 + (p : Nat)) d iO ++ (List.replicate p 0 ++ (dat ++ (List.replicate q 0 ++ ix)))))) := by
  have hvl := headV_len a b (51 + (p : Nat)) d iO
  refine fn_enter 42 func31 rfl ntmps31 rfl ?_
  intro w0
  refine gn 2 ?_
  refine oB ?_; intro g3 _
  refine gn 6 ?_
  refine o_pure rfl call62 (headBytes_is) rfl rfl ?_
  refine oX (e_sadd rfl rfl aN) ?_
  obtain ⟨pre, hpre⟩ : ∃ pre, pre = hedP ++ headV a b (51 + (p : Nat)) d iO := ⟨_, rfl⟩
  have hpl : pre.length = 51 := by rw [hpre, List.length_append, hvl]; rfl
  refine o_slot 10 (S pre) (by rw [hpre]; rfl) ?_
  refine oL (l_sbc underlying9 underlying72 underlying5 rfl rfl (by rw [hpl]; rfl) hpl rfl) ?_
  rintro y hy
  have ho0 : Osl 5 1 (.slice (some ⟨y.g, 0, none⟩) 51 y.cap) 51 (B pre) [(y.g, Ob (B pre) y 5)] := hy.own (by rw [B_length, hpl])
  refine gn 5 ?_
  refine c_loop (X := Nat × Value × HP) (fun z => [(1, S dat), (2, S ix), (3, .pointer (some ⟨g3, 0, none⟩)), (7, z.2.1)]) (fun z => (g3, C [.int .u64 a, .int .u64 b, .int .u64 (51 + (p : Nat)), .int .u64 d, .int .u64 iO] 67) :: z.2.2) (fun z => z.1 ≤ p ∧ Osl 5 1 z.2.1 (51 + z.1) (B (pre ++ List.replicate z.1 0)) z.2.2) (fun z => p - z.1) (0, .slice (some ⟨y.g, 0, none⟩) 51 y.cap, [(y.g, Ob (B pre) y 5)]) ⟨Nat.zero_le _, by show Osl 5 1 _ 51 (B (pre ++ [])) _; rw [List.append_nil]; exact ho0⟩ aK (.swap _ _ _) ?_
  rintro ⟨j, v, HS⟩ ⟨hj, ho⟩
  simp only at hj ho ⊢
  refine gn 11 ?_
  refine c_ifp rfl (fun h1 => ?_) (fun h1 => ?_)
  · refine gn 5 ?_
    refine oL (l_bs1 runUnderlying72 sizeOf5 zeroValue5 rfl rfl rfl) ?_; intro g19 _
    refine oL (l_append (sz := 1) (m := 1) (news := [.int .u8 0]) underlying72 (info_of typeInfo5) rfl rfl rfl rfl rfl rfl ho (List.perm_append_comm (l₁ := [_, _]) (l₂ := HS)) (.blk underlying72 (.inl (.head _)) (.take .done) (by simp [Value.oneCell'])) (by show _ * 1 ≤ _; omega) (by omega)) ?_
    rintro ⟨v2, HS2⟩ ho2
    simp only at ho2 ⊢
    refine gn 3 ?_
    refine n_round' (y := (j, v, HS)) (j + 1, v2, HS2) (by show p - (j + 1) < p - j; omega) ⟨by show j + 1 ≤ p; omega, by show Osl 5 1 v2 (51 + (j + 1)) (B (pre ++ List.replicate (j + 1) 0)) HS2; rw [← B_zero]; exact ho2⟩ aK ((g3, _) :: (HS2 ++ [(g19, _)])) (aP) (.cons_cons _ (List.sublist_append_left HS2 _))
  · skip
    obtain rfl : j = p := by omega
    refine gn 9 ?_
    refine oL (l_append (sz := 1) (m := dat.length) (news := B dat) underlying72 (info_of typeInfo5) rfl rfl rfl rfl rfl rfl ho (List.perm_append_comm (l₁ := [_]) (l₂ := HS)) (.str underlying9 rfl) (by show _ * 1 ≤ _; omega) (by omega)) ?_
    rintro ⟨v2, HS2⟩ ho2
    simp only at ho2 ⊢
    rw [← B_append] at ho2
    obtain ⟨pr2, hpr2⟩ : ∃ pr2, pr2 = pre ++ List.replicate j 0 ++ dat := ⟨_, rfl⟩
    have hp2l : pr2.length = 51 + j + dat.length := by rw [hpr2]; simp [hpl]; omega
    rw [← hpr2, ← hp2l] at ho2
    refine gn 5 ?_
    refine c_loop (X := Nat × Value × HP) (fun z => [(2, S ix), (3, .pointer (some ⟨g3, 0, none⟩)), (7, z.2.1)]) (fun z => (g3, C [.int .u64 a, .int .u64 b, .int .u64 (51 + (j : Nat)), .int .u64 d, .int .u64 iO] 67) :: z.2.2) (fun z => z.1 ≤ q ∧ Osl 5 1 z.2.1 (pr2.length + z.1) (B (pr2 ++ List.replicate z.1 0)) z.2.2) (fun z => q - z.1) (0, v2, HS2) ⟨Nat.zero_le _, by show Osl 5 1 _ pr2.length (B (pr2 ++ [])) _; rw [List.append_nil]; exact ho2⟩ aK (List.perm_append_comm (l₁ := HS2) (l₂ := [_])) ?_
    clear ho ho2 ho0
    rintro ⟨i, v, HS⟩ ⟨hi0, ho⟩
    simp only at hi0 ho ⊢
    refine gn 7 ?_
    refine o_splitp 27 rfl (fun h2 => ?_) (fun h2 => ?_)
    · refine gn 9 ?_
      refine c_ifp rfl (fun h3 => ?_) (fun h3 => ?_)
      · refine gn 5 ?_
        refine oL (l_bs1 runUnderlying72 sizeOf5 zeroValue5 rfl rfl rfl) ?_; intro g36 _
        refine oL (l_append (sz := 1) (m := 1) (news := [.int .u8 0]) underlying72 (info_of typeInfo5) rfl rfl rfl rfl rfl rfl ho (List.perm_append_comm (l₁ := [_, _]) (l₂ := HS)) (.blk underlying72 (.inl (.head _)) (.take .done) (by simp [Value.oneCell'])) (by show _ * 1 ≤ _; omega) (by omega)) ?_
        rintro ⟨v3, HS3⟩ ho3
        simp only at ho3 ⊢
        refine gn 3 ?_
        refine n_round' (y := (i, v, HS)) (i + 1, v3, HS3) (by show q - (i + 1) < q - i; omega) ⟨by show i + 1 ≤ q; omega, by show Osl 5 1 v3 (pr2.length + (i + 1)) (B (pr2 ++ List.replicate (i + 1) 0)) HS3; rw [← B_zero]; exact ho3⟩ aK ((g3, _) :: (HS3 ++ [(g36, _)])) (aP) (.cons_cons _ (List.sublist_append_left HS3 _))
      · skip
        obtain rfl : i = q := by omega
        refine gn 9 ?_
        refine oL (l_append (sz := 1) (m := ix.length) (news := B ix) underlying72 (info_of typeInfo5) rfl rfl rfl rfl rfl rfl ho (List.perm_append_comm (l₁ := [_]) (l₂ := HS)) (.str underlying9 rfl) (by show _ * 1 ≤ _; omega) (by omega)) ?_
        rintro ⟨v3, HS3⟩ ho3
        simp only at ho3 ⊢
        rw [← B_append] at ho3
        refine oX (e_bsO underlying72 underlying5 underlying9 ho3 (fun _ h => List.mem_append_left _ h) rfl) ?_
        refine gn 4 ?_
        refine WR.sel .nil ?_
        refine r_fn1 results31 rfl ?_
        exact ⟨by rw [hpr2, hpre]; simp, rfl⟩
    · skip
      obtain rfl : i = q := by omega
      refine gn 19 ?_
      refine oL (l_append (sz := 1) (m := ix.length) (news := B ix) underlying72 (info_of typeInfo5) rfl rfl rfl rfl rfl rfl ho (List.perm_append_comm (l₁ := [_]) (l₂ := HS)) (.str underlying9 rfl) (by show _ * 1 ≤ _; omega) (by omega)) ?_
      rintro ⟨v3, HS3⟩ ho3
      simp only at ho3 ⊢
      rw [← B_append] at ho3
      refine oX (e_bsO underlying72 underlying5 underlying9 ho3 (fun _ h => List.mem_append_left _ h) rfl) ?_
      refine gn 4 ?_
      refine WR.sel .nil ?_
      refine r_fn1 results31 rfl ?_
      exact ⟨by rw [hpr2, hpre]; simp, rfl⟩
end
end Go.Proofs

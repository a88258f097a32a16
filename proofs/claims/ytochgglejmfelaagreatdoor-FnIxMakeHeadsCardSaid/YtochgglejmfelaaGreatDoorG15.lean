/- The decoder's numbers, bytes and texts; The decoder's items: a number, a text, a byte string, one with a tag, an array's begin, a map's begin; The decoder's steps; An identifier taken from bytes. (A part of the proof of this: for every input laws.FnIxMakeHeads returns true and its arguments read as they did, the listed package variables being what the program lays) -/
import Derived.Test.YtochgglejmfelaaGreatDoorSlZ
import Derived.Test.YtochgglejmfelaaGreatDoorG14
set_option linter.unusedVariables false
set_option linter.unusedSimpArgs false
namespace Go.Proofs
open Go Go.Sl Tryz
set_option maxRecDepth 100000
set_option maxHeartbeats 1000000
theorem and31_all : (List.range 256).all (fun y => (BitVec.ofNat 8 y &&& BitVec.ofNat 8 31).toNat == y % 32) = true := by decide
theorem and31 {n : Nat} (hn : n < 256) : ib .and .u8 (n : Nat) 31 = ((n % 32 : Nat) : Int) := by
  have h := List.all_eq_true.1 and31_all n (List.mem_range.2 hn)
  simp only [beq_iff_eq] at h
  simp only [ib]
  rw [show ((31 : Int)) = ((31 : Nat) : Int) from rfl, BitVec.ofInt_natCast, BitVec.ofInt_natCast]
  show IntKind.u8.wrap ((BitVec.ofNat 8 n &&& BitVec.ofNat 8 31).toNat : Int) = _
  rw [h]
  refine wrap_in .u8 _ ?_ ?_ <;> simp [IntKind.min, IntKind.max, IntKind.signed, IntKind.bits] <;> omega
/-- The decoder: what it was told, its reader, its phases, its phase, what is left. -/
abbrev DcO (ga gS gL ns nl : Nat) (ph : Int) : Obj := C [.bool true, .bool false, .int .i64 0, .bool false, .bool false, .bool false, .bool false, .iface 360 (.pointer (some ⟨ga, 0, none⟩)), .slice (some ⟨gS, 0, none⟩) ns 10, .int .u8 ph, .slice (some ⟨gL, 0, none⟩) nl 10] 338
/-- An item's head: its number in the first byte, or in the second. -/
def hx (n : Nat) : Nat := if n < 24 then n else 24
def hk (n : Nat) : Nat := if n < 24 then 0 else 1
def hdB (base n : Nat) : List UInt8 := if n < 24 then [UInt8.ofNat (base + n)] else [UInt8.ofNat (base + 24), UInt8.ofNat n]
section
variable {G HB : HP} {ga gd gS gL gr gs gq ns nl n cap i k L lo hi base : Nat} {ph : Int} {bs : List UInt8} {rest pl : List Value} {e : TypeId} {gE : Addr} {t3 : List Value} {e3 : TypeId} {f3 : Nat × Nat}
theorem decU_is (hS : SkR ga gq gr gs n cap i HB) (hD : (gs, DB bs rest lo hi) ∈ G) (hE : (3, Obj.cells (EV gE :: t3).toArray e3 f3) ∈ G) (hn : bs.length = n) (hc : n ≤ cap) (h63 : cap < 9223372036854775808) (hb : base % 32 = 0) (hb2 : base < 224) (hk256 : k < 256) (h24 : 24 ≤ k → bs[i]? = some (UInt8.ofNat k)) :
    Ctr prog 236 [.pointer (some ⟨gd, 0, none⟩), .int .u8 (base + hx k : Nat)] G ((gd, DcO ga gS gL ns nl ph) :: HB) (fun r H' => ∃ HB', r = .tuple #[.int .u64 (k : Nat), .nilIface] ∧ SkR ga gq gr gs n cap (i + hk k) HB' ∧ H' = (gd, DcO ga gS gL ns nl ph) :: HB') := by
  have hand : ib .and .u8 ((base + hx k : Nat) : Int) 31 = ((hx k : Nat) : Int) := by
    rw [and31 (by unfold hx; split <;> omega)]
    congr 1
    unfold hx; split <;> omega
  by_cases h : k < 24
  · have e1 : hx k = k := if_pos h
    have e2 : hk k = 0 := if_pos h
    rw [e1] at hand ⊢
    rw [e2]
    refine fn_enter 123 func236 rfl ntmps236 rfl ?_
    intro w0
    refine gn 10 ?_
    rw [hand]
    refine gn 10 ?_
    refine c_ifp rfl (fun _ => ?_) (fun h => absurd h (by omega))
    refine gn 7 ?_
    refine r_fn (l := [.tmp 4, .tmp 5]) results236 rfl rfl ?_
    exact ⟨_, rfl, hS, rfl⟩
  · have e1 : hx k = 24 := if_neg h
    have e2 : hk k = 1 := if_neg h
    have e3 : (UInt8.ofNat k).toNat = k := by rw [UInt8.toNat_ofNat']; omega
    have hr := readn1_is hS hD hE hn hc h63 (h24 (by omega))
    rw [e3] at hr
    rw [e1] at hand ⊢
    rw [e2]
    refine fn_enter 123 func236 rfl ntmps236 rfl ?_
    intro w0
    refine gn 10 ?_
    rw [hand]
    refine gn 10 ?_
    refine c_ifp rfl (fun h => absurd h (by omega)) (fun _ => ?_)
    refine gn 6 ?_
    refine c_ifp rfl (fun _ => ?_) (fun h => absurd h (by omega))
    refine gn 11 ?_
    refine oL (lI hr rfl rfl (Sel.appR [_] HB)) ?_
    rintro ⟨r, H'⟩ ⟨rfl, h1⟩
    refine o_perm List.perm_append_comm ?_
    simp only [List.cons_append, List.nil_append]
    refine gn 41 ?_
    refine r_fn (l := [.tmp 4, .tmp 5]) results236 rfl rfl ?_
    exact ⟨_, rfl, h1, rfl⟩
theorem decL_is (hS : SkR ga gq gr gs n cap i HB) (hD : (gs, DB bs rest lo hi) ∈ G) (hE : (3, Obj.cells (EV gE :: t3).toArray e3 f3) ∈ G) (hn : bs.length = n) (hc : n ≤ cap) (h63 : cap < 9223372036854775808) (hb : base % 32 = 0) (hb2 : base < 224) (hk256 : k < 256) (h24 : 24 ≤ k → bs[i]? = some (UInt8.ofNat k)) :
    Ctr prog 240 [.pointer (some ⟨gd, 0, none⟩), .int .u8 (base + hx k : Nat)] G ((gd, DcO ga gS gL ns nl ph) :: HB) (fun r H' => ∃ HB', r = .tuple #[.int .i64 (k : Nat), .nilIface] ∧ SkR ga gq gr gs n cap (i + hk k) HB' ∧ H' = (gd, DcO ga gS gL ns nl ph) :: HB') := by
  refine fn_enter 21 func240 rfl ntmps240 rfl ?_
  intro w0
  refine gn 10 ?_
  refine oL (lC (decU_is hS hD hE hn hc h63 hb hb2 hk256 h24) rfl (Sel.all _)) ?_
  rintro ⟨r, H'⟩ ⟨HB', rfl, h1, rfl⟩
  simp only [List.append_nil]
  refine gn 24 ?_
  refine c_ifp rfl (fun h => absurd h (by omega)) (fun _ => ?_)
  refine gn 11 ?_
  refine r_fn (l := [.tmp 4, .tmp 5]) results240 rfl rfl ?_
  exact ⟨_, rfl, h1, rfl⟩
/-- A byte string. -/
theorem decB_is (hS : SkR ga gq gr gs n cap i HB) (hD : (gs, DB bs rest lo hi) ∈ G) (hE : (3, Obj.cells (EV gE :: t3).toArray e3 f3) ∈ G) (hn : bs.length = n) (hc : n ≤ cap) (h63 : cap < 9223372036854775808) (hk256 : k < 256) (h24 : 24 ≤ k → bs[i]? = some (UInt8.ofNat k)) (hk0 : 0 < k) (hi' : i + hk k + k ≤ n) :
    Ctr prog 238 [.pointer (some ⟨gd, 0, none⟩), .int .u8 (64 + hx k : Nat)] G ((gd, DcO ga gS gL ns nl ph) :: HB) (fun r H' => ∃ (y : Tl) (HB' : HP), TlOk 1 k y ∧ r = .tuple #[.slice (some ⟨y.g, 0, none⟩) k y.cap, .nilIface] ∧ SkR ga gq gr gs n cap (i + hk k + k) HB' ∧ H' = (gd, DcO ga gS gL ns nl ph) :: (y.g, Ob (B ((bs.drop (i + hk k)).take k)) y 5) :: HB') := by
  refine fn_enter 27 func238 rfl ntmps238 rfl ?_
  intro w0
  refine gn 10 ?_
  refine oL (lC (decL_is hS hD hE hn hc h63 (by decide) (by decide) hk256 h24) rfl (Sel.all _)) ?_
  rintro ⟨r, H'⟩ ⟨HB', rfl, h1, rfl⟩
  simp only [List.append_nil]
  refine gn 24 ?_
  refine c_ifp rfl (fun h => absurd h (by omega)) (fun _ => ?_)
  refine gn 9 ?_
  refine oL (lI (readn_is h1 hD hE hn hc h63 hi' hk0 (by omega)) rfl rfl (Sel.appR [_] HB')) ?_
  rintro ⟨r, H'⟩ ⟨y, HB2, hy, rfl, h2, rfl⟩
  refine o_perm List.perm_append_comm ?_
  simp only [List.cons_append, List.nil_append]
  refine gn 7 ?_
  refine r_fn (l := [.tmp 4, .tmp 5]) results238 rfl rfl ?_
  exact ⟨y, HB2, hy, rfl, h2, rfl⟩
/-- A short text. -/
theorem decS_is (hS : SkR ga gq gr gs n cap i HB) (hD : (gs, DB bs rest lo hi) ∈ G) (hE : (3, Obj.cells (EV gE :: t3).toArray e3 f3) ∈ G) (hn : bs.length = n) (hc : n ≤ cap) (h63 : cap < 9223372036854775808) (hk24 : k < 24) (hk0 : 0 < k) (hi' : i + k ≤ n) :
    Ctr prog 239 [.pointer (some ⟨gd, 0, none⟩), .int .u8 (96 + hx k : Nat)] G ((gd, DcO ga gS gL ns nl ph) :: HB) (fun r H' => ∃ (HB' : HP), r = .tuple #[S ((bs.drop i).take k), .nilIface] ∧ SkR ga gq gr gs n cap (i + k) HB' ∧ H' = (gd, DcO ga gS gL ns nl ph) :: HB') := by
  have e2 : hk k = 0 := if_pos hk24
  have hl := decL_is (gd := gd) (gS := gS) (gL := gL) (ns := ns) (nl := nl) (ph := ph) (base := 96) hS hD hE hn hc h63 (by decide) (by decide) (show k < 256 by omega) (fun h => absurd h (by omega))
  rw [e2, Nat.add_zero] at hl
  refine fn_enter 32 func239 rfl ntmps239 rfl ?_
  intro w0
  refine gn 10 ?_
  refine oL (lC hl rfl (Sel.all _)) ?_
  rintro ⟨r, H'⟩ ⟨HB', rfl, h1, rfl⟩
  simp only [List.append_nil]
  refine gn 24 ?_
  refine c_ifp rfl (fun h => absurd h (by omega)) (fun _ => ?_)
  refine gn 9 ?_
  refine oL (lI (readnzc_is h1 hD hE hn hc h63 hi' hk0 (by omega)) rfl rfl (Sel.appR [_] HB')) ?_
  rintro ⟨r, H'⟩ ⟨rfl, h2, l, h3, h4⟩
  refine o_perm List.perm_append_comm ?_
  simp only [List.cons_append, List.nil_append]
  refine gn 10 ?_
  refine oX (e_bsE underlying72 underlying5 underlying9 rfl (.inl (.tail _ h3)) h4) ?_
  refine gn 6 ?_
  refine r_fn (l := [.tmp 4, .tmp 5]) results239 rfl rfl ?_
  exact ⟨_, rfl, h2, rfl⟩
theorem push_is {p : Int} {a b : Int} (hns : ns = 0 ∨ ns = 1) :
    Ctr prog 235 [.pointer (some ⟨gd, 0, none⟩), .int .u8 p] G [(gd, DcO ga gS gL ns nl ph), (gS, C [.int .u8 a, .int .u8 b, .int .u8 0, .int .u8 0, .int .u8 0, .int .u8 0, .int .u8 0, .int .u8 0, .int .u8 0, .int .u8 0] 336)] (fun r H' => H' = [(gd, DcO ga gS gL (ns + 1) nl p), (gS, C [.int .u8 (if ns = 0 then ph else a), .int .u8 (if ns = 0 then b else ph), .int .u8 0, .int .u8 0, .int .u8 0, .int .u8 0, .int .u8 0, .int .u8 0, .int .u8 0, .int .u8 0] 336)]) := by
  rcases hns with rfl | rfl
  · refine fn_enter 21 func235 rfl ntmps235 rfl ?_
    intro w0
    refine gn 1 ?_
    refine c_regiont ([(gd, _)]) [13] (by kernel_rfl) (.cons_cons _ (List.nil_sublist _)) ?_
    refine lt [0, 1, 2, 3, 1004, 5, 6, 7, 1008] ?_
    refine kL 9 rfl (l_bs1 runUnderlying335 sizeOf336 zeroValue336 rfl rfl rfl) ?_
    intro g13 _
    refine kL 10 rfl (l_appR (sz := 1) (m := 1) (news := [.int .u8 ph]) underlying335 (info_of typeInfo336) rfl rfl rfl rfl (.tail (.tail .head)) rfl (by decide) (.inr rfl) (.blk underlying335 (.inl (.head _)) (.take .done) (by simp [Value.oneCell'])) rfl) ?_
    rintro ⟨⟩ -
    refine lt [11, 12] ?_
    refine tT 13 ?_
    intro _ _
    refine gn 7 ?_
    refine oT ?_; intro _ _
    refine gn 1 ?_
    refine WN.less (fun _ _ h => h) (List.sublist_cons_self _ _) ?_
    refine n_fn0 results235 ?_
    rfl
  · refine fn_enter 21 func235 rfl ntmps235 rfl ?_
    intro w0
    refine gn 1 ?_
    refine c_regiont ([(gd, _)]) [13] (by kernel_rfl) (.cons_cons _ (List.nil_sublist _)) ?_
    refine lt [0, 1, 2, 3, 1004, 5, 6, 7, 1008] ?_
    refine kL 9 rfl (l_bs1 runUnderlying335 sizeOf336 zeroValue336 rfl rfl rfl) ?_
    intro g13 _
    refine kL 10 rfl (l_appR (sz := 1) (m := 1) (news := [.int .u8 ph]) underlying335 (info_of typeInfo336) rfl rfl rfl rfl (.tail (.tail .head)) rfl (by decide) (.inr rfl) (.blk underlying335 (.inl (.head _)) (.take .done) (by simp [Value.oneCell'])) rfl) ?_
    rintro ⟨⟩ -
    refine lt [11, 12] ?_
    refine tT 13 ?_
    intro _ _
    refine gn 7 ?_
    refine oT ?_; intro _ _
    refine gn 1 ?_
    refine WN.less (fun _ _ h => h) (List.sublist_cons_self _ _) ?_
    refine n_fn0 results235 ?_
    rfl
end
end Go.Proofs
namespace Go.Proofs
open Go Go.Sl Tryz
set_option maxRecDepth 100000
set_option maxHeartbeats 1000000
/-- A token's cells. -/
abbrev TkO (ty ln st y bo it ui fl tg ta : Value) : Obj := C [ty, ln, st, y, bo, it, ui, fl, tg, ta] 255
/-- The rows of phases and of what is left: two places are used. -/
abbrev StO (a b : Int) : Obj := C [.int .u8 a, .int .u8 b, .int .u8 0, .int .u8 0, .int .u8 0, .int .u8 0, .int .u8 0, .int .u8 0, .int .u8 0, .int .u8 0] 336
abbrev LfO (a b : Int) : Obj := C [.int .i64 a, .int .i64 b, .int .i64 0, .int .i64 0, .int .i64 0, .int .i64 0, .int .i64 0, .int .i64 0, .int .i64 0, .int .i64 0] 3
section
variable {G HB : HP} {ga gd gS gL gr gs gq gt ns nl n cap i k L lo hi base : Nat} {ph a b l0 l1 : Int} {bs : List UInt8} {rest pl : List Value} {e : TypeId} {gE : Addr} {t3 : List Value} {e3 : TypeId} {f3 : Nat × Nat} {ty ln st y bo it ui fl tg ta : Value}
theorem hU_is (hS : SkR ga gq gr gs n cap i HB) (hD : (gs, DB bs rest lo hi) ∈ G) (hE : (3, Obj.cells (EV gE :: t3).toArray e3 f3) ∈ G) (hn : bs.length = n) (hc : n ≤ cap) (h63 : cap < 9223372036854775808) :
    Ctr prog 223 [.pointer (some ⟨gd, 0, none⟩), .int .u8 1, .pointer (some ⟨gt, 0, none⟩)] G ((gd, DcO ga gS gL ns nl ph) :: (gt, TkO ty ln st y bo it ui fl tg ta) :: HB) (fun r H' => ∃ HB', r = .tuple #[.bool true, .nilIface] ∧ SkR ga gq gr gs n cap i HB' ∧ H' = (gd, DcO ga gS gL ns nl ph) :: (gt, TkO (.int .u8 117) ln st y bo it (.int .u64 1) fl tg ta) :: HB') := by
  have hu := decU_is (gd := gd) (gS := gS) (gL := gL) (ns := ns) (nl := nl) (ph := ph) (base := 0) (k := 1) hS hD hE hn hc h63 (by decide) (by decide) (by decide) (fun h => absurd h (by decide))
  refine fn_enter 335 func223 rfl ntmps223 rfl ?_
  intro w0
  refine gn 107 ?_
  refine oT ?_; intro _ _
  refine gn 7 ?_
  refine oL (lC hu rfl (.cons .head (Sel.appR [_] HB))) ?_
  rintro ⟨r, H'⟩ ⟨HB', rfl, h1, rfl⟩
  refine o_perm List.perm_append_comm ?_
  simp only [List.cons_append, List.nil_append]
  refine gn 5 ?_
  refine oT ?_; intro _ _
  refine gn 11 ?_
  refine WR.sel (.cons (.tail .head) (.cons .head (Sel.all HB'))) ?_
  refine r_fn (l := [.tmp 6, .tmp 7]) results223 rfl rfl ?_
  exact ⟨_, rfl, h1, rfl⟩
theorem hS_is (hS : SkR ga gq gr gs n cap i HB) (hD : (gs, DB bs rest lo hi) ∈ G) (hE : (3, Obj.cells (EV gE :: t3).toArray e3 f3) ∈ G) (hn : bs.length = n) (hc : n ≤ cap) (h63 : cap < 9223372036854775808) (hk24 : k < 24) (hk0 : 0 < k) (hi' : i + k ≤ n) :
    Ctr prog 223 [.pointer (some ⟨gd, 0, none⟩), .int .u8 (96 + hx k : Nat), .pointer (some ⟨gt, 0, none⟩)] G ((gd, DcO ga gS gL ns nl ph) :: (gt, TkO ty ln st y bo it ui fl tg ta) :: HB) (fun r H' => ∃ HB', r = .tuple #[.bool true, .nilIface] ∧ SkR ga gq gr gs n cap (i + k) HB' ∧ H' = (gd, DcO ga gS gL ns nl ph) :: (gt, TkO (.int .u8 115) ln (S ((bs.drop i).take k)) y bo it ui fl tg ta) :: HB') := by
  have hhx : hx k ≤ 24 := by unfold hx; split <;> omega
  refine fn_enter 335 func223 rfl ntmps223 rfl ?_
  intro w0
  refine gn 18 ?_
  refine c_ifp rfl (fun h => absurd h (by omega)) (fun _ => ?_)
  refine gn 6 ?_
  refine c_ifp rfl (fun h => absurd h (by omega)) (fun _ => ?_)
  refine gn 6 ?_
  refine c_ifp rfl (fun h => absurd h (by omega)) (fun _ => ?_)
  refine gn 6 ?_
  refine c_ifp rfl (fun h => absurd h (by omega)) (fun _ => ?_)
  refine gn 7 ?_
  refine c_ifp rfl (fun h => absurd h (by omega)) (fun _ => ?_)
  refine gn 6 ?_
  refine c_ifp rfl (fun h => absurd h (by omega)) (fun _ => ?_)
  refine gn 5 ?_
  refine c_ifp rfl (fun h => absurd h (by omega)) (fun _ => ?_)
  refine gn 6 ?_
  refine c_ifp rfl (fun h => absurd h (by omega)) (fun _ => ?_)
  refine gn 6 ?_
  refine c_ifp rfl (fun h => absurd h (by omega)) (fun _ => ?_)
  refine gn 6 ?_
  refine c_ifp rfl (fun h => absurd h (by omega)) (fun _ => ?_)
  refine gn 6 ?_
  refine c_ifp rfl (fun h => absurd h (by omega)) (fun _ => ?_)
  refine gn 6 ?_
  refine o_splitp 17 rfl (fun _ => ?_) (fun h => absurd h (by omega))
  refine gn 6 ?_
  refine c_ifp rfl (fun h => absurd h (by omega)) (fun _ => ?_)
  refine gn 5 ?_
  refine o_splitp 37 rfl (fun _ => ?_) (fun h => absurd h (by omega))
  refine gn 6 ?_
  refine c_ifp rfl (fun h => absurd h (by omega)) (fun _ => ?_)
  refine gn 5 ?_
  refine o_splitp 57 rfl (fun _ => ?_) (fun h => absurd h (by omega))
  refine gn 6 ?_
  refine c_ifp rfl (fun h => absurd h (by omega)) (fun _ => ?_)
  refine gn 5 ?_
  refine o_splitp 77 rfl (fun _ => ?_) (fun h => absurd h (by omega))
  refine gn 6 ?_
  refine c_ifp rfl (fun _ => ?_) (fun h => absurd h (by omega))
  refine gn 5 ?_
  refine oT ?_; intro _ _
  refine gn 7 ?_
  refine oL (lC (decS_is hS hD hE hn hc h63 hk24 hk0 hi') rfl (.cons .head (Sel.appR [_] HB))) ?_
  rintro ⟨r, H'⟩ ⟨HB', rfl, h1, rfl⟩
  refine o_perm List.perm_append_comm ?_
  simp only [List.cons_append, List.nil_append]
  refine gn 5 ?_
  refine oT ?_; intro _ _
  refine gn 11 ?_
  refine WR.sel (.cons (.tail .head) (.cons .head (Sel.all HB'))) ?_
  refine r_fn (l := [.tmp 6, .tmp 7]) results223 rfl rfl ?_
  exact ⟨_, rfl, h1, rfl⟩
theorem hB_is (hS : SkR ga gq gr gs n cap i HB) (hD : (gs, DB bs rest lo hi) ∈ G) (hE : (3, Obj.cells (EV gE :: t3).toArray e3 f3) ∈ G) (hn : bs.length = n) (hc : n ≤ cap) (h63 : cap < 9223372036854775808) (hk256 : k < 256) (h24 : 24 ≤ k → bs[i]? = some (UInt8.ofNat k)) (hk0 : 0 < k) (hi' : i + hk k + k ≤ n) :
    Ctr prog 223 [.pointer (some ⟨gd, 0, none⟩), .int .u8 (64 + hx k : Nat), .pointer (some ⟨gt, 0, none⟩)] G ((gd, DcO ga gS gL ns nl ph) :: (gt, TkO ty ln st y bo it ui fl tg ta) :: HB) (fun r H' => ∃ (z : Tl) (HB' : HP), TlOk 1 k z ∧ r = .tuple #[.bool true, .nilIface] ∧ SkR ga gq gr gs n cap (i + hk k + k) HB' ∧ H' = (gd, DcO ga gS gL ns nl ph) :: (gt, TkO (.int .u8 120) ln st (.slice (some ⟨z.g, 0, none⟩) k z.cap) bo it ui fl tg ta) :: (z.g, Ob (B ((bs.drop (i + hk k)).take k)) z 5) :: HB') := by
  have hhx : hx k ≤ 24 := by unfold hx; split <;> omega
  refine fn_enter 335 func223 rfl ntmps223 rfl ?_
  intro w0
  refine gn 18 ?_
  refine c_ifp rfl (fun h => absurd h (by omega)) (fun _ => ?_)
  refine gn 6 ?_
  refine c_ifp rfl (fun h => absurd h (by omega)) (fun _ => ?_)
  refine gn 6 ?_
  refine c_ifp rfl (fun h => absurd h (by omega)) (fun _ => ?_)
  refine gn 6 ?_
  refine c_ifp rfl (fun h => absurd h (by omega)) (fun _ => ?_)
  refine gn 7 ?_
  refine c_ifp rfl (fun h => absurd h (by omega)) (fun _ => ?_)
  refine gn 6 ?_
  refine c_ifp rfl (fun h => absurd h (by omega)) (fun _ => ?_)
  refine gn 5 ?_
  refine c_ifp rfl (fun h => absurd h (by omega)) (fun _ => ?_)
  refine gn 6 ?_
  refine c_ifp rfl (fun h => absurd h (by omega)) (fun _ => ?_)
  refine gn 6 ?_
  refine c_ifp rfl (fun h => absurd h (by omega)) (fun _ => ?_)
  refine gn 6 ?_
  refine c_ifp rfl (fun h => absurd h (by omega)) (fun _ => ?_)
  refine gn 6 ?_
  refine c_ifp rfl (fun h => absurd h (by omega)) (fun _ => ?_)
  refine gn 6 ?_
  refine o_splitp 17 rfl (fun _ => ?_) (fun h => absurd h (by omega))
  refine gn 6 ?_
  refine c_ifp rfl (fun h => absurd h (by omega)) (fun _ => ?_)
  refine gn 5 ?_
  refine o_splitp 37 rfl (fun _ => ?_) (fun h => absurd h (by omega))
  refine gn 6 ?_
  refine c_ifp rfl (fun h => absurd h (by omega)) (fun _ => ?_)
  refine gn 5 ?_
  refine o_splitp 57 rfl (fun _ => ?_) (fun h => absurd h (by omega))
  refine gn 6 ?_
  refine c_ifp rfl (fun _ => ?_) (fun h => absurd h (by omega))
  refine gn 5 ?_
  refine oT ?_; intro _ _
  refine gn 7 ?_
  refine oL (lC (decB_is hS hD hE hn hc h63 hk256 h24 hk0 hi') rfl (.cons .head (Sel.appR [_] HB))) ?_
  rintro ⟨r, H'⟩ ⟨z, HB', hz, rfl, h1, rfl⟩
  refine o_perm List.perm_append_comm ?_
  simp only [List.cons_append, List.nil_append]
  refine gn 5 ?_
  refine oT ?_; intro _ _
  refine gn 11 ?_
  refine WR.sel (.cons (.tail .head) (.cons .head (.cons .head (Sel.all HB')))) ?_
  refine r_fn (l := [.tmp 6, .tmp 7]) results223 rfl rfl ?_
  exact ⟨z, _, hz, rfl, h1, rfl⟩
/-- A link: a byte string with tag 42. -/
theorem hT_is {j : Nat} (hj : j = i + 2) (hS : SkR ga gq gr gs n cap i HB) (hD : (gs, DB bs rest lo hi) ∈ G) (hE : (3, Obj.cells (EV gE :: t3).toArray e3 f3) ∈ G) (hn : bs.length = n) (hc : n ≤ cap) (h63 : cap < 9223372036854775808) (h42 : bs[i]? = some 42) (hmaj : bs[i + 1]? = some (UInt8.ofNat (64 + hx k))) (hk256 : k < 256) (h24 : 24 ≤ k → bs[j]? = some (UInt8.ofNat k)) (hk0 : 0 < k) (hi' : j + hk k + k ≤ n) :
    Ctr prog 223 [.pointer (some ⟨gd, 0, none⟩), .int .u8 216, .pointer (some ⟨gt, 0, none⟩)] G ((gd, DcO ga gS gL ns nl ph) :: (gt, TkO ty ln st y bo it ui fl (.bool false) ta) :: HB) (fun r H' => ∃ (z : Tl) (HB' : HP), TlOk 1 k z ∧ r = .tuple #[.bool true, .nilIface] ∧ SkR ga gq gr gs n cap (j + hk k + k) HB' ∧ H' = (gd, DcO ga gS gL ns nl ph) :: (gt, TkO (.int .u8 120) ln st (.slice (some ⟨z.g, 0, none⟩) k z.cap) bo it ui fl (.bool true) (.int .i64 42)) :: (z.g, Ob (B ((bs.drop (j + hk k)).take k)) z 5) :: HB') := by
  have hhx : hx k ≤ 24 := by unfold hx; split <;> omega
  have hu := decL_is (gd := gd) (gS := gS) (gL := gL) (ns := ns) (nl := nl) (ph := ph) (base := 192) (k := 42) hS hD hE hn hc h63 (by decide) (by decide) (by decide) (fun _ => h42)
  have hbz : (UInt8.ofNat (64 + hx k)).toNat = 64 + hx k := by rw [UInt8.toNat_ofNat']; omega
  subst hj
  refine fn_enter 335 func223 rfl ntmps223 rfl ?_
  intro w0
  refine gn 191 ?_
  refine oT ?_; intro _ _
  refine gn 7 ?_
  refine oL (lC hu rfl (.cons .head (Sel.appR [_] HB))) ?_
  rintro ⟨r, H'⟩ ⟨HB', rfl, h1, rfl⟩
  refine o_perm List.perm_append_comm ?_
  simp only [List.cons_append, List.nil_append]
  have h1' : SkR ga gq gr gs n cap (i + 1) HB' := h1
  have hrb := readn1_is h1' hD hE hn hc h63 hmaj
  rw [hbz] at hrb
  refine gn 5 ?_
  refine oT ?_; intro _ _
  refine gn 19 ?_
  refine oL (lI hrb rfl rfl (Sel.appR [_, _] HB')) ?_
  rintro ⟨r, H'⟩ ⟨rfl, h2⟩
  refine o_perm List.perm_append_comm ?_
  simp only [List.cons_append, List.nil_append]
  refine gn 22 ?_
  refine oL (lC (hB_is h2 hD hE hn hc h63 hk256 h24 hk0 hi') rfl (.cons (.tail .head) (.cons .head (Sel.all H')))) ?_
  rintro ⟨r, H''⟩ ⟨z, HB2, hz, rfl, h3, rfl⟩
  simp only [List.append_nil]
  refine gn 7 ?_
  refine r_fn (l := [.tmp 6, .tmp 7]) results223 rfl rfl ?_
  exact ⟨z, _, hz, rfl, h3, rfl⟩
theorem hA_is (hS : SkR ga gq gr gs n cap i HB) (hD : (gs, DB bs rest lo hi) ∈ G) (hE : (3, Obj.cells (EV gE :: t3).toArray e3 f3) ∈ G) (hn : bs.length = n) (hc : n ≤ cap) (h63 : cap < 9223372036854775808) (hk256 : k < 256) (h24 : 24 ≤ k → bs[i]? = some (UInt8.ofNat k)) :
    Ctr prog 223 [.pointer (some ⟨gd, 0, none⟩), .int .u8 (128 + hx k : Nat), .pointer (some ⟨gt, 0, none⟩)] G ((gd, DcO ga gS gL 1 1 ph) :: (gt, TkO ty ln st y bo it ui fl tg ta) :: (gS, StO a b) :: (gL, LfO l0 l1) :: HB) (fun r H' => ∃ HB', r = .tuple #[.bool false, .nilIface] ∧ SkR ga gq gr gs n cap (i + hk k) HB' ∧ H' = (gd, DcO ga gS gL 2 2 4) :: (gt, TkO (.int .u8 91) (.int .i64 k) st y bo it ui fl tg ta) :: (gS, StO a ph) :: (gL, LfO l0 k) :: HB') := by
  have hhx : hx k ≤ 24 := by unfold hx; split <;> omega
  refine fn_enter 335 func223 rfl ntmps223 rfl ?_
  intro w0
  refine gn 18 ?_
  refine c_ifp rfl (fun h => absurd h (by omega)) (fun _ => ?_)
  refine gn 6 ?_
  refine c_ifp rfl (fun h => absurd h (by omega)) (fun _ => ?_)
  refine gn 6 ?_
  refine c_ifp rfl (fun h => absurd h (by omega)) (fun _ => ?_)
  refine gn 6 ?_
  refine c_ifp rfl (fun h => absurd h (by omega)) (fun _ => ?_)
  refine gn 7 ?_
  refine c_ifp rfl (fun h => absurd h (by omega)) (fun _ => ?_)
  refine gn 6 ?_
  refine c_ifp rfl (fun h => absurd h (by omega)) (fun _ => ?_)
  refine gn 5 ?_
  refine c_ifp rfl (fun h => absurd h (by omega)) (fun _ => ?_)
  refine gn 6 ?_
  refine c_ifp rfl (fun h => absurd h (by omega)) (fun _ => ?_)
  refine gn 6 ?_
  refine c_ifp rfl (fun h => absurd h (by omega)) (fun _ => ?_)
  refine gn 6 ?_
  refine c_ifp rfl (fun h => absurd h (by omega)) (fun _ => ?_)
  refine gn 6 ?_
  refine c_ifp rfl (fun h => absurd h (by omega)) (fun _ => ?_)
  refine gn 6 ?_
  refine o_splitp 17 rfl (fun _ => ?_) (fun h => absurd h (by omega))
  refine gn 6 ?_
  refine c_ifp rfl (fun h => absurd h (by omega)) (fun _ => ?_)
  refine gn 5 ?_
  refine o_splitp 37 rfl (fun _ => ?_) (fun h => absurd h (by omega))
  refine gn 6 ?_
  refine c_ifp rfl (fun h => absurd h (by omega)) (fun _ => ?_)
  refine gn 5 ?_
  refine o_splitp 57 rfl (fun _ => ?_) (fun h => absurd h (by omega))
  refine gn 6 ?_
  refine c_ifp rfl (fun h => absurd h (by omega)) (fun _ => ?_)
  refine gn 5 ?_
  refine o_splitp 77 rfl (fun _ => ?_) (fun h => absurd h (by omega))
  refine gn 6 ?_
  refine c_ifp rfl (fun h => absurd h (by omega)) (fun _ => ?_)
  refine gn 5 ?_
  refine o_splitp 97 rfl (fun _ => ?_) (fun h => absurd h (by omega))
  refine gn 6 ?_
  refine c_ifp rfl (fun _ => ?_) (fun h => absurd h (by omega))
  refine gn 9 ?_
  refine oL (lC (decL_is hS hD hE hn hc h63 (by decide) (by decide) hk256 h24) rfl (.cons .head (Sel.appR [_, _, _] HB))) ?_
  rintro ⟨r, H'⟩ ⟨HB', rfl, h1, rfl⟩
  refine o_perm List.perm_append_comm ?_
  simp only [List.cons_append, List.nil_append]
  refine gn 12 ?_
  refine oT ?_; intro _ _
  refine gn 8 ?_
  refine oT ?_; intro _ _
  refine gn 10 ?_
  refine oL (l_bs1 runUnderlying99 sizeOf3 zeroValue3 rfl rfl rfl) ?_; intro g120 _
  refine oL (l_appR (sz := 1) (m := 1) (news := [.int .i64 k]) underlying99 (info_of typeInfo3) rfl rfl rfl rfl (.tail (.tail (.tail .head))) rfl (by decide) (.inr rfl) (.blk underlying99 (.inl (.head _)) (.take .done) (by simp [Value.oneCell'])) rfl) ?_
  rintro ⟨⟩ -
  refine gn 2 ?_
  refine oT ?_; intro _ _
  refine gn 5 ?_
  refine oL (lC (push_is (ns := 1) (p := 4) (.inr rfl)) rfl (.cons (.tail (.tail (.tail (.tail .head)))) (.cons (.tail (.tail .head)) .nil))) ?_
  rintro ⟨r, H''⟩ rfl
  simp only [List.cons_append, List.nil_append]
  refine gn 10 ?_
  refine WR.sel (.cons .head (.cons (.tail (.tail .head)) (.cons .head (.cons (.tail .head) (Sel.appR [_] HB'))))) ?_
  refine r_fn (l := [.tmp 6, .tmp 7]) results223 rfl rfl ?_
  exact ⟨_, rfl, h1, rfl⟩
theorem hM_is (hS : SkR ga gq gr gs n cap i HB) (hD : (gs, DB bs rest lo hi) ∈ G) (hE : (3, Obj.cells (EV gE :: t3).toArray e3 f3) ∈ G) (hn : bs.length = n) (hc : n ≤ cap) (h63 : cap < 9223372036854775808) :
    Ctr prog 223 [.pointer (some ⟨gd, 0, none⟩), .int .u8 162, .pointer (some ⟨gt, 0, none⟩)] G ((gd, DcO ga gS gL 0 0 ph) :: (gt, TkO ty ln st y bo it ui fl tg ta) :: (gS, StO a b) :: (gL, LfO l0 l1) :: HB) (fun r H' => ∃ HB', r = .tuple #[.bool false, .nilIface] ∧ SkR ga gq gr gs n cap i HB' ∧ H' = (gd, DcO ga gS gL 1 1 5) :: (gt, TkO (.int .u8 123) (.int .i64 2) st y bo it ui fl tg ta) :: (gS, StO ph b) :: (gL, LfO 2 l1) :: HB') := by
  have hu := decL_is (gd := gd) (gS := gS) (gL := gL) (ns := 0) (nl := 0) (ph := ph) (base := 160) (k := 2) hS hD hE hn hc h63 (by decide) (by decide) (by decide) (fun h => absurd h (by decide))
  refine fn_enter 335 func223 rfl ntmps223 rfl ?_
  intro w0
  refine gn 171 ?_
  refine oL (lC hu rfl (.cons .head (Sel.appR [_, _, _] HB))) ?_
  rintro ⟨r, H'⟩ ⟨HB', rfl, h1, rfl⟩
  refine o_perm List.perm_append_comm ?_
  simp only [List.cons_append, List.nil_append]
  refine gn 12 ?_
  refine oT ?_; intro _ _
  refine gn 8 ?_
  refine oT ?_; intro _ _
  refine gn 10 ?_
  refine oL (l_bs1 runUnderlying99 sizeOf3 zeroValue3 rfl rfl rfl) ?_; intro g153 _
  refine oL (l_appR (sz := 1) (m := 1) (news := [.int .i64 2]) underlying99 (info_of typeInfo3) rfl rfl rfl rfl (.tail (.tail (.tail .head))) rfl (by decide) (.inr rfl) (.blk underlying99 (.inl (.head _)) (.take .done) (by simp [Value.oneCell'])) rfl) ?_
  rintro ⟨⟩ -
  refine gn 2 ?_
  refine oT ?_; intro _ _
  refine gn 5 ?_
  refine oL (lC (push_is (ns := 0) (p := 5) (.inl rfl)) rfl (.cons (.tail (.tail (.tail (.tail .head)))) (.cons (.tail (.tail .head)) .nil))) ?_
  rintro ⟨r, H''⟩ rfl
  simp only [List.cons_append, List.nil_append]
  refine gn 10 ?_
  refine WR.sel (.cons .head (.cons (.tail (.tail .head)) (.cons .head (.cons (.tail .head) (Sel.appR [_] HB'))))) ?_
  refine r_fn (l := [.tmp 6, .tmp 7]) results223 rfl rfl ?_
  exact ⟨_, rfl, h1, rfl⟩
end
end Go.Proofs
namespace Go.Proofs
open Go Go.Sl Tryz
set_option maxRecDepth 100000
set_option maxHeartbeats 1000000
theorem Sel.mid2 (A : HP) (p q : Nat × Obj) : Sel (A ++ [p, q]) (p :: q :: A) [] := .cons (Rem.mid A p [q]) (.cons (Rem.mid A q []) (by simpa using Sel.all A))
section
variable {G HB : HP} {ga gd gS gL gr gs gq gt ns nl n cap i k m lo hi base : Nat} {ph a b l0 l1 : Int} {bs : List UInt8} {rest pl : List Value} {e : TypeId} {gE : Addr} {t3 : List Value} {e3 : TypeId} {f3 : Nat × Nat} {ty ln st y bo it ui fl tg ta : Value}

/-- A map of two begins. -/
theorem s1_is (hS : SkR ga gq gr gs n cap i HB) (hD : (gs, DB bs rest lo hi) ∈ G) (hE : (3, Obj.cells (EV gE :: t3).toArray e3 f3) ∈ G) (hn : bs.length = n) (hc : n ≤ cap) (h63 : cap < 9223372036854775808) (hb : bs[i]? = some 162) :
    Ctr prog 203 [.pointer (some ⟨gd, 0, none⟩), .pointer (some ⟨gt, 0, none⟩)] G ((gd, DcO ga gS gL 0 0 0) :: (gt, TkO ty ln st y bo it ui fl tg ta) :: (gS, StO a b) :: (gL, LfO l0 l1) :: HB) (fun r H' => ∃ HB', r = .tuple #[.bool false, .nilIface] ∧ SkR ga gq gr gs n cap (i + 1) HB' ∧ H' = (gd, DcO ga gS gL 1 1 5) :: (gt, TkO (.int .u8 123) (.int .i64 2) st y bo it ui fl (.bool false) ta) :: (gS, StO 0 b) :: (gL, LfO 2 l1) :: HB') := by
  have hr := readn1_is hS hD hE hn hc h63 hb
  refine fn_enter 27 func203 rfl ntmps203 rfl ?_
  intro w0
  refine gn 12 ?_
  refine oL (lI hr rfl rfl (Sel.appR [_, _, _, _] HB)) ?_
  rintro ⟨r, H1⟩ ⟨rfl, h1⟩
  refine o_perm List.perm_append_comm ?_
  simp only [List.cons_append, List.nil_append]
  refine gn 22 ?_
  refine oT ?_; intro _ _
  refine gn 7 ?_
  refine oL (lC (hM_is h1 hD hE hn hc h63) rfl (Sel.all _)) ?_
  rintro ⟨r, H2⟩ ⟨HB2, rfl, h2, rfl⟩
  simp only [List.append_nil]
  refine gn 7 ?_
  refine r_fn (l := [.tmp 4, .tmp 5]) results203 rfl rfl ?_
  exact ⟨_, rfl, h2, rfl⟩
theorem Ss1_is (hS : SkR ga gq gr gs n cap i HB) (hD : (gs, DB bs rest lo hi) ∈ G) (hE : (3, Obj.cells (EV gE :: t3).toArray e3 f3) ∈ G) (hn : bs.length = n) (hc : n ≤ cap) (h63 : cap < 9223372036854775808) (hb : bs[i]? = some 162) :
    Ctr prog 154 [.pointer (some ⟨gd, 0, none⟩), .pointer (some ⟨gt, 0, none⟩)] G ((gd, DcO ga gS gL 0 0 0) :: (gt, TkO ty ln st y bo it ui fl tg ta) :: (gS, StO a b) :: (gL, LfO l0 l1) :: HB) (fun r H' => ∃ HB', r = .tuple #[.bool false, .nilIface] ∧ SkR ga gq gr gs n cap (i + 1) HB' ∧ H' = (gd, DcO ga gS gL 1 1 5) :: (gt, TkO (.int .u8 123) (.int .i64 2) st y bo it ui fl (.bool false) ta) :: (gS, StO 0 b) :: (gL, LfO 2 l1) :: HB') := by
  refine fn_enter 99 func154 rfl ntmps154 rfl ?_
  intro w0
  refine gn 26 ?_
  refine oL (lC (s1_is hS hD hE hn hc h63 hb) rfl (Sel.all _)) ?_
  rintro ⟨r, H1⟩ ⟨HB2, rfl, h2, rfl⟩
  simp only [List.append_nil]
  refine gn 33 ?_
  refine r_fn (l := [.tmp 4, .tmp 5]) results154 rfl rfl ?_
  exact ⟨_, rfl, h2, rfl⟩
/-- A key. -/
theorem s2_is (hS : SkR ga gq gr gs n cap i HB) (hD : (gs, DB bs rest lo hi) ∈ G) (hE : (3, Obj.cells (EV gE :: t3).toArray e3 f3) ∈ G) (hn : bs.length = n) (hc : n ≤ cap) (h63 : cap < 9223372036854775808) (hm : m ≤ 1000) (hb : bs[i]? = some (UInt8.ofNat (96 + hx k))) (hk24 : k < 24) (hk0 : 0 < k) (hi' : i + 1 + k ≤ n) :
    Ctr prog 208 [.pointer (some ⟨gd, 0, none⟩), .pointer (some ⟨gt, 0, none⟩)] G ((gd, DcO ga gS gL 1 1 5) :: (gt, TkO ty ln st y bo it ui fl tg ta) :: (gS, StO a b) :: (gL, LfO (m + 1 : Nat) l1) :: HB) (fun r H' => ∃ HB', r = .tuple #[.bool false, .nilIface] ∧ SkR ga gq gr gs n cap (i + 1 + k) HB' ∧ H' = (gd, DcO ga gS gL 1 1 6) :: (gt, TkO (.int .u8 115) ln (S ((bs.drop (i + 1)).take k)) y bo it ui fl (.bool false) ta) :: (gS, StO a b) :: (gL, LfO m l1) :: HB') := by
  have hhx : hx k ≤ 24 := by unfold hx; split <;> omega
  have hbz : (UInt8.ofNat (96 + hx k)).toNat = 96 + hx k := by rw [UInt8.toNat_ofNat']; omega
  have hr := readn1_is hS hD hE hn hc h63 hb
  rw [hbz] at hr
  refine fn_enter 68 func208 rfl ntmps208 rfl ?_
  intro w0
  refine gn 30 ?_
  refine c_ifp rfl (fun h => absurd h (by omega)) (fun _ => ?_)
  refine gn 13 ?_
  refine oT ?_; intro _ _
  refine gn 8 ?_
  refine oL (lI hr rfl rfl (Sel.appR [_, _, _, _] HB)) ?_
  rintro ⟨r, H1⟩ ⟨rfl, h1⟩
  refine o_perm List.perm_append_comm ?_
  simp only [List.cons_append, List.nil_append]
  refine gn 22 ?_
  refine oT ?_; intro _ _
  refine gn 7 ?_
  refine oT ?_; intro _ _
  refine gn 7 ?_
  refine oL (lC (hS_is h1 hD hE hn hc h63 hk24 hk0 hi') rfl (.cons .head (.cons .head (Sel.appR [_, _] H1)))) ?_
  rintro ⟨r, H2⟩ ⟨HB2, rfl, h2, rfl⟩
  simp only [List.cons_append]
  refine gn 14 ?_
  refine WR.sel (.cons .head (.cons .head (Sel.mid2 HB2 _ _))) ?_
  refine r_fn (l := [.tmp 4, .tmp 5]) results208 rfl rfl ?_
  exact ⟨_, rfl, h2, by simp only [Nat.add_sub_cancel]⟩
theorem Ss2_is (hS : SkR ga gq gr gs n cap i HB) (hD : (gs, DB bs rest lo hi) ∈ G) (hE : (3, Obj.cells (EV gE :: t3).toArray e3 f3) ∈ G) (hn : bs.length = n) (hc : n ≤ cap) (h63 : cap < 9223372036854775808) (hm : m ≤ 1000) (hb : bs[i]? = some (UInt8.ofNat (96 + hx k))) (hk24 : k < 24) (hk0 : 0 < k) (hi' : i + 1 + k ≤ n) :
    Ctr prog 154 [.pointer (some ⟨gd, 0, none⟩), .pointer (some ⟨gt, 0, none⟩)] G ((gd, DcO ga gS gL 1 1 5) :: (gt, TkO ty ln st y bo it ui fl tg ta) :: (gS, StO a b) :: (gL, LfO (m + 1 : Nat) l1) :: HB) (fun r H' => ∃ HB', r = .tuple #[.bool false, .nilIface] ∧ SkR ga gq gr gs n cap (i + 1 + k) HB' ∧ H' = (gd, DcO ga gS gL 1 1 6) :: (gt, TkO (.int .u8 115) ln (S ((bs.drop (i + 1)).take k)) y bo it ui fl (.bool false) ta) :: (gS, StO a b) :: (gL, LfO m l1) :: HB') := by
  refine fn_enter 99 func154 rfl ntmps154 rfl ?_
  intro w0
  refine gn 61 ?_
  refine oL (lC (s2_is hS hD hE hn hc h63 hm hb hk24 hk0 hi') rfl (Sel.all _)) ?_
  rintro ⟨r, H1⟩ ⟨HB2, rfl, h2, rfl⟩
  simp only [List.append_nil]
  refine gn 33 ?_
  refine r_fn (l := [.tmp 4, .tmp 5]) results154 rfl rfl ?_
  exact ⟨_, rfl, h2, rfl⟩
/-- A list begins. -/
theorem s3_is (hS : SkR ga gq gr gs n cap i HB) (hD : (gs, DB bs rest lo hi) ∈ G) (hE : (3, Obj.cells (EV gE :: t3).toArray e3 f3) ∈ G) (hn : bs.length = n) (hc : n ≤ cap) (h63 : cap < 9223372036854775808) (hb : bs[i]? = some (UInt8.ofNat (128 + hx k))) (hk256 : k < 256) (h24 : 24 ≤ k → bs[i + 1]? = some (UInt8.ofNat k)) :
    Ctr prog 209 [.pointer (some ⟨gd, 0, none⟩), .pointer (some ⟨gt, 0, none⟩)] G ((gd, DcO ga gS gL 1 1 6) :: (gt, TkO ty ln st y bo it ui fl tg ta) :: (gS, StO a b) :: (gL, LfO l0 l1) :: HB) (fun r H' => ∃ HB', r = .tuple #[.bool false, .nilIface] ∧ SkR ga gq gr gs n cap (i + 1 + hk k) HB' ∧ H' = (gd, DcO ga gS gL 2 2 4) :: (gt, TkO (.int .u8 91) (.int .i64 k) st y bo it ui fl (.bool false) ta) :: (gS, StO a 5) :: (gL, LfO l0 k) :: HB') := by
  have hhx : hx k ≤ 24 := by unfold hx; split <;> omega
  have hbz : (UInt8.ofNat (128 + hx k)).toNat = 128 + hx k := by rw [UInt8.toNat_ofNat']; omega
  have hr := readn1_is hS hD hE hn hc h63 hb
  rw [hbz] at hr
  refine fn_enter 32 func209 rfl ntmps209 rfl ?_
  intro w0
  refine gn 12 ?_
  refine oL (lI hr rfl rfl (Sel.appR [_, _, _, _] HB)) ?_
  rintro ⟨r, H1⟩ ⟨rfl, h1⟩
  refine o_perm List.perm_append_comm ?_
  simp only [List.cons_append, List.nil_append]
  refine gn 22 ?_
  refine oT ?_; intro _ _
  refine gn 7 ?_
  refine oT ?_; intro _ _
  refine gn 7 ?_
  refine oL (lC (hA_is h1 hD hE hn hc h63 hk256 h24) rfl (Sel.all _)) ?_
  rintro ⟨r, H2⟩ ⟨HB2, rfl, h2, rfl⟩
  simp only [List.append_nil]
  refine gn 14 ?_
  refine r_fn (l := [.tmp 4, .tmp 5]) results209 rfl rfl ?_
  exact ⟨_, rfl, h2, rfl⟩
theorem Ss3_is (hS : SkR ga gq gr gs n cap i HB) (hD : (gs, DB bs rest lo hi) ∈ G) (hE : (3, Obj.cells (EV gE :: t3).toArray e3 f3) ∈ G) (hn : bs.length = n) (hc : n ≤ cap) (h63 : cap < 9223372036854775808) (hb : bs[i]? = some (UInt8.ofNat (128 + hx k))) (hk256 : k < 256) (h24 : 24 ≤ k → bs[i + 1]? = some (UInt8.ofNat k)) :
    Ctr prog 154 [.pointer (some ⟨gd, 0, none⟩), .pointer (some ⟨gt, 0, none⟩)] G ((gd, DcO ga gS gL 1 1 6) :: (gt, TkO ty ln st y bo it ui fl tg ta) :: (gS, StO a b) :: (gL, LfO l0 l1) :: HB) (fun r H' => ∃ HB', r = .tuple #[.bool false, .nilIface] ∧ SkR ga gq gr gs n cap (i + 1 + hk k) HB' ∧ H' = (gd, DcO ga gS gL 2 2 4) :: (gt, TkO (.int .u8 91) (.int .i64 k) st y bo it ui fl (.bool false) ta) :: (gS, StO a 5) :: (gL, LfO l0 k) :: HB') := by
  refine fn_enter 99 func154 rfl ntmps154 rfl ?_
  intro w0
  refine gn 68 ?_
  refine oL (lC (s3_is hS hD hE hn hc h63 hb hk256 h24) rfl (Sel.all _)) ?_
  rintro ⟨r, H1⟩ ⟨HB2, rfl, h2, rfl⟩
  simp only [List.append_nil]
  refine gn 33 ?_
  refine r_fn (l := [.tmp 4, .tmp 5]) results154 rfl rfl ?_
  exact ⟨_, rfl, h2, rfl⟩
/-- The number 1. -/
theorem s6_is (hS : SkR ga gq gr gs n cap i HB) (hD : (gs, DB bs rest lo hi) ∈ G) (hE : (3, Obj.cells (EV gE :: t3).toArray e3 f3) ∈ G) (hn : bs.length = n) (hc : n ≤ cap) (h63 : cap < 9223372036854775808) (hb : bs[i]? = some 1) :
    Ctr prog 209 [.pointer (some ⟨gd, 0, none⟩), .pointer (some ⟨gt, 0, none⟩)] G ((gd, DcO ga gS gL 1 1 6) :: (gt, TkO ty ln st y bo it ui fl tg ta) :: (gS, StO a b) :: (gL, LfO l0 l1) :: HB) (fun r H' => ∃ HB', r = .tuple #[.bool false, .nilIface] ∧ SkR ga gq gr gs n cap (i + 1) HB' ∧ H' = (gd, DcO ga gS gL 1 1 5) :: (gt, TkO (.int .u8 117) ln st y bo it (.int .u64 1) fl (.bool false) ta) :: (gS, StO a b) :: (gL, LfO l0 l1) :: HB') := by
  have hr := readn1_is hS hD hE hn hc h63 hb
  refine fn_enter 32 func209 rfl ntmps209 rfl ?_
  intro w0
  refine gn 12 ?_
  refine oL (lI hr rfl rfl (Sel.appR [_, _, _, _] HB)) ?_
  rintro ⟨r, H1⟩ ⟨rfl, h1⟩
  refine o_perm List.perm_append_comm ?_
  simp only [List.cons_append, List.nil_append]
  refine gn 22 ?_
  refine oT ?_; intro _ _
  refine gn 7 ?_
  refine oT ?_; intro _ _
  refine gn 7 ?_
  refine oL (lC (hU_is h1 hD hE hn hc h63) rfl (.cons .head (.cons .head (Sel.appR [_, _] H1)))) ?_
  rintro ⟨r, H2⟩ ⟨HB2, rfl, h2, rfl⟩
  simp only [List.cons_append]
  refine gn 14 ?_
  refine WR.sel (.cons .head (.cons .head (Sel.mid2 HB2 _ _))) ?_
  refine r_fn (l := [.tmp 4, .tmp 5]) results209 rfl rfl ?_
  exact ⟨_, rfl, h2, rfl⟩
theorem Ss6_is (hS : SkR ga gq gr gs n cap i HB) (hD : (gs, DB bs rest lo hi) ∈ G) (hE : (3, Obj.cells (EV gE :: t3).toArray e3 f3) ∈ G) (hn : bs.length = n) (hc : n ≤ cap) (h63 : cap < 9223372036854775808) (hb : bs[i]? = some 1) :
    Ctr prog 154 [.pointer (some ⟨gd, 0, none⟩), .pointer (some ⟨gt, 0, none⟩)] G ((gd, DcO ga gS gL 1 1 6) :: (gt, TkO ty ln st y bo it ui fl tg ta) :: (gS, StO a b) :: (gL, LfO l0 l1) :: HB) (fun r H' => ∃ HB', r = .tuple #[.bool false, .nilIface] ∧ SkR ga gq gr gs n cap (i + 1) HB' ∧ H' = (gd, DcO ga gS gL 1 1 5) :: (gt, TkO (.int .u8 117) ln st y bo it (.int .u64 1) fl (.bool false) ta) :: (gS, StO a b) :: (gL, LfO l0 l1) :: HB') := by
  refine fn_enter 99 func154 rfl ntmps154 rfl ?_
  intro w0
  refine gn 68 ?_
  refine oL (lC (s6_is hS hD hE hn hc h63 hb) rfl (Sel.all _)) ?_
  rintro ⟨r, H1⟩ ⟨HB2, rfl, h2, rfl⟩
  simp only [List.append_nil]
  refine gn 33 ?_
  refine r_fn (l := [.tmp 4, .tmp 5]) results154 rfl rfl ?_
  exact ⟨_, rfl, h2, rfl⟩
/-- A link in a list. -/
theorem s4_is (hS : SkR ga gq gr gs n cap i HB) (hD : (gs, DB bs rest lo hi) ∈ G) (hE : (3, Obj.cells (EV gE :: t3).toArray e3 f3) ∈ G) (hn : bs.length = n) (hc : n ≤ cap) (h63 : cap < 9223372036854775808) (hm : m ≤ 1000) (hb : bs[i]? = some 216) (h42 : bs[i + 1]? = some 42) (hmaj : bs[i + 1 + 1]? = some (UInt8.ofNat (64 + hx k))) (hk256 : k < 256) (h24 : 24 ≤ k → bs[i + 3]? = some (UInt8.ofNat k)) (hk0 : 0 < k) (hi' : i + 3 + hk k + k ≤ n) :
    Ctr prog 207 [.pointer (some ⟨gd, 0, none⟩), .pointer (some ⟨gt, 0, none⟩)] G ((gd, DcO ga gS gL 2 2 4) :: (gt, TkO ty ln st y bo it ui fl tg ta) :: (gS, StO a b) :: (gL, LfO l0 (m + 1 : Nat)) :: HB) (fun r H' => ∃ (z : Tl) (HB' : HP), TlOk 1 k z ∧ r = .tuple #[.bool false, .nilIface] ∧ SkR ga gq gr gs n cap (i + 3 + hk k + k) HB' ∧ H' = (gd, DcO ga gS gL 2 2 4) :: (gt, TkO (.int .u8 120) ln st (.slice (some ⟨z.g, 0, none⟩) k z.cap) bo it ui fl (.bool true) (.int .i64 42)) :: (gS, StO a b) :: (gL, LfO l0 m) :: (z.g, Ob (B ((bs.drop (i + 3 + hk k)).take k)) z 5) :: HB') := by
  have hr := readn1_is hS hD hE hn hc h63 hb
  refine fn_enter 65 func207 rfl ntmps207 rfl ?_
  intro w0
  refine gn 30 ?_
  refine c_ifp rfl (fun h => absurd h (by omega)) (fun _ => ?_)
  refine gn 13 ?_
  refine oT ?_; intro _ _
  refine gn 8 ?_
  refine oL (lI hr rfl rfl (Sel.appR [_, _, _, _] HB)) ?_
  rintro ⟨r, H1⟩ ⟨rfl, h1⟩
  refine o_perm List.perm_append_comm ?_
  simp only [List.cons_append, List.nil_append]
  refine gn 22 ?_
  refine oT ?_; intro _ _
  refine gn 7 ?_
  refine oL (lC (hT_is (j := i + 3) rfl h1 hD hE hn hc h63 h42 hmaj hk256 h24 hk0 hi') rfl (.cons .head (.cons .head (Sel.appR [_, _] H1)))) ?_
  rintro ⟨r, H2⟩ ⟨z, HB2, hz, rfl, h2, rfl⟩
  simp only [List.cons_append]
  refine gn 14 ?_
  refine WR.sel (.cons .head (.cons .head (Sel.mid2 (_ :: HB2) _ _))) ?_
  refine r_fn (l := [.tmp 4, .tmp 5]) results207 rfl rfl ?_
  exact ⟨z, _, hz, rfl, h2, by simp only [Nat.add_sub_cancel]⟩
theorem Ss4_is (hS : SkR ga gq gr gs n cap i HB) (hD : (gs, DB bs rest lo hi) ∈ G) (hE : (3, Obj.cells (EV gE :: t3).toArray e3 f3) ∈ G) (hn : bs.length = n) (hc : n ≤ cap) (h63 : cap < 9223372036854775808) (hm : m ≤ 1000) (hb : bs[i]? = some 216) (h42 : bs[i + 1]? = some 42) (hmaj : bs[i + 1 + 1]? = some (UInt8.ofNat (64 + hx k))) (hk256 : k < 256) (h24 : 24 ≤ k → bs[i + 3]? = some (UInt8.ofNat k)) (hk0 : 0 < k) (hi' : i + 3 + hk k + k ≤ n) :
    Ctr prog 154 [.pointer (some ⟨gd, 0, none⟩), .pointer (some ⟨gt, 0, none⟩)] G ((gd, DcO ga gS gL 2 2 4) :: (gt, TkO ty ln st y bo it ui fl tg ta) :: (gS, StO a b) :: (gL, LfO l0 (m + 1 : Nat)) :: HB) (fun r H' => ∃ (z : Tl) (HB' : HP), TlOk 1 k z ∧ r = .tuple #[.bool false, .nilIface] ∧ SkR ga gq gr gs n cap (i + 3 + hk k + k) HB' ∧ H' = (gd, DcO ga gS gL 2 2 4) :: (gt, TkO (.int .u8 120) ln st (.slice (some ⟨z.g, 0, none⟩) k z.cap) bo it ui fl (.bool true) (.int .i64 42)) :: (gS, StO a b) :: (gL, LfO l0 m) :: (z.g, Ob (B ((bs.drop (i + 3 + hk k)).take k)) z 5) :: HB') := by
  refine fn_enter 99 func154 rfl ntmps154 rfl ?_
  intro w0
  refine gn 54 ?_
  refine oL (lC (s4_is hS hD hE hn hc h63 hm hb h42 hmaj hk256 h24 hk0 hi') rfl (Sel.all _)) ?_
  rintro ⟨r, H1⟩ ⟨z, HB2, hz, rfl, h2, rfl⟩
  simp only [List.append_nil]
  refine gn 33 ?_
  refine r_fn (l := [.tmp 4, .tmp 5]) results154 rfl rfl ?_
  exact ⟨z, _, hz, rfl, h2, rfl⟩
/-- A list ends. -/
theorem s5_is :
    Ctr prog 207 [.pointer (some ⟨gd, 0, none⟩), .pointer (some ⟨gt, 0, none⟩)] G [(gd, DcO ga gS gL 2 2 4), (gt, TkO ty ln st y bo it ui fl tg ta), (gL, LfO l0 0)] (fun r H' => r = .tuple #[.bool true, .nilIface] ∧ H' = [(gd, DcO ga gS gL 2 1 4), (gt, TkO (.int .u8 93) ln st y bo it ui fl tg ta), (gL, LfO l0 0)]) := by
  refine fn_enter 65 func207 rfl ntmps207 rfl ?_
  intro w0
  refine gn 30 ?_
  refine c_ifp rfl (fun _ => ?_) (fun h => absurd h (by omega))
  refine gn 11 ?_
  refine oT ?_; intro _ _
  refine gn 7 ?_
  refine oT ?_; intro _ _
  refine gn 9 ?_
  refine r_fn (l := [.tmp 4, .tmp 5]) results207 rfl rfl ?_
  exact ⟨rfl, rfl⟩
theorem Ss5_is :
    Ctr prog 154 [.pointer (some ⟨gd, 0, none⟩), .pointer (some ⟨gt, 0, none⟩)] G ((gd, DcO ga gS gL 2 2 4) :: (gt, TkO ty ln st y bo it ui fl tg ta) :: (gS, StO a b) :: (gL, LfO l0 0) :: HB) (fun r H' => r = .tuple #[.bool false, .nilIface] ∧ H' = (gd, DcO ga gS gL 1 1 b) :: (gt, TkO (.int .u8 93) ln st y bo it ui fl tg ta) :: (gS, StO a b) :: (gL, LfO l0 0) :: HB) := by
  refine fn_enter 99 func154 rfl ntmps154 rfl ?_
  intro w0
  refine gn 54 ?_
  refine oL (lC s5_is rfl (.cons .head (.cons .head (.cons (.tail .head) .nil)))) ?_
  rintro ⟨r, H1⟩ ⟨rfl, rfl⟩
  simp only [List.cons_append, List.nil_append]
  refine gn 46 ?_
  refine c_ifp rfl (fun h => absurd h (by omega)) (fun _ => ?_)
  refine gn 14 ?_
  refine oT ?_; intro _ _
  refine gn 13 ?_
  refine oT ?_; intro _ _
  refine gn 9 ?_
  refine WR.sel (.cons .head (.cons .head (.cons (.tail .head) (.cons .head (Sel.all HB))))) ?_
  refine r_fn (l := [.tmp 4, .tmp 5]) results154 rfl rfl ?_
  exact ⟨rfl, rfl⟩
/-- The map ends. -/
theorem s7_is :
    Ctr prog 208 [.pointer (some ⟨gd, 0, none⟩), .pointer (some ⟨gt, 0, none⟩)] G [(gd, DcO ga gS gL 1 1 5), (gt, TkO ty ln st y bo it ui fl tg ta), (gL, LfO 0 l1)] (fun r H' => r = .tuple #[.bool true, .nilIface] ∧ H' = [(gd, DcO ga gS gL 1 0 5), (gt, TkO (.int .u8 125) ln st y bo it ui fl tg ta), (gL, LfO 0 l1)]) := by
  refine fn_enter 68 func208 rfl ntmps208 rfl ?_
  intro w0
  refine gn 30 ?_
  refine c_ifp rfl (fun _ => ?_) (fun h => absurd h (by omega))
  refine gn 11 ?_
  refine oT ?_; intro _ _
  refine gn 7 ?_
  refine oT ?_; intro _ _
  refine gn 9 ?_
  refine r_fn (l := [.tmp 4, .tmp 5]) results208 rfl rfl ?_
  exact ⟨rfl, rfl⟩
theorem Ss7_is :
    Ctr prog 154 [.pointer (some ⟨gd, 0, none⟩), .pointer (some ⟨gt, 0, none⟩)] G ((gd, DcO ga gS gL 1 1 5) :: (gt, TkO ty ln st y bo it ui fl tg ta) :: (gS, StO a b) :: (gL, LfO 0 l1) :: HB) (fun r H' => r = .tuple #[.bool true, .nilIface] ∧ H' = (gd, DcO ga gS gL 1 0 5) :: (gt, TkO (.int .u8 125) ln st y bo it ui fl tg ta) :: (gS, StO a b) :: (gL, LfO 0 l1) :: HB) := by
  refine fn_enter 99 func154 rfl ntmps154 rfl ?_
  intro w0
  refine gn 61 ?_
  refine oL (lC s7_is rfl (.cons .head (.cons .head (.cons (.tail .head) .nil)))) ?_
  rintro ⟨r, H1⟩ ⟨rfl, rfl⟩
  simp only [List.cons_append, List.nil_append]
  refine gn 46 ?_
  refine c_ifp rfl (fun _ => ?_) (fun h => absurd h (by omega))
  refine gn 7 ?_
  refine WR.sel (.cons .head (.cons .head (.cons (.tail .head) (.cons .head (Sel.all HB))))) ?_
  refine r_fn (l := [.tmp 4, .tmp 5]) results154 rfl rfl ?_
  exact ⟨rfl, rfl⟩
end
end Go.Proofs
namespace Go.Proofs
open Go Go.Sl Tryz
set_option maxRecDepth 100000
set_option maxHeartbeats 1000000
section
variable {G : HP} {g off n cap : Nat} {l : List Value} {e : TypeId} {fr : Nat × Nat} {x : En}
theorem cidFB_is (ht : Tidy x) (hf : EnFit x) (hd : x.d.length ≤ 200) (hm : (g, .cells l.toArray e fr) ∈ G) (hcut : CutL l off n (B (cidB x))) (hc : n ≤ cap) (hcap : cap < 9223372036854775808) :
    Ctr prog 88 [.slice (some ⟨g, off, none⟩) n cap] G [] (fun r H' => r = .tuple #[.int .i64 n, .agg #[S (cidB x)], .nilIface] ∧ H' = []) := by
  obtain ⟨v, c, h, d, o⟩ := x
  obtain ⟨_, _, hc0, hc1, hh0, hh1, _, _⟩ := hf
  simp only at hc0 hc1 hh0 hh1 hd
  simp only [Tidy] at ht
  obtain ⟨c, rfl⟩ := Int.eq_ofNat_of_zero_le hc0
  obtain ⟨h, rfl⟩ := Int.eq_ofNat_of_zero_le hh0
  have hlen := hcut.len
  rcases ht with ⟨rfl, h1, h2, h3⟩ | ⟨rfl, h1, h2⟩
  · have hcid : cidB ⟨0, (c : Nat), (h : Nat), d, o⟩ = mhB 18 d := if_pos rfl
    have hv : mhB 18 d = 18 :: 32 :: d := by rw [mhB, h3]; rfl
    rw [hcid] at hcut hlen ⊢
    have hn34 : n = 34 := by rw [← hlen, hv]; simp [h3]
    subst hn34
    have k0 : l[off + Int.toNat 0 * 1]? = some (.int .u8 (18 : Nat)) := byte_at hcut (show (mhB 18 d)[0]? = some 18 by rw [hv]; rfl) rfl
    have k1 : l[off + Int.toNat 1 * 1]? = some (.int .u8 (32 : Nat)) := byte_at hcut (show (mhB 18 d)[1]? = some 32 by rw [hv]; rfl) rfl
    refine fn_enter 111 func88 rfl ntmps88 rfl ?_
    intro w0
    refine gn 3 ?_
    refine oZ ?_; intro g3 _
    refine gn 10 ?_
    refine o_splitp 18 rfl (fun _ => ?_) (fun h => absurd h (by omega))
    refine gn 22 ?_
    refine c_ifp rfl (fun h => absurd h (by omega)) (fun _ => ?_)
    refine gn 6 ?_
    refine oL (lC (castM_is (h := 18) (d := d) (by decide) (by omega) hm hcut hc hcap) rfl .nil) ?_
    rintro ⟨r, H'⟩ ⟨rfl, rfl⟩
    simp only [List.nil_append]
    refine gn 18 ?_
    refine c_regiong [4] (by kernel_rfl) ?_
    refine lg [0, 3] ?_
    refine gE 1 rfl (e_bsE underlying178 underlying5 underlying9 rfl (.inr hm) hcut) ?_
    refine gM 2 rfl (eB [S (mhB 18 d)]) ?_
    refine gL 4 rfl (l_storea sizeOf111 rfl rfl rfl (by simp [Value.oneCell']) aU (.take .done) nofrs0) ?_
    intro _ _
    refine ld [5] ?_
    refine gn 3 ?_
    refine r_fnx results88 (.tmp rfl (.cella isAgg111 sizeOf111 rfl aM (.take .done) (.tmp rfl .nil))) .nil rfl ?_
    exact ⟨rfl, rfl⟩
  · have hcid : cidB ⟨1, (c : Nat), (h : Nat), d, o⟩ = 1 :: (uv c ++ mhB h d) := if_neg (show ¬ (1 : Int) = 0 by decide)
    rw [hcid] at hcut hlen ⊢
    have hcp := uv_pos c
    have hc9 := uv_le9 (x := c) (by omega)
    have hhp := uv_pos h
    have hdp := uv_pos d.length
    have hm1 : (mhB h d).length = (uv h).length + ((uv d.length).length + d.length) := by simp [mhB]
    have hb2 : (1 :: (uv c ++ mhB h d)).length = 1 + ((uv c).length + (mhB h d).length) := by simp; omega
    have hu1 : (uv 1).length = 1 := rfl
    have hcat : 1 :: (uv c ++ mhB h d) = uv 1 ++ (uv c ++ mhB h d) := rfl
    have k0 : l[off + Int.toNat 0 * 1]? = some (.int .u8 (1 : Nat)) := byte_at hcut (show (1 :: (uv c ++ mhB h d) : List UInt8)[0]? = some 1 from rfl) rfl
    have hcut1 : CutL l (off + 1) (n - 1) (B (uv c ++ mhB h d)) := (hcat ▸ hcut).front hu1
    have hcut2 : CutL l (off + 1 + (uv c).length) (n - 1 - (uv c).length) (B (mhB h d)) := hcut1.front rfl
    have hn : n = 1 + ((uv c).length + (mhB h d).length) := by rw [← hlen, hb2]
    have e2 : n - (1 + (uv c).length) = n - 1 - (uv c).length := by omega
    have hcut2' : CutL l (off + (1 + (uv c).length)) (n - (1 + (uv c).length)) (B (mhB h d)) := by rw [e2, ← Nat.add_assoc]; exact hcut2
    have hnn : 1 + (uv c).length + (n - (1 + (uv c).length)) = n := by omega
    refine fn_enter 111 func88 rfl ntmps88 rfl ?_
    intro w0
    refine gn 3 ?_
    refine oZ ?_; intro g3 _
    refine gn 10 ?_
    refine o_splitp 18 rfl (fun _ => ?_) (fun h => absurd h (by omega))
    refine gn 19 ?_
    refine oL (lC (fromU_is (x := 1) (tl := uv c ++ mhB h d) (by decide) hm hcut hcat hc hcap) rfl .nil) ?_
    rintro ⟨r, H'⟩ ⟨rfl, rfl⟩
    simp only [List.nil_append, hu1]
    refine gn 34 ?_
    simp only [Int.toNat_natCast, Nat.mul_one]
    refine oL (lC (fromU_is (x := c) (tl := mhB h d) (by omega) hm hcut1 rfl (by omega) (by omega)) rfl .nil) ?_
    rintro ⟨r, H'⟩ ⟨rfl, rfl⟩
    simp only [List.nil_append]
    refine gn 26 ?_
    simp only [Int.toNat_natCast, Nat.mul_one]
    refine oL (lC (mhFrom_is (h := h) (d := d) (by omega) (by omega) hm hcut2' (by omega) (by omega)) rfl .nil) ?_
    rintro ⟨r, H'⟩ ⟨rfl, rfl⟩
    simp only [List.nil_append]
    refine gn 30 ?_
    refine c_regiong [7] (by kernel_rfl) ?_
    refine lg [0, 1, 2, 3, 6] ?_
    have e0 : Int.toNat 0 = 0 := rfl
    simp only [Int.toNat_natCast, Nat.mul_one, Nat.zero_mul, Nat.add_zero, Nat.sub_zero, hnn, e0]
    refine gE 4 rfl (e_bsE underlying72 underlying5 underlying9 rfl (.inr hm) hcut) ?_
    refine gM 5 rfl (eB [S (1 :: (uv c ++ mhB h d))]) ?_
    refine gL 7 rfl (l_storea sizeOf111 rfl rfl rfl (by simp [Value.oneCell']) aU (.take .done) nofrs0) ?_
    intro _ _
    refine ld [8] ?_
    refine gn 3 ?_
    refine r_fnx results88 (.tmp rfl (.cella isAgg111 sizeOf111 rfl aM (.take .done) (.tmp rfl .nil))) .nil rfl ?_
    exact ⟨rfl, rfl⟩
theorem castC_is (ht : Tidy x) (hf : EnFit x) (hd : x.d.length ≤ 200) (hm : (g, .cells l.toArray e fr) ∈ G) (hcut : CutL l off n (B (cidB x))) (hc : n ≤ cap) (hcap : cap < 9223372036854775808) :
    Ctr prog 210 [.slice (some ⟨g, off, none⟩) n cap] G [] (fun r H' => r = .tuple #[.agg #[S (cidB x)], .nilIface] ∧ H' = []) := by
  refine fn_enter 28 func210 rfl ntmps210 rfl ?_
  intro w0
  refine gn 2 ?_
  refine oZ ?_; intro g2 _
  refine gn 6 ?_
  refine oL (lC (cidFB_is ht hf hd hm hcut hc hcap) rfl .nil) ?_
  rintro ⟨r, H'⟩ ⟨rfl, rfl⟩
  simp only [List.nil_append]
  refine gn 4 ?_
  refine oZ ?_; intro g5 _
  refine gn 1 ?_
  refine oL (l_storea sizeOf111 rfl rfl rfl (by simp [Value.oneCell']) aU (.take .done) nofrs0) ?_
  intro _ _
  refine gn 22 ?_
  refine c_ifp rfl (fun h => absurd h (by omega)) (fun _ => ?_)
  refine gn 5 ?_
  refine oL (l_storea sizeOf111 rfl rfl rfl (by simp [Value.oneCell']) aU (.take .done) nofrs0) ?_
  intro _ _
  refine gn 4 ?_
  refine r_fnx results210 (.cella isAgg111 sizeOf111 rfl aM (.take .done) (.tmp rfl .nil)) .nil rfl ?_
  exact ⟨rfl, rfl⟩
end
end Go.Proofs

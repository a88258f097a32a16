/- The decoder's steps; An identifier taken from bytes; A header's roots, decoded; Records in groups: the plain law; Widths and codes stand in order. (A part of the proof of this: for every input laws.FnWrOptions returns true and its arguments read as they did, the listed package variables being what the program lays) -/
import Derived.Test.YtochgglejmfelaaGreatDoorLSlZ
import Derived.Test.YtochgglejmfelaaGreatDoorL16
import Derived.Test.YtochgglejmfelaaGreatDoorL15
import Derived.Test.YtochgglejmfelaaGreatDoorL12
import Derived.Test.YtochgglejmfelaaGreatDoorL06
set_option linter.unusedVariables false
set_option linter.unusedSimpArgs false
namespace Go.Proofs
open Go Go.Sl Tryz
set_option maxRecDepth 100000
set_option maxHeartbeats 1000000
theorem Sel.mid2 (A : HP) (p q : Nat × Obj) : Sel (A ++ [p, q]) (p :: q :: A) [] := .cons (Rem.mid A p [q]) (.cons (Rem.mid A q []) (by simpa using Sel.all A))
section
variable {G HB : HP} {ga gd gS gL gr gs gq gt ns nl n cap i k m lo hi base : Nat} {ph a b l0 l1 : Int} {bs : List UInt8} {rest pl : List Value} {e : TypeId} {gE : Addr} {t3 : List Value} {e3 : TypeId} {f3 : Nat × Nat} {ty ln st y bo it ui fl tg ta : Value}

/-- A map of two begins. -/
theorem s1_is (hS : SkR ga gq gr gs n cap i HB) (hD : (gs, DB bs rest lo hi) ∈ G) (hE : (3, Obj.cells (EV gE :: t3).toArray e3 f3) ∈ G) (hn : bs.length = n) (hc : n ≤ cap) (h63 : cap < 9223372036854775808) (hb : bs[i]? = some 162) :
    Ctr prog 203 [.pointer (some ⟨gd, 0, none⟩), .pointer (some ⟨gt, 0, none⟩)] G ((gd, DcO ga gS gL 0 0 0) :: (gt, TkO ty ln st y bo it ui fl tg ta) :: (gS, StO a b) :: (gL, LfO l0 l1) :: HB) (fun r H' => ∃ HB', r = .tuple #[.bool false, .nilIface] ∧ SkR ga gq gr gs n cap (i + 1) HB' ∧ H' = (gd, DcO ga gS gL 1 1 5) :: (gt, TkO (.int .u8 123) (.int .i64 2) st y bo it ui fl (.bool false) ta) :: (gS, StO 0 b) :: (gL, LfO 2 l1) :: HB') := by
  have hr := readn1_is hS hD hE hn hc h63 hb
  refine fn_enter 27 func203 rfl ntmps203 rfl ?_
  intro w0
  refine gn 12 ?_
  refine oL (lI hr rfl rfl (Sel.appR [_, _, _, _] HB)) ?_
  rintro ⟨r, H1⟩ ⟨rfl, h1⟩
  refine o_perm List.perm_append_comm ?_
  simp only [List.cons_append, List.nil_append]
  refine gn 22 ?_
  refine oT ?_; intro _ _
  refine gn 7 ?_
  refine oL (lC (hM_is h1 hD hE hn hc h63) rfl (Sel.all _)) ?_
  rintro ⟨r, H2⟩ ⟨HB2, rfl, h2, rfl⟩
  simp only [List.append_nil]
  refine gn 7 ?_
  refine r_fn (l := [.tmp 4, .tmp 5]) results203 rfl rfl ?_
  exact ⟨_, rfl, h2, rfl⟩
theorem Ss1_is (hS : SkR ga gq gr gs n cap i HB) (hD : (gs, DB bs rest lo hi) ∈ G) (hE : (3, Obj.cells (EV gE :: t3).toArray e3 f3) ∈ G) (hn : bs.length = n) (hc : n ≤ cap) (h63 : cap < 9223372036854775808) (hb : bs[i]? = some 162) :
    Ctr prog 154 [.pointer (some ⟨gd, 0, none⟩), .pointer (some ⟨gt, 0, none⟩)] G ((gd, DcO ga gS gL 0 0 0) :: (gt, TkO ty ln st y bo it ui fl tg ta) :: (gS, StO a b) :: (gL, LfO l0 l1) :: HB) (fun r H' => ∃ HB', r = .tuple #[.bool false, .nilIface] ∧ SkR ga gq gr gs n cap (i + 1) HB' ∧ H' = (gd, DcO ga gS gL 1 1 5) :: (gt, TkO (.int .u8 123) (.int .i64 2) st y bo it ui fl (.bool false) ta) :: (gS, StO 0 b) :: (gL, LfO 2 l1) :: HB') := by
  refine fn_enter 99 func154 rfl ntmps154 rfl ?_
  intro w0
  refine gn 26 ?_
  refine oL (lC (s1_is hS hD hE hn hc h63 hb) rfl (Sel.all _)) ?_
  rintro ⟨r, H1⟩ ⟨HB2, rfl, h2, rfl⟩
  simp only [List.append_nil]
  refine gn 33 ?_
  refine r_fn (l := [.tmp 4, .tmp 5]) results154 rfl rfl ?_
  exact ⟨_, rfl, h2, rfl⟩
/-- A key. -/
theorem s2_is (hS : SkR ga gq gr gs n cap i HB) (hD : (gs, DB bs rest lo hi) ∈ G) (hE : (3, Obj.cells (EV gE :: t3).toArray e3 f3) ∈ G) (hn : bs.length = n) (hc : n ≤ cap) (h63 : cap < 9223372036854775808) (hm : m ≤ 1000) (hb : bs[i]? = some (UInt8.ofNat (96 + hx k))) (hk24 : k < 24) (hk0 : 0 < k) (hi' : i + 1 + k ≤ n) :
    Ctr prog 208 [.pointer (some ⟨gd, 0, none⟩), .pointer (some ⟨gt, 0, none⟩)] G ((gd, DcO ga gS gL 1 1 5) :: (gt, TkO ty ln st y bo it ui fl tg ta) :: (gS, StO a b) :: (gL, LfO (m + 1 : Nat) l1) :: HB) (fun r H' => ∃ HB', r = .tuple #[.bool false, .nilIface] ∧ SkR ga gq gr gs n cap (i + 1 + k) HB' ∧ H' = (gd, DcO ga gS gL 1 1 6) :: (gt, TkO (.int .u8 115) ln (S ((bs.drop (i + 1)).take k)) y bo it ui fl (.bool false) ta) :: (gS, StO a b) :: (gL, LfO m l1) :: HB') := by
  have hhx : hx k ≤ 24 := by unfold hx; split <;> omega
  have hbz : (UInt8.ofNat (96 + hx k)).toNat = 96 + hx k := by rw [UInt8.toNat_ofNat']; omega
  have hr := readn1_is hS hD hE hn hc h63 hb
  rw [hbz] at hr
  refine fn_enter 68 func208 rfl ntmps208 rfl ?_
  intro w0
  refine gn 30 ?_
  refine c_ifp rfl (fun h => absurd h (by omega)) (fun _ => ?_)
  refine gn 13 ?_
  refine oT ?_; intro _ _
  refine gn 8 ?_
  refine oL (lI hr rfl rfl (Sel.appR [_, _, _, _] HB)) ?_
  rintro ⟨r, H1⟩ ⟨rfl, h1⟩
  refine o_perm List.perm_append_comm ?_
  simp only [List.cons_append, List.nil_append]
  refine gn 22 ?_
  refine oT ?_; intro _ _
  refine gn 7 ?_
  refine oT ?_; intro _ _
  refine gn 7 ?_
  refine oL (lC (hS_is h1 hD hE hn hc h63 hk24 hk0 hi') rfl (.cons .head (.cons .head (Sel.appR [_, _] H1)))) ?_
  rintro ⟨r, H2⟩ ⟨HB2, rfl, h2, rfl⟩
  simp only [List.cons_append]
  refine gn 14 ?_
  refine WR.sel (.cons .head (.cons .head (Sel.mid2 HB2 _ _))) ?_
  refine r_fn (l := [.tmp 4, .tmp 5]) results208 rfl rfl ?_
  exact ⟨_, rfl, h2, by simp only [Nat.add_sub_cancel]⟩
theorem Ss2_is (hS : SkR ga gq gr gs n cap i HB) (hD : (gs, DB bs rest lo hi) ∈ G) (hE : (3, Obj.cells (EV gE :: t3).toArray e3 f3) ∈ G) (hn : bs.length = n) (hc : n ≤ cap) (h63 : cap < 9223372036854775808) (hm : m ≤ 1000) (hb : bs[i]? = some (UInt8.ofNat (96 + hx k))) (hk24 : k < 24) (hk0 : 0 < k) (hi' : i + 1 + k ≤ n) :
    Ctr prog 154 [.pointer (some ⟨gd, 0, none⟩), .pointer (some ⟨gt, 0, none⟩)] G ((gd, DcO ga gS gL 1 1 5) :: (gt, TkO ty ln st y bo it ui fl tg ta) :: (gS, StO a b) :: (gL, LfO (m + 1 : Nat) l1) :: HB) (fun r H' => ∃ HB', r = .tuple #[.bool false, .nilIface] ∧ SkR ga gq gr gs n cap (i + 1 + k) HB' ∧ H' = (gd, DcO ga gS gL 1 1 6) :: (gt, TkO (.int .u8 115) ln (S ((bs.drop (i + 1)).take k)) y bo it ui fl (.bool false) ta) :: (gS, StO a b) :: (gL, LfO m l1) :: HB') := by
  refine fn_enter 99 func154 rfl ntmps154 rfl ?_
  intro w0
  refine gn 61 ?_
  refine oL (lC (s2_is hS hD hE hn hc h63 hm hb hk24 hk0 hi') rfl (Sel.all _)) ?_
  rintro ⟨r, H1⟩ ⟨HB2, rfl, h2, rfl⟩
  simp only [List.append_nil]
  refine gn 33 ?_
  refine r_fn (l := [.tmp 4, .tmp 5]) results154 rfl rfl ?_
  exact ⟨_, rfl, h2, rfl⟩
/-- A list begins. -/
theorem s3_is (hS : SkR ga gq gr gs n cap i HB) (hD : (gs, DB bs rest lo hi) ∈ G) (hE : (3, Obj.cells (EV gE :: t3).toArray e3 f3) ∈ G) (hn : bs.length = n) (hc : n ≤ cap) (h63 : cap < 9223372036854775808) (hb : bs[i]? = some (UInt8.ofNat (128 + hx k))) (hk256 : k < 256) (h24 : 24 ≤ k → bs[i + 1]? = some (UInt8.ofNat k)) :
    Ctr prog 209 [.pointer (some ⟨gd, 0, none⟩), .pointer (some ⟨gt, 0, none⟩)] G ((gd, DcO ga gS gL 1 1 6) :: (gt, TkO ty ln st y bo it ui fl tg ta) :: (gS, StO a b) :: (gL, LfO l0 l1) :: HB) (fun r H' => ∃ HB', r = .tuple #[.bool false, .nilIface] ∧ SkR ga gq gr gs n cap (i + 1 + hk k) HB' ∧ H' = (gd, DcO ga gS gL 2 2 4) :: (gt, TkO (.int .u8 91) (.int .i64 k) st y bo it ui fl (.bool false) ta) :: (gS, StO a 5) :: (gL, LfO l0 k) :: HB') := by
  have hhx : hx k ≤ 24 := by unfold hx; split <;> omega
  have hbz : (UInt8.ofNat (128 + hx k)).toNat = 128 + hx k := by rw [UInt8.toNat_ofNat']; omega
  have hr := readn1_is hS hD hE hn hc h63 hb
  rw [hbz] at hr
  refine fn_enter 32 func209 rfl ntmps209 rfl ?_
  intro w0
  refine gn 12 ?_
  refine oL (lI hr rfl rfl (Sel.appR [_, _, _, _] HB)) ?_
  rintro ⟨r, H1⟩ ⟨rfl, h1⟩
  refine o_perm List.perm_append_comm ?_
  simp only [List.cons_append, List.nil_append]
  refine gn 22 ?_
  refine oT ?_; intro _ _
  refine gn 7 ?_
  refine oT ?_; intro _ _
  refine gn 7 ?_
  refine oL (lC (hA_is h1 hD hE hn hc h63 hk256 h24) rfl (Sel.all _)) ?_
  rintro ⟨r, H2⟩ ⟨HB2, rfl, h2, rfl⟩
  simp only [List.append_nil]
  refine gn 14 ?_
  refine r_fn (l := [.tmp 4, .tmp 5]) results209 rfl rfl ?_
  exact ⟨_, rfl, h2, rfl⟩
theorem Ss3_is (hS : SkR ga gq gr gs n cap i HB) (hD : (gs, DB bs rest lo hi) ∈ G) (hE : (3, Obj.cells (EV gE :: t3).toArray e3 f3) ∈ G) (hn : bs.length = n) (hc : n ≤ cap) (h63 : cap < 9223372036854775808) (hb : bs[i]? = some (UInt8.ofNat (128 + hx k))) (hk256 : k < 256) (h24 : 24 ≤ k → bs[i + 1]? = some (UInt8.ofNat k)) :
    Ctr prog 154 [.pointer (some ⟨gd, 0, none⟩), .pointer (some ⟨gt, 0, none⟩)] G ((gd, DcO ga gS gL 1 1 6) :: (gt, TkO ty ln st y bo it ui fl tg ta) :: (gS, StO a b) :: (gL, LfO l0 l1) :: HB) (fun r H' => ∃ HB', r = .tuple #[.bool false, .nilIface] ∧ SkR ga gq gr gs n cap (i + 1 + hk k) HB' ∧ H' = (gd, DcO ga gS gL 2 2 4) :: (gt, TkO (.int .u8 91) (.int .i64 k) st y bo it ui fl (.bool false) ta) :: (gS, StO a 5) :: (gL, LfO l0 k) :: HB') := by
  refine fn_enter 99 func154 rfl ntmps154 rfl ?_
  intro w0
  refine gn 68 ?_
  refine oL (lC (s3_is hS hD hE hn hc h63 hb hk256 h24) rfl (Sel.all _)) ?_
  rintro ⟨r, H1⟩ ⟨HB2, rfl, h2, rfl⟩
  simp only [List.append_nil]
  refine gn 33 ?_
  refine r_fn (l := [.tmp 4, .tmp 5]) results154 rfl rfl ?_
  exact ⟨_, rfl, h2, rfl⟩
/-- The number 1. -/
theorem s6_is (hS : SkR ga gq gr gs n cap i HB) (hD : (gs, DB bs rest lo hi) ∈ G) (hE : (3, Obj.cells (EV gE :: t3).toArray e3 f3) ∈ G) (hn : bs.length = n) (hc : n ≤ cap) (h63 : cap < 9223372036854775808) (hb : bs[i]? = some 1) :
    Ctr prog 209 [.pointer (some ⟨gd, 0, none⟩), .pointer (some ⟨gt, 0, none⟩)] G ((gd, DcO ga gS gL 1 1 6) :: (gt, TkO ty ln st y bo it ui fl tg ta) :: (gS, StO a b) :: (gL, LfO l0 l1) :: HB) (fun r H' => ∃ HB', r = .tuple #[.bool false, .nilIface] ∧ SkR ga gq gr gs n cap (i + 1) HB' ∧ H' = (gd, DcO ga gS gL 1 1 5) :: (gt, TkO (.int .u8 117) ln st y bo it (.int .u64 1) fl (.bool false) ta) :: (gS, StO a b) :: (gL, LfO l0 l1) :: HB') := by
  have hr := readn1_is hS hD hE hn hc h63 hb
  refine fn_enter 32 func209 rfl ntmps209 rfl ?_
  intro w0
  refine gn 12 ?_
  refine oL (lI hr rfl rfl (Sel.appR [_, _, _, _] HB)) ?_
  rintro ⟨r, H1⟩ ⟨rfl, h1⟩
  refine o_perm List.perm_append_comm ?_
  simp only [List.cons_append, List.nil_append]
  refine gn 22 ?_
  refine oT ?_; intro _ _
  refine gn 7 ?_
  refine oT ?_; intro _ _
  refine gn 7 ?_
  refine oL (lC (hU_is h1 hD hE hn hc h63) rfl (.cons .head (.cons .head (Sel.appR [_, _] H1)))) ?_
  rintro ⟨r, H2⟩ ⟨HB2, rfl, h2, rfl⟩
  simp only [List.cons_append]
  refine gn 14 ?_
  refine WR.sel (.cons .head (.cons .head (Sel.mid2 HB2 _ _))) ?_
  refine r_fn (l := [.tmp 4, .tmp 5]) results209 rfl rfl ?_
  exact ⟨_, rfl, h2, rfl⟩
theorem Ss6_is (hS : SkR ga gq gr gs n cap i HB) (hD : (gs, DB bs rest lo hi) ∈ G) (hE : (3, Obj.cells (EV gE :: t3).toArray e3 f3) ∈ G) (hn : bs.length = n) (hc : n ≤ cap) (h63 : cap < 9223372036854775808) (hb : bs[i]? = some 1) :
    Ctr prog 154 [.pointer (some ⟨gd, 0, none⟩), .pointer (some ⟨gt, 0, none⟩)] G ((gd, DcO ga gS gL 1 1 6) :: (gt, TkO ty ln st y bo it ui fl tg ta) :: (gS, StO a b) :: (gL, LfO l0 l1) :: HB) (fun r H' => ∃ HB', r = .tuple #[.bool false, .nilIface] ∧ SkR ga gq gr gs n cap (i + 1) HB' ∧ H' = (gd, DcO ga gS gL 1 1 5) :: (gt, TkO (.int .u8 117) ln st y bo it (.int .u64 1) fl (.bool false) ta) :: (gS, StO a b) :: (gL, LfO l0 l1) :: HB') := by
  refine fn_enter 99 func154 rfl ntmps154 rfl ?_
  intro w0
  refine gn 68 ?_
  refine oL (lC (s6_is hS hD hE hn hc h63 hb) rfl (Sel.all _)) ?_
  rintro ⟨r, H1⟩ ⟨HB2, rfl, h2, rfl⟩
  simp only [List.append_nil]
  refine gn 33 ?_
  refine r_fn (l := [.tmp 4, .tmp 5]) results154 rfl rfl ?_
  exact ⟨_, rfl, h2, rfl⟩
/-- A link in a list. -/
theorem s4_is (hS : SkR ga gq gr gs n cap i HB) (hD : (gs, DB bs rest lo hi) ∈ G) (hE : (3, Obj.cells (EV gE :: t3).toArray e3 f3) ∈ G) (hn : bs.length = n) (hc : n ≤ cap) (h63 : cap < 9223372036854775808) (hm : m ≤ 1000) (hb : bs[i]? = some 216) (h42 : bs[i + 1]? = some 42) (hmaj : bs[i + 1 + 1]? = some (UInt8.ofNat (64 + hx k))) (hk256 : k < 256) (h24 : 24 ≤ k → bs[i + 3]? = some (UInt8.ofNat k)) (hk0 : 0 < k) (hi' : i + 3 + hk k + k ≤ n) :
    Ctr prog 207 [.pointer (some ⟨gd, 0, none⟩), .pointer (some ⟨gt, 0, none⟩)] G ((gd, DcO ga gS gL 2 2 4) :: (gt, TkO ty ln st y bo it ui fl tg ta) :: (gS, StO a b) :: (gL, LfO l0 (m + 1 : Nat)) :: HB) (fun r H' => ∃ (z : Tl) (HB' : HP), TlOk 1 k z ∧ r = .tuple #[.bool false, .nilIface] ∧ SkR ga gq gr gs n cap (i + 3 + hk k + k) HB' ∧ H' = (gd, DcO ga gS gL 2 2 4) :: (gt, TkO (.int .u8 120) ln st (.slice (some ⟨z.g, 0, none⟩) k z.cap) bo it ui fl (.bool true) (.int .i64 42)) :: (gS, StO a b) :: (gL, LfO l0 m) :: (z.g, Ob (B ((bs.drop (i + 3 + hk k)).take k)) z 5) :: HB') := by
  have hr := readn1_is hS hD hE hn hc h63 hb
  refine fn_enter 65 func207 rfl ntmps207 rfl ?_
  intro w0
  refine gn 30 ?_
  refine c_ifp rfl (fun h => absurd h (by omega)) (fun _ => ?_)
  refine gn 13 ?_
  refine oT ?_; intro _ _
  refine gn 8 ?_
  refine oL (lI hr rfl rfl (Sel.appR [_, _, _, _] HB)) ?_
  rintro ⟨r, H1⟩ ⟨rfl, h1⟩
  refine o_perm List.perm_append_comm ?_
  simp only [List.cons_append, List.nil_append]
  refine gn 22 ?_
  refine oT ?_; intro _ _
  refine gn 7 ?_
  refine oL (lC (hT_is (j := i + 3) rfl h1 hD hE hn hc h63 h42 hmaj hk256 h24 hk0 hi') rfl (.cons .head (.cons .head (Sel.appR [_, _] H1)))) ?_
  rintro ⟨r, H2⟩ ⟨z, HB2, hz, rfl, h2, rfl⟩
  simp only [List.cons_append]
  refine gn 14 ?_
  refine WR.sel (.cons .head (.cons .head (Sel.mid2 (_ :: HB2) _ _))) ?_
  refine r_fn (l := [.tmp 4, .tmp 5]) results207 rfl rfl ?_
  exact ⟨z, _, hz, rfl, h2, by simp only [Nat.add_sub_cancel]⟩
theorem Ss4_is (hS : SkR ga gq gr gs n cap i HB) (hD : (gs, DB bs rest lo hi) ∈ G) (hE : (3, Obj.cells (EV gE :: t3).toArray e3 f3) ∈ G) (hn : bs.length = n) (hc : n ≤ cap) (h63 : cap < 9223372036854775808) (hm : m ≤ 1000) (hb : bs[i]? = some 216) (h42 : bs[i + 1]? = some 42) (hmaj : bs[i + 1 + 1]? = some (UInt8.ofNat (64 + hx k))) (hk256 : k < 256) (h24 : 24 ≤ k → bs[i + 3]? = some (UInt8.ofNat k)) (hk0 : 0 < k) (hi' : i + 3 + hk k + k ≤ n) :
    Ctr prog 154 [.pointer (some ⟨gd, 0, none⟩), .pointer (some ⟨gt, 0, none⟩)] G ((gd, DcO ga gS gL 2 2 4) :: (gt, TkO ty ln st y bo it ui fl tg ta) :: (gS, StO a b) :: (gL, LfO l0 (m + 1 : Nat)) :: HB) (fun r H' => ∃ (z : Tl) (HB' : HP), TlOk 1 k z ∧ r = .tuple #[.bool false, .nilIface] ∧ SkR ga gq gr gs n cap (i + 3 + hk k + k) HB' ∧ H' = (gd, DcO ga gS gL 2 2 4) :: (gt, TkO (.int .u8 120) ln st (.slice (some ⟨z.g, 0, none⟩) k z.cap) bo it ui fl (.bool true) (.int .i64 42)) :: (gS, StO a b) :: (gL, LfO l0 m) :: (z.g, Ob (B ((bs.drop (i + 3 + hk k)).take k)) z 5) :: HB') := by
  refine fn_enter 99 func154 rfl ntmps154 rfl ?_
  intro w0
  refine gn 54 ?_
  refine oL (lC (s4_is hS hD hE hn hc h63 hm hb h42 hmaj hk256 h24 hk0 hi') rfl (Sel.all _)) ?_
  rintro ⟨r, H1⟩ ⟨z, HB2, hz, rfl, h2, rfl⟩
  simp only [List.append_nil]
  refine gn 33 ?_
  refine r_fn (l := [.tmp 4, .tmp 5]) results154 rfl rfl ?_
  exact ⟨z, _, hz, rfl, h2, rfl⟩
/-- A list ends. -/
theorem s5_is :
    Ctr prog 207 [.pointer (some ⟨gd, 0, none⟩), .pointer (some ⟨gt, 0, none⟩)] G [(gd, DcO ga gS gL 2 2 4), (gt, TkO ty ln st y bo it ui fl tg ta), (gL, LfO l0 0)] (fun r H' => r = .tuple #[.bool true, .nilIface] ∧ H' = [(gd, DcO ga gS gL 2 1 4), (gt, TkO (.int .u8 93) ln st y bo it ui fl tg ta), (gL, LfO l0 0)]) := by
  refine fn_enter 65 func207 rfl ntmps207 rfl ?_
  intro w0
  refine gn 30 ?_
  refine c_ifp rfl (fun _ => ?_) (fun h => absurd h (by omega))
  refine gn 11 ?_
  refine oT ?_; intro _ _
  refine gn 7 ?_
  refine oT ?_; intro _ _
  refine gn 9 ?_
  refine r_fn (l := [.tmp 4, .tmp 5]) results207 rfl rfl ?_
  exact ⟨rfl, rfl⟩
theorem Ss5_is :
    Ctr prog 154 [.pointer (some ⟨gd, 0, none⟩), .pointer (some ⟨gt, 0, none⟩)] G ((gd, DcO ga gS gL 2 2 4) :: (gt, TkO ty ln st y bo it ui fl tg ta) :: (gS, StO a b) :: (gL, LfO l0 0) :: HB) (fun r H' => r = .tuple #[.bool false, .nilIface] ∧ H' = (gd, DcO ga gS gL 1 1 b) :: (gt, TkO (.int .u8 93) ln st y bo it ui fl tg ta) :: (gS, StO a b) :: (gL, LfO l0 0) :: HB) := by
  refine fn_enter 99 func154 rfl ntmps154 rfl ?_
  intro w0
  refine gn 54 ?_
  refine oL (lC s5_is rfl (.cons .head (.cons .head (.cons (.tail .head) .nil)))) ?_
  rintro ⟨r, H1⟩ ⟨rfl, rfl⟩
  simp only [List.cons_append, List.nil_append]
  refine gn 46 ?_
  refine c_ifp rfl (fun h => absurd h (by omega)) (fun _ => ?_)
  refine gn 14 ?_
  refine oT ?_; intro _ _
  refine gn 13 ?_
  refine oT ?_; intro _ _
  refine gn 9 ?_
  refine WR.sel (.cons .head (.cons .head (.cons (.tail .head) (.cons .head (Sel.all HB))))) ?_
  refine r_fn (l := [.tmp 4, .tmp 5]) results154 rfl rfl ?_
  exact ⟨rfl, rfl⟩
/-- The map ends. -/
theorem s7_is :
    Ctr prog 208 [.pointer (some ⟨gd, 0, none⟩), .pointer (some ⟨gt, 0, none⟩)] G [(gd, DcO ga gS gL 1 1 5), (gt, TkO ty ln st y bo it ui fl tg ta), (gL, LfO 0 l1)] (fun r H' => r = .tuple #[.bool true, .nilIface] ∧ H' = [(gd, DcO ga gS gL 1 0 5), (gt, TkO (.int .u8 125) ln st y bo it ui fl tg ta), (gL, LfO 0 l1)]) := by
  refine fn_enter 68 func208 rfl ntmps208 rfl ?_
  intro w0
  refine gn 30 ?_
  refine c_ifp rfl (fun _ => ?_) (fun h => absurd h (by omega))
  refine gn 11 ?_
  refine oT ?_; intro _ _
  refine gn 7 ?_
  refine oT ?_; intro _ _
  refine gn 9 ?_
  refine r_fn (l := [.tmp 4, .tmp 5]) results208 rfl rfl ?_
  exact ⟨rfl, rfl⟩
theorem Ss7_is :
    Ctr prog 154 [.pointer (some ⟨gd, 0, none⟩), .pointer (some ⟨gt, 0, none⟩)] G ((gd, DcO ga gS gL 1 1 5) :: (gt, TkO ty ln st y bo it ui fl tg ta) :: (gS, StO a b) :: (gL, LfO 0 l1) :: HB) (fun r H' => r = .tuple #[.bool true, .nilIface] ∧ H' = (gd, DcO ga gS gL 1 0 5) :: (gt, TkO (.int .u8 125) ln st y bo it ui fl tg ta) :: (gS, StO a b) :: (gL, LfO 0 l1) :: HB) := by
  refine fn_enter 99 func154 rfl ntmps154 rfl ?_
  intro w0
  refine gn 61 ?_
  refine oL (lC s7_is rfl (.cons .head (.cons .head (.cons (.tail .head) .nil)))) ?_
  rintro ⟨r, H1⟩ ⟨rfl, rfl⟩
  simp only [List.cons_append, List.nil_append]
  refine gn 46 ?_
  refine c_ifp rfl (fun _ => ?_) (fun h => absurd h (by omega))
  refine gn 7 ?_
  refine WR.sel (.cons .head (.cons .head (.cons (.tail .head) (.cons .head (Sel.all HB))))) ?_
  refine r_fn (l := [.tmp 4, .tmp 5]) results154 rfl rfl ?_
  exact ⟨rfl, rfl⟩
end
end Go.Proofs
namespace Go.Proofs
open Go Go.Sl Tryz
set_option maxRecDepth 100000
set_option maxHeartbeats 1000000
section
variable {G : HP} {g off n cap : Nat} {l : List Value} {e : TypeId} {fr : Nat × Nat} {x : En}
theorem cidFB_is (ht : Tidy x) (hf : EnFit x) (hd : x.d.length ≤ 200) (hm : (g, .cells l.toArray e fr) ∈ G) (hcut : CutL l off n (B (cidB x))) (hc : n ≤ cap) (hcap : cap < 9223372036854775808) :
    Ctr prog 88 [.slice (some ⟨g, off, none⟩) n cap] G [] (fun r H' => r = .tuple #[.int .i64 n, .agg #[S (cidB x)], .nilIface] ∧ H' = []) := by
  obtain ⟨v, c, h, d, o⟩ := x
  obtain ⟨_, _, hc0, hc1, hh0, hh1, _, _⟩ := hf
  simp only at hc0 hc1 hh0 hh1 hd
  simp only [Tidy] at ht
  obtain ⟨c, rfl⟩ := Int.eq_ofNat_of_zero_le hc0
  obtain ⟨h, rfl⟩ := Int.eq_ofNat_of_zero_le hh0
  have hlen := hcut.len
  rcases ht with ⟨rfl, h1, h2, h3⟩ | ⟨rfl, h1, h2⟩
  · have hcid : cidB ⟨0, (c : Nat), (h : Nat), d, o⟩ = mhB 18 d := if_pos rfl
    have hv : mhB 18 d = 18 :: 32 :: d := by rw [mhB, h3]; rfl
    rw [hcid] at hcut hlen ⊢
    have hn34 : n = 34 := by rw [← hlen, hv]; simp [h3]
    subst hn34
    have k0 : l[off + Int.toNat 0 * 1]? = some (.int .u8 (18 : Nat)) := byte_at hcut (show (mhB 18 d)[0]? = some 18 by rw [hv]; rfl) rfl
    have k1 : l[off + Int.toNat 1 * 1]? = some (.int .u8 (32 : Nat)) := byte_at hcut (show (mhB 18 d)[1]? = some 32 by rw [hv]; rfl) rfl
    refine fn_enter 111 func88 rfl ntmps88 rfl ?_
    intro w0
    refine gn 3 ?_
    refine oZ ?_; intro g3 _
    refine gn 10 ?_
    refine o_splitp 18 rfl (fun _ => ?_) (fun h => absurd h (by omega))
    refine gn 22 ?_
    refine c_ifp rfl (fun h => absurd h (by omega)) (fun _ => ?_)
    refine gn 6 ?_
    refine oL (lC (castM_is (h := 18) (d := d) (by decide) (by omega) hm hcut hc hcap) rfl .nil) ?_
    rintro ⟨r, H'⟩ ⟨rfl, rfl⟩
    simp only [List.nil_append]
    refine gn 18 ?_
    refine c_regiong [4] (by kernel_rfl) ?_
    refine lg [0, 3] ?_
    refine gE 1 rfl (e_bsE underlying178 underlying5 underlying9 rfl (.inr hm) hcut) ?_
    refine gM 2 rfl (eB [S (mhB 18 d)]) ?_
    refine gL 4 rfl (l_storea sizeOf111 rfl rfl rfl (by simp [Value.oneCell']) aU (.take .done) nofrs0) ?_
    intro _ _
    refine ld [5] ?_
    refine gn 3 ?_
    refine r_fnx results88 (.tmp rfl (.cella isAgg111 sizeOf111 rfl aM (.take .done) (.tmp rfl .nil))) .nil rfl ?_
    exact ⟨rfl, rfl⟩
  · have hcid : cidB ⟨1, (c : Nat), (h : Nat), d, o⟩ = 1 :: (uv c ++ mhB h d) := if_neg (show ¬ (1 : Int) = 0 by decide)
    rw [hcid] at hcut hlen ⊢
    have hcp := uv_pos c
    have hc9 := uv_le9 (x := c) (by omega)
    have hhp := uv_pos h
    have hdp := uv_pos d.length
    have hm1 : (mhB h d).length = (uv h).length + ((uv d.length).length + d.length) := by simp [mhB]
    have hb2 : (1 :: (uv c ++ mhB h d)).length = 1 + ((uv c).length + (mhB h d).length) := by simp; omega
    have hu1 : (uv 1).length = 1 := rfl
    have hcat : 1 :: (uv c ++ mhB h d) = uv 1 ++ (uv c ++ mhB h d) := rfl
    have k0 : l[off + Int.toNat 0 * 1]? = some (.int .u8 (1 : Nat)) := byte_at hcut (show (1 :: (uv c ++ mhB h d) : List UInt8)[0]? = some 1 from rfl) rfl
    have hcut1 : CutL l (off + 1) (n - 1) (B (uv c ++ mhB h d)) := (hcat ▸ hcut).front hu1
    have hcut2 : CutL l (off + 1 + (uv c).length) (n - 1 - (uv c).length) (B (mhB h d)) := hcut1.front rfl
    have hn : n = 1 + ((uv c).length + (mhB h d).length) := by rw [← hlen, hb2]
    have e2 : n - (1 + (uv c).length) = n - 1 - (uv c).length := by omega
    have hcut2' : CutL l (off + (1 + (uv c).length)) (n - (1 + (uv c).length)) (B (mhB h d)) := by rw [e2, ← Nat.add_assoc]; exact hcut2
    have hnn : 1 + (uv c).length + (n - (1 + (uv c).length)) = n := by omega
    refine fn_enter 111 func88 rfl ntmps88 rfl ?_
    intro w0
    refine gn 3 ?_
    refine oZ ?_; intro g3 _
    refine gn 10 ?_
    refine o_splitp 18 rfl (fun _ => ?_) (fun h => absurd h (by omega))
    refine gn 19 ?_
    refine oL (lC (fromU_is (x := 1) (tl := uv c ++ mhB h d) (by decide) hm hcut hcat hc hcap) rfl .nil) ?_
    rintro ⟨r, H'⟩ ⟨rfl, rfl⟩
    simp only [List.nil_append, hu1]
    refine gn 34 ?_
    simp only [Int.toNat_natCast, Nat.mul_one]
    refine oL (lC (fromU_is (x := c) (tl := mhB h d) (by omega) hm hcut1 rfl (by omega) (by omega)) rfl .nil) ?_
    rintro ⟨r, H'⟩ ⟨rfl, rfl⟩
    simp only [List.nil_append]
    refine gn 26 ?_
    simp only [Int.toNat_natCast, Nat.mul_one]
    refine oL (lC (mhFrom_is (h := h) (d := d) (by omega) (by omega) hm hcut2' (by omega) (by omega)) rfl .nil) ?_
    rintro ⟨r, H'⟩ ⟨rfl, rfl⟩
    simp only [List.nil_append]
    refine gn 30 ?_
    refine c_regiong [7] (by kernel_rfl) ?_
    refine lg [0, 1, 2, 3, 6] ?_
    have e0 : Int.toNat 0 = 0 := rfl
    simp only [Int.toNat_natCast, Nat.mul_one, Nat.zero_mul, Nat.add_zero, Nat.sub_zero, hnn, e0]
    refine gE 4 rfl (e_bsE underlying72 underlying5 underlying9 rfl (.inr hm) hcut) ?_
    refine gM 5 rfl (eB [S (1 :: (uv c ++ mhB h d))]) ?_
    refine gL 7 rfl (l_storea sizeOf111 rfl rfl rfl (by simp [Value.oneCell']) aU (.take .done) nofrs0) ?_
    intro _ _
    refine ld [8] ?_
    refine gn 3 ?_
    refine r_fnx results88 (.tmp rfl (.cella isAgg111 sizeOf111 rfl aM (.take .done) (.tmp rfl .nil))) .nil rfl ?_
    exact ⟨rfl, rfl⟩
theorem castC_is (ht : Tidy x) (hf : EnFit x) (hd : x.d.length ≤ 200) (hm : (g, .cells l.toArray e fr) ∈ G) (hcut : CutL l off n (B (cidB x))) (hc : n ≤ cap) (hcap : cap < 9223372036854775808) :
    Ctr prog 210 [.slice (some ⟨g, off, none⟩) n cap] G [] (fun r H' => r = .tuple #[.agg #[S (cidB x)], .nilIface] ∧ H' = []) := by
  refine fn_enter 28 func210 rfl ntmps210 rfl ?_
  intro w0
  refine gn 2 ?_
  refine oZ ?_; intro g2 _
  refine gn 6 ?_
  refine oL (lC (cidFB_is ht hf hd hm hcut hc hcap) rfl .nil) ?_
  rintro ⟨r, H'⟩ ⟨rfl, rfl⟩
  simp only [List.nil_append]
  refine gn 4 ?_
  refine oZ ?_; intro g5 _
  refine gn 1 ?_
  refine oL (l_storea sizeOf111 rfl rfl rfl (by simp [Value.oneCell']) aU (.take .done) nofrs0) ?_
  intro _ _
  refine gn 22 ?_
  refine c_ifp rfl (fun h => absurd h (by omega)) (fun _ => ?_)
  refine gn 5 ?_
  refine oL (l_storea sizeOf111 rfl rfl rfl (by simp [Value.oneCell']) aU (.take .done) nofrs0) ?_
  intro _ _
  refine gn 4 ?_
  refine r_fnx results210 (.cella isAgg111 sizeOf111 rfl aM (.take .done) (.tmp rfl .nil)) .nil rfl ?_
  exact ⟨rfl, rfl⟩
end
end Go.Proofs
namespace Go.Sl
open Go
section
variable {x : Cx} {ops : Array Oper} {k : List KI} {s : Slots} {H H' HS : HP} {L : List Nat} {fuel : Nat} {done : Array Bool}
theorem t_perm (hH : H.Perm H') (h : TO x ops k HS L fuel done s H') : TO x ops k HS L fuel done s H := fun a w hst hS => h a w (hst.perm hH) hS
end
end Go.Sl
namespace Go.Proofs
open Go Go.Sl Tryz
set_option maxRecDepth 100000
set_option maxHeartbeats 1000000
theorem len10 {α : Type} {l : List α} (h : l.length = 10) : ∃ a b c d e f g i j k, l = [a, b, c, d, e, f, g, i, j, k] := by
  match l, h with
  | [a, b, c, d, e, f, g, i, j, k], _ => exact ⟨a, b, c, d, e, f, g, i, j, k, rfl⟩
/-- A link: tag 42, a byte string of a zero byte and an identifier's bytes. -/
def linkB (x : En) : List UInt8 := 216 :: 42 :: (hdB 64 ((cidB x).length + 1) ++ (0 :: cidB x))
theorem cidB_len {x : En} (ht : Tidy x) (hd : x.d.length ≤ 200) : 0 < (cidB x).length ∧ (cidB x).length ≤ 231 := by
  unfold cidB
  split
  · rw [mhB_length]
    have := uv_pos 18
    have h1 : (uv 18).length = 1 := rfl
    have := uv_le x.d.length
    omega
  · simp only [List.length_cons, List.length_append, mhB_length]
    have := uv_le x.c.toNat
    have := uv_le x.h.toNat
    have := uv_le x.d.length
    omega
structure LinkAt (bs : List UInt8) (p : Nat) (x : En) (k : Nat) : Prop where
  b0 : bs[p]? = some 216
  b1 : bs[p + 1]? = some 42
  b2 : bs[p + 1 + 1]? = some (UInt8.ofNat (64 + hx k))
  b3 : 24 ≤ k → bs[p + 3]? = some (UInt8.ofNat k)
  hd : (bs.drop (p + 3 + hk k)).take k = 0 :: cidB x
  le : p + 3 + hk k + k ≤ bs.length
  len : (linkB x).length = 3 + hk k + k
theorem link_at {bs t : List UInt8} {p k : Nat} {x : En} (h : bs.drop p = linkB x ++ t) (hk0 : k = (cidB x).length + 1) : LinkAt bs p x k := by
  have hg : ∀ j, bs[p + j]? = (linkB x ++ t)[j]? := fun j => by rw [← h, List.getElem?_drop]
  have hl := congrArg List.length h
  rw [List.length_drop, List.length_append] at hl
  subst hk0
  by_cases h24 : (cidB x).length + 1 < 24
  · have e1 : hx ((cidB x).length + 1) = (cidB x).length + 1 := if_pos h24
    have e2 : hk ((cidB x).length + 1) = 0 := if_pos h24
    have e3 : linkB x = 216 :: 42 :: UInt8.ofNat (64 + ((cidB x).length + 1)) :: (0 :: cidB x) := by rw [linkB, hdB, if_pos h24]; rfl
    have e4 : (linkB x).length = 3 + 0 + ((cidB x).length + 1) := by rw [e3]; simp; omega
    refine ⟨?_, ?_, ?_, ?_, ?_, ?_, by rw [e2, e4]⟩
    · have := hg 0; rw [e3] at this; exact this
    · have := hg 1; rw [e3] at this; exact this
    · have := hg 2; rw [e3] at this; rw [e1]; exact this
    · intro hh; omega
    · rw [e2]
      show List.take _ (List.drop (p + 3) bs) = _
      rw [← List.drop_drop, h, e3]
      show List.take ((cidB x).length + 1) (0 :: cidB x ++ t) = _
      rw [List.take_left' (by simp)]
    · rw [e2]; omega
  · have e1 : hx ((cidB x).length + 1) = 24 := if_neg h24
    have e2 : hk ((cidB x).length + 1) = 1 := if_neg h24
    have e3 : linkB x = 216 :: 42 :: UInt8.ofNat (64 + 24) :: UInt8.ofNat ((cidB x).length + 1) :: (0 :: cidB x) := by rw [linkB, hdB, if_neg h24]; rfl
    have e4 : (linkB x).length = 3 + 1 + ((cidB x).length + 1) := by rw [e3]; simp; omega
    refine ⟨?_, ?_, ?_, ?_, ?_, ?_, by rw [e2, e4]⟩
    · have := hg 0; rw [e3] at this; exact this
    · have := hg 1; rw [e3] at this; exact this
    · have := hg 2; rw [e3] at this; rw [e1]; exact this
    · intro hh; have := hg 3; rw [e3] at this; exact this
    · rw [e2, Nat.add_assoc, ← List.drop_drop, h, e3]
      show List.take ((cidB x).length + 1) (0 :: cidB x ++ t) = _
      rw [List.take_left' (by simp)]
    · rw [e2]; omega
theorem lflat_split {xs : List En} {i : Nat} (h : i < xs.length) : xs.flatMap linkB = (xs.take i).flatMap linkB ++ (linkB xs[i] ++ (xs.drop (i + 1)).flatMap linkB) := by
  have e : xs = xs.take i ++ (xs[i] :: xs.drop (i + 1)) := by simp
  conv => lhs; rw [e]
  rw [List.flatMap_append, List.flatMap_cons]
theorem lflat_succ {xs : List En} {i : Nat} (h : i < xs.length) : (xs.take (i + 1)).flatMap linkB = (xs.take i).flatMap linkB ++ linkB xs[i] := by
  rw [List.take_succ_eq_append_getElem h, List.flatMap_append]; simp
/-- What is asked of an identifier. -/
structure CidOk (x : En) : Prop where
  ht : Tidy x
  hf : EnFit x
  hd : x.d.length ≤ 200
section
variable {G HB : HP} {ga gd gS gL gr gs gq gt gh ns nl n cap i k m lo hi base : Nat} {a b l0 l1 : Int} {bs tl : List UInt8} {rest pl : List Value} {xs : List En} {e : TypeId} {gE : Addr} {t3 : List Value} {e3 : TypeId} {f3 : Nat × Nat} {v0 ver : Value}
theorem roots_is (hS : SkR ga gq gr gs n cap i HB) (hD : (gs, DB bs rest lo hi) ∈ G) (hE : (3, Obj.cells (EV gE :: t3).toArray e3 f3) ∈ G) (hn : bs.length = n) (hc : n ≤ cap) (h63 : cap < 9223372036854775808)
    (hbs : bs.drop i = hdB 128 xs.length ++ (xs.flatMap linkB ++ tl)) (hN : xs.length ≤ 200) (hok : ∀ x ∈ xs, CidOk x) (h1v : v0.oneCell' = true) :
    Ctr prog 155 [.pointer (some ⟨gd, 0, none⟩), .pointer (some ⟨gh, 0, none⟩)] G ((gd, DcO ga gS gL 1 1 6) :: (gh, C [v0, ver] 109) :: (gS, StO a b) :: (gL, LfO l0 l1) :: HB) (fun r H' => ∃ v HR HB', r = .nilIface ∧ Osl 111 1 v xs.length (xs.map fun x => S (cidB x)) HR ∧ SkR ga gq gr gs n cap (i + (hdB 128 xs.length).length + (xs.flatMap linkB).length) HB' ∧ H' = (gd, DcO ga gS gL 1 1 5) :: (gh, C [v, ver] 109) :: (gS, StO a 5) :: (gL, LfO l0 0) :: (HR ++ HB')) := by
  have hg : ∀ j, bs[i + j]? = (hdB 128 xs.length ++ (xs.flatMap linkB ++ tl))[j]? := fun j => by rw [← hbs, List.getElem?_drop]
  have hhl : (hdB 128 xs.length).length = 1 + hk xs.length := by unfold hdB hk; split <;> simp
  have hb0 : bs[i]? = some (UInt8.ofNat (128 + hx xs.length)) := by
    have := hg 0
    rw [Nat.add_zero] at this
    rw [this, hdB, hx]
    split <;> rfl
  have hb1 : 24 ≤ xs.length → bs[i + 1]? = some (UInt8.ofNat xs.length) := fun h => by
    rw [hg 1, hdB, if_neg (by omega)]; rfl
  obtain ⟨p0, hp0⟩ : ∃ p0, p0 = i + 1 + hk xs.length := ⟨_, rfl⟩
  have hdp : bs.drop p0 = xs.flatMap linkB ++ tl := by
    rw [hp0, Nat.add_assoc, ← List.drop_drop, hbs, ← hhl, List.drop_left]
  obtain ⟨N, hN0⟩ : ∃ N, N = xs.length := ⟨_, rfl⟩
  rw [← hN0] at hN hb0 hb1 hp0 ⊢
  obtain ⟨pe, hpe⟩ : ∃ pe, pe = p0 + (xs.flatMap linkB).length := ⟨_, rfl⟩
  rw [show i + (hdB 128 N).length + (xs.flatMap linkB).length = pe by rw [hpe, hp0, hN0, hhl]; omega]
  refine fn_enter 83 func155 rfl ntmps155 rfl ?_
  intro w0
  refine gn 7 ?_
  refine oZ ?_; intro g5 _
  refine gn 6 ?_
  refine oL (lC (Ss3_is hS hD hE hn hc h63 hb0 (by omega) hb1) rfl (.cons (.tail .head) (.cons .head (.cons (.tail .head) (.cons (.tail .head) (Sel.appR [_] HB)))))) ?_
  rintro ⟨r, H'⟩ ⟨HB0, rfl, hS0, rfl⟩
  refine o_perm List.perm_append_comm ?_
  simp only [List.cons_append, List.nil_append]
  rw [← hp0] at hS0
  refine gn 41 ?_
  refine oL (l_mks (l := []) underlying107 (info_of typeInfo111) rfl rfl rfl rfl (by decide) (by decide) (by decide) (by decide) (by kernel_rfl)) ?_
  intro gR _
  refine gn 2 ?_
  refine oT ?_; intro _ _
  refine gn 3 ?_
  refine c_loop (X := Nat × Value × HP × HP × List Value) (fun y => [(0, .pointer (some ⟨gd, 0, none⟩)), (1, .pointer (some ⟨gh, 0, none⟩)), (5, .pointer (some ⟨g5, 0, none⟩))]) (fun y => (gh, C [y.2.1, ver] 109) :: (gd, DcO ga gS gL 2 2 4) :: (g5, C y.2.2.2.2 255) :: (gS, StO a 5) :: (gL, LfO l0 (N - y.1 : Nat)) :: (y.2.2.1 ++ y.2.2.2.1)) (fun y => y.1 ≤ N ∧ Osl 111 1 y.2.1 y.1 ((xs.take y.1).map fun x => S (cidB x)) y.2.2.1 ∧ SkR ga gq gr gs n cap (p0 + ((xs.take y.1).flatMap linkB).length) y.2.2.2.1 ∧ y.2.2.2.2.length = 10) (fun y => N - y.1) (0, .slice (some ⟨gR, 0, none⟩) 0 0, [(gR, C [] 111)], HB0, [_, _, _, _, _, _, _, _, _, _]) ⟨Nat.zero_le _, .own (xs := []) (rest := []) rfl rfl (Nat.le_refl _) (by decide) (.inr rfl), by simpa using hS0, rfl⟩ aK ((List.perm_append_comm (l₁ := [_]) (l₂ := [_, _, _, _, _])).append_right HB0) ?_
  rintro ⟨j, v, HR, HBj, tk⟩ ⟨hj, ho, hSj, htk⟩
  simp only at hj ho hSj htk ⊢
  obtain ⟨q0, q1, q2, q3, q4, q5, q6, q7, q8, q9, rfl⟩ := len10 htk
  refine gn 3 ?_
  refine oX (eB [.int .u8 0, .int .i64 0, S [], .slice none 0 0, .bool false, .int .i64 0, .int .u64 0, .float .f64 0, .bool false, .int .i64 0]) ?_
  refine oL (l_storea sizeOf255 rfl rfl rfl (by simp [Value.oneCell']) aU (.take (.take (.take (.take (.take (.take (.take (.take (.take (.take .done)))))))))) nofrs0) ?_
  intro _ _
  refine gn 6 ?_
  by_cases hlt : j < N
  · have hjx : j < xs.length := by omega
    obtain ⟨m, hm⟩ : ∃ m, N - j = m + 1 := ⟨N - j - 1, by omega⟩
    have hox := hok xs[j] (List.getElem_mem hjx)
    have hcl := cidB_len hox.ht hox.hd
    have hla := link_at (bs := bs) (p := p0 + ((xs.take j).flatMap linkB).length) (t := (xs.drop (j + 1)).flatMap linkB ++ tl) (by rw [← List.drop_drop, hdp, lflat_split hjx, List.append_assoc, List.drop_left, List.append_assoc]) rfl
    have hfs := congrArg List.length (lflat_succ hjx)
    rw [List.length_append, hla.len] at hfs
    have h2z : (B (0 :: cidB xs[j])).length = (cidB xs[j]).length + 1 := by rw [B_length]; rfl
    obtain ⟨hb0', hb1', hb2', hb3', hbd, hble, hbl⟩ := hla
    have htk1 : (xs.take (j + 1)).map (fun x => S (cidB x)) = (xs.take j).map (fun x => S (cidB x)) ++ [S (cidB xs[j])] := by rw [List.take_succ_eq_append_getElem hjx, List.map_append, List.map_cons, List.map_nil]
    have hs4 := fun z0 z1 z2 z3 z4 z5 z6 z7 z8 z9 => Ss4_is (gd := gd) (gt := g5) (gS := gS) (gL := gL) (a := a) (b := 5) (l0 := l0) (ty := z0) (ln := z1) (st := z2) (y := z3) (bo := z4) (it := z5) (ui := z6) (fl := z7) (tg := z8) (ta := z9) (m := m) (k := (cidB xs[j]).length + 1) hSj hD hE hn hc h63 (by omega) hb0' hb1' hb2' (by omega) hb3' (by omega) (by omega)
    simp only [← hm] at hs4
    refine oL (lC (hs4 _ _ _ _ _ _ _ _ _ _) rfl (.cons (.tail .head) (.cons (.tail .head) (.cons (.tail .head) (.cons (.tail .head) (Sel.appR (_ :: HR) HBj)))))) ?_
    rintro ⟨r, H'⟩ ⟨z, HB2, hz, rfl, hS2, rfl⟩
    rw [hbd]
    refine o_perm (List.perm_append_comm.trans ((perm_mid HR [_, _, _, _, _] HB2).cons _)) ?_
    simp only [List.cons_append, List.nil_append]
    have hzc := hz.le
    have hzl := hz.lt
    refine gn 40 ?_
    refine o_splitp 55 rfl (fun h => absurd h (by omega)) (fun _ => ?_)
    refine gn 16 ?_
    have e1 : Int.toNat 1 = 1 := rfl
    simp only [e1, Nat.zero_add, Nat.mul_one, Nat.add_sub_cancel]
    refine oL (lJ (HJ := [(z.g, Ob (B (0 :: cidB xs[j])) z 5)]) (castC_is (x := xs[j]) (n := (cidB xs[j]).length) hox.ht hox.hf hox.hd (List.mem_append_right _ (.head _)) (.skip (CutL.all (B_length _))) (by omega) (by omega)) rfl .nil (by intro p hp; rcases List.mem_singleton.1 hp with rfl; exact .tail _ (.tail _ (.tail _ (.tail _ (.tail _ (.head _))))))) ?_
    rintro ⟨r, H''⟩ ⟨rfl, rfl⟩
    simp only [List.nil_append]
    refine gn 3 ?_
    refine oZ ?_; intro g10 _
    refine oL (l_storea sizeOf111 rfl rfl rfl (by simp [Value.oneCell']) aU (.take .done) nofrs0) ?_
    intro _ _
    refine gn 13 ?_
    refine c_regiont ([(g10, C [S (cidB xs[j])] 111), (gh, C [v, ver] 109)]) [10] (by kernel_rfl) (.cons_cons _ (.cons_cons _ (List.nil_sublist _))) ?_
    refine lt [0, 1, 2, 3, 1004, 1005] ?_
    refine kL 6 rfl (l_bs (l := [S (cidB xs[j])]) runUnderlying107 sizeOf111 zeroValue111 rfl rfl rfl rfl (by kernel_rfl)) ?_
    intro g79 _
    refine kL 7 rfl (l_append (sz := 1) (m := 1) (news := [S (cidB xs[j])]) underlying107 (info_of typeInfo111) rfl rfl rfl rfl rfl rfl ho (perm_mid [_, _, _, _, _, _, _, _] HR _) (.blk underlying107 (.inl (.head _)) (.take .done) (by simp [Value.oneCell'])) (by show _ * 16 ≤ _; omega) (by omega)) ?_
    rintro ⟨v2, HR2⟩ ho2
    simp only at ho2 ⊢
    obtain ⟨gv, cv, _, _, _, rfl, -⟩ := Osl.open_ ho2 (Nat.succ_pos _)
    refine t_perm (perm_mid HR2 [_, _, _, _, _, _, _, _] HB2) ?_
    simp only [List.cons_append, List.nil_append]
    refine lt [8, 9] ?_
    refine tT 10 ?_
    intro _ _
    refine gn 2 ?_
    refine n_round' (y := (j, v, HR, HBj, [q0, q1, q2, q3, q4, q5, q6, q7, q8, q9])) (j + 1, .slice (some ⟨gv, 0, none⟩) (j + 1) cv, HR2, HB2, [.int .u8 120, .int .i64 0, S [], .slice (some ⟨z.g, 0, none⟩) ((cidB xs[j]).length + 1) z.cap, .bool false, .int .i64 0, .int .u64 0, .float .f64 0, .bool true, .int .i64 42]) (by show N - (j + 1) < N - j; omega) ⟨by show j + 1 ≤ N; omega, by rw [htk1]; exact ho2, by show SkR _ _ _ _ _ _ (p0 + ((xs.take (j + 1)).flatMap linkB).length) _; rw [hfs]; have e2 := hS2; rw [show p0 + ((xs.take j).flatMap linkB).length + 3 + hk ((cidB xs[j]).length + 1) + ((cidB xs[j]).length + 1) = p0 + (((xs.take j).flatMap linkB).length + (3 + hk ((cidB xs[j]).length + 1) + ((cidB xs[j]).length + 1))) by omega] at e2; exact e2, rfl⟩ aK _ (.refl _) ?_
    show List.Sublist ((gh, _) :: (gd, _) :: (g5, _) :: (gS, _) :: (gL, LfO l0 (N - (j + 1) : Nat)) :: (HR2 ++ HB2)) _
    rw [show N - (j + 1) = m by omega]
    exact .cons _ (.cons _ (.cons_cons _ (.cons_cons _ (.cons_cons _ (.cons_cons _ (.cons_cons _ (.cons _ (List.Sublist.refl _))))))))
  · skip
    obtain rfl : j = N := by omega
    rw [Nat.sub_self]
    refine oL (lC Ss5_is rfl (.cons (.tail .head) (.cons (.tail .head) (.cons (.tail .head) (.cons (.tail .head) (Sel.appR (_ :: HR) HBj)))))) ?_
    rintro ⟨r, H'⟩ ⟨rfl, rfl⟩
    refine o_perm (List.perm_append_comm.trans ((perm_mid HR [_, _, _, _] HBj).cons _)) ?_
    simp only [List.cons_append, List.nil_append]
    refine gn 31 ?_
    refine WR.sel (.cons (.tail .head) (.cons .head (.cons (.tail .head) (.cons (.tail .head) (Sel.appR [_] (HR ++ HBj)))))) ?_
    refine r_fn1 results155 rfl ?_
    refine ⟨v, HR, HBj, rfl, ?_, ?_, rfl⟩
    · rwa [List.take_of_length_le (by omega)] at ho
    · rw [List.take_of_length_le (by omega), ← hpe] at hSj
      exact hSj
end
end Go.Proofs
namespace Go.Proofs
open Go Go.Sl
/-- A group of records. -/
structure Gp where
  w : Nat
  rs : List Rc
  v : Value
  hb : HP
def KG (gs : List Gp) : List (Int × Value) := gs.map fun g => ((g.w : Int), g.v)
def GB (gs : List Gp) : HP := gs.flatMap (·.hb)
structure GpOk (K : HP) (es : List En) (w0 : Option Nat) (gs : List Gp) : Prop where
  os : ∀ g ∈ gs, Osl 455 2 g.v g.rs.length (rcs g.rs) g.hb
  fl : ∀ g ∈ gs, g.rs.map (·.1) = es.filter (fun x => decide (x.d.length = g.w))
  bs : ∀ g ∈ gs, ∀ r ∈ g.rs, BS K r.2 r.1.d
  nd : (gs.map (·.w)).Nodup
  al : ∀ x ∈ es, x.d.length ∈ gs.map (·.w)
  ne : ∀ g ∈ gs, g.rs ≠ [] ∨ some g.w = w0
theorem KG_none {gs : List Gp} {w : Nat} (h : w ∉ gs.map (·.w)) : mget (KG gs) (w : Nat) = none := by
  induction gs with
  | nil => rfl
  | cons t ts ih =>
    simp only [List.map_cons, List.mem_cons, not_or] at h
    simp only [KG, List.map_cons, mget]
    rw [if_neg (by omega)]
    exact ih h.2
theorem KG_some {A C : List Gp} {g : Gp} (h : g.w ∉ A.map (·.w)) : mget (KG (A ++ g :: C)) (g.w : Nat) = some g.v := by
  induction A with
  | nil => simp [KG, mget]
  | cons t ts ih =>
    simp only [List.map_cons, List.mem_cons, not_or] at h
    simp only [KG, List.cons_append, List.map_cons, mget]
    rw [if_neg (by omega)]
    exact ih h.2
theorem KG_set {A C : List Gp} {g g' : Gp} (h : g.w ∉ A.map (·.w)) (hw : g'.w = g.w) : mset (KG (A ++ g :: C)) (g.w : Nat) g'.v = KG (A ++ g' :: C) := by
  induction A with
  | nil => simp [KG, mset, hw]
  | cons t ts ih =>
    simp only [List.map_cons, List.mem_cons, not_or] at h
    simp only [KG, List.cons_append, List.map_cons, mset]
    rw [if_neg (by omega)]
    have := ih h.2
    simp only [KG] at this
    rw [this]
theorem KG_new {gs : List Gp} {g : Gp} (h : g.w ∉ gs.map (·.w)) : mset (KG gs) (g.w : Nat) g.v = KG (gs ++ [g]) := by
  rw [mset_new _ (KG_none h)]
  simp [KG]
theorem GB_mid (A C : List Gp) (g : Gp) : GB (A ++ g :: C) = GB A ++ (g.hb ++ GB C) := by simp [GB]
/-- A group that is new, empty. -/
theorem GpOk.new {K : HP} {es : List En} {gs : List Gp} {g : Gp} (h : GpOk K es none gs) (hw : g.w ∉ gs.map (·.w)) (hr : g.rs = []) (ho : Osl 455 2 g.v 0 [] g.hb) : GpOk K es (some g.w) (gs ++ [g]) where
  os := fun a ha => by
    rcases List.mem_append.1 ha with ha | ha
    · exact h.os a ha
    · rcases List.mem_singleton.1 ha with rfl
      rw [hr]; exact ho
  fl := fun a ha => by
    rcases List.mem_append.1 ha with ha | ha
    · exact h.fl a ha
    · rcases List.mem_singleton.1 ha with rfl
      rw [hr]
      refine (List.filter_eq_nil_iff.2 fun x hx => ?_).symm
      simp only [decide_eq_true_eq]
      exact fun e => hw (e ▸ h.al x hx)
  bs := fun a ha r hr' => by
    rcases List.mem_append.1 ha with ha | ha
    · exact h.bs a ha r hr'
    · rcases List.mem_singleton.1 ha with rfl
      rw [hr] at hr'; cases hr'
  nd := by
    rw [List.map_append, List.nodup_append]
    refine ⟨h.nd, by simp, fun a ha b hb e => ?_⟩
    simp only [List.map_cons, List.map_nil, List.mem_singleton] at hb
    subst hb; subst e; exact hw ha
  al := fun x hx => by rw [List.map_append]; exact List.mem_append_left _ (h.al x hx)
  ne := fun a ha => by
    rcases List.mem_append.1 ha with ha | ha
    · rcases h.ne a ha with h1 | h1
      · exact .inl h1
      · cases h1
    · rcases List.mem_singleton.1 ha with rfl
      exact .inr rfl
/-- A record put to its group. -/
theorem GpOk.put {K K' : HP} {es : List En} {A C : List Gp} {g g' : Gp} {x : En} {dv : Value} {w0 : Option Nat} (h : GpOk K es w0 (A ++ g :: C)) (h0 : w0 = none ∨ w0 = some g.w) (hw : x.d.length = g.w) (hw' : g'.w = g.w) (hr : g'.rs = g.rs ++ [(x, dv)]) (ho : Osl 455 2 g'.v g'.rs.length (rcs g'.rs) g'.hb) (hb : BS K' dv x.d) (hs : ∀ p ∈ K, p ∈ K') : GpOk K' (es ++ [x]) none (A ++ g' :: C) where
  os := fun a ha => by
    rcases List.mem_append.1 ha with ha | ha
    · exact h.os a (List.mem_append_left _ ha)
    · rcases List.mem_cons.1 ha with rfl | ha
      · exact ho
      · exact h.os a (List.mem_append_right _ (.tail _ ha))
  fl := by
    have hnd := h.nd
    simp only [List.map_append, List.map_cons, List.nodup_append, List.nodup_cons] at hnd
    intro a ha
    rw [List.filter_append]
    have hoff : a ∈ A ∨ a ∈ C → a.w ≠ g.w := by
      rintro (h1 | h1)
      · exact hnd.2.2 _ (List.mem_map_of_mem h1) _ (.head _)
      · intro e; exact hnd.2.1.1 (e ▸ List.mem_map_of_mem h1)
    have hold : a ∈ A ∨ a ∈ C → a.rs.map (·.1) = es.filter (fun x => decide (x.d.length = a.w)) ++ [x].filter (fun x => decide (x.d.length = a.w)) := fun h1 => by
      have h2 := hoff h1
      have h3 : ([x].filter fun x => decide (x.d.length = a.w)) = [] := by
        refine List.filter_eq_nil_iff.2 fun y hy => ?_
        rcases List.mem_singleton.1 hy with rfl
        simp only [decide_eq_true_eq]; omega
      rw [h3, List.append_nil]
      refine h.fl a ?_
      rcases h1 with h1 | h1
      · exact List.mem_append_left _ h1
      · exact List.mem_append_right _ (.tail _ h1)
    rcases List.mem_append.1 ha with ha | ha
    · exact hold (.inl ha)
    · rcases List.mem_cons.1 ha with rfl | ha
      · rw [hr, List.map_append, hw', h.fl g (List.mem_append_right _ (.head _))]
        congr 1
        simp [hw]
      · exact hold (.inr ha)
  bs := fun a ha r hr' => by
    rcases List.mem_append.1 ha with ha | ha
    · exact (h.bs a (List.mem_append_left _ ha) r hr').mono hs
    · rcases List.mem_cons.1 ha with rfl | ha
      · rw [hr] at hr'
        rcases List.mem_append.1 hr' with h1 | h1
        · exact (h.bs g (List.mem_append_right _ (.head _)) r h1).mono hs
        · rcases List.mem_singleton.1 h1 with rfl
          exact hb
      · exact (h.bs a (List.mem_append_right _ (.tail _ ha)) r hr').mono hs
  nd := by
    have := h.nd
    simp only [List.map_append, List.map_cons] at this ⊢
    rw [hw']; exact this
  al := fun y hy => by
    have e : (A ++ g' :: C).map (·.w) = (A ++ g :: C).map (·.w) := by simp [hw']
    rw [e]
    rcases List.mem_append.1 hy with hy | hy
    · exact h.al y hy
    · rcases List.mem_singleton.1 hy with rfl
      rw [hw]; simp
  ne := fun a ha => by
    have hnd := h.nd
    simp only [List.map_append, List.map_cons, List.nodup_append, List.nodup_cons] at hnd
    have hold : a ∈ A ++ g :: C → a.w ≠ g.w → a.rs ≠ [] ∨ some a.w = none := fun h1 h2 => by
      rcases h.ne a h1 with h3 | h3
      · exact .inl h3
      · rcases h0 with rfl | rfl
        · cases h3
        · exact absurd (Option.some.inj h3) h2
    rcases List.mem_append.1 ha with ha | ha
    · exact hold (List.mem_append_left _ ha) (hnd.2.2 _ (List.mem_map_of_mem ha) _ (.head _))
    · rcases List.mem_cons.1 ha with rfl | ha
      · exact .inl (by rw [hr]; simp)
      · exact hold (List.mem_append_right _ (.tail _ ha)) (fun e => hnd.2.1.1 (e ▸ List.mem_map_of_mem ha))
end Go.Proofs
namespace Go.Proofs
open Go Go.Sl
theorem srt_pairwise (l : List Int) : (srt l).Pairwise (· ≤ ·) := by
  have := List.pairwise_mergeSort (le := fun a b : Int => decide (a ≤ b)) (fun a b c h1 h2 => by simp at h1 h2 ⊢; omega) (fun a b => by simp; omega) l
  exact this.imp fun h => by simpa using h
theorem parts_sorted (l : List En) : ((parts l).map (·.1)).Pairwise (· ≤ ·) := by
  rw [parts, List.map_map, List.pairwise_map]
  exact (srt_pairwise (distI (lens l))).imp fun h => by simp only [Function.comp, partOf]; omega
theorem kparts_sorted (l : List En) : ((kparts l).map (·.1)).Pairwise (· ≤ ·) := by
  rw [kparts, List.map_map, List.pairwise_map]
  exact (srt_pairwise (distI (hcs l))).imp fun h => by simp only [Function.comp]; omega
theorem bodyB_small (l : List En) (kind : Int) (hd : ∀ x ∈ l, x.d.length ≤ 200) (hl : l.length ≤ 100) : (bodyB l kind).length ≤ 221000000 := by
  have h1 := sortedB_length l hd hl
  have h2 := flat_length (codes l) (codeB l) 2200008 (fun n => codeB_length l n hd hl)
  have h3 := codes_len l
  have h4 : (codes l).length * 2200008 ≤ 100 * 2200008 := Nat.mul_le_mul_right _ (by omega)
  unfold bodyB
  split
  · omega
  · simp only [List.length_append, lowB_length]; omega
end Go.Proofs

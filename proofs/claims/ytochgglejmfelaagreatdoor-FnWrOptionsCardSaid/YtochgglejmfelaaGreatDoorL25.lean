/- A file's header written; a file copied into a buffer; laws.wrFile; impl.WrWrap: a file of version 1 wrapped; laws.FnWrOptions: true. (A part of the proof of this: for every input laws.FnWrOptions returns true and its arguments read as they did, the listed package variables being what the program lays) -/
import Derived.Test.YtochgglejmfelaaGreatDoorLSlZ
import Derived.Test.YtochgglejmfelaaGreatDoorL24
import Derived.Test.YtochgglejmfelaaGreatDoorL20
import Derived.Test.YtochgglejmfelaaGreatDoorL13
import Derived.Test.YtochgglejmfelaaGreatDoorL16
import Derived.Test.YtochgglejmfelaaGreatDoorL21
set_option linter.unusedVariables false
set_option linter.unusedSimpArgs false
namespace Go.Proofs
open Go Go.Sl Tryz
set_option maxRecDepth 100000
set_option maxHeartbeats 1000000
section
variable {G HB : HP} {gb gr gs n cap lo hi a b c d e m : Nat} {bs src : List UInt8} {rest : List Value} {lr : Int} {v : Value} {gE : Addr} {t3 : List Value} {e3 : TypeId} {f3 : Nat × Nat}
theorem two_low {x y : List UInt8} : C (B x ++ (B y ++ [])) 5 = DB (x ++ y) [] 0 0 := by
  show Obj.cells _ _ _ = Obj.cells (B (x ++ y) ++ []).toArray 5 (0, 0)
  rw [B_append, List.append_assoc]
theorem charWrite_is (hb : Bb v bs HB) (h2 : bs.length < 1000000000) (h0 : bs ≠ []) :
    Ctr prog 178 [.agg #[.int .u64 (a : Nat), .int .u64 (b : Nat)], .iface 89 (.pointer (some ⟨gb, 0, none⟩))] G ((gb, Bu v lr) :: HB) (fun r H' => ∃ (v' : Value) (HB' : HP), r = .tuple #[.int .i64 16, .nilIface] ∧ Bb v' (bs ++ (lowB (a : Nat) 8 ++ lowB (b : Nat) 8)) HB' ∧ H' = (gb, Bu v' 0) :: HB') := by
  refine fn_enter 29 func178 rfl ntmps178 rfl ?_
  intro w0
  refine gn 2 ?_
  refine oB ?_; intro g2 _
  refine gn 6 ?_
  refine oL (l_mks (l := List.replicate 16 (.int .u8 0)) underlying72 (info_of typeInfo5) rfl rfl rfl rfl (by decide) (by decide) (by decide) (by decide) (made_one (.int .u8 0) 16 rfl)) ?_
  intro g8 _
  refine gn 4 ?_
  refine c_regiong [5] (by kernel_rfl) ?_
  refine gM 0 rfl (e_load0 isAgg294 sizeOf294 rfl) ?_
  refine lg [1, 2, 3, 1004] ?_
  refine gL 5 rfl (lC (put64g_is (p := []) (q := List.replicate 8 (.int .u8 0)) (k := a) rfl) rfl (.cons .head .nil)) ?_
  rintro ⟨r, H'⟩ ⟨rfl, rfl⟩
  simp only [List.cons_append, List.nil_append]
  refine gn 3 ?_
  refine c_regiong [5] (by kernel_rfl) ?_
  refine gM 0 rfl (e_load0 isAgg294 sizeOf294 rfl) ?_
  refine lg [1, 2, 3, 1004] ?_
  refine gL 5 rfl (lC (put64g_is (p := B (lowB (a : Nat) 8)) (q := []) (k := b) (by rw [B_length, lowB_length]; rfl)) rfl (.cons .head .nil)) ?_
  rintro ⟨r, H'⟩ ⟨rfl, rfl⟩
  simp only [List.cons_append, List.nil_append]
  rw [two_low]
  refine gn 6 ?_
  refine oL (l_calli (HJ := [(g8, DB (lowB (a : Nat) 8 ++ lowB (b : Nat) 8) [] 0 0)]) call294 (by intro w; kernel_rfl) (write_is hb (List.mem_append_right _ (.head _)) (by simp [lowB_length]) (by decide) (by decide) (by omega) (fun h => absurd h h0) (Nat.le_refl _)) rfl rfl rfl (.cons (.tail (.tail .head)) (Sel.appR [_, _] HB)) (fun p hp => (List.mem_singleton.1 hp) ▸ .head _)) ?_
  rintro ⟨r, H'⟩ ⟨v', HB', rfl, hb', rfl⟩
  refine gn 16 ?_
  refine WR.less (fun _ _ h => h) (List.sublist_append_left _ _) ?_
  refine r_fn (l := [.tmp 4, .tmp 5]) results178 rfl rfl ?_
  exact ⟨v', HB', rfl, hb', rfl⟩
theorem hdrWrite_is (hb : Bb v bs HB) (h2 : bs.length < 1000000000) (h0 : bs ≠ []) :
    Ctr prog 110 [.agg #[.int .u64 0, .int .u64 0, .int .u64 (c : Nat), .int .u64 (d : Nat), .int .u64 (e : Nat)], .iface 89 (.pointer (some ⟨gb, 0, none⟩))] G ((gb, Bu v lr) :: HB) (fun r H' => ∃ (v' : Value) (HB' : HP), r = .tuple #[.int .i64 40, .nilIface] ∧ Bb v' (bs ++ headV 0 0 (c : Nat) (d : Nat) (e : Nat)) HB' ∧ H' = (gb, Bu v' 0) :: HB') := by
  have hch := charWrite_is (G := G) (gb := gb) (lr := lr) (a := 0) (b := 0) hb h2 h0
  refine fn_enter 51 func110 rfl ntmps110 rfl ?_
  intro w0
  refine gn 2 ?_
  refine oB ?_; intro g2 _
  refine gn 9 ?_
  refine oL (lC hch rfl (.cons (.tail .head) (Sel.appR [_] HB))) ?_
  rintro ⟨r, H'⟩ ⟨v1, HB1, rfl, hb1, rfl⟩
  simp only [List.cons_append]
  refine o_perm (show List.Perm _ ((g2, C [.int .u64 0, .int .u64 0, .int .u64 (c : Nat), .int .u64 (d : Nat), .int .u64 (e : Nat)] 202) :: (gb, Bu v1 0) :: HB1) from aP) ?_
  refine gn 27 ?_
  refine oL (l_mks (l := List.replicate 24 (.int .u8 0)) underlying72 (info_of typeInfo5) rfl rfl rfl rfl (by decide) (by decide) (by decide) (by decide) (made_one (.int .u8 0) 24 rfl)) ?_
  intro g8 _
  refine gn 4 ?_
  refine c_regiong [5] (by kernel_rfl) ?_
  refine gM 0 rfl (e_load0 isAgg294 sizeOf294 rfl) ?_
  refine lg [1, 2, 3, 1004] ?_
  refine gL 5 rfl (lC (put64g_is (p := []) (q := List.replicate 16 (.int .u8 0)) (k := c) rfl) rfl (.cons .head .nil)) ?_
  rintro ⟨r, H'⟩ ⟨rfl, rfl⟩
  simp only [List.cons_append, List.nil_append]
  refine gn 3 ?_
  refine c_regiong [5] (by kernel_rfl) ?_
  refine gM 0 rfl (e_load0 isAgg294 sizeOf294 rfl) ?_
  refine lg [1, 2, 3, 1004] ?_
  refine gL 5 rfl (lC (put64g_is (p := B (lowB (c : Nat) 8)) (q := List.replicate 8 (.int .u8 0)) (k := d) (by rw [B_length, lowB_length]; rfl)) rfl (.cons .head .nil)) ?_
  rintro ⟨r, H'⟩ ⟨rfl, rfl⟩
  simp only [List.cons_append, List.nil_append]
  rw [← List.append_assoc, ← B_append]
  refine gn 3 ?_
  refine c_regiong [5] (by kernel_rfl) ?_
  refine gM 0 rfl (e_load0 isAgg294 sizeOf294 rfl) ?_
  refine lg [1, 2, 3, 1004] ?_
  refine gL 5 rfl (lC (put64g_is (p := B (lowB (c : Nat) 8 ++ lowB (d : Nat) 8)) (q := []) (k := e) (by rw [B_length, List.length_append, lowB_length, lowB_length]; rfl)) rfl (.cons .head .nil)) ?_
  rintro ⟨r, H'⟩ ⟨rfl, rfl⟩
  simp only [List.cons_append, List.nil_append]
  rw [two_low]
  refine gn 6 ?_
  refine oL (l_calli (HJ := [(g8, DB (lowB (c : Nat) 8 ++ lowB (d : Nat) 8 ++ lowB (e : Nat) 8) [] 0 0)]) call294 (by intro w; kernel_rfl) (write_is hb1 (List.mem_append_right _ (.head _)) (by simp [lowB_length]) (by decide) (by decide) (by simp [lowB_length]; omega) (fun h => absurd (List.append_eq_nil_iff.1 h).1 h0) (Nat.le_refl _)) rfl rfl rfl (.cons (.tail (.tail .head)) (Sel.appR [_, _] HB1)) (fun p hp => (List.mem_singleton.1 hp) ▸ .head _)) ?_
  rintro ⟨r, H'⟩ ⟨v', HB', rfl, hb', rfl⟩
  refine gn 24 ?_
  refine WR.less (fun _ _ h => h) (List.sublist_append_left _ _) ?_
  refine r_fn (l := [.tmp 4, .tmp 5]) results110 rfl rfl ?_
  refine ⟨v', HB', rfl, ?_, rfl⟩
  simpa [headV] using hb'
theorem newHeader_is (hm : m ≤ 1000000000) : CtrP prog 108 [.int .u64 (m : Nat)] G (.agg #[.int .u64 0, .int .u64 0, .int .u64 51, .int .u64 (m : Nat), .int .u64 (51 + (m : Nat))]) := by
  refine fn_enter 13 func108 rfl ntmps108 rfl ?_
  intro w0
  refine gn 2 ?_
  refine oZ ?_; intro g2 _
  refine gn 5 ?_
  refine oX (eB [.int .u64 0, .int .u64 0, .int .u64 0, .int .u64 (m : Nat), .int .u64 0]) ?_
  refine oZ ?_; intro g3 _
  refine oL (l_storea sizeOf202 rfl rfl rfl (by simp [Value.oneCell']) .head (.take (.take (.take (.take (.take .done))))) nofrs0) ?_
  intro _ _
  refine gn 5 ?_
  refine oT ?_; intro _ _
  refine gn 9 ?_
  refine oT ?_; intro _ _
  refine gn 5 ?_
  refine oL (l_storea sizeOf202 rfl rfl rfl (by simp [Value.oneCell']) (.tail .head) (.take (.take (.take (.take (.take .done))))) nofrs0) ?_
  intro _ _
  refine gn 3 ?_
  refine r_fnx results108 (.cella isAgg202 sizeOf202 rfl (.inl (.tail _ (.head _))) (.take (.take (.take (.take (.take .done))))) .nil) .nil rfl ?_
  exact ⟨rfl, rfl⟩
theorem pragma_is : Ctr prog 109 [] G [] (fun r H' => ∃ g, r = .slice (some ⟨g, 0, none⟩) 11 11 ∧ H' = [(g, DB hedP [] 0 0)]) := by
  refine fn_enter 2 func109 rfl ntmps109 rfl ?_
  intro w0
  refine gn 7 ?_
  refine oL (l_bs (l := B [10, 161, 103, 118, 101, 114, 115, 105, 111, 110, 2]) runUnderlying72 sizeOf5 zeroValue5 rfl rfl rfl rfl (by kernel_rfl)) ?_
  intro g1 _
  refine gn 4 ?_
  refine r_fn1 results109 rfl ?_
  exact ⟨g1, rfl, rfl⟩
theorem seekE_is (h63 : n < 9223372036854775808) :
    Ctr prog 290 [.pointer (some ⟨gr, 0, none⟩), .int .i64 0, .int .i64 2] G [(gr, RB gs n cap a)] (fun r H' => r = .tuple #[.int .i64 n, .nilIface] ∧ H' = [(gr, RB gs n cap n)]) := by
  refine fn_enter 42 func290 rfl ntmps290 rfl ?_
  intro w0
  refine gn 11 ?_
  refine oT ?_; intro _ _
  refine gn 54 ?_
  refine c_ifp rfl (fun h => absurd h (by omega)) (fun _ => ?_)
  refine gn 8 ?_
  refine oT ?_; intro _ _
  refine gn 10 ?_
  refine r_fn (l := [.tmp 6, .tmp 7]) results290 rfl rfl ?_
  exact ⟨rfl, rfl⟩
theorem copy_is (hb : Bb v bs HB) (h0 : bs ≠ []) (h2 : bs.length + n < 1000000000) (hD : (gs, DB src rest lo hi) ∈ G) (hE : (3, Obj.cells (EV gE :: t3).toArray e3 f3) ∈ G) (hn : src.length = n) (hc : n ≤ cap) (h63 : cap < 9223372036854775808) :
    Ctr prog 111 [.iface 89 (.pointer (some ⟨gb, 0, none⟩)), RV gr, .int .i64 (-1)] G ((gr, RB gs n cap 0) :: (gb, Bu v lr) :: HB) (fun r H' => ∃ (v' : Value) (lr' : Int) (HB' : HP), r = .tuple #[.int .i64 n, .nilIface] ∧ Bb v' (bs ++ src) HB' ∧ H' = (gr, RB gs n cap n) :: (gb, Bu v' lr') :: HB') := by
  refine fn_enter 99 func111 rfl ntmps111 rfl ?_
  intro w0
  refine gn 8 ?_
  refine oZ ?_; intro g8 _
  refine gn 16 ?_
  refine c_loop (X := Nat × Value × Int × HP × List Value) (fun y => [(0, .iface 89 (.pointer (some ⟨gb, 0, none⟩))), (1, RV gr), (2, .int .i64 (-1)), (8, .pointer (some ⟨g8, 0, none⟩)), (9, .bool true), (10, .int .i64 y.1)]) (fun y => (g8, C y.2.2.2.2 296) :: (gr, RB gs n cap y.1) :: (gb, Bu y.2.1 y.2.2.1) :: y.2.2.2.1) (fun y => y.1 ≤ n ∧ Bb y.2.1 (bs ++ src.take y.1) y.2.2.2.1 ∧ y.2.2.2.2.length = 512) (fun y => n - y.1) (0, v, lr, HB, List.replicate 512 (.int .u8 0)) ⟨Nat.zero_le _, by show Bb v (bs ++ []) HB; rw [List.append_nil]; exact hb, by simp⟩ aK (.refl _) ?_
  rintro ⟨i, v1, lr1, HB1, pl⟩ ⟨hi', hb1, hpl⟩
  simp only at hi' hb1 hpl ⊢
  refine gn 43 ?_
  by_cases hlt : i < n
  · obtain ⟨k, hk⟩ : ∃ k, Nat.min (n - i) 512 = k := ⟨_, rfl⟩
    have hk1 : k ≤ n - i := by rw [← hk]; exact Nat.min_le_left _ _
    have hk2 : k ≤ 512 := by rw [← hk]; exact Nat.min_le_right _ _
    have hk3 : 0 < k := by rw [← hk]; exact Nat.lt_min.2 ⟨by omega, by decide⟩
    refine oL (lI (read_any (ob := 0) (L := 512) (pl := pl) hD hn hc h63 hlt hk (by rw [hpl]; decide)) rfl rfl (.cons (.tail .head) (.cons .head .nil))) ?_
    rintro ⟨r, H'⟩ ⟨rfl, rfl⟩
    simp only [List.cons_append, List.nil_append, List.take_zero, Nat.zero_add]
    obtain ⟨ds, hds⟩ : ∃ ds, ds = (src.drop i).take k := ⟨_, rfl⟩
    have hdl : ds.length = k := by rw [hds, List.length_take, List.length_drop]; omega
    have hst : src.take (i + k) = src.take i ++ ds := by rw [hds, List.take_add]
    rw [← hds]
    refine gn 13 ?_
    refine o_splitp 48 rfl (fun _ => ?_) (fun h => absurd h (by omega))
    refine gn 7 ?_
    refine c_regiong [7] (by kernel_rfl) ?_
    refine lg [0, 1, 2, 3, 4, 5, 6] ?_
    refine gL 7 rfl (l_calli (HJ := [(g8, .cells (B ds ++ pl.drop k).toArray 296 (0, 0))]) call294 (by intro w; kernel_rfl) (write_is hb1 (List.mem_append_right _ (.head _)) hdl hk3 (by omega) (by rw [List.length_append, List.length_take]; omega) (fun h => absurd (List.append_eq_nil_iff.1 h).1 h0) hk2) rfl rfl rfl (.cons (.tail (.tail .head)) (Sel.appR [_, _] HB1)) (fun p hp => (List.mem_singleton.1 hp) ▸ .tail _ (.head _))) ?_
    rintro ⟨r, H'⟩ ⟨v2, HB2, rfl, hb2, rfl⟩
    simp only [List.cons_append]
    refine ld [8, 9, 10, 11, 12] ?_
    refine gn 19 ?_
    refine c_ifp rfl (fun h => absurd h (by omega)) (fun _ => ?_)
    refine gn 32 ?_
    refine oX (e_ieq_n runUnderlying80 rfl rfl) ?_
    refine gn 15 ?_
    refine n_round' (y := (i, v1, lr1, HB1, pl)) (i + k, v2, 0, HB2, B ds ++ pl.drop k) (by show n - (i + k) < n - i; omega) ⟨by show i + k ≤ n; omega, by show Bb v2 (bs ++ src.take (i + k)) HB2; rw [hst, ← List.append_assoc]; exact hb2, by show (B ds ++ pl.drop k).length = 512; rw [List.length_append, B_length, List.length_drop]; omega⟩ aK ((g8, C (B ds ++ pl.drop k) 296) :: (gr, RB gs n cap (i + k)) :: (gb, Bu v2 0) :: HB2) ?_ (List.Sublist.refl _)
    exact (List.perm_append_comm (l₁ := (gb, Bu v2 0) :: HB2) (l₂ := [_, _])).trans (List.Perm.swap _ _ _)
  · skip
    obtain rfl : i = n := by omega
    rw [List.take_of_length_le (by omega)] at hb1
    refine oL (lI (read_eof (gs := gs) (n := i) (cap := cap) hE) rfl rfl (.cons (.tail .head) .nil)) ?_
    rintro ⟨r, H'⟩ ⟨rfl, rfl⟩
    simp only [List.cons_append, List.nil_append]
    refine gn 51 ?_
    refine oX (e_ieq_same runUnderlying80 (typeInfo260) rfl (runUnderlying260) (sizeOf262) (by decide) rfl rfl) ?_
    refine gn 12 ?_
    refine WR.sel (.cons .head (.cons (.tail .head) (Sel.appR [_] HB1))) ?_
    refine r_fn (l := [.tmp 6, .tmp 7]) results111 rfl rfl ?_
    exact ⟨v1, lr1, HB1, rfl, hb1, rfl⟩
end
end Go.Proofs
namespace Go.Proofs
open Go Go.Sl Tryz
set_option maxRecDepth 100000
set_option maxHeartbeats 1000000
theorem hedP_len : hedP.length = 11 := rfl
theorem keep_ok {ib : Bool} {blks : List Blk} {p : Nat} (h : ∀ b ∈ blks, BlkOk b) (hp : p + (blks.flatMap secB).length < 18446744073709551616) : ∀ x ∈ keepE ib (genE p blks), CidOk x := fun x hx => genE_ok h hp x (List.mem_filter.1 hx).1
theorem keep_len {ib : Bool} {blks : List Blk} {p : Nat} : (keepE ib (genE p blks)).length ≤ blks.length := Nat.le_trans (List.length_filter_le _ _) (by rw [genE_len]; exact Nat.le_refl _)
theorem indexB_len {l : List En} {kind : Int} (hd : ∀ x ∈ l, x.d.length ≤ 200) (hl : l.length ≤ 100) : (indexB l kind).length ≤ 300000002 := by
  have := bodyB_length l kind hd hl
  simp only [indexB, List.length_append, kindB_length]; omega
end Go.Proofs
namespace Go.Proofs
open Go Go.Sl Tryz
set_option maxRecDepth 100000
set_option maxHeartbeats 1000000
section
variable {G : HP} {gb gr gs n cap lo hi : Nat} {bs : List UInt8} {rest : List Value} {xs : List En} {blks : List Blk} {gE : Addr} {t3 : List Value} {e3 : TypeId} {f3 : Nat × Nat} {vo : Value} {b0 ib b2 b3 b4 b5 : Bool} {a6 a7 kind : Int}
theorem wrapV1_is (hO : OptA G b0 ib b2 b3 b4 b5 a6 a7 vo kind) (hD : (gs, DB bs rest lo hi) ∈ G) (hE : (3, Obj.cells (EV gE :: t3).toArray e3 f3) ∈ G) (hn : bs.length = n) (hc : n ≤ cap) (h63 : cap < 9223372036854775808) (hn9 : n ≤ 30000000)
    (hbs : bs = hedB xs ++ blks.flatMap secB) (hN : xs.length ≤ 200) (hok : ∀ x ∈ xs, CidOk x) (hbk : ∀ b ∈ blks, CidOk b.1) (hnb : blks.length ≤ 100) (hh : (headB xs).length ≤ 33554432) (hk : kind = 1024 ∨ kind = 1025)
    (hes : ∀ x ∈ keepE ib (genE (hedB xs).length blks), CidOk x) (hdis : OnceK (keepE ib (genE (hedB xs).length blks)) kind) :
    Ctr prog 61 [RV gr, .iface 89 (.pointer (some ⟨gb, 0, none⟩)), vo] G [(gr, RB gs n cap 0), (gb, Bu (.slice none 0 0) 0)] (fun r H' => ∃ (v' : Value) (lr' : Int) (HB' : HP), r = .nilIface ∧ Bb v' (hedP ++ (headV 0 0 51 (n : Nat) ((51 + n : Nat) : Int) ++ (bs ++ indexB (keepE ib (genE (hedB xs).length blks)) kind))) HB' ∧ H' = (gb, Bu v' lr') :: HB') := by
  have hkl := keep_len (ib := ib) (blks := blks) (p := (hedB xs).length)
  have hpay : bs.drop 0 = hedB xs ++ (blks.flatMap secB ++ []) := by rw [List.drop_zero, List.append_nil]; exact hbs
  have hnl : n = (hedB xs).length + (blks.flatMap secB).length := by rw [← hn, hbs, List.length_append]
  generalize hLe : keepE ib (genE (hedB xs).length blks) = L at *
  have hnh := newHeader_is (G := G) (m := n) (by omega)
  rw [show (51 + (n : Nat) : Int) = ((51 + n : Nat) : Int) by omega] at hnh
  have hne : hedP ≠ [] := fun h => absurd (congrArg List.length h) (by rw [hedP_len]; decide)
  have hkk : (if kind = 0 then 1025 else kind) = kind := if_neg (by omega)
  refine fn_enter 99 func61 rfl ntmps61 rfl ?_
  intro w0
  refine gn 8 ?_
  refine oL (lC (apply_is hO) rfl .nil) ?_
  rintro ⟨r, H'⟩ ⟨rfl, rfl⟩
  simp only [List.nil_append]
  rw [hkk]
  refine oZ ?_; intro g7 _
  refine oL (l_storea sizeOf187 rfl rfl rfl (by simp [Value.oneCell']) aU (.take (.take (.take (.take (.take (.take (.take (.take (.take (.take (.take (.take (.take .done))))))))))))) nofrs0) ?_
  intro _ _
  refine gn 6 ?_
  refine oL (lC (newAny_is hk hes (by omega) hdis) rfl .nil) ?_
  rintro ⟨r, HI⟩ ⟨tv, v, rfl, hL⟩
  simp only
  obtain ⟨hL⟩ := hL G
  refine gn 23 ?_
  refine oL (lC (loadIx_is (D := 0) (Z := 0) (tl := []) (.one rfl rfl) hpay (fun _ => rfl) (.inl rfl) (Nat.zero_le _) hO hD hE hn hc h63 (by omega) hN hok hbk (by omega) hh (hLe ▸ hL)) rfl (.cons (Rem.app HI (.tail .head)) (Sel.app HI _))) ?_
  rintro ⟨r, H'⟩ ⟨rfl, Hl, hI, rfl⟩
  rw [hLe] at hI
  simp only [List.cons_append, Nat.zero_add, ← hnl]
  refine gn 15 ?_
  refine oL (lI (seekE_is (a := n) (by omega)) rfl rfl (.cons .head .nil)) ?_
  rintro ⟨r, H'⟩ ⟨rfl, rfl⟩
  simp only [List.cons_append, List.nil_append]
  refine gn 21 ?_
  refine oL (lI (seekS_is (d := 0) (by decide)) rfl rfl (.cons .head .nil)) ?_
  rintro ⟨r, H'⟩ ⟨rfl, rfl⟩
  simp only [List.cons_append, List.nil_append]
  refine gn 20 ?_
  refine o_pure rfl call108 (hnh) rfl rfl ?_
  refine oZ ?_; intro g14 _
  refine oL (l_storea sizeOf202 rfl rfl rfl (by simp [Value.oneCell']) .head (.take (.take (.take (.take (.take .done))))) nofrs0) ?_
  intro _ _
  refine gn 4 ?_
  refine c_regiong [1, 5] (by kernel_rfl) ?_
  refine lg [0, 2, 3, 4] ?_
  refine gL 1 rfl (lC pragma_is rfl .nil) ?_
  rintro ⟨r, H'⟩ ⟨gp, rfl, rfl⟩
  simp only [List.cons_append, List.nil_append]
  refine dL 5 rfl (l_calli (HJ := [(gp, DB hedP [] 0 0)]) call294 (by intro w; kernel_rfl) (write_is .nil (List.mem_append_right _ (.head _)) rfl (by decide) (by decide) (by decide) (fun _ => by decide) (Nat.le_refl _)) rfl rfl rfl (.cons (.tail (.tail (.tail (Rem.app Hl (.tail .head))))) .nil) (fun p hp => (List.mem_singleton.1 hp) ▸ .head _)) ?_
  rintro ⟨r, H'⟩ ⟨v1, HB1, rfl, hb1, rfl⟩
  simp only [List.cons_append, List.nil_append] at hb1 ⊢
  refine ld [6, 7, 8, 9, 10] ?_
  refine gn 8 ?_
  refine WC.perm (show List.Perm _ ((g14, C [.int .u64 0, .int .u64 0, .int .u64 51, .int .u64 n, .int .u64 (51 + n : Nat)] 202) :: (gb, Bu v1 0) :: (HB1 ++ ((gr, RB gs n cap 0) :: (Hl ++ [(gp, _), (g7, _)])))) from aP) ?_
  refine gn 8 ?_
  refine oL (lC (hdrWrite_is (c := 51) (d := n) (e := 51 + n) hb1 (by rw [hedP_len]; decide) hne) rfl (.cons (.tail .head) (Sel.mid [_] HB1 _))) ?_
  rintro ⟨r, H'⟩ ⟨v2, HB2, rfl, hb2, rfl⟩
  simp only [List.cons_append]
  refine gn 21 ?_
  refine oL (lC (copy_is hb2 (fun h => hne (List.append_eq_nil_iff.1 h).1) (by rw [List.length_append, headV_len, hedP_len]; omega) hD hE hn hc h63) rfl (.cons (.tail (Rem.app HB2 (.tail .head))) (.cons .head (Sel.app HB2 _)))) ?_
  rintro ⟨r, H'⟩ ⟨v3, lr3, HB3, rfl, hb3, rfl⟩
  simp only [List.cons_append]
  refine gn 21 ?_
  refine oL (lJ (HJ := Hl) (writeAnyB_is hI (fun p hp => List.mem_append_right _ hp) (fun x hx => (hes x hx).hf) (fun x hx => (hes x hx).hd) (by omega) hb3 (by rw [List.length_append, List.length_append, headV_len, hedP_len]; omega)) rfl (.cons (.tail .head) (Sel.mid [_] HB3 _)) (fun p hp => .tail _ (.tail _ (List.mem_append_left _ hp)))) ?_
  rintro ⟨r, H'⟩ ⟨z, v4, HB4, rfl, hb4, rfl⟩
  refine gn 22 ?_
  refine WR.less (fun _ _ h => h) (List.sublist_append_left _ _) ?_
  refine r_fn1 results61 rfl ?_
  exact ⟨v4, 0, HB4, rfl, by simpa using hb4, rfl⟩
/-- The file that comes of wrapping. -/
def wrapB (bs ix : List UInt8) : List UInt8 := hedP ++ (headV 0 0 51 (bs.length : Nat) ((51 + bs.length : Nat) : Int) ++ (bs ++ ix))
theorem wrWrap_is (hE : (3, Obj.cells (EV gE :: t3).toArray e3 f3) ∈ G) (hn9 : bs.length ≤ 30000000) (hbs : bs = hedB xs ++ blks.flatMap secB) (hN : xs.length ≤ 200) (hok : ∀ x ∈ xs, CidOk x) (hbk : ∀ b ∈ blks, CidOk b.1) (hnb : blks.length ≤ 100) (hh : (headB xs).length ≤ 33554432) (hk : kind = 1024 ∨ kind = 1025)
    (hes : ∀ x ∈ keepE ib (genE (hedB xs).length blks), CidOk x) (hdis : OnceK (keepE ib (genE (hedB xs).length blks)) kind) :
    CtrP prog 30 [S bs, .agg #[.bool b0, .bool ib, .bool b2, .bool b3, .bool b4, .bool b5, .int .u64 a6, .int .u64 a7, .int .u64 kind, .int .u64 0, .int .u64 0, .int .u64 0]] G (.tuple #[S (wrapB bs (indexB (keepE ib (genE (hedB xs).length blks)) kind)), .bool true]) := by
  refine fn_enter 19 func30 rfl ntmps30 rfl ?_
  intro w0
  refine gn 2 ?_
  refine oB ?_; intro g3 _
  refine gn 6 ?_
  refine oZ ?_; intro g6 _
  refine gn 3 ?_
  refine c_regiond ([(g3, C [.bool b0, .bool ib, .bool b2, .bool b3, .bool b4, .bool b5, .int .u64 a6, .int .u64 a7, .int .u64 kind, .int .u64 0, .int .u64 0, .int .u64 0] 61)]) (by kernel_rfl) (.cons _ (List.Sublist.refl _)) ?_
  refine ld [0, 4, 5] ?_
  refine dL 1 rfl (l_sbc underlying9 underlying72 underlying5 rfl rfl (by simp; omega) rfl rfl) ?_
  rintro ⟨gs, cap, rest, lo, hi⟩ hy
  refine dL 2 rfl (lC newReader_is rfl .nil) ?_
  rintro ⟨r, H'⟩ ⟨gr, rfl, rfl⟩
  simp only [List.cons_append, List.nil_append]
  refine ld [3] ?_
  have hcd0 : 0 ≤ kind := by omega
  refine dL 6 rfl (lC (options_is hcd0) rfl .nil) ?_
  rintro ⟨vo, HO⟩ ⟨⟨A, c, rfl⟩, hO⟩
  have hO2 := hO.mono (K := G ++ (HO ++ [(gs, DB bs rest lo hi)])) (fun p hp => List.mem_append_right _ (List.mem_append_left _ hp))
  have hD2 : (gs, DB bs rest lo hi) ∈ G ++ (HO ++ [(gs, DB bs rest lo hi)]) := List.mem_append_right _ (List.mem_append_right _ (.head _))
  have hW := wrapV1_is (gr := gr) (gb := g6) hO2 hD2 (List.mem_append_left _ hE) rfl hy.le hy.lt hn9 hbs hN hok hbk hnb hh hk hes hdis
  simp only
  refine dL 7 rfl (lJ (HJ := HO ++ [(gs, DB bs rest lo hi)]) hW rfl (.cons (Rem.app HO .head) (.cons (Rem.app HO (.tail .head)) .nil)) (fun p hp => (List.mem_append.1 hp).elim (fun h => List.mem_append_left _ h) (fun h => (List.mem_singleton.1 h) ▸ List.mem_append_right _ (.head _)))) ?_
  rintro ⟨r, H'⟩ ⟨v', lr', HB', rfl, hb', rfl⟩
  simp only [List.cons_append]
  refine ld [8] ?_
  refine gn 3 ?_
  refine c_regiong [0] (by kernel_rfl) ?_
  refine lg [1, 2] ?_
  refine gL 0 rfl (lJ (HJ := (g6, Bu v' lr') :: HB') (str_is (List.mem_append_right _ (.head _)) hb' (fun p hp => List.mem_append_right _ (.tail _ hp))) rfl .nil (fun p hp => (List.mem_cons.1 hp).elim (fun h => h ▸ .head _) (fun h => .tail _ (List.mem_append_left _ h)))) ?_
  rintro ⟨r, H'⟩ ⟨rfl, rfl⟩
  simp only [List.nil_append]
  refine ld [3, 4] ?_
  refine gn 3 ?_
  refine WR.sel .nil ?_
  refine r_fn (l := [.tmp 4, .tmp 5]) results30 rfl rfl ?_
  exact ⟨rfl, rfl⟩
end
end Go.Proofs
namespace Go.Proofs
open Go Go.Sl Tryz
set_option maxRecDepth 100000
set_option maxHeartbeats 1000000
section
variable {G : HP} {xs : List En} {blks : List Blk} {vr vb : Value} {kind : Int} {ib : Bool} {p q : Nat} {gE : Addr} {t3 : List Value} {e3 : TypeId} {f3 : Nat × Nat}
theorem wrOptions_law (hE : (3, Obj.cells (EV gE :: t3).toArray e3 f3) ∈ G) (hv : RwS cC 4 G vr xs) (hl : xs.length < 9223372036854775808) (hvb : RwS bC 5 G vb blks) (hlb : blks.length < 9223372036854775808) (hfx : ∀ x ∈ xs, EnFit x) (hfb : ∀ b ∈ blks, EnFit b.1) (hp : p < 256) (hq : q < 256) :
    Ctr prog 8 [.agg #[vr, vb], .int .u64 kind, .bool ib, .int .u8 (p : Nat), .int .u8 (q : Nat)] G [] (fun r H' => r = .bool true) := by
  have h4 := fits4 hv hl hvb hlb
  have hwg := wrGood_is hv hl hvb hlb
  refine fn_enter 64 func8 rfl ntmps8 rfl ?_
  intro w0
  refine gn 2 ?_
  refine oB ?_; intro g5 _
  refine gn 7 ?_
  refine oL (lC h4 rfl .nil) ?_
  rintro ⟨r, H'⟩ ⟨⟨b, rfl⟩, rfl⟩
  simp only [List.nil_append]
  refine gn 3 ?_
  refine c_if rfl (fun hb => ?_) (fun hb => ?_)
  · refine gn 6 ?_
    refine r_fn1 results8 rfl ?_
    rfl
  · skip
    refine gn 3 ?_
    refine c_cut (X := Unit) (fun _ => [(1, .int .u64 kind), (2, .bool ib), (3, .int .u8 (p : Nat)), (4, .int .u8 (q : Nat)), (5, .pointer (some ⟨g5, 0, none⟩))]) (fun _ => [(g5, C [vr, vb] 47)]) (fun _ => WG xs blks ∧ (kind = 1024 ∨ kind = 1025)) ?_ ?_
    · skip
      refine gn 3 ?_
      refine oL (lC hwg rfl .nil) ?_
      rintro ⟨r, H'⟩ ⟨⟨b2, rfl, hg⟩, rfl⟩
      simp only [List.nil_append]
      refine gn 2 ?_
      refine o_split 21 rfl (fun h1 => ?_) (fun h1 => ?_)
      · refine gn 16 ?_
        refine r_fn1 results8 rfl ?_
        rfl
      · skip
        obtain rfl : b2 = true := by simpa using h1
        have hg := hg rfl
        refine gn 3 ?_
        refine o_splitp 24 rfl (fun h2 => ?_) (fun h2 => ?_)
        · refine gn 6 ?_
          refine c_ifp rfl (fun h3 => ?_) (fun h3 => ?_)
          · refine gn 6 ?_
            refine r_fn1 results8 rfl ?_
            rfl
          · skip
            refine gn 1 ?_
            exact n_cut' () ⟨hg, .inr (by omega)⟩ aK (.refl _) (List.Sublist.refl _)
        · skip
          refine gn 8 ?_
          exact n_cut' () ⟨hg, .inl (by omega)⟩ aK (.refl _) (List.Sublist.refl _)
    rintro ⟨⟩ ⟨hg, hk⟩
    refine gn 1 ?_
    have hok : ∀ x ∈ xs, CidOk x := fun x hx => by
      obtain ⟨i, hi, rfl⟩ := List.mem_iff_getElem.1 hx
      exact ⟨(hg.h1 i hi).2, hfx _ hx, (hg.h1 i hi).1⟩
    have hbk : ∀ b ∈ blks, BlkOk b := fun b hb => by
      obtain ⟨i, hi, rfl⟩ := List.mem_iff_getElem.1 hb
      exact ⟨⟨(hg.h2 i hi).2.2, hfb _ hb, (hg.h2 i hi).1⟩, (hg.h2 i hi).2.1⟩
    have n1 := hg.n1
    have n2 := hg.n2
    have hhl := hedB_len hok
    have hsl := secs_len hbk
    have hes := keep_ok (ib := ib) hbk (p := (hedB xs).length) (by omega)
    have hkl := keep_len (ib := ib) (blks := blks) (p := (hedB xs).length)
    refine gn 4 ?_
    refine oL (lC (generated_is (ib := ib) hv (by omega) hok hvb (by omega) hbk) rfl .nil) ?_
    rintro ⟨ve, HE⟩ hoe
    simp only at hoe
    have hens : EnS HE ve (keepE ib (genE (hedB xs).length blks)) := rwE (Osl.rw (f := cE) hoe rfl (fun _ => rfl))
    refine gn 8 ?_
    refine oL (lJ (HJ := HE) (onceT_is (kind := kind) (hens.mono fun p hp => List.mem_append_right _ hp) (by omega) (osl_cap hoe)) rfl .nil (fun p hp => List.mem_append_left _ hp)) ?_
    rintro ⟨r, H'⟩ ⟨b3, rfl, h3b⟩
    refine o_less (fun _ _ h => h) (List.sublist_append_right _ _) ?_
    refine o_perm List.perm_append_comm ?_
    simp only [List.cons_append, List.nil_append]
    refine gn 3 ?_
    refine c_if rfl (fun h5 => ?_) (fun h5 => ?_)
    · refine gn 6 ?_
      refine r_fn1 results8 rfl ?_
      rfl
    · skip
      obtain rfl : b3 = true := by simpa using h5
      have hdis := onceK_of (h3b rfl)
      have hcar := car1_is hv (by omega) hok hvb (by omega) hbk
      have hhd := headB_len hok
      have hbk1 : ∀ b ∈ blks, CidOk b.1 := fun b hb => (hbk b hb).hx
      obtain ⟨pay, hpay⟩ : ∃ pay, pay = hedB xs ++ blks.flatMap secB := ⟨_, rfl⟩
      have hpl : pay.length = (hedB xs).length + (blks.flatMap secB).length := by rw [hpay, List.length_append]
      rw [← hpay] at hcar
      have hwr := wrWrap_is (G := G) (bs := pay) (b0 := false) (ib := ib) (b2 := false) (b3 := false) (b4 := false) (b5 := false) (a6 := (p : Nat)) (a7 := (q : Nat)) (kind := kind) hE (by omega) hpay (by omega) hok hbk1 (by omega) (by omega) hk hes hdis
      generalize keepE ib (genE (hedB xs).length blks) = L at *
      have hil := indexB_len (l := L) (kind := kind) (fun x hx => (hes x hx).hd) (by omega)
      have hnh := newHead_is (G := G) (m := pay.length) (by omega)
      have hfb := fileBytes_is (G := G) (a := 0) (b := 0) (d := (pay.length : Nat)) (p := 0) (q := 0) (dat := pay) (ix := indexB L kind) (iO := 51 + (pay.length : Nat)) (by decide) (by decide) (by omega) (by omega) (.inr (by omega))
      refine gn 5 ?_
      refine o_pure rfl call24 (hcar) rfl rfl ?_
      refine gn 12 ?_
      refine oX (eB [.bool false, .bool ib, .bool false, .bool false, .bool false, .bool false, .int .u64 (p : Nat), .int .u64 (q : Nat), .int .u64 kind, .int .u64 0, .int .u64 0, .int .u64 0]) ?_
      refine o_pure rfl call30 (hwr) rfl rfl ?_
      refine gn 15 ?_
      refine o_pure rfl call32 (hnh) rfl rfl ?_
      refine gn 3 ?_
      refine oL (lJ (HJ := HE) (indexBytes_is (hens.mono fun p hp => List.mem_append_right _ hp) (by omega) (fun x hx => (hes x hx).hd) hk) rfl .nil (fun p hp => .tail _ hp)) ?_
      rintro ⟨r, H'⟩ ⟨rfl, rfl⟩
      simp only [List.nil_append]
      refine o_pure rfl call31 (hfb) rfl rfl ?_
      refine gn 6 ?_
      refine r_fn1 results8 rfl ?_
      refine congrArg Value.bool (decide_eq_true ?_)
      rw [wrapB, show ((51 + pay.length : Nat) : Int) = 51 + (pay.length : Nat) by omega]
      simp
end
end Go.Proofs

/- impl.IxMake on a file of either version; laws.wrFile; laws.FnIxMake: true. (A part of the proof of this: for every input laws.FnIxMake returns true and its arguments read as they did, the listed package variables being what the program lays) -/
import Derived.Test.YtochgglejmfelaaGreatDoorKSlZ
import Derived.Test.YtochgglejmfelaaGreatDoorK20
import Derived.Test.YtochgglejmfelaaGreatDoorK24
import Derived.Test.YtochgglejmfelaaGreatDoorK21
set_option linter.unusedVariables false
set_option linter.unusedSimpArgs false
namespace Go.Proofs
open Go Go.Sl Tryz
set_option maxRecDepth 100000
set_option maxHeartbeats 1000000
section
variable {G : HP} {xs : List En} {blks : List Blk} {gE : Addr} {t3 : List Value} {e3 : TypeId} {f3 : Nat × Nat} {b0 ib b2 b3 b4 b5 : Bool} {a6 a7 cd : Int} {bs tl : List UInt8} {D Z : Nat}
theorem ixMakeA_is (hE : (3, Obj.cells (EV gE :: t3).toArray e3 f3) ∈ G) (hF : Fl bs D Z) (hpay : bs.drop D = hedB xs ++ (blks.flatMap secB ++ tl)) (htl : Z = 0 ∨ blks = [] → tl = []) (hZ : Z = 0 ∨ Z = (hedB xs).length + (blks.flatMap secB).length) (hDn : D ≤ bs.length) (hb : bs.length ≤ 1000000000) (hN : xs.length ≤ 200) (hok : ∀ x ∈ xs, CidOk x) (hbk : ∀ b ∈ blks, CidOk b.1) (hnb : blks.length ≤ 100) (hh : (headB xs).length ≤ 33554432)
    (hcd : cd = 0 ∨ cd = 1024 ∨ cd = 1025) (hes : ∀ x ∈ keepE ib (genE (hedB xs).length blks), CidOk x) (hdis : OnceK (keepE ib (genE (hedB xs).length blks)) (kd cd)) :
    CtrP prog 28 [S bs, .agg #[.bool b0, .bool ib, .bool b2, .bool b3, .bool b4, .bool b5, .int .u64 a6, .int .u64 a7, .int .u64 cd, .int .u64 0, .int .u64 0, .int .u64 0]] G (.tuple #[S (indexB (keepE ib (genE (hedB xs).length blks)) (kd cd)), .bool true]) := by
  have hel : (keepE ib (genE (hedB xs).length blks)).length ≤ 100 := Nat.le_trans (List.length_filter_le _ _) (by rw [genE_len]; exact hnb)
  refine fn_enter 23 func28 rfl ntmps28 rfl ?_
  intro w0
  refine gn 2 ?_
  refine oB ?_; intro g3 _
  refine gn 5 ?_
  refine c_regiond ([(g3, C [.bool b0, .bool ib, .bool b2, .bool b3, .bool b4, .bool b5, .int .u64 a6, .int .u64 a7, .int .u64 cd, .int .u64 0, .int .u64 0, .int .u64 0] 61)]) (by kernel_rfl) (by first | exact List.Sublist.refl _ | exact List.nil_sublist _ | (repeat constructor)) ?_
  refine ld [0, 4] ?_
  refine dL 1 rfl (l_sbc underlying9 underlying72 underlying5 rfl rfl (by simp; omega) rfl rfl) ?_
  rintro ⟨gs, cap, rest, lo, hi⟩ hy
  refine dL 2 rfl (lC newReader_is rfl .nil) ?_
  rintro ⟨r, H'⟩ ⟨gr, rfl, rfl⟩
  simp only [List.cons_append, List.nil_append]
  refine ld [3] ?_
  have hcd0 : 0 ≤ cd := by rcases hcd with rfl | rfl | rfl <;> decide
  refine dL 5 rfl (lC (options_is hcd0) rfl .nil) ?_
  rintro ⟨vo, HO⟩ ⟨⟨A, c, rfl⟩, hO⟩
  have hO2 := hO.mono (K := G ++ (HO ++ [(gs, DB bs rest lo hi)])) (fun p hp => List.mem_append_right _ (List.mem_append_left _ hp))
  have hD2 : (gs, DB bs rest lo hi) ∈ G ++ (HO ++ [(gs, DB bs rest lo hi)]) := List.mem_append_right _ (List.mem_append_right _ (.head _))
  have hGI := genIdx_is (gr := gr) (O := RB gs bs.length cap 0) (O' := RB gs bs.length cap (D + ((hedB xs).length + (blks.flatMap secB).length))) hO2 hcd hes (by omega) hdis (fun hL => loadIx_is hF hpay htl hZ hDn hO2 hD2 (List.mem_append_left _ hE) rfl hy.le hy.lt (by omega) hN hok hbk (by omega) hh hL)
  simp only
  refine dL 6 rfl (lJ (HJ := HO ++ [(gs, DB bs rest lo hi)]) hGI rfl (.cons (Rem.app HO .head) .nil) (fun p hp => (List.mem_append.1 hp).elim (fun h => List.mem_append_left _ h) (fun h => (List.mem_singleton.1 h) ▸ List.mem_append_right _ (.head _)))) ?_
  rintro ⟨r, H'⟩ ⟨v, HI, rfl, hI, rfl⟩
  simp only [List.cons_append]
  refine ld [7, 8, 9, 10, 11] ?_
  refine gn 6 ?_
  refine oL (lJ (HJ := HI) (written_is hI (fun p hp => List.mem_append_right _ hp) hes hel) rfl .nil (fun p hp => .tail _ (List.mem_append_left _ hp))) ?_
  rintro ⟨r, H'⟩ ⟨rfl, rfl⟩
  simp only [List.nil_append]
  refine gn 7 ?_
  refine WR.sel .nil ?_
  refine r_fn (l := [.tmp 4, .tmp 5]) results28 rfl rfl ?_
  exact ⟨rfl, rfl⟩
end
end Go.Proofs
namespace Go.Proofs
open Go Go.Sl Tryz
set_option maxRecDepth 100000
set_option maxHeartbeats 1000000
/-- A file of version 2: its data behind p bytes, what stands behind them. -/
def fileB (p iO : Nat) (pay tl : List UInt8) : List UInt8 := hedP ++ (headV 0 0 ((51 + p : Nat) : Int) (pay.length : Nat) (iO : Nat) ++ (List.replicate p 0 ++ (pay ++ tl)))
theorem hedP_len : hedP.length = 11 := rfl
theorem fileB_v2 {p iO : Nat} {pay tl : List UInt8} (hp : p ≤ 1000) (hi : iO < 9223372036854775808) (h0 : 0 < pay.length) (h1 : pay.length < 9223372036854775808) : V2 (fileB p iO pay tl) (51 + p) pay.length :=
  ⟨⟨lowB 0 8 ++ lowB 0 8, List.replicate p 0 ++ (pay ++ tl), iO, by simp [lowB_length], hi, by simp [fileB, headV]⟩, ⟨by omega, by omega⟩, ⟨h0, h1⟩⟩
theorem fileB_drop {p iO : Nat} {pay tl : List UInt8} : (fileB p iO pay tl).drop (51 + p) = pay ++ tl := by
  have h : fileB p iO pay tl = (hedP ++ (headV 0 0 ((51 + p : Nat) : Int) (pay.length : Nat) (iO : Nat) ++ List.replicate p 0)) ++ (pay ++ tl) := by simp [fileB]
  rw [h]
  exact List.drop_left' (by simp [hedP_len, headV_len]; omega)
theorem fileB_len {p iO : Nat} {pay tl : List UInt8} : (fileB p iO pay tl).length = 51 + p + pay.length + tl.length := by
  simp [fileB, hedP_len, headV_len]; omega
theorem hedB_pos (xs : List En) : 0 < (hedB xs).length := by
  have := uv_pos (headB xs).length
  simp only [hedB, List.length_append]; omega
theorem keep_ok {ib : Bool} {blks : List Blk} {p : Nat} (h : ∀ b ∈ blks, BlkOk b) (hp : p + (blks.flatMap secB).length < 18446744073709551616) : ∀ x ∈ keepE ib (genE p blks), CidOk x := fun x hx => genE_ok h hp x (List.mem_filter.1 hx).1
theorem keep_len {ib : Bool} {blks : List Blk} {p : Nat} : (keepE ib (genE p blks)).length ≤ blks.length := Nat.le_trans (List.length_filter_le _ _) (by rw [genE_len]; exact Nat.le_refl _)
theorem indexB_len {l : List En} {kind : Int} (hd : ∀ x ∈ l, x.d.length ≤ 200) (hl : l.length ≤ 100) : (indexB l kind).length ≤ 300000002 := by
  have := bodyB_length l kind hd hl
  simp only [indexB, List.length_append, kindB_length]; omega
section
variable {G : HP} {xs : List En} {blks : List Blk} {vr vb : Value} {p q : Nat}
theorem wrFile0_is (hv : RwS cC 4 G vr xs) (hn : xs.length ≤ 50) (hok : ∀ x ∈ xs, CidOk x) (hvb : RwS bC 5 G vb blks) (hnb : blks.length ≤ 50) (hbk : ∀ b ∈ blks, BlkOk b) (hp : p < 256) :
    CtrP prog 29 [.agg #[vr, vb], .int .u64 0, .int .u8 (p : Nat), .int .u8 0] G (S (fileB p 0 (hedB xs ++ blks.flatMap secB) [])) := by
  have hhl := hedB_len hok
  have hsl := secs_len hbk
  have hcar := car1_is hv (by omega) hok hvb (by omega) hbk
  obtain ⟨pay, hpay⟩ : ∃ pay, pay = hedB xs ++ blks.flatMap secB := ⟨_, rfl⟩
  have hpl : pay.length = (hedB xs).length + (blks.flatMap secB).length := by rw [hpay, List.length_append]
  rw [← hpay] at hcar ⊢
  have hnh := newHead_is (G := G) (m := pay.length) (by omega)
  have hpd := padded_is (G := G) (a := 0) (b := 0) (c := 51) (d := (pay.length : Nat)) (e := 51 + (pay.length : Nat)) (p := p) (q := 0) (by omega) (by omega) (by omega) (by omega)
  have hfb := fileBytes_is (G := G) (a := 0) (b := 0) (d := (pay.length : Nat)) (p := p) (q := 0) (dat := pay) (ix := []) (iO := 0) (by omega) (by omega) (by omega) (by decide) (.inl ⟨rfl, rfl⟩)
  refine fn_enter 35 func29 rfl ntmps29 rfl ?_
  intro w0
  refine gn 2 ?_
  refine oB ?_; intro g4 _
  refine gn 6 ?_
  refine o_pure rfl call24 (hcar) rfl rfl ?_
  refine gn 8 ?_
  refine o_pure rfl call32 (hnh) rfl rfl ?_
  refine gn 4 ?_
  refine o_pure rfl call60 (hpd) rfl rfl ?_
  refine oZ ?_; intro g10 _
  refine oL (l_storea sizeOf67 rfl rfl rfl (by simp [Value.oneCell']) .head (.take (.take (.take (.take (.take .done))))) nofrs0) ?_
  intro _ _
  refine gn 13 ?_
  refine oT ?_; intro _ _
  refine gn 6 ?_
  refine o_pure rfl call31 (hfb) rfl rfl ?_
  refine gn 4 ?_
  refine WR.sel .nil ?_
  refine r_fn1 results29 rfl ?_
  refine ⟨?_, rfl⟩
  rw [fileB, show (51 + (p : Nat) : Int) = ((51 + p : Nat) : Int) by omega]
  simp
theorem wrFile4_is (hv : RwS cC 4 G vr xs) (hn : xs.length ≤ 50) (hok : ∀ x ∈ xs, CidOk x) (hvb : RwS bC 5 G vb blks) (hnb : blks.length ≤ 50) (hbk : ∀ b ∈ blks, BlkOk b) (hp : p < 256) (hq : q < 256) :
    CtrP prog 29 [.agg #[vr, vb], .int .u64 1024, .int .u8 (p : Nat), .int .u8 (q : Nat)] G (S (fileB p (51 + p + (hedB xs ++ blks.flatMap secB).length + q) (hedB xs ++ blks.flatMap secB) (List.replicate q 0 ++ indexB (keepE false (genE (hedB xs).length blks)) 1024))) := by
  have hhl := hedB_len hok
  have hsl := secs_len hbk
  have hcar := car1_is hv (by omega) hok hvb (by omega) hbk
  have hes := keep_ok (ib := false) hbk (p := (hedB xs).length) (by omega)
  have hkl := keep_len (ib := false) (blks := blks) (p := (hedB xs).length)
  have hgen := generated_is (ib := false) hv (by omega) hok hvb (by omega) hbk
  generalize keepE false (genE (hedB xs).length blks) = L at *
  have hil := indexB_len (l := L) (kind := 1024) (fun x hx => (hes x hx).hd) (by omega)
  obtain ⟨pay, hpay⟩ : ∃ pay, pay = hedB xs ++ blks.flatMap secB := ⟨_, rfl⟩
  have hpl : pay.length = (hedB xs).length + (blks.flatMap secB).length := by rw [hpay, List.length_append]
  rw [← hpay] at hcar ⊢
  have hnh := newHead_is (G := G) (m := pay.length) (by omega)
  have hpd := padded_is (G := G) (a := 0) (b := 0) (c := 51) (d := (pay.length : Nat)) (e := 51 + (pay.length : Nat)) (p := p) (q := q) (by omega) (by omega) (by omega) (by omega)
  have hfb := fileBytes_is (G := G) (a := 0) (b := 0) (d := (pay.length : Nat)) (p := p) (q := q) (dat := pay) (ix := indexB L 1024) (iO := 51 + (pay.length : Nat) + ((p : Nat) + (q : Nat))) (by omega) (by omega) (by omega) (by omega) (.inr (by omega))
  refine fn_enter 35 func29 rfl ntmps29 rfl ?_
  intro w0
  refine gn 2 ?_
  refine oB ?_; intro g4 _
  refine gn 6 ?_
  refine o_pure rfl call24 (hcar) rfl rfl ?_
  refine gn 8 ?_
  refine o_pure rfl call32 (hnh) rfl rfl ?_
  refine gn 4 ?_
  refine o_pure rfl call60 (hpd) rfl rfl ?_
  refine oZ ?_; intro g10 _
  refine oL (l_storea sizeOf67 rfl rfl rfl (by simp [Value.oneCell']) .head (.take (.take (.take (.take (.take .done))))) nofrs0) ?_
  intro _ _
  refine gn 13 ?_
  refine c_regiond ([(g10, C [.int .u64 0, .int .u64 0, .int .u64 (51 + (p : Nat)), .int .u64 (pay.length : Nat), .int .u64 (51 + (pay.length : Nat) + ((p : Nat) + (q : Nat)))] 67), (g4, C [vr, vb] 47)]) (by kernel_rfl) (by first | exact List.Sublist.refl _ | exact List.nil_sublist _ | (repeat constructor)) ?_
  refine ld [0, 1, 2, 4] ?_
  refine dL 3 rfl (lC hgen rfl .nil) ?_
  rintro ⟨ve, HE⟩ hoe
  simp only at hoe
  have hens : EnS HE ve L := rwE (Osl.rw (f := cE) hoe rfl (fun _ => rfl))
  refine dL 5 rfl (lJ (HJ := HE) (indexBytes_is (hens.mono fun p hp => List.mem_append_right _ hp) (by omega) (fun x hx => (hes x hx).hd) (.inl rfl)) rfl .nil (fun p hp => List.mem_append_left _ hp)) ?_
  rintro ⟨r, H'⟩ ⟨rfl, rfl⟩
  simp only [List.nil_append]
  refine dL 6 rfl (lC hfb rfl .nil) ?_
  rintro ⟨r, H'⟩ ⟨rfl, rfl⟩
  simp only [List.nil_append]
  refine ld [7] ?_
  refine gn 3 ?_
  refine WR.sel .nil ?_
  refine r_fn1 results29 rfl ?_
  refine ⟨?_, rfl⟩
  rw [fileB, show (51 + (p : Nat) : Int) = ((51 + p : Nat) : Int) by omega, show (51 + (pay.length : Nat) + ((p : Nat) + (q : Nat)) : Int) = ((51 + p + pay.length + q : Nat) : Int) by omega]
end
end Go.Proofs
namespace Go.Proofs
open Go Go.Sl Tryz
set_option maxRecDepth 100000
set_option maxHeartbeats 1000000
theorem kd_cases {k : Int} (h : kd k = 1024 ∨ kd k = 1025) : k = 0 ∨ k = 1024 ∨ k = 1025 := by
  unfold kd at h
  split at h <;> omega
section
variable {G : HP} {xs : List En} {blks : List Blk} {vr vb : Value} {kind : Int} {ib : Bool} {p q : Nat} {gE : Addr} {t3 : List Value} {e3 : TypeId} {f3 : Nat × Nat}
theorem ixMake_law (hE : (3, Obj.cells (EV gE :: t3).toArray e3 f3) ∈ G) (hv : RwS cC 4 G vr xs) (hl : xs.length < 9223372036854775808) (hvb : RwS bC 5 G vb blks) (hlb : blks.length < 9223372036854775808) (hfx : ∀ x ∈ xs, EnFit x) (hfb : ∀ b ∈ blks, EnFit b.1) (hp : p < 256) (hq : q < 256) :
    Ctr prog 7 [.agg #[vr, vb], .int .u64 kind, .bool ib, .int .u8 (p : Nat), .int .u8 (q : Nat)] G [] (fun r H' => r = .bool true) := by
  have h4 := fits4 hv hl hvb hlb
  have hwg := wrGood_is hv hl hvb hlb
  obtain ⟨A1, c1, rfl⟩ := hvb.shape
  refine fn_enter 101 func7 rfl ntmps7 rfl ?_
  intro w0
  refine gn 2 ?_
  refine oB ?_; intro g5 _
  refine gn 7 ?_
  refine oL (lC h4 rfl .nil) ?_
  rintro ⟨r, H'⟩ ⟨⟨b, rfl⟩, rfl⟩
  simp only [List.nil_append]
  refine gn 3 ?_
  refine c_if rfl (fun hb => ?_) (fun hb => ?_)
  · refine gn 6 ?_
    refine r_fn1 results7 rfl ?_
    rfl
  · skip
    refine gn 6 ?_
    refine oX (eB [.bool false, .bool ib, .bool false, .bool false, .bool false, .bool false, .int .u64 0, .int .u64 0, .int .u64 kind, .int .u64 0, .int .u64 0, .int .u64 0]) ?_
    refine oZ ?_; intro g11 _
    refine oL (l_storea sizeOf61 rfl rfl rfl (by simp [Value.oneCell']) .head (.take (.take (.take (.take (.take (.take (.take (.take (.take (.take (.take (.take .done)))))))))))) nofrs0) ?_
    intro _ _
    refine gn 9 ?_
    refine c_cut (X := Unit) (fun _ => [(1, .int .u64 kind), (2, .bool ib), (3, .int .u8 (p : Nat)), (4, .int .u8 (q : Nat)), (5, .pointer (some ⟨g5, 0, none⟩)), (11, .pointer (some ⟨g11, 0, none⟩)), (12, .int .u64 (kd kind))]) (fun _ => [(g11, C [.bool false, .bool ib, .bool false, .bool false, .bool false, .bool false, .int .u64 0, .int .u64 0, .int .u64 kind, .int .u64 0, .int .u64 0, .int .u64 0] 61), (g5, C [vr, .slice A1 blks.length c1] 47)]) (fun _ => True) ?_ ?_
    · skip
      refine gn 6 ?_
      refine c_ifp rfl (fun h0 => ?_) (fun h0 => ?_)
      · refine gn 3 ?_
        exact n_cut' () trivial (sub_cons rfl (sub_cons rfl (sub_cons rfl (sub_cons rfl (sub_cons rfl (sub_cons rfl (sub_cons (by rw [kd, if_pos h0]; rfl) sub_nil))))))) (.refl _) (List.Sublist.refl _)
      · skip
        refine gn 1 ?_
        exact n_cut' () trivial (sub_cons rfl (sub_cons rfl (sub_cons rfl (sub_cons rfl (sub_cons rfl (sub_cons rfl (sub_cons (by rw [kd, if_neg h0]; rfl) sub_nil))))))) (.refl _) (List.Sublist.refl _)
    rintro ⟨⟩ -
    refine gn 2 ?_
    refine c_cut (X := Unit) (fun _ => [(2, .bool ib), (3, .int .u8 (p : Nat)), (4, .int .u8 (q : Nat)), (5, .pointer (some ⟨g5, 0, none⟩)), (11, .pointer (some ⟨g11, 0, none⟩)), (12, .int .u64 (kd kind))]) (fun _ => [(g11, C [.bool false, .bool ib, .bool false, .bool false, .bool false, .bool false, .int .u64 0, .int .u64 0, .int .u64 kind, .int .u64 0, .int .u64 0, .int .u64 0] 61), (g5, C [vr, .slice A1 blks.length c1] 47)]) (fun _ => WG xs blks ∧ (kd kind = 1024 ∨ kd kind = 1025)) ?_ ?_
    · skip
      refine gn 3 ?_
      refine oL (lC hwg rfl .nil) ?_
      rintro ⟨r, H'⟩ ⟨⟨b2, rfl, hg⟩, rfl⟩
      simp only [List.nil_append]
      refine gn 2 ?_
      refine o_split 33 rfl (fun h1 => ?_) (fun h1 => ?_)
      · refine gn 16 ?_
        refine r_fn1 results7 rfl ?_
        rfl
      · skip
        obtain rfl : b2 = true := by simpa using h1
        have hg := hg rfl
        refine gn 3 ?_
        refine o_splitp 36 rfl (fun h2 => ?_) (fun h2 => ?_)
        · refine gn 6 ?_
          refine c_ifp rfl (fun h3 => ?_) (fun h3 => ?_)
          · refine gn 6 ?_
            refine r_fn1 results7 rfl ?_
            rfl
          · skip
            refine gn 1 ?_
            exact n_cut' () ⟨hg, .inr (by omega)⟩ aK (.refl _) (List.Sublist.refl _)
        · skip
          refine gn 8 ?_
          exact n_cut' () ⟨hg, .inl (by omega)⟩ aK (.refl _) (List.Sublist.refl _)
    rintro ⟨⟩ ⟨hg, hk⟩
    refine gn 1 ?_
    have hcd := kd_cases hk
    have hok : ∀ x ∈ xs, CidOk x := fun x hx => by
      obtain ⟨i, hi, rfl⟩ := List.mem_iff_getElem.1 hx
      exact ⟨(hg.h1 i hi).2, hfx _ hx, (hg.h1 i hi).1⟩
    have hbk : ∀ b ∈ blks, BlkOk b := fun b hb => by
      obtain ⟨i, hi, rfl⟩ := List.mem_iff_getElem.1 hb
      exact ⟨⟨(hg.h2 i hi).2.2, hfb _ hb, (hg.h2 i hi).1⟩, (hg.h2 i hi).2.1⟩
    have n1 := hg.n1
    have n2 := hg.n2
    have hhl := hedB_len hok
    have hsl := secs_len hbk
    have hes := keep_ok (ib := ib) hbk (p := (hedB xs).length) (by omega)
    have hkl := keep_len (ib := ib) (blks := blks) (p := (hedB xs).length)
    refine gn 4 ?_
    refine oL (lC (generated_is (ib := ib) hv (by omega) hok hvb (by omega) hbk) rfl .nil) ?_
    rintro ⟨ve, HE⟩ hoe
    simp only at hoe
    have hens : EnS HE ve (keepE ib (genE (hedB xs).length blks)) := rwE (Osl.rw (f := cE) hoe rfl (fun _ => rfl))
    refine gn 8 ?_
    refine oL (lJ (HJ := HE) (onceT_is (kind := kd kind) (hens.mono fun p hp => List.mem_append_right _ hp) (by omega) (osl_cap hoe)) rfl .nil (fun p hp => List.mem_append_left _ hp)) ?_
    rintro ⟨r, H'⟩ ⟨b3, rfl, h3b⟩
    refine o_less (fun _ _ h => h) (List.sublist_append_right _ _) ?_
    refine o_perm List.perm_append_comm ?_
    simp only [List.cons_append, List.nil_append]
    refine gn 3 ?_
    refine c_if rfl (fun h5 => ?_) (fun h5 => ?_)
    · refine gn 6 ?_
      refine r_fn1 results7 rfl ?_
      rfl
    · skip
      obtain rfl : b3 = true := by simpa using h5
      have hdis := onceK_of (h3b rfl)
      have hcar := car1_is hv (by omega) hok hvb (by omega) hbk
      have hhd := headB_len hok
      have hbk1 : ∀ b ∈ blks, CidOk b.1 := fun b hb => (hbk b hb).hx
      have hwr0 := wrFile0_is hv n1 hok hvb n2 hbk hp
      have hwr4 := wrFile4_is hv n1 hok hvb n2 hbk hp hq
      have hp0 := hedB_pos xs
      obtain ⟨X, hX⟩ : ∃ X, X = List.replicate q 0 ++ indexB (keepE false (genE (hedB xs).length blks)) 1024 := ⟨_, rfl⟩
      have hXl : X.length ≤ 300000300 := by
        have h1 := keep_ok (ib := false) hbk (p := (hedB xs).length) (by omega)
        have h2 := keep_len (ib := false) (blks := blks) (p := (hedB xs).length)
        have h3 := indexB_len (l := keepE false (genE (hedB xs).length blks)) (kind := 1024) (fun x hx => (h1 x hx).hd) (by omega)
        rw [hX, List.length_append, List.length_replicate]
        omega
      rw [← hX] at hwr4
      obtain ⟨pay, hpay⟩ : ∃ pay, pay = hedB xs ++ blks.flatMap secB := ⟨_, rfl⟩
      have hpl : pay.length = (hedB xs).length + (blks.flatMap secB).length := by rw [hpay, List.length_append]
      have hpt : ∀ tl, pay ++ tl = hedB xs ++ (blks.flatMap secB ++ tl) := fun tl => by rw [hpay, List.append_assoc]
      have hmk1 := ixMakeA_is (G := G) (bs := pay) (b0 := false) (ib := ib) (b2 := false) (b3 := false) (b4 := false) (b5 := false) (a6 := 0) (a7 := 0) (cd := kind) (D := 0) (Z := 0) (tl := []) hE (.one rfl rfl) (by rw [List.drop_zero, ← hpt, List.append_nil]) (fun _ => rfl) (.inl rfl) (Nat.zero_le _) (by omega) (by omega) hok hbk1 (by omega) (by omega) hcd hes hdis
      have hmk2 := ixMakeA_is (G := G) (bs := fileB p 0 pay []) (b0 := false) (ib := ib) (b2 := false) (b3 := false) (b4 := false) (b5 := false) (a6 := 0) (a7 := 0) (cd := kind) (D := 51 + p) (Z := pay.length) (tl := []) hE (.two (fileB_v2 (by omega) (by decide) (by omega) (by omega))) (by rw [fileB_drop, hpt]) (fun _ => rfl) (.inr hpl) (by rw [fileB_len]; omega) (by rw [fileB_len]; simp; omega) (by omega) hok hbk1 (by omega) (by omega) hcd hes hdis
      have hmk3 := fun h0 : blks ≠ [] => ixMakeA_is (G := G) (bs := fileB p (51 + p + pay.length + q) pay X) (b0 := false) (ib := ib) (b2 := false) (b3 := false) (b4 := false) (b5 := false) (a6 := 0) (a7 := 0) (cd := kind) (D := 51 + p) (Z := pay.length) (tl := X) hE (.two (fileB_v2 (by omega) (by omega) (by omega) (by omega))) (by rw [fileB_drop, hpt]) (fun h => h.elim (fun h => absurd h (by omega)) (fun h => absurd h h0)) (.inr hpl) (by rw [fileB_len]; omega) (by rw [fileB_len]; omega) (by omega) hok hbk1 (by omega) (by omega) hcd hes hdis
      rw [← hpay] at hcar hwr0 hwr4
      generalize keepE ib (genE (hedB xs).length blks) = L at *
      refine gn 5 ?_
      refine q_pure rfl call24 (hcar) rfl rfl ?_
      refine gn 1 ?_
      refine q_pure rfl call28 (hmk1) rfl rfl ?_
      refine gn 11 ?_
      refine q_pure rfl call29 (hwr0) rfl rfl ?_
      refine gn 1 ?_
      refine q_pure rfl call28 (hmk2) rfl rfl ?_
      refine gn 11 ?_
      refine oL (lJ (HJ := HE) (indexBytes_is (hens.mono fun p hp => List.mem_append_right _ hp) (by omega) (fun x hx => (hes x hx).hd) hk) rfl .nil (fun p hp => .tail _ (.tail _ hp))) ?_
      rintro ⟨r, H'⟩ ⟨rfl, rfl⟩
      simp only [List.nil_append]
      refine gn 18 ?_
      refine o_splitp 77 rfl (fun h6 => ?_) (fun h6 => ?_)
      · exact absurd rfl h6
      · skip
        refine gn 6 ?_
        refine c_ifp rfl (fun h7 => ?_) (fun h7 => ?_)
        · exact absurd rfl h7
        · skip
          refine gn 11 ?_
          refine c_ifp rfl (fun h8 => ?_) (fun h8 => ?_)
          · refine gn 6 ?_
            refine r_fn1 results7 rfl ?_
            rfl
          · skip
            have hmk3 := hmk3 (fun h => h8 (by rw [h]; rfl))
            refine gn 7 ?_
            refine q_pure rfl call29 (hwr4) rfl rfl ?_
            refine gn 1 ?_
            refine q_pure rfl call28 (hmk3) rfl rfl ?_
            refine gn 19 ?_
            refine r_fn1 results7 rfl ?_
            exact congrArg Value.bool (decide_eq_true rfl)
end
end Go.Proofs

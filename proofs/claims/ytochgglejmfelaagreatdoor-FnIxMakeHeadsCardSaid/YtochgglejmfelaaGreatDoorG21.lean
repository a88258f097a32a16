/- The entries that are generated; spec.Once: true says that no two are of one digest; Guards: sizes; what files the statements speak of; laws.wrGood; laws.FnIxMakeHeads: true. (A part of the proof of this: for every input laws.FnIxMakeHeads returns true and its arguments read as they did, the listed package variables being what the program lays) -/
import Derived.Test.YtochgglejmfelaaGreatDoorSlZ
import Derived.Test.YtochgglejmfelaaGreatDoorG20
import Derived.Test.YtochgglejmfelaaGreatDoorG10
set_option linter.unusedVariables false
set_option linter.unusedSimpArgs false
namespace Go.Proofs
open Go Go.Sl Tryz
set_option maxRecDepth 100000
set_option maxHeartbeats 1000000
section
variable {G : HP} {xs : List En} {blks : List Blk} {vr vb : Value} {ib : Bool}
theorem generated_is (hv : RwS cC 4 G vr xs) (hn : xs.length ≤ 200) (hok : ∀ x ∈ xs, CidOk x) (hvb : RwS bC 5 G vb blks) (hnb : blks.length ≤ 100) (hbk : ∀ b ∈ blks, BlkOk b) : Ctr prog 23 [.agg #[vr, vb], .bool ib] G [] (fun r H' => Osl 56 5 r (keepE ib (genE (hedB xs).length blks)).length (cells5 (keepE ib (genE (hedB xs).length blks))) H') := by
  have hhl := hedB_len hok
  have hpl := places_is hv hn hok hvb (by omega) hbk
  obtain ⟨A0, c0, rfl⟩ := hvb.shape
  refine fn_enter 39 func23 rfl ntmps23 rfl ?_
  intro w0
  refine gn 2 ?_
  refine oB ?_; intro g2 _
  refine gn 11 ?_
  refine oL (lC hpl rfl .nil) ?_
  rintro ⟨vp, HP0⟩ hop
  simp only at hop ⊢
  refine o_perm List.perm_append_comm ?_
  simp only [List.cons_append, List.nil_append]
  refine gn 13 ?_
  obtain ⟨gP, capP, restP, loP, hiP, rfl, rfl, hP1, hP2, hP3, hP4, -⟩ := hop.open_ (by omega)
  refine WC.less (fun _ _ h => h) (.cons _ (List.Sublist.refl _)) ?_
  obtain ⟨p0, hp0⟩ : ∃ p0, p0 = (hedB xs).length := ⟨_, rfl⟩
  rw [← hp0] at hhl hP1 ⊢
  refine c_loop (X := Nat × Value × HP) (fun y => [(1, .bool ib), (5, y.2.1), (6, .slice (some ⟨gP, 0, none⟩) (blks.length + 1) capP), (12, .slice A0 blks.length c0), (13, .int .i64 blks.length), (14, .int .i64 y.1)]) (fun y => (gP, .cells (V .i64 ((placeL p0 blks).map fun k : Nat => (k : Int)) ++ restP).toArray 3 (loP, hiP)) :: y.2.2) (fun y => y.1 ≤ blks.length ∧ Osl 56 5 y.2.1 (keepE ib (genE p0 (blks.take y.1))).length (cells5 (keepE ib (genE p0 (blks.take y.1)))) y.2.2) (fun y => blks.length - y.1) (0, .slice none 0 0, []) ⟨Nat.zero_le _, .nil⟩ aK (.refl _) ?_
  rintro ⟨i, v, HS⟩ ⟨hi0, ho⟩
  simp only at hi0 ho ⊢
  refine gn 6 ?_
  refine c_ifp rfl (fun h2 => ?_) (fun h2 => ?_)
  · have hi3 : i < blks.length := by omega
    obtain ⟨gS, off, LS, eS, frS, rfl, hmS, hcS⟩ := hvb.at hi3
    have hx := hbk blks[i] (List.getElem_mem _)
    have hpi : (V .i64 ((placeL p0 blks).map fun k : Nat => (k : Int)) ++ restP)[0 + i * 1]? = some (.int .i64 (p0 + ((blks.take i).flatMap secB).length : Nat)) := by
      have h1 : i < (placeL p0 blks).length := by rw [placeL_len]; omega
      rw [Nat.zero_add, Nat.mul_one, List.getElem?_append_left (by simpa [V] using h1)]
      simp [V, h1, placeL_at]
    have hkl : (keepE ib (genE p0 (blks.take i))).length ≤ 100 := Nat.le_trans (List.length_filter_le _ _) (by rw [genE_len, List.length_take]; omega)
    have hl2 := secs_len (bs := blks.take i) fun x hx => hbk x (List.mem_of_mem_take hx)
    have hl3 : (blks.take i).length ≤ 1000 := by rw [List.length_take]; omega
    refine gn 9 ?_
    refine oZ ?_; intro g8 _
    refine gn 1 ?_
    refine oL (l_storea sizeOf98 rfl rfl rfl (by simp [bC, cC, Value.oneCell']) .head (.take (.take (.take (.take (.take .done))))) nofrs0) ?_
    intro _ _
    have hgs : keepE ib (genE p0 (blks.take (i + 1))) = keepE ib (genE p0 (blks.take i)) ++ (if (ib || decide (blks[i].1.h ≠ 0)) = true then [{ blks[i].1 with o := ((p0 + ((blks.take i).flatMap secB).length : Nat) : Int) }] else []) := by
      rw [List.take_succ_eq_append_getElem hi3, genE_snoc, keepE_snoc]
    refine gn 2 ?_
    refine WC.less (fun _ _ h => h) (.refl _) ?_
    refine c_cut (X := Value × HP) (fun y => [(1, .bool ib), (5, y.1), (6, .slice (some ⟨gP, 0, none⟩) (blks.length + 1) capP), (12, .slice (some ⟨gS, off, none⟩) blks.length c0), (13, .int .i64 blks.length), (14, .int .i64 i)]) (fun y => (gP, .cells (V .i64 ((placeL p0 blks).map fun k : Nat => (k : Int)) ++ restP).toArray 3 (loP, hiP)) :: y.2) (fun y => Osl 56 5 y.1 (keepE ib (genE p0 (blks.take (i + 1)))).length (cells5 (keepE ib (genE p0 (blks.take (i + 1))))) y.2) ?_ ?_
    · skip
      refine gn 7 ?_
      refine o_split 23 rfl (fun hh => ?_) (fun hh => ?_)
      · refine gn 5 ?_
        refine c_regiong [9, 10] (by kernel_rfl) ?_
        refine lg [0, 1, 1002, 3, 4, 5, 1006, 7] ?_
        refine gM 8 rfl (eB (cE ⟨blks[i].1.v, blks[i].1.c, blks[i].1.h, blks[i].1.d, ((p0 + ((blks.take i).flatMap secB).length : Nat) : Int)⟩)) ?_
        refine gL 9 rfl (l_bs (l := cE ⟨blks[i].1.v, blks[i].1.c, blks[i].1.h, blks[i].1.d, ((p0 + ((blks.take i).flatMap secB).length : Nat) : Int)⟩) runUnderlying22 sizeOf56 zeroValue56 rfl rfl rfl rfl (by kernel_rfl)) ?_
        intro g35 _
        refine dL 10 rfl (l_append (sz := 5) (m := 1) (news := cE ⟨blks[i].1.v, blks[i].1.c, blks[i].1.h, blks[i].1.d, ((p0 + ((blks.take i).flatMap secB).length : Nat) : Int)⟩) underlying22 (info_of typeInfo56) rfl rfl rfl rfl rfl rfl ho (List.perm_append_comm (l₁ := [_, _, _]) (l₂ := HS)) (.blk underlying22 (.inl (.head _)) (.take (.take (.take (.take (.take .done))))) (by simp [cE, Value.oneCell'])) (by show _ * 48 ≤ _; omega) (by omega)) ?_
        rintro ⟨v2, HS2⟩ ho2
        simp only at ho2 ⊢
        refine ld [11] ?_
        refine gn 1 ?_
        refine n_cut' (v2, HS2) ?_ aK (show List.Perm _ ((g35, _) :: (g8, _) :: (gP, _) :: HS2) from aP) (.cons _ (.cons _ (List.Sublist.refl _)))
        show Osl 56 5 v2 (keepE ib (genE p0 (blks.take (i + 1)))).length (cells5 (keepE ib (genE p0 (blks.take (i + 1))))) HS2
        rw [hgs, if_pos (by rw [hh]; simp)]
        simp only [List.length_append, cells5, List.flatMap_append] at ho2 ⊢
        exact ho2
      · skip
        refine gn 4 ?_
        refine c_if rfl (fun hi => ?_) (fun hi => ?_)
        · refine c_regiong [9, 10] (by kernel_rfl) ?_
          refine lg [0, 1, 1002, 3, 4, 5, 1006, 7] ?_
          refine gM 8 rfl (eB (cE ⟨blks[i].1.v, blks[i].1.c, blks[i].1.h, blks[i].1.d, ((p0 + ((blks.take i).flatMap secB).length : Nat) : Int)⟩)) ?_
          refine gL 9 rfl (l_bs (l := cE ⟨blks[i].1.v, blks[i].1.c, blks[i].1.h, blks[i].1.d, ((p0 + ((blks.take i).flatMap secB).length : Nat) : Int)⟩) runUnderlying22 sizeOf56 zeroValue56 rfl rfl rfl rfl (by kernel_rfl)) ?_
          intro g35 _
          refine dL 10 rfl (l_append (sz := 5) (m := 1) (news := cE ⟨blks[i].1.v, blks[i].1.c, blks[i].1.h, blks[i].1.d, ((p0 + ((blks.take i).flatMap secB).length : Nat) : Int)⟩) underlying22 (info_of typeInfo56) rfl rfl rfl rfl rfl rfl ho (List.perm_append_comm (l₁ := [_, _, _]) (l₂ := HS)) (.blk underlying22 (.inl (.head _)) (.take (.take (.take (.take (.take .done))))) (by simp [cE, Value.oneCell'])) (by show _ * 48 ≤ _; omega) (by omega)) ?_
          rintro ⟨v2, HS2⟩ ho2
          simp only at ho2 ⊢
          refine ld [11] ?_
          refine gn 1 ?_
          refine n_cut' (v2, HS2) ?_ aK (show List.Perm _ ((g35, _) :: (g8, _) :: (gP, _) :: HS2) from aP) (.cons _ (.cons _ (List.Sublist.refl _)))
          show Osl 56 5 v2 (keepE ib (genE p0 (blks.take (i + 1)))).length (cells5 (keepE ib (genE p0 (blks.take (i + 1))))) HS2
          rw [hgs, if_pos (by rw [hi]; rfl)]
          simp only [List.length_append, cells5, List.flatMap_append] at ho2 ⊢
          exact ho2
        · skip
          refine gn 1 ?_
          refine n_cut' (v, HS) ?_ aK (.refl _) (.cons _ (List.Sublist.refl _))
          show Osl 56 5 v (keepE ib (genE p0 (blks.take (i + 1)))).length (cells5 (keepE ib (genE p0 (blks.take (i + 1))))) HS
          rw [hgs, if_neg (by rw [hh, hi]; simp), List.append_nil]
          exact ho
    rintro ⟨v2, HS2⟩ ho2
    simp only at ho2 ⊢
    refine gn 6 ?_
    exact n_round' (y := (i, v, HS)) (i + 1, v2, HS2) (by show blks.length - (i + 1) < blks.length - i; omega) ⟨by show i + 1 ≤ blks.length; omega, ho2⟩ aK _ (.refl _) (List.Sublist.refl _)
  · skip
    obtain rfl : i = blks.length := by omega
    rw [List.take_length] at ho
    refine gn 12 ?_
    refine WR.less (fun _ _ h => h) (.cons _ (List.Sublist.refl _)) ?_
    refine r_fn1 results23 rfl ?_
    exact ho
end
end Go.Proofs
namespace Go.Proofs
open Go Go.Sl Tryz
set_option maxRecDepth 100000
set_option maxHeartbeats 1000000
/-- Two entries that may stand in one index. -/
def Two (kind : Int) (x y : En) : Prop := ¬ (x.d = y.d ∧ (kind = 1024 ∨ x.h = y.h))
theorem onceT_is {G : HP} {v : Value} {l : List En} {kind : Int} (h : EnS G v l) (hl : l.length < 9223372036854775808) (hcap : ∀ A n cap, v = .slice A n cap → n ≤ cap) : Ctr prog 19 [v, .int .u64 kind] G [] (fun r _ => ∃ b, r = .bool b ∧ (b = true → ∀ i j, j < i → ∀ (hi : i < l.length) (hj : j < l.length), Two kind l[i] l[j])) := by
  cases h with
  | @none A cap =>
    refine fn_enter 46 func19 rfl ntmps19 rfl ?_
    intro w0
    refine gn 14 ?_
    refine c_rounds 1 ?_
    refine gn 18 ?_
    refine r_fn1 results19 rfl ?_
    exact ⟨_, rfl, fun _ i j _ hi => absurd hi (Nat.not_lt_zero _)⟩
  | @blk l L g off n cap e fr hm hn hc =>
    have hcap := hcap _ _ _ rfl
    refine fn_enter 46 func19 rfl ntmps19 rfl ?_
    intro w0
    refine gn 14 ?_
    refine c_loop (X := Nat) (fun i => [(0, .slice (some ⟨g, off, none⟩) n cap), (1, .int .u64 kind), (9, .slice (some ⟨g, off, none⟩) n cap), (10, .int .i64 n), (11, .int .i64 i)]) (fun _ => []) (fun i => i ≤ n ∧ ∀ a b, b < a → a < i → ∀ (ha : a < l.length) (hb : b < l.length), Two kind l[a] l[b]) (fun i => n - i) 0 ⟨Nat.zero_le _, fun a b _ h => absurd h (Nat.not_lt_zero _)⟩ aK (.refl _) ?_
    rintro i ⟨hi, hall⟩
    refine gn 6 ?_
    refine c_ifp rfl (fun h2 => ?_) (fun h2 => ?_)
    · have hi2 : i < l.length := by omega
      have hci := hc i hi2
      generalize hxe : l[i] = x at hci
      obtain ⟨xv, xc, xh, xd, xo⟩ := x
      simp only [cE] at hci
      refine gn 9 ?_
      refine oZ ?_; intro g6 _
      refine gn 1 ?_
      refine oL (l_storea sizeOf56 rfl rfl rfl (by simp [Value.oneCell']) .head (.take (.take (.take (.take (.take .done))))) nofrs0) ?_
      intro _ _
      refine gn 12 ?_
      refine c_loop (X := Nat) (fun j => [(0, .slice (some ⟨g, off, none⟩) n cap), (1, .int .u64 kind), (9, .slice (some ⟨g, off, none⟩) n cap), (10, .int .i64 n), (11, .int .i64 i), (6, .pointer (some ⟨g6, 0, none⟩)), (18, .slice (some ⟨g, off, none⟩) i cap), (19, .int .i64 i), (20, .int .i64 j)]) (fun _ => [(g6, C [.int .u64 xv, .int .u64 xc, .int .u64 xh, S xd, .int .u64 xo] 56)]) (fun j => j ≤ i ∧ ∀ b, b < j → ∀ (hb : b < l.length), Two kind (l[i]'(by omega)) l[b]) (fun j => i - j) 0 ⟨Nat.zero_le _, fun b h => absurd h (Nat.not_lt_zero _)⟩ aK (.refl _) ?_
      rintro j ⟨hj, hin⟩
      refine gn 6 ?_
      refine c_ifp rfl (fun h3 => ?_) (fun h3 => ?_)
      · have hj2 : j < l.length := by omega
        have hcj := hc j hj2
        generalize hye : l[j] = y at hcj
        obtain ⟨yv, yc, yh, yd, yo⟩ := y
        simp only [cE] at hcj
        refine gn 8 ?_
        refine oZ ?_; intro g8 _
        refine oL (l_storea sizeOf56 rfl rfl rfl (by simp [Value.oneCell']) .head (.take (.take (.take (.take (.take .done))))) nofrs0) ?_
        intro _ _
        refine gn 12 ?_
        refine o_splitp 31 rfl (fun h4 => ?_) (fun h4 => ?_)
        · refine gn 3 ?_
          refine o_splitp 34 rfl (fun h5 => ?_) (fun h5 => ?_)
          · refine gn 18 ?_
            refine r_fn1 results19 rfl ?_
            exact ⟨_, rfl, fun h => by cases h⟩
          · skip
            refine gn 11 ?_
            refine c_ifp rfl (fun h6 => ?_) (fun h6 => ?_)
            · refine gn 6 ?_
              refine r_fn1 results19 rfl ?_
              exact ⟨_, rfl, fun h => by cases h⟩
            · skip
              refine gn 7 ?_
              refine n_round' (j + 1) (by omega) ⟨by omega, ?_⟩ aK _ (.refl _) (List.sublist_cons_self _ _)
              intro b hb hb2
              by_cases hbj : b = j
              · subst hbj
                rw [hxe, hye]
                rintro ⟨h7, h8⟩
                rcases h8 with h8 | h8
                · simp [h8] at h5
                · exact h6 h8
              · exact hin b (by omega) hb2
        · skip
          refine gn 22 ?_
          refine n_round' (j + 1) (by omega) ⟨by omega, ?_⟩ aK _ (.refl _) (List.sublist_cons_self _ _)
          intro b hb hb2
          by_cases hbj : b = j
          · subst hbj
            rw [hxe, hye]
            rintro ⟨h7, -⟩
            simp only at h7
            simp [h7] at h4
          · exact hin b (by omega) hb2
      · skip
        refine gn 10 ?_
        refine n_round' (i + 1) (by omega) ⟨by omega, ?_⟩ aK _ (.refl _) (List.nil_sublist _)
        intro a b hab ha ha2 hb2
        by_cases hai : a = i
        · subst hai
          exact hin b (by omega) hb2
        · exact hall a b hab (by omega) ha2 hb2
    · skip
      refine gn 11 ?_
      refine r_fn1 results19 rfl ?_
      exact ⟨_, rfl, fun _ i' j hij hi' hj => hall i' j hij (by omega) hi' hj⟩
end Go.Proofs
namespace Go.Proofs
open Go Go.Sl Tryz
set_option maxRecDepth 100000
set_option maxHeartbeats 1000000
theorem onceK_of {l : List En} {kind : Int} (h : ∀ i j, j < i → ∀ (hi : i < l.length) (hj : j < l.length), Two kind l[i] l[j]) : OnceK l kind := by
  have hp : l.Pairwise fun x y => Two kind y x := List.pairwise_iff_getElem.2 fun i j hi hj hij => h j i hij hj hi
  constructor
  · intro hk
    rw [List.Nodup, List.pairwise_map]
    exact hp.imp fun {a b} h1 h2 => h1 ⟨h2.symm, .inl hk⟩
  · intro hk c
    rw [List.Nodup, List.pairwise_map]
    refine (hp.filter _).imp_of_mem fun {a b} ha hb h1 h2 => h1 ⟨h2.symm, .inr ?_⟩
    have h3 := (List.mem_filter.1 ha).2
    have h4 := (List.mem_filter.1 hb).2
    simp only [decide_eq_true_eq] at h3 h4
    omega
section
variable {G : HP} {xs : List En} {blks : List Blk} {vr vb : Value}
theorem fits2 (hv : RwS cC 4 G vr xs) (hl : xs.length < 9223372036854775808) : Ctr prog 46 [vr] G [] (fun r H' => (∃ b, r = .bool b) ∧ H' = []) := by
  obtain ⟨A0, c0, rfl⟩ := hv.shape
  refine fn_enter 18 func46 rfl ntmps46 rfl ?_
  intro w0
  refine gn 13 ?_
  refine c_ifp rfl (fun h1 => ?_) (fun h1 => ?_)
  · refine gn 6 ?_
    refine r_fn1 results46 rfl ?_
    exact ⟨⟨_, rfl⟩, rfl⟩
  · skip
    refine gn 11 ?_
    refine c_loop (X := Nat) (fun i => [(8, .slice A0 xs.length c0), (9, .int .i64 xs.length), (10, .int .i64 i)]) (fun _ => []) (fun i => i ≤ xs.length) (fun i => xs.length - i) 0 (Nat.zero_le _) aK (.refl _) ?_
    intro i hi0
    refine gn 6 ?_
    refine c_ifp rfl (fun h2 => ?_) (fun h2 => ?_)
    · have hi3 : i < xs.length := by omega
      obtain ⟨gS, off, LS, eS, frS, rfl, hmS, hcS⟩ := hv.at hi3
      refine gn 8 ?_
      refine oZ ?_; intro g4 _
      refine oL (l_storea sizeOf25 rfl rfl rfl (by simp [cC, Value.oneCell']) .head (.take (.take (.take (.take .done)))) nofrs0) ?_
      intro _ _
      refine gn 5 ?_
      refine oL (lC (fits1 xs[i]) rfl .nil) ?_
      rintro ⟨r, H'⟩ ⟨b, rfl⟩
      refine gn 3 ?_
      refine c_if rfl (fun hb => ?_) (fun hb => ?_)
      · refine gn 6 ?_
        refine WR.sel .nil ?_
        refine r_fn1 results46 rfl ?_
        exact ⟨⟨_, rfl⟩, rfl⟩
      · skip
        refine gn 7 ?_
        exact n_round' (y := i) (i + 1) (by omega) (by omega) aK _ (.refl _) (List.nil_sublist _)
    · skip
      refine gn 11 ?_
      refine r_fn1 results46 rfl ?_
      exact ⟨⟨_, rfl⟩, rfl⟩
theorem fits6 {b : Blk} : Ctr prog 80 [.agg (bC b).toArray] G [] (fun r H' => (∃ b, r = .bool b) ∧ H' = []) := by
  obtain ⟨⟨v, c, h, d, o⟩, dat⟩ := b
  have h1 := fits1 (G := G) ⟨v, c, h, d, o⟩
  show Ctr prog 80 [.agg #[.int .u64 v, .int .u64 c, .int .u64 h, S d, S dat]] G [] (fun r H' => (∃ b, r = .bool b) ∧ H' = [])
  simp only [cC] at h1
  refine fn_enter 11 func80 rfl ntmps80 rfl ?_
  intro w0
  refine gn 2 ?_
  refine oB ?_; intro g1 _
  refine gn 8 ?_
  refine oL (lC h1 rfl .nil) ?_
  rintro ⟨r, H'⟩ ⟨b, rfl⟩
  refine o_less (fun _ _ h => h) (List.sublist_append_right _ _) ?_
  refine gn 3 ?_
  refine c_if rfl (fun hb => ?_) (fun hb => ?_)
  · refine gn 6 ?_
    refine WR.sel .nil ?_
    refine r_fn1 results80 rfl ?_
    exact ⟨⟨_, rfl⟩, rfl⟩
  · skip
    refine gn 11 ?_
    refine c_ifp rfl (fun h5 => ?_) (fun h5 => ?_)
    · refine gn 6 ?_
      refine WR.sel .nil ?_
      refine r_fn1 results80 rfl ?_
      exact ⟨⟨_, rfl⟩, rfl⟩
    · skip
      refine gn 8 ?_
      refine WR.sel .nil ?_
      refine r_fn1 results80 rfl ?_
      exact ⟨⟨_, rfl⟩, rfl⟩
theorem fits5 (hv : RwS bC 5 G vb blks) (hl : blks.length < 9223372036854775808) : Ctr prog 47 [vb] G [] (fun r H' => (∃ b, r = .bool b) ∧ H' = []) := by
  obtain ⟨A0, c0, rfl⟩ := hv.shape
  refine fn_enter 18 func47 rfl ntmps47 rfl ?_
  intro w0
  refine gn 13 ?_
  refine c_ifp rfl (fun h1 => ?_) (fun h1 => ?_)
  · refine gn 6 ?_
    refine r_fn1 results47 rfl ?_
    exact ⟨⟨_, rfl⟩, rfl⟩
  · skip
    refine gn 11 ?_
    refine c_loop (X := Nat) (fun i => [(8, .slice A0 blks.length c0), (9, .int .i64 blks.length), (10, .int .i64 i)]) (fun _ => []) (fun i => i ≤ blks.length) (fun i => blks.length - i) 0 (Nat.zero_le _) aK (.refl _) ?_
    intro i hi0
    refine gn 6 ?_
    refine c_ifp rfl (fun h2 => ?_) (fun h2 => ?_)
    · have hi3 : i < blks.length := by omega
      obtain ⟨gS, off, LS, eS, frS, rfl, hmS, hcS⟩ := hv.at hi3
      refine gn 8 ?_
      refine oZ ?_; intro g4 _
      refine oL (l_storea sizeOf98 rfl rfl rfl (by simp [bC, cC, Value.oneCell']) .head (.take (.take (.take (.take (.take .done))))) nofrs0) ?_
      intro _ _
      refine gn 5 ?_
      refine oL (lC (fits6 (b := blks[i])) rfl .nil) ?_
      rintro ⟨r, H'⟩ ⟨⟨b, rfl⟩, rfl⟩
      simp only [List.nil_append]
      refine gn 3 ?_
      refine c_if rfl (fun hb => ?_) (fun hb => ?_)
      · refine gn 6 ?_
        refine WR.sel .nil ?_
        refine r_fn1 results47 rfl ?_
        exact ⟨⟨_, rfl⟩, rfl⟩
      · skip
        refine gn 7 ?_
        exact n_round' (y := i) (i + 1) (by omega) (by omega) aK _ (.refl _) (List.nil_sublist _)
    · skip
      refine gn 11 ?_
      refine r_fn1 results47 rfl ?_
      exact ⟨⟨_, rfl⟩, rfl⟩
theorem fits4 (hv : RwS cC 4 G vr xs) (hl : xs.length < 9223372036854775808) (hvb : RwS bC 5 G vb blks) (hlb : blks.length < 9223372036854775808) : Ctr prog 21 [.agg #[vr, vb]] G [] (fun r H' => (∃ b, r = .bool b) ∧ H' = []) := by
  have h2 := fits2 hv hl
  have h5 := fits5 hvb hlb
  obtain ⟨A0, c0, rfl⟩ := hv.shape
  obtain ⟨A1, c1, rfl⟩ := hvb.shape
  refine fn_enter 11 func21 rfl ntmps21 rfl ?_
  intro w0
  refine gn 2 ?_
  refine oB ?_; intro g1 _
  refine gn 8 ?_
  refine oL (lC h2 rfl .nil) ?_
  rintro ⟨r, H'⟩ ⟨⟨b, rfl⟩, rfl⟩
  simp only [List.nil_append]
  refine gn 3 ?_
  refine c_if rfl (fun hb => ?_) (fun hb => ?_)
  · refine gn 6 ?_
    refine WR.sel .nil ?_
    refine r_fn1 results21 rfl ?_
    exact ⟨⟨_, rfl⟩, rfl⟩
  · skip
    refine gn 7 ?_
    refine oL (lC h5 rfl .nil) ?_
    rintro ⟨r, H'⟩ ⟨⟨b, rfl⟩, rfl⟩
    simp only [List.nil_append]
    refine gn 3 ?_
    refine c_if rfl (fun hb => ?_) (fun hb => ?_)
    · refine gn 6 ?_
      refine WR.sel .nil ?_
      refine r_fn1 results21 rfl ?_
      exact ⟨⟨_, rfl⟩, rfl⟩
    · skip
      refine gn 8 ?_
      refine WR.sel .nil ?_
      refine r_fn1 results21 rfl ?_
      exact ⟨⟨_, rfl⟩, rfl⟩
end
end Go.Proofs
namespace Go.Proofs
open Go Go.Sl Tryz
set_option maxRecDepth 100000
set_option maxHeartbeats 1000000
structure WG (xs : List En) (blks : List Blk) : Prop where
  n1 : xs.length ≤ 50
  n2 : blks.length ≤ 50
  h1 : ∀ i (h : i < xs.length), xs[i].d.length ≤ 200 ∧ Tidy xs[i]
  h2 : ∀ i (h : i < blks.length), blks[i].1.d.length ≤ 200 ∧ blks[i].2.length ≤ 32768 ∧ Tidy blks[i].1
section
variable {G : HP} {xs : List En} {blks : List Blk} {vr vb : Value}
theorem wrGood_is (hv : RwS cC 4 G vr xs) (hl : xs.length < 9223372036854775808) (hvb : RwS bC 5 G vb blks) (hlb : blks.length < 9223372036854775808) : Ctr prog 22 [.agg #[vr, vb]] G [] (fun r H' => (∃ b, r = .bool b ∧ (b = true → WG xs blks)) ∧ H' = []) := by
  obtain ⟨A0, c0, rfl⟩ := hv.shape
  obtain ⟨A1, c1, rfl⟩ := hvb.shape
  refine fn_enter 59 func22 rfl ntmps22 rfl ?_
  intro w0
  refine gn 2 ?_
  refine oB ?_; intro g1 _
  refine gn 11 ?_
  refine o_splitp 11 rfl (fun h1 => ?_) (fun h1 => ?_)
  · refine gn 14 ?_
    refine WR.sel .nil ?_
    refine r_fn1 results22 rfl ?_
    exact ⟨⟨_, rfl, by simp⟩, rfl⟩
  · skip
    refine gn 7 ?_
    refine c_ifp rfl (fun h2 => ?_) (fun h2 => ?_)
    · refine gn 6 ?_
      refine WR.sel .nil ?_
      refine r_fn1 results22 rfl ?_
      exact ⟨⟨_, rfl, by simp⟩, rfl⟩
    · skip
      refine gn 12 ?_
      refine c_loop (X := Nat) (fun i => [(1, .pointer (some ⟨g1, 0, none⟩)), (18, .slice A0 xs.length c0), (19, .int .i64 xs.length), (20, .int .i64 i)]) (fun _ => [(g1, C [.slice A0 xs.length c0, .slice A1 blks.length c1] 47)]) (fun i => i ≤ xs.length ∧ ∀ j (h : j < xs.length), j < i → xs[j].d.length ≤ 200 ∧ Tidy xs[j]) (fun i => xs.length - i) 0 ⟨Nat.zero_le _, fun _ _ h => absurd h (Nat.not_lt_zero _)⟩ aK (.refl _) ?_
      rintro i ⟨hi0, hok⟩
      refine gn 6 ?_
      refine c_ifp rfl (fun h3 => ?_) (fun h3 => ?_)
      · have hi3 : i < xs.length := by omega
        obtain ⟨gS, off, LS, eS, frS, rfl, hmS, hcS⟩ := hv.at hi3
        have ht := tidy_is (G := G) xs[i]
        have hnext : xs[i].d.length ≤ 200 → Tidy xs[i] → ∀ j (h : j < xs.length), j < i + 1 → xs[j].d.length ≤ 200 ∧ Tidy xs[j] := by
          intro a1 a2 j hj hji
          by_cases e : j = i
          · subst e; exact ⟨a1, a2⟩
          · exact hok j hj (by omega)
        refine gn 8 ?_
        refine oZ ?_; intro g4 _
        refine oL (l_storea sizeOf25 rfl rfl rfl (by simp [cC, Value.oneCell']) .head (.take (.take (.take (.take .done)))) nofrs0) ?_
        intro _ _
        refine gn 9 ?_
        refine o_splitp 28 rfl (fun h4 => ?_) (fun h4 => ?_)
        · refine gn 13 ?_
          refine WR.sel .nil ?_
          refine r_fn1 results22 rfl ?_
          exact ⟨⟨_, rfl, by simp⟩, rfl⟩
        · skip
          refine gn 1 ?_
          refine oL (lC ht rfl .nil) ?_
          rintro ⟨r, H'⟩ rfl
          refine o_less (fun _ _ h => h) (List.sublist_append_right _ _) ?_
          refine gn 4 ?_
          refine c_if rfl (fun h5 => ?_) (fun h5 => ?_)
          · refine gn 6 ?_
            refine WR.sel .nil ?_
            refine r_fn1 results22 rfl ?_
            exact ⟨⟨_, rfl, by simp⟩, rfl⟩
          · skip
            refine gn 7 ?_
            exact n_round' (y := i) (i + 1) (by omega) ⟨by omega, hnext (by omega) (by simpa using h5)⟩ aK _ (.refl _) (.cons _ (List.Sublist.refl _))
      · skip
        obtain rfl : i = xs.length := by omega
        refine gn 15 ?_
        refine WC.less (fun _ _ h => h) (List.nil_sublist _) ?_
        refine c_loop (X := Nat) (fun i => [(35, .slice A1 blks.length c1), (36, .int .i64 blks.length), (37, .int .i64 i)]) (fun _ => []) (fun i => i ≤ blks.length ∧ ∀ j (h : j < blks.length), j < i → blks[j].1.d.length ≤ 200 ∧ blks[j].2.length ≤ 32768 ∧ Tidy blks[j].1) (fun i => blks.length - i) 0 ⟨Nat.zero_le _, fun _ _ h => absurd h (Nat.not_lt_zero _)⟩ aK (.refl _) ?_
        rintro i ⟨hi1, hok2⟩
        refine gn 6 ?_
        refine c_ifp rfl (fun h6 => ?_) (fun h6 => ?_)
        · have hi3 : i < blks.length := by omega
          obtain ⟨gS, off, LS, eS, frS, rfl, hmS, hcS⟩ := hvb.at hi3
          have ht := tidy_is (G := G) blks[i].1
          have hnext : blks[i].1.d.length ≤ 200 → blks[i].2.length ≤ 32768 → Tidy blks[i].1 → ∀ j (h : j < blks.length), j < i + 1 → blks[j].1.d.length ≤ 200 ∧ blks[j].2.length ≤ 32768 ∧ Tidy blks[j].1 := by
            intro a1 a2 a3 j hj hji
            by_cases e : j = i
            · subst e; exact ⟨a1, a2, a3⟩
            · exact hok2 j hj (by omega)
          refine gn 8 ?_
          refine oZ ?_; intro g6 _
          refine oL (l_storea sizeOf98 rfl rfl rfl (by simp [bC, cC, Value.oneCell']) .head (.take (.take (.take (.take (.take .done))))) nofrs0) ?_
          intro _ _
          refine gn 10 ?_
          refine o_splitp 46 rfl (fun h4 => ?_) (fun h4 => ?_)
          · refine gn 20 ?_
            refine WR.sel .nil ?_
            refine r_fn1 results22 rfl ?_
            exact ⟨⟨_, rfl, by simp⟩, rfl⟩
          · skip
            refine gn 6 ?_
            refine o_splitp 52 rfl (fun h7 => ?_) (fun h7 => ?_)
            · refine gn 14 ?_
              refine WR.sel .nil ?_
              refine r_fn1 results22 rfl ?_
              exact ⟨⟨_, rfl, by simp⟩, rfl⟩
            · skip
              refine gn 2 ?_
              refine oL (lC ht rfl .nil) ?_
              rintro ⟨r, H'⟩ rfl
              refine o_less (fun _ _ h => h) (List.sublist_append_right _ _) ?_
              refine gn 4 ?_
              refine c_if rfl (fun h5 => ?_) (fun h5 => ?_)
              · refine gn 6 ?_
                refine WR.sel .nil ?_
                refine r_fn1 results22 rfl ?_
                exact ⟨⟨_, rfl, by simp⟩, rfl⟩
              · skip
                refine gn 7 ?_
                exact n_round' (y := i) (i + 1) (by omega) ⟨by omega, hnext (by omega) (by omega) (by simpa using h5)⟩ aK _ (.refl _) (List.nil_sublist _)
        · skip
          obtain rfl : i = blks.length := by omega
          refine gn 11 ?_
          refine r_fn1 results22 rfl ?_
          exact ⟨⟨_, rfl, fun _ => ⟨by omega, by omega, fun i h => hok i h (by omega), fun i h => hok2 i h h⟩⟩, rfl⟩
end
end Go.Proofs
namespace Go.Proofs
open Go Go.Sl Tryz
set_option maxRecDepth 100000
set_option maxHeartbeats 1000000
theorem keepE_true (l : List En) : keepE true l = l := List.filter_eq_self.2 fun _ _ => rfl
theorem rwE {H : HP} {v : Value} {l : List En} (h : RwS cE 5 H v l) : EnS H v l := by
  cases h with
  | emp => exact .none
  | blk hm hn hc => exact .blk hm hn hc
theorem EnS.mono {H K : HP} {v : Value} {l : List En} (h : EnS H v l) (hs : ∀ p ∈ H, p ∈ K) : EnS K v l := by
  cases h with
  | none => exact .none
  | blk hm hn hc => exact .blk (hs _ hm) hn hc
theorem osl_cap {e : TypeId} {sz n : Nat} {v : Value} {l : List Value} {H : HP} (h : Osl e sz v n l H) : ∀ A n cap, v = .slice A n cap → n ≤ cap := by
  cases h with
  | nil => intro A n cap h; injection h with _ h1 h2; omega
  | own h1 h2 h3 h4 h5 => intro A n cap h; injection h with _ h1 h2; omega
theorem genE_ok : ∀ {blks : List Blk} {p : Nat}, (∀ b ∈ blks, BlkOk b) → p + (blks.flatMap secB).length < 18446744073709551616 → ∀ x ∈ genE p blks, CidOk x
  | [], _, _, _, x, hx => by cases hx
  | b :: bs, p, h, hp, x, hx => by
    simp only [List.flatMap_cons, List.length_append] at hp
    rcases List.mem_cons.1 hx with rfl | hx
    · have hb := (h b (.head _)).hx
      exact ⟨hb.ht, ⟨hb.hf.v0, hb.hf.v1, hb.hf.c0, hb.hf.c1, hb.hf.h0, hb.hf.h1, by show (0 : Int) ≤ (p : Nat); omega, by show ((p : Nat) : Int) < _; omega⟩, hb.hd⟩
    · exact genE_ok (fun b hb => h b (.tail _ hb)) (by omega) x hx
section
variable {G : HP} {xs : List En} {blks : List Blk} {vr vb : Value} {kind : Int} {gE : Addr} {t3 : List Value} {e3 : TypeId} {f3 : Nat × Nat}
theorem makeHeads_is (hE : (3, Obj.cells (EV gE :: t3).toArray e3 f3) ∈ G) (hv : RwS cC 4 G vr xs) (hl : xs.length < 9223372036854775808) (hvb : RwS bC 5 G vb blks) (hlb : blks.length < 9223372036854775808) (hfx : ∀ x ∈ xs, EnFit x) (hfb : ∀ b ∈ blks, EnFit b.1) :
    Ctr prog 6 [.agg #[vr, vb], .int .u64 kind] G [] (fun r H' => r = .bool true) := by
  have h4 := fits4 hv hl hvb hlb
  have hwg := wrGood_is hv hl hvb hlb
  refine fn_enter 122 func6 rfl ntmps6 rfl ?_
  intro w0
  refine gn 2 ?_
  refine oB ?_; intro g2 _
  refine gn 7 ?_
  refine oL (lC h4 rfl .nil) ?_
  rintro ⟨r, H'⟩ ⟨⟨b, rfl⟩, rfl⟩
  simp only [List.nil_append]
  refine gn 3 ?_
  refine c_if rfl (fun hb => ?_) (fun hb => ?_)
  · refine gn 6 ?_
    refine r_fn1 results6 rfl ?_
    rfl
  · skip
    refine gn 3 ?_
    refine c_cut (X := Unit) (fun _ => [(1, .int .u64 kind), (2, .pointer (some ⟨g2, 0, none⟩))]) (fun _ => [(g2, C [vr, vb] 47)]) (fun _ => WG xs blks ∧ (kind = 1024 ∨ kind = 1025) ∧ OnceK (genE (hedB xs).length blks) kind) ?_ ?_
    · skip
      refine gn 3 ?_
      refine oL (lC hwg rfl .nil) ?_
      rintro ⟨r, H'⟩ ⟨⟨b2, rfl, hg⟩, rfl⟩
      simp only [List.nil_append]
      refine gn 2 ?_
      refine o_split 25 rfl (fun h1 => ?_) (fun h1 => ?_)
      · refine gn 23 ?_
        refine r_fn1 results6 rfl ?_
        rfl
      · skip
        obtain rfl : b2 = true := by simpa using h1
        have hg := hg rfl
        have hok : ∀ x ∈ xs, CidOk x := fun x hx => by
          obtain ⟨i, hi, rfl⟩ := List.mem_iff_getElem.1 hx
          exact ⟨(hg.h1 i hi).2, hfx _ hx, (hg.h1 i hi).1⟩
        have hbk : ∀ b ∈ blks, BlkOk b := fun b hb => by
          obtain ⟨i, hi, rfl⟩ := List.mem_iff_getElem.1 hb
          exact ⟨⟨(hg.h2 i hi).2.2, hfb _ hb, (hg.h2 i hi).1⟩, (hg.h2 i hi).2.1⟩
        have n1 := hg.n1
        have n2 := hg.n2
        refine gn 3 ?_
        refine o_splitp 28 rfl (fun h2 => ?_) (fun h2 => ?_)
        · refine gn 5 ?_
          refine o_splitp 33 rfl (fun h3 => ?_) (fun h3 => ?_)
          · refine gn 15 ?_
            refine r_fn1 results6 rfl ?_
            rfl
          · skip
            have hk : kind = 1025 := by omega
            refine gn 1 ?_
            have hgen := generated_is (ib := true) hv (by omega) hok hvb (by omega) hbk
            rw [keepE_true] at hgen
            refine oL (lC hgen rfl .nil) ?_
            rintro ⟨ve, HE⟩ hoe
            simp only at hoe
            have hens : EnS HE ve (genE (hedB xs).length blks) := rwE (Osl.rw (f := cE) hoe rfl (fun _ => rfl))
            refine gn 1 ?_
            refine oL (lJ (HJ := HE) (onceT_is (kind := kind) (hens.mono fun p hp => List.mem_append_right _ hp) (by rw [genE_len]; omega) (osl_cap hoe)) rfl .nil (fun p hp => List.mem_append_left _ hp)) ?_
            rintro ⟨r, H'⟩ ⟨b3, rfl, h3b⟩
            refine gn 4 ?_
            refine c_if rfl (fun h5 => ?_) (fun h5 => ?_)
            · refine gn 6 ?_
              refine r_fn1 results6 rfl ?_
              rfl
            · skip
              obtain rfl : b3 = true := by simpa using h5
              refine gn 1 ?_
              exact n_cut' () ⟨hg, .inr hk, onceK_of (h3b rfl)⟩ aK (.refl _) (by simp)
        · skip
          have hk : kind = 1024 := by omega
          refine gn 6 ?_
          have hgen := generated_is (ib := true) hv (by omega) hok hvb (by omega) hbk
          rw [keepE_true] at hgen
          refine oL (lC hgen rfl .nil) ?_
          rintro ⟨ve, HE⟩ hoe
          simp only at hoe
          have hens : EnS HE ve (genE (hedB xs).length blks) := rwE (Osl.rw (f := cE) hoe rfl (fun _ => rfl))
          refine gn 1 ?_
          refine oL (lJ (HJ := HE) (onceT_is (kind := kind) (hens.mono fun p hp => List.mem_append_right _ hp) (by rw [genE_len]; omega) (osl_cap hoe)) rfl .nil (fun p hp => List.mem_append_left _ hp)) ?_
          rintro ⟨r, H'⟩ ⟨b3, rfl, h3b⟩
          refine gn 4 ?_
          refine c_if rfl (fun h5 => ?_) (fun h5 => ?_)
          · refine gn 6 ?_
            refine r_fn1 results6 rfl ?_
            rfl
          · skip
            obtain rfl : b3 = true := by simpa using h5
            refine gn 1 ?_
            exact n_cut' () ⟨hg, .inl hk, onceK_of (h3b rfl)⟩ aK (.refl _) (by simp)
    · rintro ⟨⟩ ⟨hg, hk, hdis⟩
      refine gn 1 ?_
      have hok : ∀ x ∈ xs, CidOk x := fun x hx => by
        obtain ⟨i, hi, rfl⟩ := List.mem_iff_getElem.1 hx
        exact ⟨(hg.h1 i hi).2, hfx _ hx, (hg.h1 i hi).1⟩
      have hbk : ∀ b ∈ blks, BlkOk b := fun b hb => by
        obtain ⟨i, hi, rfl⟩ := List.mem_iff_getElem.1 hb
        exact ⟨⟨(hg.h2 i hi).2.2, hfb _ hb, (hg.h2 i hi).1⟩, (hg.h2 i hi).2.1⟩
      have n1 := hg.n1
      have n2 := hg.n2
      have hhl := hedB_len hok
      have hsl := secs_len hbk
      refine gn 3 ?_
      refine oL (lC (car1_is hv (by omega) hok hvb (by omega) hbk) rfl .nil) ?_
      rintro ⟨r, H'⟩ ⟨rfl, rfl⟩
      simp only [List.nil_append]
      refine o_less (fun _ _ h => h) (List.nil_sublist _) ?_
      obtain ⟨bs, hbs⟩ : ∃ bs, bs = hedB xs ++ blks.flatMap secB := ⟨_, rfl⟩
      have hbl : bs.length = (hedB xs).length + (blks.flatMap secB).length := by rw [hbs, List.length_append]
      rw [← hbs]
      refine gn 6 ?_
      refine oL (lC (hdRead_is hE hbs (by omega) (by omega) hok) rfl .nil) ?_
      rintro ⟨r, H'⟩ ⟨vd, rfl⟩
      refine o_less (fun _ _ h => h) (List.nil_sublist _) ?_
      refine gn 32 ?_
      obtain ⟨p0, hp0⟩ : ∃ p0, p0 = (hedB xs).length := ⟨_, rfl⟩
      rw [← hp0] at hhl hbl hdis ⊢
      refine c_loop (X := Nat × Value × HP) (fun y => [(1, .int .u64 kind), (5, S bs), (8, .int .i64 (p0 + ((blks.take y.1).flatMap secB).length : Nat)), (10, y.2.1)]) (fun y => y.2.2) (fun y => y.1 ≤ blks.length ∧ Osl 56 5 y.2.1 y.1 (cells5 (genE p0 (blks.take y.1))) y.2.2) (fun y => blks.length - y.1) (0, .slice none 0 0, []) ⟨Nat.zero_le _, .nil⟩ aK (.refl _) ?_
      rintro ⟨i, v, HS⟩ ⟨hi0, ho⟩
      simp only at hi0 ho ⊢
      have hlt : ∀ h : i < blks.length, p0 + ((blks.take i).flatMap secB).length + (secB blks[i]).length ≤ bs.length := fun h => by
        have e := congrArg List.length (sflat_split h)
        rw [List.length_append, List.length_append] at e
        omega
      refine gn 9 ?_
      refine c_ifp rfl (fun h6 => ?_) (fun h6 => ?_)
      · have hi3 : i < blks.length := by
          rcases Nat.lt_or_ge i blks.length with h | h
          · exact h
          · rw [List.take_of_length_le h] at h6
            omega
        have hb := hbk blks[i] (List.getElem_mem _)
        have hlti := hlt hi3
        have hcl := cidB_len hb.hx.ht hb.hx.hd
        have hsb : (secB blks[i]).length = (uv ((cidB blks[i].1).length + blks[i].2.length)).length + ((cidB blks[i].1).length + blks[i].2.length) := by simp [secB]
        have hup := uv_pos ((cidB blks[i].1).length + blks[i].2.length)
        have hdrop : bs.drop (p0 + ((blks.take i).flatMap secB).length) = secB blks[i] ++ (blks.drop (i + 1)).flatMap secB := by
          rw [hbs, hp0, ← List.drop_drop, List.drop_left, sflat_split hi3, List.drop_left]
        obtain ⟨p, hp⟩ : ∃ p, p = p0 + ((blks.take i).flatMap secB).length := ⟨_, rfl⟩
        rw [← hp] at hdrop hlti h6 ⊢
        refine gn 8 ?_
        rw [Int.toNat_natCast, hdrop]
        refine oL (lC (seHead_is hb rfl (by rw [← hdrop, List.length_drop]; omega)) rfl .nil) ?_
        rintro ⟨r, H'⟩ ⟨rfl, rfl⟩
        simp only [List.nil_append]
        refine gn 5 ?_
        refine oZ ?_; intro g11 _
        refine oL (l_storea sizeOf25 rfl rfl rfl (by simp [cC, Value.oneCell']) .head (.take (.take (.take (.take .done)))) nofrs0) ?_
        intro _ _
        refine gn 15 ?_
        refine o_splitp 74 rfl (fun h => absurd h (by omega)) (fun _ => ?_)
        refine gn 8 ?_
        refine c_ifp rfl (fun h => absurd h (by omega)) (fun _ => ?_)
        refine gn 8 ?_
        refine oX (eB (cE ⟨blks[i].1.v, blks[i].1.c, blks[i].1.h, blks[i].1.d, ((p : Nat) : Int)⟩)) ?_
        refine oL (l_bs (l := cE ⟨blks[i].1.v, blks[i].1.c, blks[i].1.h, blks[i].1.d, ((p : Nat) : Int)⟩) runUnderlying22 sizeOf56 zeroValue56 rfl rfl rfl rfl (by kernel_rfl)) ?_
        intro g86 _
        refine oL (l_append (sz := 5) (m := 1) (news := cE ⟨blks[i].1.v, blks[i].1.c, blks[i].1.h, blks[i].1.d, ((p : Nat) : Int)⟩) underlying22 (info_of typeInfo56) rfl rfl rfl rfl rfl rfl ho (List.perm_append_comm (l₁ := [_, _]) (l₂ := HS)) (.blk underlying22 (.inl (.head _)) (.take (.take (.take (.take (.take .done))))) (by simp [cE, Value.oneCell'])) (by show _ * 48 ≤ _; omega) (by omega)) ?_
        rintro ⟨v2, HS2⟩ ho2
        simp only at ho2 ⊢
        refine gn 13 ?_
        have hq : p + (((secB blks[i]).length - blks[i].2.length) + blks[i].2.length) = p0 + ((blks.take (i + 1)).flatMap secB).length := by
          rw [sflat_succ hi3, List.length_append]
          omega
        rw [hq]
        refine n_round' (y := (i, v, HS)) (i + 1, v2, HS2) (by show blks.length - (i + 1) < blks.length - i; omega) ⟨by show i + 1 ≤ blks.length; omega, ?_⟩ aK _ (.refl _) (List.sublist_append_left HS2 _)
        show Osl 56 5 v2 (i + 1) (cells5 (genE p0 (blks.take (i + 1)))) HS2
        have hgs : genE p0 (blks.take (i + 1)) = genE p0 (blks.take i) ++ [{ blks[i].1 with o := ((p : Nat) : Int) }] := by
          rw [List.take_succ_eq_append_getElem hi3, genE_snoc, hp]
        rw [hgs]
        simp only [cells5, List.flatMap_append] at ho2 ⊢
        exact ho2
      · skip
        obtain rfl : i = blks.length := by
          rcases Nat.lt_or_ge i blks.length with h | h
          · have h7 := hlt h
            have h8 := uv_pos ((cidB blks[i].1).length + blks[i].2.length)
            simp only [secB, List.length_append] at h7
            omega
          · omega
        rw [List.take_length] at ho ⊢
        have hes := genE_ok (p := p0) hbk (by omega)
        have hens : EnS HS v (genE p0 blks) := rwE (Osl.rw (f := cE) ho (genE_len _ _) (fun _ => rfl))
        refine gn 9 ?_
        refine oL (lJ (HJ := HS) (ixBytes_is hk (hens.mono fun p hp => List.mem_append_right _ hp) hes (by rw [genE_len]; omega) hdis) rfl .nil (fun p hp => hp)) ?_
        rintro ⟨r, H'⟩ ⟨rfl, rfl⟩
        simp only [List.nil_append]
        refine gn 11 ?_
        refine oX (eB [.bool false, .bool true, .bool false, .bool false, .bool false, .bool false, .int .u64 0, .int .u64 0, .int .u64 kind, .int .u64 0, .int .u64 0, .int .u64 0]) ?_
        have hkd : kd kind = kind := by rcases hk with rfl | rfl <;> rfl
        have hmk := ixMake1_is (G := G) (b0 := false) (ib := true) (b2 := false) (b3 := false) (b4 := false) (b5 := false) (a6 := 0) (a7 := 0) (cd := kind) hE hbs (by omega) (by omega) hok (fun b hb => (hbk b hb).hx) (by omega) (by have := headB_len hok; omega) (.inr hk) (by rw [keepE_true, ← hp0]; exact hes) (by rw [keepE_true, ← hp0, hkd]; exact hdis)
        rw [keepE_true, ← hp0, hkd] at hmk
        refine oL (lC hmk rfl .nil) ?_
        rintro ⟨r, H'⟩ ⟨rfl, rfl⟩
        simp only [List.nil_append]
        refine gn 19 ?_
        refine o_split 116 rfl (fun h8 => ?_) (fun h8 => ?_)
        · refine gn 9 ?_
          refine r_fn1 results6 rfl ?_
          exact congrArg Value.bool (decide_eq_true (by omega))
        · skip
          simp at h8
end
end Go.Proofs

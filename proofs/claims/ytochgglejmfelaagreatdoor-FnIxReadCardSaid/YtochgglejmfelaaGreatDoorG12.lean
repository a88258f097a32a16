/- Rows of numbers, sorted in memory: the whole; The parts of an index with codes written; The codes of an index, sorted; An index with codes written; A code as a varint; What stands in an index, as parts; An index, read; Widths and codes stand in order; An index written; impl.IxAgain and impl.IxCodec of an index. (A part of the proof of this: for every input laws.FnIxRead returns true and its arguments read as they did, the listed package variables being what the program lays.) -/
import Derived.Test.YtochgglejmfelaaGreatDoorG02
import Derived.Test.YtochgglejmfelaaGreatDoorG11
import Derived.Test.YtochgglejmfelaaGreatDoorG10
import Derived.Test.YtochgglejmfelaaGreatDoorG08
import Derived.Test.YtochgglejmfelaaGreatDoorG07
import Derived.Test.YtochgglejmfelaaGreatDoorG04
namespace Go.Proofs.A8
open Go Go.Sl Tryz
set_option maxRecDepth 100000
set_option maxHeartbeats 2000000
section
variable {G : HP} {g n cap lo hi : Nat} {rest : List Value}
theorem pdq_is (hf : n ≤ lo ∨ hi = 0) (h1 : n ≤ 255) : ∀ (h : Nat) {l : List Int} {a b : Nat} {lim : Int} (_ : l.length = n) (_ : a ≤ b) (_ : b ≤ n) (_ : b - a = h) (_ : Lb a b l),
    Ctr Tryz.prog 338 [.slice (some ⟨g, 0, none⟩) n cap, .int .i64 a, .int .i64 b, .int .i64 lim] G [(g, VB .u64 l rest 23 lo hi)] (fun r H' => r = .tuple #[] ∧ ∃ l', (PR a b l l' ∧ SR a b l') ∧ H' = [(g, VB .u64 l' rest 23 lo hi)]) := by
  intro h
  induction h using Nat.strongRecOn with
  | ind h ih =>
  intro l a b lim hn hab hb hh hlb
  refine fn_enter 134 func338 rfl ntmps338 rfl ?_
  intro w0
  refine cR <| oA rfl <| oN <| cR <| oA rfl <| oN <| c_block ?_
  refine c_loop (X := List Int × Nat × Nat × Int × Bool × Bool) (fun y => [(0, .slice (some ⟨g, 0, none⟩) n cap), (1, .int .i64 y.2.1), (2, .int .i64 y.2.2.1), (3, .int .i64 y.2.2.2.1), (8, .bool y.2.2.2.2.1), (9, .bool y.2.2.2.2.2)]) (fun y => [(g, VB .u64 y.1 rest 23 lo hi)]) (fun y => PR a b l y.1 ∧ Fin a b y.2.1 y.2.2.1 y.1 ∧ Lb y.2.1 y.2.2.1 y.1 ∧ a ≤ y.2.1 ∧ y.2.1 ≤ y.2.2.1 ∧ y.2.2.1 ≤ b) (fun y => y.2.2.1 - y.2.1) (l, a, b, lim, true, true) ⟨.refl, .start, hlb, Nat.le_refl _, hab, Nat.le_refl _⟩ (sub_cons rfl (sub_cons rfl (sub_cons rfl (sub_cons rfl (sub_cons rfl (sub_cons rfl sub_nil)))))) (.refl _) ?_
  clear lim hlb
  rintro ⟨m, a', b', lim, bl, bp⟩ ⟨hm, hfin, hlb, ha, hab', hb'⟩
  simp only at hm hfin hlb ha hab' hb' ⊢
  have hl := hm.len
  refine c_block <| cR <| oM rfl <| oM rfl <| oX (e_subN rfl rfl (by omega)) <| oA rfl <| oN <| c_seq <| cR <| oM rfl <| oX (e_leq rfl rfl) <| oN ?_
  refine c_ifp rfl (fun h2 => ?_) (fun h2 => ?_)
  · refine cR <| oM rfl <| oM rfl <| oM rfl ?_
    refine o_l rfl (l_call call351 (ins_is (hl.trans hn) hf (by omega) hab' (by omega)) rfl rfl (.cons .head .nil)) ?_
    rintro ⟨r, H'⟩ ⟨rfl, m', ⟨hp, hs⟩, rfl⟩
    simp only [List.cons_append, List.nil_append]
    refine oN <| c_ret ?_
    refine r_fn0 results338 ?_
    exact ⟨rfl, m', ⟨hm.trans (hp.mono ha hb' (by omega)), hfin m' hp hs⟩, rfl⟩
  · skip
    refine c_skip <| n_code <| c_seq <| cR <| oM rfl <| oX (e_eql rfl rfl) <| oN ?_
    refine c_ifp rfl (fun h3 => ?_) (fun h3 => ?_)
    · refine cR <| oM rfl <| oM rfl <| oM rfl ?_
      refine o_l rfl (l_call call352 (heap_is (hl.trans hn) hf (by omega) (by omega) (by omega)) rfl rfl (.cons .head .nil)) ?_
      rintro ⟨r, H'⟩ ⟨rfl, m', ⟨hp, hs⟩, rfl⟩
      simp only [List.cons_append, List.nil_append]
      refine oN <| c_ret ?_
      refine r_fn0 results338 ?_
      exact ⟨rfl, m', ⟨hm.trans (hp.mono ha hb' (by omega)), hfin m' hp hs⟩, rfl⟩
    · skip
      have h12 : 12 < b' - a' := by omega
      clear h2 h3
      refine c_skip <| n_code <| c_seq ?_
      refine c_cut (X := List Int × Int) (fun y => [(0, .slice (some ⟨g, 0, none⟩) n cap), (1, .int .i64 a'), (2, .int .i64 b'), (3, .int .i64 y.2), (8, .bool bl), (9, .bool bp), (10, .int .i64 (b' - a' : Nat))]) (fun y => [(g, VB .u64 y.1 rest 23 lo hi)]) (fun y => PR a' b' m y.1) ?_ ?_
      · skip
        refine cR <| oM rfl <| oX (e_not rfl) <| oN ?_
        refine c_if rfl (fun h4 => ?_) (fun h4 => ?_)
        · refine cR <| oM rfl <| oM rfl <| oM rfl ?_
          refine o_l rfl (l_call call353 (brk_is (hl.trans hn) hf h1 (by omega) (by omega)) rfl rfl (.cons .head .nil)) ?_
          rintro ⟨r, H'⟩ ⟨rfl, m', hp, rfl⟩
          simp only [List.cons_append, List.nil_append]
          refine oN <| c_region <| oM rfl <| oX (e_sub rfl rfl) <| oA rfl <| o_nil ?_
          exact n_cut (m', _) hp (sub_cons rfl (sub_cons rfl (sub_cons rfl (sub_cons rfl (sub_cons rfl (sub_cons rfl (sub_cons rfl sub_nil))))))) (.refl _)
        · skip
          refine c_skip ?_
          exact n_cut (m, lim) .refl (sub_cons rfl (sub_cons rfl (sub_cons rfl (sub_cons rfl (sub_cons rfl (sub_cons rfl (sub_cons rfl sub_nil))))))) (.refl _)
      · rintro ⟨m1, lim1⟩ hp1
        simp only at hp1 ⊢
        replace hm : PR a b l m1 := hm.trans (hp1.mono ha hb' (by omega))
        replace hfin := hfin.pr hp1
        replace hlb := hlb.pr hp1 (Nat.le_refl _) (Nat.le_refl _)
        replace hl : m1.length = l.length := hm.len
        clear hp1
        refine n_code <| cR <| oM rfl <| oM rfl <| oM rfl ?_
        refine o_l rfl (l_call call354 (piv_is (hl.trans hn) (by omega) (by omega) (by omega)) rfl rfl (.cons .head .nil)) ?_
        rintro ⟨r, H'⟩ ⟨p, z, rfl, hp, rfl⟩
        simp only [List.cons_append, List.nil_append]
        refine oM rfl <| oX (e_extract rfl rfl) <| oX (e_extract rfl rfl) <| oA rfl <| oA rfl <| oN <| c_seq ?_
        refine c_cut (X := List Int × Nat × Int) (fun y => [(0, .slice (some ⟨g, 0, none⟩) n cap), (1, .int .i64 a'), (2, .int .i64 b'), (3, .int .i64 lim1), (8, .bool bl), (9, .bool bp), (10, .int .i64 (b' - a' : Nat)), (11, .int .i64 y.2.1), (12, .int .i64 y.2.2)]) (fun y => [(g, VB .u64 y.1 rest 23 lo hi)]) (fun y => PR a' b' m1 y.1 ∧ a' ≤ y.2.1 ∧ y.2.1 < b') ?_ ?_
        · skip
          refine cR <| oM rfl <| oX (e_eql rfl rfl) <| oN ?_
          refine c_ifp rfl (fun h4 => ?_) (fun h4 => ?_)
          · refine cR <| oM rfl <| oM rfl <| oM rfl ?_
            refine o_l rfl (l_call call355 (rev_is (hl.trans hn) hf (by omega) (by omega) (by omega)) rfl rfl (.cons .head .nil)) ?_
            rintro ⟨r, H'⟩ ⟨rfl, m', hp', rfl⟩
            simp only [List.cons_append, List.nil_append]
            refine oN <| cR <| oM rfl <| oX (e_sub1 rfl rfl (by omega)) <| oM rfl <| oM rfl <| oX (e_subN rfl rfl (by omega)) <| oX (e_subN rfl rfl (by omega)) <| oA rfl <| oN <| c_region <| oA rfl <| o_nil ?_
            exact n_cut (m', b' - 1 - (p - a'), 1) ⟨hp', by show a' ≤ b' - 1 - (p - a'); omega, by show b' - 1 - (p - a') < b'; omega⟩ (sub_cons rfl (sub_cons rfl (sub_cons rfl (sub_cons rfl (sub_cons rfl (sub_cons rfl (sub_cons rfl (sub_cons rfl (sub_cons rfl sub_nil))))))))) (.refl _)
          · skip
            refine c_skip ?_
            exact n_cut (m1, p, z) ⟨.refl, hp⟩ (sub_cons rfl (sub_cons rfl (sub_cons rfl (sub_cons rfl (sub_cons rfl (sub_cons rfl (sub_cons rfl (sub_cons rfl (sub_cons rfl sub_nil))))))))) (.refl _)
        · clear hp p z
          rintro ⟨m2, p, z⟩ ⟨hp1, hp⟩
          simp only at hp1 hp ⊢
          replace hm : PR a b l m2 := hm.trans (hp1.mono ha hb' (by omega))
          replace hfin := hfin.pr hp1
          replace hlb := hlb.pr hp1 (Nat.le_refl _) (Nat.le_refl _)
          replace hl : m2.length = l.length := hm.len
          clear hp1
          refine n_code <| c_seq ?_
          refine c_cut (X := List Int) (fun _ => [(0, .slice (some ⟨g, 0, none⟩) n cap), (1, .int .i64 a'), (2, .int .i64 b'), (3, .int .i64 lim1), (8, .bool bl), (9, .bool bp), (10, .int .i64 (b' - a' : Nat)), (11, .int .i64 p)]) (fun m => [(g, VB .u64 m rest 23 lo hi)]) (fun m => PR a' b' m2 m) ?_ ?_
          · skip
            refine cR <| oM rfl <| oM rfl ?_
            refine o_split 62 rfl (fun h4 => ?_) (fun h4 => ?_)
            · refine oM rfl <| oX (e_pick_t rfl rfl) <| oM rfl ?_
              refine o_split 65 rfl (fun h5 => ?_) (fun h5 => ?_)
              · refine oM rfl <| oX (e_eql rfl rfl) <| oX (e_pick_t rfl rfl) <| oN ?_
                refine c_ifp rfl (fun h6 => ?_) (fun h6 => ?_)
                · refine cR <| oM rfl <| oM rfl <| oM rfl ?_
                  refine o_l rfl (l_call call356 (part_is (hl.trans hn) hf (by omega) (by omega) (by omega) hlb) rfl rfl (.cons .head .nil)) ?_
                  rintro ⟨r, H'⟩ ⟨t, m', rfl, hp', hs', rfl⟩
                  simp only [List.cons_append, List.nil_append]
                  refine oN ?_
                  refine c_if rfl (fun h7 => ?_) (fun h7 => ?_)
                  · refine c_ret ?_
                    refine r_fn0 results338 ?_
                    exact ⟨rfl, m', ⟨hm.trans (hp'.mono ha hb' (by omega)), hfin m' hp' (hs' h7)⟩, rfl⟩
                  · skip
                    refine c_skip ?_
                    exact n_cut m' hp' (sub_cons rfl (sub_cons rfl (sub_cons rfl (sub_cons rfl (sub_cons rfl (sub_cons rfl (sub_cons rfl (sub_cons rfl sub_nil)))))))) (.refl _)
                · skip
                  refine c_skip ?_
                  exact n_cut m2 .refl (sub_cons rfl (sub_cons rfl (sub_cons rfl (sub_cons rfl (sub_cons rfl (sub_cons rfl (sub_cons rfl (sub_cons rfl sub_nil)))))))) (.refl _)
              · skip
                refine oS <| oS <| oX (e_pick_f rfl rfl) <| oN <| c_else rfl <| c_skip ?_
                exact n_cut m2 .refl (sub_cons rfl (sub_cons rfl (sub_cons rfl (sub_cons rfl (sub_cons rfl (sub_cons rfl (sub_cons rfl (sub_cons rfl sub_nil)))))))) (.refl _)
            · skip
              refine oS <| oX (e_pick_f rfl rfl) <| oM rfl <| oS <| oS <| oX (e_pick_f rfl rfl) <| oN <| c_else rfl <| c_skip ?_
              exact n_cut m2 .refl (sub_cons rfl (sub_cons rfl (sub_cons rfl (sub_cons rfl (sub_cons rfl (sub_cons rfl (sub_cons rfl (sub_cons rfl sub_nil)))))))) (.refl _)
          · rintro m3 hp1
            replace hm : PR a b l m3 := hm.trans (hp1.mono ha hb' (by omega))
            replace hfin := hfin.pr hp1
            replace hlb := hlb.pr hp1 (Nat.le_refl _) (Nat.le_refl _)
            replace hl : m3.length = l.length := hm.len
            clear hp1
            refine n_code <| c_seq <| c_seq <| cQ <| qM rfl <| qX (e_gtr rfl rfl) <| qM rfl ?_
            refine q_splitp 75 rfl (fun h4 => ?_) (fun h4 => ?_)
            · refine qM rfl <| qM rfl <| qX (e_sub1 rfl rfl (by omega)) <| qX (e_ian runUnderlying29 sizeOf23 rfl rfl (by omega)) <| qX (e_ld isAgg23 rfl (.inl M0) (by omega)) <| qM rfl <| qM rfl <| qX (e_ian runUnderlying29 sizeOf23 rfl rfl (by omega)) <| qX (e_ld isAgg23 rfl (.inl M0) (by omega)) <| q_pure rfl call357 (less_is) rfl rfl <| qX (e_not rfl) <| qX (e_pick_t rfl rfl) <| qN ?_
              refine c_if rfl (fun h5 => ?_) (fun h5 => ?_)
              · have h5' : ¬ gd m3 (a' - 1) < gd m3 p := by simpa using h5
                refine cR <| oM rfl <| oM rfl <| oM rfl <| oM rfl ?_
                refine o_l rfl (l_call call358 (peq_is (p := p) (hl.trans hn) hf (by omega) hp.1 hp.2 (by omega)) rfl rfl (.cons .head .nil)) ?_
                rintro ⟨r, H'⟩ ⟨mid, m4, rfl, hp1, hpe, hga, rfl⟩
                simp only [List.cons_append, List.nil_append]
                have k1 := hpe.am
                have k2 := hpe.mb
                have hmin : ∀ i, a' ≤ i → i < b' → gd m4 a' ≤ gd m4 i := by
                  have hlo : ∀ i, a' ≤ i → i < b' → gd m3 p ≤ gd m3 i := fun i i1 i2 => by
                    rcases hlb with h | h
                    · omega
                    · exact Int.le_trans (Int.not_lt.1 h5') (h i i1 i2)
                  have := hp1.all (p := fun z => gd m3 p ≤ z) hlo
                  intro i i1 i2
                  rw [hga]
                  exact this i i1 i2
                refine oA rfl <| oN <| cR <| oM rfl <| oA rfl <| oN ?_
                refine c_exit ?_; refine x_code ?_; refine x_here ?_
                refine n_round' (y := (m, a', b', lim, bl, bp)) (m4, mid, b', lim1, bl, bp) (by show b' - mid < b' - a'; omega) ?_ (sub_cons rfl (sub_cons rfl (sub_cons rfl (sub_cons rfl (sub_cons rfl (sub_cons rfl sub_nil)))))) _ (.refl _) (List.Sublist.refl _)
                have hm4 : PR a b l m4 := hm.trans (hp1.mono ha hb' (by omega))
                exact ⟨hm4, hpe.all (hfin.pr hp1) hmin (by have := hm4.len; omega), hpe.lb, by show a ≤ mid; omega, k2, hb'⟩
              · skip
                refine c_skip <| n_code <| cR <| oM rfl <| oM rfl <| oM rfl <| oM rfl ?_
                refine o_l rfl (l_call call359 (part2_is (p := p) (hl.trans hn) hf (by omega) hp.1 hp.2 (by omega)) rfl rfl (.cons .head .nil)) ?_
                rintro ⟨r, H'⟩ ⟨mid, t, m4, rfl, hp1, hpt, rfl⟩
                simp only [List.cons_append, List.nil_append]
                have k1 := hpt.am
                have k2 := hpt.mb
                have hm4 : PR a b l m4 := hm.trans (hp1.mono ha hb' (by omega))
                have hfin4 := hfin.pr hp1
                have hlb4 := hlb.pr hp1 (Nat.le_refl _) (Nat.le_refl _)
                have hl4 : m4.length = l.length := hm4.len
                refine oM rfl <| oX (e_extract rfl rfl) <| oX (e_extract rfl rfl) <| oA rfl <| oA rfl <| oN <| cR <| oM rfl <| oA rfl <| oN <| cR <| oM rfl <| oM rfl <| oX (e_subN rfl rfl (by omega)) <| oM rfl <| oM rfl <| oX (e_subN rfl rfl (by omega)) <| oA rfl <| oA rfl <| oN <| cR <| oM rfl <| oX (e_quon rfl rfl (by omega) (by omega) (by simp only [inR]; omega)) <| oA rfl <| oN <| cR <| oM rfl <| oM rfl <| oX (e_lss rfl rfl) <| oN ?_
                refine c_ifp rfl (fun h6 => ?_) (fun h6 => ?_)
                · refine cR <| oM rfl <| oM rfl <| oX (e_geq rfl rfl) <| oA rfl <| oN <| cR <| oM rfl <| oM rfl <| oM rfl <| oM rfl ?_
                  refine o_l rfl (l_call call338 (ih (mid - a') (by omega) (a := a') (b := mid) (hl4.trans hn) k1 (by omega) rfl (hlb4.less (by omega))) rfl rfl (.cons .head .nil)) ?_
                  rintro ⟨r, H'⟩ ⟨rfl, m5, ⟨hp5, hs5⟩, rfl⟩
                  simp only [List.cons_append, List.nil_append]
                  refine oN <| c_region <| oM rfl <| oX (e_addn rfl rfl (by simp only [inR]; omega)) <| oA rfl <| o_nil <| n_block ?_
                  have hq5 : PR a' b' m4 m5 := hp5.mono (Nat.le_refl _) (by omega) (by omega)
                  refine n_round' (y := (m, a', b', lim, bl, bp)) (m5, mid + 1, b', lim1, _, _) (by show b' - (mid + 1) < b' - a'; omega) ?_ (sub_cons rfl (sub_cons rfl (sub_cons rfl (sub_cons rfl (sub_cons rfl (sub_cons rfl sub_nil)))))) _ (.refl _) (List.Sublist.refl _)
                  exact ⟨hm4.trans (hq5.mono ha hb' (by omega)), hpt.left hfin4 hp5 hs5 (by omega), (hpt.keepl hp5).lbr, by show a ≤ mid + 1; omega, by show mid + 1 ≤ b'; omega, hb'⟩
                · skip
                  refine cR <| oM rfl <| oM rfl <| oX (e_geq rfl rfl) <| oA rfl <| oN <| cR <| oM rfl <| oM rfl <| oX (e_addn rfl rfl (by simp only [inR]; omega)) <| oM rfl <| oM rfl ?_
                  refine o_l rfl (l_call call338 (ih (b' - (mid + 1)) (by omega) (a := mid + 1) (b := b') (hl4.trans hn) (by omega) (by omega) rfl hpt.lbr) rfl rfl (.cons .head .nil)) ?_
                  rintro ⟨r, H'⟩ ⟨rfl, m5, ⟨hp5, hs5⟩, rfl⟩
                  simp only [List.cons_append, List.nil_append]
                  refine oN <| c_region <| oM rfl <| oA rfl <| o_nil <| n_block ?_
                  have hq5 : PR a' b' m4 m5 := hp5.mono (by omega) (Nat.le_refl _) (by omega)
                  refine n_round' (y := (m, a', b', lim, bl, bp)) (m5, a', mid, lim1, _, _) (by show mid - a' < b' - a'; omega) ?_ (sub_cons rfl (sub_cons rfl (sub_cons rfl (sub_cons rfl (sub_cons rfl (sub_cons rfl sub_nil)))))) _ (.refl _) (List.Sublist.refl _)
                  exact ⟨hm4.trans (hq5.mono ha hb' (by omega)), hpt.right hfin4 hp5 hs5 (by omega), (hlb4.pr hq5 (Nat.le_refl _) (Nat.le_refl _)).less (by show mid ≤ b'; omega), ha, k1, by show mid ≤ b; omega⟩
            · skip
              refine qS <| qS <| qS <| qS <| qS <| qS <| qS <| qS <| qS <| qS <| qS <| qX (e_pick_f rfl rfl) <| qN <| cL rfl <| cR <| oM rfl <| oM rfl <| oM rfl <| oM rfl ?_
              refine o_l rfl (l_call call359 (part2_is (p := p) (hl.trans hn) hf (by omega) hp.1 hp.2 (by omega)) rfl rfl (.cons .head .nil)) ?_
              rintro ⟨r, H'⟩ ⟨mid, t, m4, rfl, hp1, hpt, rfl⟩
              simp only [List.cons_append, List.nil_append]
              have k1 := hpt.am
              have k2 := hpt.mb
              have hm4 : PR a b l m4 := hm.trans (hp1.mono ha hb' (by omega))
              have hfin4 := hfin.pr hp1
              have hlb4 := hlb.pr hp1 (Nat.le_refl _) (Nat.le_refl _)
              have hl4 : m4.length = l.length := hm4.len
              refine oM rfl <| oX (e_extract rfl rfl) <| oX (e_extract rfl rfl) <| oA rfl <| oA rfl <| oN <| cR <| oM rfl <| oA rfl <| oN <| cR <| oM rfl <| oM rfl <| oX (e_subN rfl rfl (by omega)) <| oM rfl <| oM rfl <| oX (e_subN rfl rfl (by omega)) <| oA rfl <| oA rfl <| oN <| cR <| oM rfl <| oX (e_quon rfl rfl (by omega) (by omega) (by simp only [inR]; omega)) <| oA rfl <| oN <| cR <| oM rfl <| oM rfl <| oX (e_lss rfl rfl) <| oN ?_
              refine c_ifp rfl (fun h6 => ?_) (fun h6 => ?_)
              · refine cR <| oM rfl <| oM rfl <| oX (e_geq rfl rfl) <| oA rfl <| oN <| cR <| oM rfl <| oM rfl <| oM rfl <| oM rfl ?_
                refine o_l rfl (l_call call338 (ih (mid - a') (by omega) (a := a') (b := mid) (hl4.trans hn) k1 (by omega) rfl (hlb4.less (by omega))) rfl rfl (.cons .head .nil)) ?_
                rintro ⟨r, H'⟩ ⟨rfl, m5, ⟨hp5, hs5⟩, rfl⟩
                simp only [List.cons_append, List.nil_append]
                refine oN <| c_region <| oM rfl <| oX (e_addn rfl rfl (by simp only [inR]; omega)) <| oA rfl <| o_nil <| n_block ?_
                have hq5 : PR a' b' m4 m5 := hp5.mono (Nat.le_refl _) (by omega) (by omega)
                refine n_round' (y := (m, a', b', lim, bl, bp)) (m5, mid + 1, b', lim1, _, _) (by show b' - (mid + 1) < b' - a'; omega) ?_ (sub_cons rfl (sub_cons rfl (sub_cons rfl (sub_cons rfl (sub_cons rfl (sub_cons rfl sub_nil)))))) _ (.refl _) (List.Sublist.refl _)
                exact ⟨hm4.trans (hq5.mono ha hb' (by omega)), hpt.left hfin4 hp5 hs5 (by omega), (hpt.keepl hp5).lbr, by show a ≤ mid + 1; omega, by show mid + 1 ≤ b'; omega, hb'⟩
              · skip
                refine cR <| oM rfl <| oM rfl <| oX (e_geq rfl rfl) <| oA rfl <| oN <| cR <| oM rfl <| oM rfl <| oX (e_addn rfl rfl (by simp only [inR]; omega)) <| oM rfl <| oM rfl ?_
                refine o_l rfl (l_call call338 (ih (b' - (mid + 1)) (by omega) (a := mid + 1) (b := b') (hl4.trans hn) (by omega) (by omega) rfl hpt.lbr) rfl rfl (.cons .head .nil)) ?_
                rintro ⟨r, H'⟩ ⟨rfl, m5, ⟨hp5, hs5⟩, rfl⟩
                simp only [List.cons_append, List.nil_append]
                refine oN <| c_region <| oM rfl <| oA rfl <| o_nil <| n_block ?_
                have hq5 : PR a' b' m4 m5 := hp5.mono (by omega) (Nat.le_refl _) (by omega)
                refine n_round' (y := (m, a', b', lim, bl, bp)) (m5, a', mid, lim1, _, _) (by show mid - a' < b' - a'; omega) ?_ (sub_cons rfl (sub_cons rfl (sub_cons rfl (sub_cons rfl (sub_cons rfl (sub_cons rfl sub_nil)))))) _ (.refl _) (List.Sublist.refl _)
                exact ⟨hm4.trans (hq5.mono ha hb' (by omega)), hpt.right hfin4 hp5 hs5 (by omega), (hlb4.pr hq5 (Nat.le_refl _) (Nat.le_refl _)).less (by show mid ≤ b'; omega), ha, k1, by show mid ≤ b; omega⟩
theorem sort_is {l : List Int} (hn : l.length = n) (hf : n ≤ lo ∨ hi = 0) (h1 : n ≤ 255) :
    Ctr Tryz.prog 327 [.slice (some ⟨g, 0, none⟩) n cap] G [(g, VB .u64 l rest 23 lo hi)] (fun r H' => r = .tuple #[] ∧ H' = [(g, VB .u64 (srt l) rest 23 lo hi)]) := by
  refine fn_enter 11 func327 rfl ntmps327 rfl ?_
  intro w0
  refine cR <| oM rfl <| oX (e_lenl runUnderlying29 rfl) <| oA rfl <| oN <| c_region <| oM rfl <| oM rfl <| oM rfl <| oX (e_convn runUnderlying3 runUnderlying131 rfl (by simp only [inR]; omega)) <| o_pure rfl call66 (len_is (x := n) (by omega)) rfl rfl ?_
  refine o_l rfl (l_call call338 (pdq_is hf h1 n (a := 0) (b := n) hn (Nat.zero_le _) (Nat.le_refl _) (by omega) (.inl rfl)) rfl rfl (.cons .head .nil)) ?_
  rintro ⟨r, H'⟩ ⟨rfl, l', ⟨hp, hs⟩, rfl⟩
  simp only [List.cons_append, List.nil_append]
  refine o_nil ?_
  refine n_fn0 results327 ?_
  exact ⟨rfl, by rw [srt_of hp hs hn]⟩
end
end Go.Proofs.A8
namespace Go.Proofs
open Go Go.Sl Tryz
set_option maxRecDepth 100000
set_option maxHeartbeats 1000000
section
variable {G : HP} {gb : Nat} {bs : List UInt8} {HB : HP} {lr : Int} {v : Value}
theorem mwcM_is {m : Mcode} (hb : Bb v bs HB) (hm : ∀ p ∈ m.hp, p ∈ G) (hlen : m.ts.length ≤ 200) (h2 : bs.length + (pcB m.un).length < 268435456) (hok : ∀ t ∈ m.ts, PartOk t.2) (hso : (m.ts.map fun t => t.2.1).Pairwise (· ≤ ·)) (hkn : (m.ts.map fun t => t.2.1).Nodup) :
    Ctr Tryz.prog 320 [.pointer (some ⟨m.gc, 0, none⟩), .iface 89 (.pointer (some ⟨gb, 0, none⟩))] G ((gb, Bu v lr) :: HB) (fun r H' => ∃ (z : Int) (v' : Value) (HB' : HP), r = .tuple #[.int .u64 z, .nilIface] ∧ Bb v' (bs ++ pcB m.un) HB' ∧ H' = (gb, Bu v' 0) :: HB') := by
  obtain ⟨gc, gx, code, ts⟩ := m
  have hg : (gc, C [.map (some gx), .int .u64 code] 437) ∈ G := hm _ (.head _)
  have hx : (gx, Mo .u32 (MV ts)) ∈ G := hm _ (.tail _ (.head _))
  have ht : ∀ p ∈ MB ts, p ∈ G := fun p hp => hm p (.tail _ (.tail _ hp))
  simp only [pcB_length, Mcode.un] at h2
  refine fn_enter 29 func320 rfl ntmps320 rfl ?_
  intro w0
  refine cR <| oA rfl <| oA rfl <| oN <| c_seq <| cR <| oM rfl <| oM rfl <| oC rfl <| oX (e_fak 1 runUnderlying437 rfl sizeOf23 rfl rfl rfl) ?_
  refine oX (e_load isAgg23 rfl (.inr (by assumption)) rfl) ?_
  refine o_l rfl (l_call call328 (w64_is (k := code) hb (by omega)) rfl rfl (.cons .head (by simpa using Sel.app HB []))) ?_
  rintro ⟨r, H'⟩ ⟨rfl, v1, HB1, hb1, rfl⟩
  simp only [List.cons_append, List.append_nil]
  refine oA rfl <| oN <| cR <| oM rfl <| oX (e_nnen runUnderlying80 rfl) <| oN <| cL rfl <| cR <| oM rfl <| oC rfl <| oX (e_fak 0 runUnderlying437 rfl sizeOf327 rfl rfl rfl) <| oM rfl ?_
  refine o_l rfl (l_call call329 (mwiM_is hb1 hg hx ht hlen (by simp only [List.length_append, lowB_length]; omega) hok hso hkn) rfl rfl (.cons .head (by simpa using Sel.app HB1 []))) ?_
  rintro ⟨r, H'⟩ ⟨z, v2, HB2, rfl, hb2, rfl⟩
  simp only [List.cons_append, List.append_nil]
  refine oM rfl <| oX (e_extract rfl rfl) <| oX (e_extract rfl rfl) <| oA rfl <| oA rfl <| oN <| cR <| oM rfl <| oX (e_add rfl rfl) <| oM rfl <| oA rfl <| oA rfl <| oN <| c_ret ?_
  refine r_fn (l := [.tmp 4, .tmp 5]) results320 rfl rfl ?_
  refine ⟨_, v2, HB2, rfl, ?_, rfl⟩
  simpa [pcB, Mcode.un] using hb2
end
end Go.Proofs
namespace Go.Proofs
open Go Go.Sl Tryz
set_option maxRecDepth 100000
set_option maxHeartbeats 1000000
section
variable {G : HP} {gm gX em : Nat} {zs : List Value} {ms : List Mcode}
theorem codesM_is (hm : (gm, C (.map (some gX) :: zs) em) ∈ G) (hx : (gX, Mo .u64 (KV ms)) ∈ G) (hlen : ms.length ≤ 200) (hso : (ms.map fun t => t.code).Pairwise (· ≤ ·)) :
    Ctr Tryz.prog 319 [.pointer (some ⟨gm, 0, none⟩)] G [] (fun r H' => ∃ (g cap lo hi : Nat) (rest : List Value), r = .slice (some ⟨g, 0, none⟩) ms.length cap ∧ H' = [(g, VB .u64 (ms.map fun t => (t.code : Int)) rest 23 lo hi)]) := by
  have hMl : (KV ms).length = ms.length := by simp [KV]
  refine fn_enter 25 func319 rfl ntmps319 rfl ?_
  intro w0
  refine cR <| oA rfl <| oN <| cR <| oM rfl <| oC rfl ?_
  refine oX (e_load isAgg330 rfl (.inr (by assumption)) rfl) ?_
  refine oX (e_lenm runUnderlying330 rfl (.inr (by assumption))) ?_
  rw [hMl]
  refine o_l rfl (l_mks (l := List.replicate ms.length (.int .u64 0)) underlying29 (info_of typeInfo23) rfl rfl rfl rfl (by decide) (by omega) (by show (8 : Int) * _ ≤ _; omega) (by omega) (made_one (.int .u64 0) ms.length rfl)) ?_
  intro g8 _
  refine oA rfl <| oN <| c_seq <| cR <| oM rfl <| oC rfl ?_
  refine oX (e_load isAgg330 rfl (.inr (by assumption)) rfl) ?_
  refine o_l rfl (l_range runUnderlying330 rfl rfl (.inr hx)) ?_
  intro it _
  refine oN <| c_block ?_
  refine c_loop (X := Value × HP × List Nat) (fun y => [(0, .pointer (some ⟨gm, 0, none⟩)), (3, y.1), (13, .pointer (some ⟨it, 0, none⟩))]) (fun y => (it, Io gX (KV ms).length y.2.2) :: (y.2.1 ++ [])) (fun y => (∃ A n c, y.1 = .slice (some A) n c) ∧ Osl 23 1 y.1 y.2.2.length (V .u64 (y.2.2.map fun i => ((ms.map fun t => t.code).getD i 0 : Nat))) y.2.1 ∧ y.2.2.Nodup ∧ ∀ i ∈ y.2.2, i < ms.length) (fun y => ms.length - y.2.2.length) (.slice (some ⟨g8, 0, none⟩) 0 ms.length, [(g8, C (List.replicate ms.length (.int .u64 0)) 23)], []) ⟨⟨_, _, _, rfl⟩, .own (xs := []) rfl (by simp) (Nat.zero_le _) (by omega) (.inr rfl), .nil, by simp⟩ (sub_cons rfl (sub_cons rfl (sub_cons rfl sub_nil))) (.refl _) ?_
  rintro ⟨u, HU, seen⟩ ⟨hu, ho, hnd, hlt⟩
  simp only at hu ho hnd hlt ⊢
  refine cR ?_
  refine o_l rfl (l_next rfl rfl (.inr hx) (fun sn => .head)) ?_
  rintro (_ | i) hy
  · simp only [stepOk, stepV] at hy ⊢
    refine oX (e_extract rfl rfl) <| oN <| c_seq <| c_else rfl ?_
    refine c_exit ?_; refine x_code ?_; refine x_upto ?_; refine x_here ?_
    refine n_code <| cR <| oM rfl ?_
    have hkl : seen.length ≤ ms.length := nodup_bound hnd hlt
    have hks := keys_srt (ks := ms.map fun t => t.code) hnd (fun i hi => by simpa using hlt i hi) (fun i hi => hy i (by simpa [hMl] using hi)) hso
    generalize hacc : (seen.map fun i => ((ms.map fun t => t.code).getD i 0 : Nat) : List Int) = acc at ho hks
    have hal : acc.length = seen.length := by rw [← hacc]; simp
    have hat : acc.length = ms.length := by have := congrArg List.length hks; simpa [srt_length] using this
    rw [← hal] at ho
    rcases ho.openV with ⟨rfl, _, _⟩ | ⟨g, cap, rest, lo, hi', rfl, rfl, hr1, hr2, hr3, hr4⟩
    · obtain ⟨A, n, c, hu⟩ := hu
      cases hu
    · refine o_l rfl (l_call call327 (A8.sort_is (l := acc) (n := acc.length) rfl (by omega) (by omega)) rfl rfl (.cons (.tail .head) .nil)) ?_
      rintro ⟨r, H'⟩ ⟨rfl, rfl⟩
      simp only [List.cons_append, List.nil_append]
      rw [hks]
      refine oN <| cR <| oM rfl <| oA rfl <| oN <| c_ret ?_
      refine WR.sel (.cons .head .nil) ?_
      refine r_fn1 results319 rfl ?_
      exact ⟨g, cap, lo, hi', rest, by rw [hat], by simp⟩
  · obtain ⟨hi, hni⟩ : i < (KV ms).length ∧ i ∉ seen := hy
    have hq : (KV ms)[i]? = some (KV ms)[i] := List.getElem?_eq_getElem hi
    have hst : stepV .u64 (KV ms) (some i) = .tuple #[.bool true, .int .u64 (KV ms)[i].1, (KV ms)[i].2] := by simp [stepV, hq]
    rw [hst]
    refine oX (e_extract rfl rfl) <| oN <| c_seq <| c_then rfl <| c_skip <| n_code <| c_block <| cR <| oX (e_entry (j := i) (seen := seen) rfl (.inl M0) (.inr hx) hq) <| oX (e_extract rfl rfl) <| oA rfl <| oN <| c_region <| oM rfl <| oM rfl ?_
    refine o_l rfl (l_bs1 runUnderlying29 sizeOf23 zeroValue23 rfl rfl rfl) ?_; intro g20 _
    have hlt' : seen.length < ms.length := by
      have := nodup_bound (n := ms.length) (l := i :: seen) (List.nodup_cons.2 ⟨hni, hnd⟩) (fun j hj => by
        rcases List.mem_cons.1 hj with rfl | hj
        · rw [← hMl]; exact hi
        · exact hlt j hj)
      exact Nat.lt_of_succ_le (by simpa using this)
    refine o_l rfl (l_append (sz := 1) underlying29 (info_of typeInfo23) rfl rfl rfl rfl rfl rfl ho (perm_mid [_, _] HU _) (.blk underlying29 (.inl M0) (.take .done) (by simp [Value.oneCell'])) (by show _ * 8 ≤ _; omega) (by omega)) ?_
    rintro ⟨v2, HB2⟩ ho2
    refine oA rfl <| o_nil <| n_block ?_
    refine n_round' (y := (u, HU, seen)) (v2, HB2, seen ++ [i]) (by show ms.length - (seen ++ [i]).length < ms.length - seen.length; simp; omega) ?_ (sub_cons rfl (sub_cons rfl (sub_cons rfl sub_nil))) _ (perm_mid HB2 [_, _] _) ?_
    · obtain ⟨g, cap, rest, lo, hi', rfl, _⟩ := Osl.open_ ho2 (Nat.succ_pos _)
      refine ⟨⟨_, _, _, rfl⟩, ?_, ?_, ?_⟩
      · have hi2 : i < ms.length := hMl ▸ hi
        simpa [KV, List.getD, hi2] using ho2
      · rw [List.nodup_append]
        exact ⟨hnd, by simp, fun a ha b hb e => by simp at hb; subst hb; subst e; exact hni ha⟩
      · intro j hj
        rcases List.mem_append.1 hj with hj | hj
        · exact hlt j hj
        · rw [List.mem_singleton.1 hj, ← hMl]; exact hi
    · exact List.sublist_cons_self _ _
end
end Go.Proofs
namespace Go.Proofs
open Go Go.Sl Tryz
set_option maxRecDepth 100000
set_option maxHeartbeats 1000000
theorem KV_get : ∀ {ms : List Mcode}, (ms.map fun t => t.code).Nodup → ∀ t ∈ ms, mget (KV ms) (t.code : Nat) = some (.pointer (some ⟨t.gc, 0, none⟩))
  | [], _, t, ht => by cases ht
  | t0 :: ms, hd, t, ht => by
    rw [List.map_cons, List.nodup_cons] at hd
    simp only [KV, List.map_cons, mget]
    rcases List.mem_cons.1 ht with rfl | ht
    · rw [if_pos rfl]
    · rw [if_neg (fun e => hd.1 (by have e' : t.code = t0.code := by omega
                                    rw [← e']; exact List.mem_map_of_mem ht))]
      exact KV_get hd.2 t ht
section
variable {G : HP} {gm gX em gb : Nat} {zs : List Value} {ms : List Mcode} {bs : List UInt8} {HB : HP} {lr : Int} {v : Value}
theorem mhiM_is (hb : Bb v bs HB) (hm : (gm, C (.map (some gX) :: zs) em) ∈ G) (hx : (gX, Mo .u64 (KV ms)) ∈ G) (hk : ∀ p ∈ KB ms, p ∈ G) (hlen : ms.length ≤ 200) (h2 : bs.length + 4 + ((ms.map Mcode.un).flatMap pcB).length < 268435456) (hso : (ms.map fun t => t.code).Pairwise (· ≤ ·)) (hkn : (ms.map fun t => t.code).Nodup)
    (hok : ∀ m ∈ ms, m.ts.length ≤ 200 ∧ (∀ t ∈ m.ts, PartOk t.2) ∧ (m.ts.map fun t => t.2.1).Pairwise (· ≤ ·) ∧ (m.ts.map fun t => t.2.1).Nodup) :
    Ctr Tryz.prog 311 [.pointer (some ⟨gm, 0, none⟩), .iface 89 (.pointer (some ⟨gb, 0, none⟩))] G ((gb, Bu v lr) :: HB) (fun r H' => ∃ (z : Int) (v' : Value) (HB' : HP), r = .tuple #[.int .u64 z, .nilIface] ∧ Bb v' (bs ++ (lowB (ms.length : Nat) 4 ++ (ms.map Mcode.un).flatMap pcB)) HB' ∧ H' = (gb, Bu v' 0) :: HB') := by
  have hMl : (KV ms).length = ms.length := by simp [KV]
  refine fn_enter 52 func311 rfl ntmps311 rfl ?_
  intro w0
  refine cR <| oA rfl <| oA rfl <| oN <| c_seq <| cR <| oM rfl <| oM rfl <| oC rfl ?_
  refine oX (e_load isAgg330 rfl (.inr (by assumption)) rfl) ?_
  refine oX (e_lenm runUnderlying330 rfl (.inr (by assumption))) ?_
  refine oX (e_convn runUnderlying3 runUnderlying212 rfl (by simp only [inR]; omega)) ?_
  rw [hMl]
  refine o_l rfl (l_call call318 (w32_is (k := ms.length) hb (by omega)) rfl rfl (.cons .head (by simpa using Sel.app HB []))) ?_
  rintro ⟨r, H'⟩ ⟨rfl, v1, HB1, hb1, rfl⟩
  simp only [List.cons_append, List.append_nil]
  refine oA rfl <| oN <| cR <| oM rfl <| oX (e_nnen runUnderlying80 rfl) <| oN <| cL rfl <| cR <| oM rfl ?_
  refine o_l rfl (l_call call319 (codesM_is hm hx hlen hso) rfl rfl .nil) ?_
  rintro ⟨r, H'⟩ ⟨g, cap, lo, hi', rest, rfl, rfl⟩
  simp only [List.cons_append, List.nil_append]
  refine oA rfl <| oN <| cR <| oA rfl <| oN <| c_seq <| cR <| oM rfl <| oX (e_lenl runUnderlying29 rfl) <| oM rfl <| oN <| c_block ?_
  refine c_loop (X := Nat × Int × Value × HP) (fun y => [(0, .pointer (some ⟨gm, 0, none⟩)), (1, .iface 89 (.pointer (some ⟨gb, 0, none⟩))), (8, .int .u64 y.2.1), (26, .slice (some ⟨g, 0, none⟩) ms.length cap), (27, .int .i64 ms.length), (28, .int .i64 y.1)]) (fun y => (g, VB .u64 (ms.map fun t => (t.code : Int)) rest 23 lo hi') :: (gb, Bu y.2.2.1 0) :: y.2.2.2) (fun y => y.1 ≤ ms.length ∧ Bb y.2.2.1 (bs ++ lowB (ms.length : Nat) 4 ++ ((ms.map Mcode.un).take y.1).flatMap pcB) y.2.2.2) (fun y => ms.length - y.1) (0, 4, v1, HB1) ⟨Nat.zero_le _, by simpa using hb1⟩ (sub_cons rfl (sub_cons rfl (sub_cons rfl (sub_cons rfl (sub_cons rfl (sub_cons rfl sub_nil)))))) (.refl _) ?_
  rintro ⟨i, z, v', HB'⟩ ⟨hi0, hb'⟩
  simp only at hi0 hb' ⊢
  have hKl : (ms.map fun t => (t.code : Int)).length = ms.length := by simp
  generalize hK : (ms.map fun t => (t.code : Int)) = K at *
  refine cR <| oX (e_lss rfl rfl) <| oN <| c_seq ?_
  refine c_ifp rfl (fun h5 => ?_) (fun h5 => ?_)
  · have hi3 : i < ms.length := by omega
    have hgk : gd K i = (ms[i].code : Nat) := by rw [← hK]; simp [gd, hi3]
    have hmg := KV_get hkn ms[i] (List.getElem_mem hi3)
    refine c_skip <| n_code <| c_seq <| c_block <| cR <| oX (e_ian runUnderlying29 sizeOf23 rfl rfl (by omega)) <| oX (e_ld isAgg23 rfl (.inl M0) (by omega)) <| oA rfl <| oN <| cR <| oM rfl <| oC rfl ?_
    refine oX (e_load isAgg330 rfl (.inr (by assumption)) rfl) ?_
    refine oM rfl ?_
    rw [hgk]
    refine oX (e_lookup runUnderlying330 runUnderlying23 zeroValue433 rfl rfl (.inr hx)) ?_
    rw [hmg]
    refine oA rfl <| oN <| cR <| oM rfl <| oM rfl ?_
    have hip : i < (ms.map Mcode.un).length := by simpa using hi3
    have hfl := congrArg List.length (cflat_split hip)
    simp only [List.length_append] at hfl
    have hge : (ms.map Mcode.un)[i] = ms[i].un := by simp
    rw [hge] at hfl
    obtain ⟨o1, o2, o3, o4⟩ := hok _ (List.getElem_mem hi3)
    refine o_l rfl (l_call call320 (mwcM_is (m := ms[i]) hb' (fun p hp => hk p (List.mem_flatMap.2 ⟨ms[i], List.getElem_mem hi3, hp⟩)) o1 (by simp only [List.length_append, lowB_length]; omega) o2 o3 o4) rfl rfl (.cons (.tail .head) (Sel.appR [_] HB'))) ?_
    rintro ⟨r, H'⟩ ⟨z2, v2, HB2, rfl, hb2, rfl⟩
    simp only [List.cons_append]
    refine oM rfl <| oX (e_extract rfl rfl) <| oX (e_extract rfl rfl) <| oA rfl <| oA rfl <| oN <| cR <| oM rfl <| oM rfl <| oX (e_add rfl rfl) <| oA rfl <| oN <| cR <| oM rfl <| oX (e_nnen runUnderlying80 rfl) <| oN <| c_else rfl <| c_skip <| n_block <| n_code <| c_region <| oX (e_addn rfl rfl (by simp only [inR]; omega)) <| oM rfl <| o_nil ?_
    refine n_round' (y := (i, z, v', HB')) (i + 1, _, v2, HB2) (by show ms.length - (i + 1) < ms.length - i; omega) ?_ (sub_cons rfl (sub_cons rfl (sub_cons rfl (sub_cons rfl (sub_cons rfl (sub_cons rfl sub_nil)))))) _ (List.perm_append_comm (l₁ := _ :: HB2) (l₂ := [_])) (List.Sublist.refl _)
    refine ⟨by show i + 1 ≤ ms.length; omega, ?_⟩
    show Bb v2 (bs ++ lowB (ms.length : Nat) 4 ++ ((ms.map Mcode.un).take (i + 1)).flatMap pcB) HB2
    rw [cflat_succ hip, hge, ← List.append_assoc]
    exact hb2
  · skip
    refine c_exit ?_; refine x_code ?_; refine x_upto ?_; refine x_here ?_
    refine n_code <| cR <| oM rfl <| oA rfl <| oA rfl <| oN <| c_ret ?_
    refine WR.sel (.cons (.tail .head) (Sel.appR [_] HB')) ?_
    refine r_fn (l := [.tmp 4, .tmp 5]) results311 rfl rfl ?_
    obtain rfl : i = ms.length := by omega
    refine ⟨_, v', HB', rfl, ?_, rfl⟩
    rw [List.take_of_length_le (by simp)] at hb'
    simpa using hb'
end
end Go.Proofs
namespace Go.Proofs
open Go Go.Sl Tryz
set_option maxRecDepth 100000
set_option maxHeartbeats 1000000
section
variable {G : HP} {g : Nat}
theorem putU_1024 : Ctr Tryz.prog 150 [.slice (some ⟨g, 0, none⟩) 10 10, .int .u64 1024] G [(g, C (List.replicate 10 (.int .u8 0)) 5)] (fun r H' => r = .int .i64 2 ∧ H' = [(g, DB [128, 8] (List.replicate 8 (.int .u8 0)) 0 0)]) := by
  refine fn_enter 25 func150 rfl ntmps150 rfl ?_
  intro w0
  refine cR <| oA rfl <| oN <| cR <| oA rfl <| oN <| c_seq <| c_block ?_
  refine c_rounds 2 ?_
  refine c_seq <| cR <| oM rfl <| oX (e_geq rfl rfl) <| oN <| c_then rfl <| c_skip <| n_code <| c_block <| cR <| oM rfl <| oM rfl <| oM rfl <| oX (e_conv runUnderlying23 runUnderlying5 rfl) <| oX (e_or rfl rfl) <| oX (e_ia runUnderlying72 sizeOf5 rfl rfl (by omega) (by omega)) ?_
  refine o_l rfl (l_store sizeOf5 rfl rfl rfl .head .head (by omega)) ?_; intro _ _
  refine oN <| cR <| oM rfl <| oX (e_shr rfl rfl (by omega)) <| oA rfl <| oN <| c_region <| oM rfl <| oX (e_addn rfl rfl (by simp only [inR]; omega)) <| oA rfl <| o_nil <| n_block ?_
  refine n_rounds ?_
  refine c_seq <| cR <| oM rfl <| oX (e_geq rfl rfl) <| oN <| c_else rfl ?_
  refine c_exit ?_; refine x_code ?_; refine x_upto ?_; refine x_here ?_
  refine n_code <| cR <| oM rfl <| oM rfl <| oM rfl <| oX (e_conv runUnderlying23 runUnderlying5 rfl) <| oX (e_ia runUnderlying72 sizeOf5 rfl rfl (by omega) (by omega)) ?_
  refine o_l rfl (l_store sizeOf5 rfl rfl rfl .head (.tail .head) (by omega)) ?_; intro _ _
  refine oN <| cR <| oM rfl <| oX (e_addn rfl rfl (by simp only [inR]; omega)) <| oA rfl <| oN <| c_ret ?_
  refine r_fn1 results150 rfl ?_
  exact ⟨rfl, rfl⟩
theorem putU_1025 : Ctr Tryz.prog 150 [.slice (some ⟨g, 0, none⟩) 10 10, .int .u64 1025] G [(g, C (List.replicate 10 (.int .u8 0)) 5)] (fun r H' => r = .int .i64 2 ∧ H' = [(g, DB [129, 8] (List.replicate 8 (.int .u8 0)) 0 0)]) := by
  refine fn_enter 25 func150 rfl ntmps150 rfl ?_
  intro w0
  refine cR <| oA rfl <| oN <| cR <| oA rfl <| oN <| c_seq <| c_block ?_
  refine c_rounds 2 ?_
  refine c_seq <| cR <| oM rfl <| oX (e_geq rfl rfl) <| oN <| c_then rfl <| c_skip <| n_code <| c_block <| cR <| oM rfl <| oM rfl <| oM rfl <| oX (e_conv runUnderlying23 runUnderlying5 rfl) <| oX (e_or rfl rfl) <| oX (e_ia runUnderlying72 sizeOf5 rfl rfl (by omega) (by omega)) ?_
  refine o_l rfl (l_store sizeOf5 rfl rfl rfl .head .head (by omega)) ?_; intro _ _
  refine oN <| cR <| oM rfl <| oX (e_shr rfl rfl (by omega)) <| oA rfl <| oN <| c_region <| oM rfl <| oX (e_addn rfl rfl (by simp only [inR]; omega)) <| oA rfl <| o_nil <| n_block ?_
  refine n_rounds ?_
  refine c_seq <| cR <| oM rfl <| oX (e_geq rfl rfl) <| oN <| c_else rfl ?_
  refine c_exit ?_; refine x_code ?_; refine x_upto ?_; refine x_here ?_
  refine n_code <| cR <| oM rfl <| oM rfl <| oM rfl <| oX (e_conv runUnderlying23 runUnderlying5 rfl) <| oX (e_ia runUnderlying72 sizeOf5 rfl rfl (by omega) (by omega)) ?_
  refine o_l rfl (l_store sizeOf5 rfl rfl rfl .head (.tail .head) (by omega)) ?_; intro _ _
  refine oN <| cR <| oM rfl <| oX (e_addn rfl rfl (by simp only [inR]; omega)) <| oA rfl <| oN <| c_ret ?_
  refine r_fn1 results150 rfl ?_
  exact ⟨rfl, rfl⟩
end
end Go.Proofs
namespace Go.Proofs
open Go Go.Sl Tryz
/-- What a number of an entry may be. -/
structure EnFit (x : En) : Prop where
  v0 : 0 ≤ x.v
  v1 : x.v < 18446744073709551616
  c0 : 0 ≤ x.c
  c1 : x.c < 18446744073709551616
  h0 : 0 ≤ x.h
  h1 : x.h < 18446744073709551616
  o0 : 0 ≤ x.o
  o1 : x.o < 18446744073709551616
def partOf (st : List En) (n : Int) : Part := (n.toNat + 8, rowsB st n)
def parts (l : List En) : List Part := (widths l).map (partOf (stable l))
def kparts (l : List En) : List Cpart := (codes l).map fun c => (c.toNat, parts (codedL l c))
theorem pbB_partOf {st : List En} {n : Int} (h : 0 ≤ n) : pbB (partOf st n) = partB st n := by
  obtain ⟨k, rfl⟩ := Int.eq_ofNat_of_zero_le h
  simp [pbB, partOf, partB]
theorem widths_nonneg {l : List En} {n : Int} (h : n ∈ widths l) : 0 ≤ n := by
  obtain ⟨x, _, rfl⟩ := widths_mem.1 h
  omega
theorem flatMap_congr' {α β : Type} {l : List α} {f g : α → List β} (h : ∀ a ∈ l, f a = g a) : l.flatMap f = l.flatMap g := by
  induction l with
  | nil => rfl
  | cons a l ih => simp only [List.flatMap_cons]; rw [h a (.head _), ih fun b hb => h b (.tail _ hb)]
theorem sortedB_parts (l : List En) : sortedB l = pmB (parts l) := by
  simp only [sortedB, pmB, parts, List.length_map, List.flatMap_map]
  congr 1
  exact flatMap_congr' fun n hn => (pbB_partOf (widths_nonneg hn)).symm
theorem codes_nonneg {l : List En} (hf : ∀ x ∈ l, EnFit x) {n : Int} (h : n ∈ codes l) : 0 ≤ n := by
  obtain ⟨x, hx, rfl⟩ := codes_mem.1 h
  exact (hf x hx).h0
theorem bodyB_S (l : List En) : bodyB l 1024 = lowB ((parts l).length : Nat) 4 ++ (parts l).flatMap pbB := by
  rw [bodyB, if_pos rfl, sortedB_parts]; rfl
theorem bodyB_M {l : List En} (hf : ∀ x ∈ l, EnFit x) : bodyB l 1025 = lowB ((kparts l).length : Nat) 4 ++ (kparts l).flatMap pcB := by
  rw [bodyB, if_neg (by decide)]
  simp only [kparts, List.length_map, List.flatMap_map]
  congr 1
  refine flatMap_congr' fun c hc => ?_
  obtain ⟨k, rfl⟩ := Int.eq_ofNat_of_zero_le (codes_nonneg hf hc)
  simp only [codeB, pcB, sortedB_parts]
  rfl
theorem srt_nodup {l : List Int} (h : l.Nodup) : (srt l).Nodup := (List.mergeSort_perm l _).symm.nodup h
theorem widths_nodup (l : List En) : (widths l).Nodup := srt_nodup (distI_nodup _)
theorem codes_nodup (l : List En) : (codes l).Nodup := srt_nodup (distI_nodup _)
theorem nodup_map_on {α β : Type} {f : α → β} : ∀ {l : List α}, (∀ a ∈ l, ∀ b ∈ l, f a = f b → a = b) → l.Nodup → (l.map f).Nodup
  | [], _, _ => by simp
  | a :: l, hf, h => by
    rw [List.nodup_cons] at h
    rw [List.map_cons, List.nodup_cons]
    refine ⟨fun hm => ?_, nodup_map_on (fun x hx y hy => hf x (.tail _ hx) y (.tail _ hy)) h.2⟩
    obtain ⟨b, hb, he⟩ := List.mem_map.1 hm
    exact h.1 (hf b (.tail _ hb) a (.head _) he ▸ hb)
theorem parts_nodup (l : List En) : ((parts l).map (·.1)).Nodup := by
  rw [parts, List.map_map]
  refine nodup_map_on (fun a ha b hb h => ?_) (widths_nodup l)
  have h1 := widths_nonneg ha
  have h2 := widths_nonneg hb
  simp only [Function.comp, partOf] at h
  omega
theorem kparts_nodup {l : List En} (hf : ∀ x ∈ l, EnFit x) : ((kparts l).map (·.1)).Nodup := by
  rw [kparts, List.map_map]
  refine nodup_map_on (fun a ha b hb h => ?_) (codes_nodup l)
  have h1 := codes_nonneg hf ha
  have h2 := codes_nonneg hf hb
  simp only [Function.comp] at h
  omega
theorem parts_ok {l : List En} (hd : ∀ x ∈ l, x.d.length ≤ 200) : ∀ p ∈ parts l, PartOk p := by
  intro p hp
  obtain ⟨n, hn, rfl⟩ := List.mem_map.1 hp
  obtain ⟨x, hx, rfl⟩ := widths_mem.1 hn
  have h200 := hd x hx
  refine ⟨by simp [partOf], by simp [partOf]; omega, ?_⟩
  have hxs : x ∈ stable l := (stable_perm l).mem_iff.2 hx
  have : (x.d ++ lowB x.o 8).length ≤ (rowsB (stable l) (x.d.length : Nat)).length := by
    have hs : x ∈ (stable l).filter fun y => decide ((y.d.length : Int) = (x.d.length : Nat)) := List.mem_filter.2 ⟨hxs, by simp⟩
    obtain ⟨s, t, he⟩ := List.append_of_mem hs
    rw [rowsB, he]
    simp
    omega
  simp only [List.length_append, lowB_length] at this
  simp only [partOf]
  omega
theorem parts_len {l : List En} : (parts l).length ≤ l.length := by rw [parts, List.length_map]; exact widths_len l
theorem kparts_len {l : List En} : (kparts l).length ≤ l.length := by rw [kparts, List.length_map]; exact codes_len l
theorem kparts_ok {l : List En} (hl : l.length ≤ 1000) (hf : ∀ x ∈ l, EnFit x) (hd : ∀ x ∈ l, x.d.length ≤ 200) : ∀ c ∈ kparts l, CodeOk c := by
  intro c hc
  obtain ⟨k, hk, rfl⟩ := List.mem_map.1 hc
  obtain ⟨x, hx, rfl⟩ := codes_mem.1 hk
  have h1 := (hf x hx).h0
  have h2 := (hf x hx).h1
  exact ⟨by show x.h.toNat < _; omega, Nat.le_trans parts_len (Nat.le_trans (codedL_len _ _) hl), parts_ok fun y hy => hd y (codedL_mem hy), parts_nodup _⟩
end Go.Proofs
namespace Go.Proofs
open Go Go.Sl Tryz
set_option maxRecDepth 100000
set_option maxHeartbeats 1000000
/-- A read index: its value, its memory. -/
inductive IxMem (l : List En) : Int → Value → HP → Prop where
  | s {gm gx : Nat} {ts : List Mpart} (h : ts.map (·.2) = parts l) : IxMem l 1024 (.iface 328 (.pointer (some ⟨gm, 0, none⟩))) ((gm, C [.map (some gx)] 327) :: (gx, Mo .u32 (MV ts)) :: MB ts)
  | m {gm gX : Nat} {ms : List Mcode} (h : ms.map Mcode.un = kparts l) : IxMem l 1025 (.iface 237 (.pointer (some ⟨gm, 0, none⟩))) ((gm, C [.map (some gX)] 330) :: (gX, Mo .u64 (KV ms)) :: KB ms)
section
variable {G : HP} {gr gs n cap lo hi : Nat} {bs behind : List UInt8} {rest : List Value} {l : List En} {kind : Int}
theorem from_ok (hD : (gs, DB bs rest lo hi) ∈ G) (hn : bs.length = n) (hc : n ≤ cap) (h63 : cap < 9223372036854775808) (hn40 : n ≤ 1099511627776) (hbs : bs = indexB l kind ++ behind) (hl : l.length ≤ 100) (hf : ∀ x ∈ l, EnFit x) (hd : ∀ x ∈ l, x.d.length ≤ 200) (hk : kind = 1024 ∨ kind = 1025) :
    Ctr Tryz.prog 41 [RV gr] G [(gr, RB gs n cap 0)] (fun r H' => ∃ v H1, r = .tuple #[v, .nilIface] ∧ IxMem l kind v H1 ∧ H' = (gr, RB gs n cap (indexB l kind).length) :: H1) := by
  rcases hk with rfl | rfl
  · have hb : bs = 128 :: 8 :: (bodyB l 1024 ++ behind) := by rw [hbs]; rfl
    have hb2 : bs = [128, 8] ++ (lowB ((parts l).length : Nat) 4 ++ ((parts l).flatMap pbB ++ behind)) := by rw [hb, bodyB_S]; simp
    have hL : (indexB l 1024).length = 2 + 4 + ((parts l).flatMap pbB).length := by
      simp only [indexB, List.length_append, kindB_length, bodyB_S, lowB_length]; omega
    have hr := codec_of (uvar_1024 (gr := gr) (cap := cap) (hb ▸ hD) (hb ▸ hn) (by omega))
    refine fn_enter 31 func41 rfl ntmps41 rfl ?_
    intro w0
    refine cR <| oA rfl <| oA rfl <| oN <| cR <| oM rfl ?_
    refine o_l rfl (l_call call45 hr rfl rfl (.cons .head .nil)) ?_
    rintro ⟨r, H'⟩ ⟨rfl, rfl⟩
    simp only [List.cons_append, List.nil_append]
    refine oM rfl <| oX (e_extract rfl rfl) <| oX (e_extract rfl rfl) <| oA rfl <| oA rfl <| oN <| c_seq <| cR <| oM rfl <| oX (e_nnen runUnderlying80 rfl) <| oN <| cL rfl <| cR <| oM rfl ?_
    refine o_l rfl (l_call call76 new_1024 rfl rfl .nil) ?_
    rintro ⟨r, H'⟩ ⟨gm, gx, rfl, rfl⟩
    simp only [List.cons_append, List.nil_append]
    refine oM rfl <| oX (e_extract rfl rfl) <| oX (e_extract rfl rfl) <| oA rfl <| oA rfl <| oN <| c_seq <| cR <| oM rfl <| oX (e_nnen runUnderlying80 rfl) <| oN <| cL rfl <| c_seq <| cR <| oM rfl <| oM rfl ?_
    refine o_l rfl (l_calli0 call332 (by intro w; kernel_rfl) (mwi_ok (gm := gm) (gx := gx) (em := 327) (zs := []) (i0 := 2) hD hn hc h63 hn40 hb2 rfl (Nat.le_trans parts_len (by omega)) (parts_ok hd) (parts_nodup l)) rfl rfl rfl (.cons (.tail (.tail .head)) (.cons .head (.cons .head .nil)))) ?_
    rintro ⟨r, H'⟩ ⟨rfl, ts, hts, rfl⟩
    simp only [List.cons_append]
    refine oA rfl <| oN <| cR <| oM rfl <| oX (e_nnen runUnderlying80 rfl) <| oN <| cL rfl <| cR <| oM rfl <| oA rfl <| oA rfl <| oN <| c_ret ?_
    refine r_fn (l := [.tmp 2, .tmp 3]) results41 rfl rfl ?_
    exact ⟨_, _, rfl, .s hts, by rw [hL, List.append_nil]⟩
  · have hb : bs = 129 :: 8 :: (bodyB l 1025 ++ behind) := by rw [hbs]; rfl
    have hb2 : bs = [129, 8] ++ (lowB ((kparts l).length : Nat) 4 ++ ((kparts l).flatMap pcB ++ behind)) := by rw [hb, bodyB_M hf]; simp
    have hL : (indexB l 1025).length = 2 + 4 + ((kparts l).flatMap pcB).length := by
      simp only [indexB, List.length_append, kindB_length, bodyB_M hf, lowB_length]; omega
    have hr := codec_of (uvar_1025 (gr := gr) (cap := cap) (hb ▸ hD) (hb ▸ hn) (by omega))
    refine fn_enter 31 func41 rfl ntmps41 rfl ?_
    intro w0
    refine cR <| oA rfl <| oA rfl <| oN <| cR <| oM rfl ?_
    refine o_l rfl (l_call call45 hr rfl rfl (.cons .head .nil)) ?_
    rintro ⟨r, H'⟩ ⟨rfl, rfl⟩
    simp only [List.cons_append, List.nil_append]
    refine oM rfl <| oX (e_extract rfl rfl) <| oX (e_extract rfl rfl) <| oA rfl <| oA rfl <| oN <| c_seq <| cR <| oM rfl <| oX (e_nnen runUnderlying80 rfl) <| oN <| cL rfl <| cR <| oM rfl ?_
    refine o_l rfl (l_call call76 new_1025 rfl rfl .nil) ?_
    rintro ⟨r, H'⟩ ⟨gm, gx, rfl, rfl⟩
    simp only [List.cons_append, List.nil_append]
    refine oM rfl <| oX (e_extract rfl rfl) <| oX (e_extract rfl rfl) <| oA rfl <| oA rfl <| oN <| c_seq <| cR <| oM rfl <| oX (e_nnen runUnderlying80 rfl) <| oN <| cL rfl <| c_seq <| cR <| oM rfl <| oM rfl ?_
    refine o_l rfl (l_calli0 call312 (by intro w; kernel_rfl) (mhi_ok (gh := gm) (gX := gx) (em := 330) (i0 := 2) hD hn hc h63 hn40 hb2 rfl (Nat.le_trans kparts_len (by omega)) (kparts_ok (by omega) hf hd) (kparts_nodup hf)) rfl rfl rfl (.cons (.tail (.tail .head)) (.cons .head (.cons .head .nil)))) ?_
    rintro ⟨r, H'⟩ ⟨rfl, ms, hms, rfl⟩
    simp only [List.cons_append]
    refine oA rfl <| oN <| cR <| oM rfl <| oX (e_nnen runUnderlying80 rfl) <| oN <| cL rfl <| cR <| oM rfl <| oA rfl <| oA rfl <| oN <| c_ret ?_
    refine r_fn (l := [.tmp 2, .tmp 3]) results41 rfl rfl ?_
    exact ⟨_, _, rfl, .m hms, by rw [hL, List.append_nil]⟩
end
end Go.Proofs
namespace Go.Proofs
open Go Go.Sl Tryz
theorem srt_pairwise (l : List Int) : (srt l).Pairwise (· ≤ ·) := by
  have := List.pairwise_mergeSort (le := fun a b : Int => decide (a ≤ b)) (fun a b c h1 h2 => by simp at h1 h2 ⊢; omega) (fun a b => by simp; omega) l
  exact this.imp fun h => by simpa using h
theorem parts_sorted (l : List En) : ((parts l).map (·.1)).Pairwise (· ≤ ·) := by
  rw [parts, List.map_map, List.pairwise_map]
  exact (srt_pairwise (distI (lens l))).imp fun h => by simp only [Function.comp, partOf]; omega
theorem kparts_sorted (l : List En) : ((kparts l).map (·.1)).Pairwise (· ≤ ·) := by
  rw [kparts, List.map_map, List.pairwise_map]
  exact (srt_pairwise (distI (hcs l))).imp fun h => by simp only [Function.comp]; omega
theorem bodyB_small (l : List En) (kind : Int) (hd : ∀ x ∈ l, x.d.length ≤ 200) (hl : l.length ≤ 100) : (bodyB l kind).length ≤ 221000000 := by
  have h1 := sortedB_length l hd hl
  have h2 := flat_length (codes l) (codeB l) 2200008 (fun n => codeB_length l n hd hl)
  have h3 := codes_len l
  have h4 : (codes l).length * 2200008 ≤ 100 * 2200008 := Nat.mul_le_mul_right _ (by omega)
  unfold bodyB
  split
  · omega
  · simp only [List.length_append, lowB_length]; omega
end Go.Proofs
namespace Go.Proofs
open Go Go.Sl Tryz
set_option maxRecDepth 100000
set_option maxHeartbeats 1000000
section
variable {G : HP} {g gb : Nat} {lr : Int}

theorem codecS_is {v : Value} : CtrP Tryz.prog 401 [v] G (.int .u64 1024) := by
  refine fn_enter 3 func401 rfl ntmps401 rfl ?_
  intro w0
  refine cR <| oA rfl <| oN <| cR <| oA rfl <| oN <| c_ret ?_
  refine r_fn1 results401 rfl ?_
  exact ⟨rfl, rfl⟩
theorem codecM_is {v : Value} : CtrP Tryz.prog 308 [v] G (.int .u64 1025) := by
  refine fn_enter 3 func308 rfl ntmps308 rfl ?_
  intro w0
  refine cR <| oA rfl <| oN <| cR <| oA rfl <| oN <| c_ret ?_
  refine r_fn1 results308 rfl ?_
  exact ⟨rfl, rfl⟩
theorem vput_is {kind : Int} (hk : kind = 1024 ∨ kind = 1025) : Ctr Tryz.prog 77 [.slice (some ⟨g, 0, none⟩) 10 10, .int .u64 kind] G [(g, C (List.replicate 10 (.int .u8 0)) 5)] (fun r H' => r = .int .i64 2 ∧ H' = [(g, DB (kindB kind) (List.replicate 8 (.int .u8 0)) 0 0)]) := by
  rcases hk with rfl | rfl
  · refine fn_enter 8 func77 rfl ntmps77 rfl ?_
    intro w0
    refine cR <| oA rfl <| oN <| cR <| oM rfl <| oM rfl ?_
    refine o_l rfl (l_call call150 putU_1024 rfl rfl (.cons .head .nil)) ?_
    rintro ⟨r, H'⟩ ⟨rfl, rfl⟩
    simp only [List.cons_append, List.nil_append]
    refine oA rfl <| oN <| c_ret ?_
    refine r_fn1 results77 rfl ?_
    exact ⟨rfl, rfl⟩
  · refine fn_enter 8 func77 rfl ntmps77 rfl ?_
    intro w0
    refine cR <| oA rfl <| oN <| cR <| oM rfl <| oM rfl ?_
    refine o_l rfl (l_call call150 putU_1025 rfl rfl (.cons .head .nil)) ?_
    rintro ⟨r, H'⟩ ⟨rfl, rfl⟩
    simp only [List.cons_append, List.nil_append]
    refine oA rfl <| oN <| c_ret ?_
    refine r_fn1 results77 rfl ?_
    exact ⟨rfl, rfl⟩
theorem writeS_is {l : List En} {gm gx : Nat} {ts : List Mpart} (h : ts.map (·.2) = parts l) (hG : ∀ p ∈ (gm, C [.map (some gx)] 327) :: (gx, Mo .u32 (MV ts)) :: MB ts, p ∈ G) (hd : ∀ x ∈ l, x.d.length ≤ 200) (hl : l.length ≤ 100) :
    Ctr Tryz.prog 42 [.iface 328 (.pointer (some ⟨gm, 0, none⟩)), .iface 89 (.pointer (some ⟨gb, 0, none⟩))] G [(gb, Bu (.slice none 0 0) lr)] (fun r H' => ∃ (z : Int) (v' : Value) (HB' : HP), r = .tuple #[.int .u64 z, .nilIface] ∧ Bb v' (indexB l 1024) HB' ∧ H' = (gb, Bu v' 0) :: HB') := by
  have hsm := bodyB_small l 1024 hd hl
  have hs := h
  have hkk : ts.map (fun t => t.2.1) = (parts l).map (·.1) := by rw [← h, List.map_map]; rfl
  have hso : (ts.map fun t => t.2.1).Pairwise (· ≤ ·) := by rw [hkk]; exact parts_sorted l
  have hkn : (ts.map fun t => t.2.1).Nodup := by rw [hkk]; exact parts_nodup l
  refine fn_enter 43 func42 rfl ntmps42 rfl ?_
  intro w0
  refine cR <| oA rfl <| oA rfl <| oN <| cR ?_
  refine o_l rfl (l_mks (l := List.replicate 10 (.int .u8 0)) underlying72 (info_of typeInfo5) rfl rfl rfl rfl (by decide) (by decide) (by decide) (by decide) (made_one (.int .u8 0) 10 rfl)) ?_
  intro g11 _
  refine oA rfl <| oN <| cR <| oM rfl <| oM rfl ?_
  refine o_l rfl (l_calli0 call401 (by intro w; kernel_rfl) (codecS_is (v := .pointer (some ⟨gm, 0, none⟩))) rfl rfl rfl .nil) ?_
  rintro ⟨r, H'⟩ ⟨rfl, rfl⟩
  simp only [List.nil_append]
  refine o_l rfl (l_call call77 (vput_is (.inl rfl)) rfl rfl (.cons .head .nil)) ?_
  rintro ⟨r, H'⟩ ⟨rfl, rfl⟩
  simp only [List.cons_append, List.nil_append]
  refine oA rfl <| oN <| c_seq <| c_regiong [7] (by kernel_rfl) <| gM 0 rfl (e_move rfl) <| gM 1 rfl (e_move rfl) <| gM 2 rfl (e_move rfl) <| gM 3 rfl (e_sl_h runUnderlying72 sizeOf5 rfl rfl (by omega) (by omega)) <| gM 4 rfl (e_func rfl rfl) ?_
  refine gM 5 rfl (e_nilm (fun _ => by kernel_rfl) rfl) ?_
  refine gM 6 rfl (e_move rfl) ?_
  refine g_l 7 (by kernel_rfl) rfl rfl rfl (l_calli (HJ := [(g11, DB (kindB 1024) (List.replicate 8 (.int .u8 0)) 0 0)]) call294 (by intro w; kernel_rfl) (write_is (L := 2) .nil (List.mem_append_right _ (.head _)) rfl (by decide) (by decide) (by decide) (by intro _; decide) (by decide)) rfl rfl rfl (.cons (.tail .head) .nil) (fun p hp => hp)) ?_
  rintro ⟨r, H'⟩ ⟨v1, HB1, rfl, hb1, rfl⟩
  simp only [List.cons_append]
  refine dX 8 rfl (e_move rfl) <| dX 9 rfl (e_extract rfl rfl) <| dX 10 rfl (e_extract rfl rfl) <| dX 11 rfl (e_assign rfl) <| dX 12 rfl (e_assign rfl) <| dN <| n_code <| c_seq <| cR <| oM rfl <| oX (e_nnen runUnderlying80 rfl) <| oN <| cL rfl <| cR <| oM rfl <| oM rfl ?_
  refine o_l rfl (l_calli0 call329 (by intro w; kernel_rfl) (mwiM_is (zs := []) hb1 (hG _ (.head _)) (hG _ M1) (fun p hp => hG p (.tail _ (.tail _ hp))) (by have := congrArg List.length h; have := parts_len (l := l); simp at *; omega) (by rw [bodyB_S] at hsm; simp only [List.length_append, List.nil_append, lowB_length, kindB_length, h] at hsm ⊢; omega) (fun t ht => parts_ok hd _ (h ▸ List.mem_map.2 ⟨t, ht, rfl⟩)) hso hkn) rfl rfl rfl (.cons .head (Sel.app HB1 _))) ?_
  rintro ⟨r, H'⟩ ⟨z, v2, HB2, rfl, hb2, rfl⟩
  simp only [List.cons_append]
  refine oM rfl <| oX (e_extract rfl rfl) <| oX (e_extract rfl rfl) <| oA rfl <| oA rfl <| oN <| cR <| oM rfl <| oX (e_convn runUnderlying3 runUnderlying23 rfl (by simp only [inR]; omega)) <| oM rfl <| oX (e_add rfl rfl) <| oM rfl <| oA rfl <| oA rfl <| oN <| c_ret ?_
  refine WR.sel (.cons .head (Sel.app HB2 _)) ?_
  refine r_fn (l := [.tmp 4, .tmp 5]) results42 rfl rfl ?_
  refine ⟨_, v2, HB2, rfl, ?_, rfl⟩
  rw [h] at hb2
  rw [indexB, bodyB_S]
  exact hb2
theorem writeM_is {l : List En} {gm gX : Nat} {ms : List Mcode} (h : ms.map Mcode.un = kparts l) (hG : ∀ p ∈ (gm, C [.map (some gX)] 330) :: (gX, Mo .u64 (KV ms)) :: KB ms, p ∈ G) (hf : ∀ x ∈ l, EnFit x) (hd : ∀ x ∈ l, x.d.length ≤ 200) (hl : l.length ≤ 100) :
    Ctr Tryz.prog 42 [.iface 237 (.pointer (some ⟨gm, 0, none⟩)), .iface 89 (.pointer (some ⟨gb, 0, none⟩))] G [(gb, Bu (.slice none 0 0) lr)] (fun r H' => ∃ (z : Int) (v' : Value) (HB' : HP), r = .tuple #[.int .u64 z, .nilIface] ∧ Bb v' (indexB l 1025) HB' ∧ H' = (gb, Bu v' 0) :: HB') := by
  have hsm := bodyB_small l 1025 hd hl
  have hkk : ms.map (fun t => t.code) = (kparts l).map (·.1) := by rw [← h, List.map_map]; rfl
  have hso : (ms.map fun t => t.code).Pairwise (· ≤ ·) := by rw [hkk]; exact kparts_sorted l
  have hkn : (ms.map fun t => t.code).Nodup := by rw [hkk]; exact kparts_nodup hf
  have hml : ms.length ≤ l.length := by have h1 := congrArg List.length h; have h2 := kparts_len (l := l); simp only [List.length_map] at h1; omega
  have hmm : ∀ m ∈ ms, m.ts.length ≤ 200 ∧ (∀ t ∈ m.ts, PartOk t.2) ∧ (m.ts.map fun t => t.2.1).Pairwise (· ≤ ·) ∧ (m.ts.map fun t => t.2.1).Nodup := by
    intro m hm
    have h1 : m.un ∈ kparts l := h ▸ List.mem_map.2 ⟨m, hm, rfl⟩
    obtain ⟨c, hc, h2⟩ := List.mem_map.1 h1
    have h3 : m.ts.map (·.2) = parts (codedL l c) := by have := congrArg Prod.snd h2; simpa [Mcode.un] using this.symm
    have h4 : m.ts.map (fun t => t.2.1) = (parts (codedL l c)).map (·.1) := by rw [← h3, List.map_map]; rfl
    refine ⟨?_, ?_, by rw [h4]; exact parts_sorted _, by rw [h4]; exact parts_nodup _⟩
    · have h5 := congrArg List.length h3
      have h6 := parts_len (l := codedL l c)
      have h7 := codedL_len l c
      simp only [List.length_map] at h5
      omega
    · intro t ht
      exact parts_ok (fun x hx => hd x (codedL_mem hx)) _ (h3 ▸ List.mem_map.2 ⟨t, ht, rfl⟩)
  refine fn_enter 43 func42 rfl ntmps42 rfl ?_
  intro w0
  refine cR <| oA rfl <| oA rfl <| oN <| cR ?_
  refine o_l rfl (l_mks (l := List.replicate 10 (.int .u8 0)) underlying72 (info_of typeInfo5) rfl rfl rfl rfl (by decide) (by decide) (by decide) (by decide) (made_one (.int .u8 0) 10 rfl)) ?_
  intro g11 _
  refine oA rfl <| oN <| cR <| oM rfl <| oM rfl ?_
  refine o_l rfl (l_calli0 call308 (by intro w; kernel_rfl) (codecM_is (v := .pointer (some ⟨gm, 0, none⟩))) rfl rfl rfl .nil) ?_
  rintro ⟨r, H'⟩ ⟨rfl, rfl⟩
  simp only [List.nil_append]
  refine o_l rfl (l_call call77 (vput_is (.inr rfl)) rfl rfl (.cons .head .nil)) ?_
  rintro ⟨r, H'⟩ ⟨rfl, rfl⟩
  simp only [List.cons_append, List.nil_append]
  refine oA rfl <| oN <| c_seq <| c_regiong [7] (by kernel_rfl) <| gM 0 rfl (e_move rfl) <| gM 1 rfl (e_move rfl) <| gM 2 rfl (e_move rfl) <| gM 3 rfl (e_sl_h runUnderlying72 sizeOf5 rfl rfl (by omega) (by omega)) <| gM 4 rfl (e_func rfl rfl) ?_
  refine gM 5 rfl (e_nilm (fun _ => by kernel_rfl) rfl) ?_
  refine gM 6 rfl (e_move rfl) ?_
  refine g_l 7 (by kernel_rfl) rfl rfl rfl (l_calli (HJ := [(g11, DB (kindB 1025) (List.replicate 8 (.int .u8 0)) 0 0)]) call294 (by intro w; kernel_rfl) (write_is (L := 2) .nil (List.mem_append_right _ (.head _)) rfl (by decide) (by decide) (by decide) (by intro _; decide) (by decide)) rfl rfl rfl (.cons (.tail .head) .nil) (fun p hp => hp)) ?_
  rintro ⟨r, H'⟩ ⟨v1, HB1, rfl, hb1, rfl⟩
  simp only [List.cons_append]
  refine dX 8 rfl (e_move rfl) <| dX 9 rfl (e_extract rfl rfl) <| dX 10 rfl (e_extract rfl rfl) <| dX 11 rfl (e_assign rfl) <| dX 12 rfl (e_assign rfl) <| dN <| n_code <| c_seq <| cR <| oM rfl <| oX (e_nnen runUnderlying80 rfl) <| oN <| cL rfl <| cR <| oM rfl <| oM rfl ?_
  refine o_l rfl (l_calli0 call311 (by intro w; kernel_rfl) (mhiM_is (zs := []) hb1 (hG _ (.head _)) (hG _ M1) (fun p hp => hG p (.tail _ (.tail _ hp))) (by omega) (by rw [bodyB_M hf] at hsm; simp only [List.length_append, List.nil_append, lowB_length, kindB_length, h] at hsm ⊢; omega) hso hkn hmm) rfl rfl rfl (.cons .head (Sel.app HB1 _))) ?_
  rintro ⟨r, H'⟩ ⟨z, v2, HB2, rfl, hb2, rfl⟩
  simp only [List.cons_append]
  refine oM rfl <| oX (e_extract rfl rfl) <| oX (e_extract rfl rfl) <| oA rfl <| oA rfl <| oN <| cR <| oM rfl <| oX (e_convn runUnderlying3 runUnderlying23 rfl (by simp only [inR]; omega)) <| oM rfl <| oX (e_add rfl rfl) <| oM rfl <| oA rfl <| oA rfl <| oN <| c_ret ?_
  refine WR.sel (.cons .head (Sel.app HB2 _)) ?_
  refine r_fn (l := [.tmp 4, .tmp 5]) results42 rfl rfl ?_
  refine ⟨_, v2, HB2, rfl, ?_, rfl⟩
  have hcl : ms.length = (kparts l).length := by have := congrArg List.length h; simpa using this
  rw [h, hcl] at hb2
  rw [indexB, bodyB_M hf]
  exact hb2
end
end Go.Proofs
namespace Go.Proofs
open Go Go.Sl Tryz
set_option maxRecDepth 100000
set_option maxHeartbeats 1000000
section
variable {G : HP} {gr gs gb n cap i : Nat} {bs behind : List UInt8} {lr : Int} {v : Value} {HB : HP} {l : List En} {kind : Int}
theorem rlen_is (hm : (gr, RB gs n cap i) ∈ G) (h : i ≤ n) (h63 : n < 9223372036854775808) : CtrP Tryz.prog 43 [.pointer (some ⟨gr, 0, none⟩)] G (.int .i64 (n - i : Nat)) := by
  refine fn_enter 23 func43 rfl ntmps43 rfl ?_
  intro w0
  refine cR <| oA rfl <| oN <| c_seq <| c_seq <| cQ <| qM rfl <| qC rfl <| qX (e_fak 1 runUnderlying144 rfl sizeOf2 rfl rfl rfl) ?_
  refine qX (e_load isAgg2 rfl (.inr (by assumption)) rfl) ?_
  refine qM rfl <| qC rfl <| qX (e_fak 0 runUnderlying144 rfl sizeOf72 rfl rfl rfl) ?_
  refine qX (e_load isAgg72 rfl (.inr (by assumption)) rfl) ?_
  refine qX (e_lenl runUnderlying72 rfl) <| qX (e_geq rfl rfl) <| qN ?_
  refine c_ifp rfl (fun h5 => ?_) (fun h5 => ?_)
  · refine cR <| oA rfl <| oN <| c_ret ?_
    refine r_fn1 results43 rfl ?_
    exact ⟨by rw [show (((n - i : Nat)) : Int) = 0 by omega], rfl⟩
  · skip
    refine c_skip <| n_code <| c_seq <| cQ <| qM rfl <| qC rfl <| qX (e_fak 0 runUnderlying144 rfl sizeOf72 rfl rfl rfl) ?_
    refine qX (e_load isAgg72 rfl (.inr (by assumption)) rfl) ?_
    refine qX (e_lenl runUnderlying72 rfl) <| qM rfl <| qC rfl <| qX (e_fak 1 runUnderlying144 rfl sizeOf2 rfl rfl rfl) ?_
    refine qX (e_load isAgg2 rfl (.inr (by assumption)) rfl) ?_
    refine qX (e_subN rfl rfl (by omega)) <| qA rfl <| qN <| c_ret ?_
    refine r_fn1 results43 rfl ?_
    exact ⟨rfl, rfl⟩
theorem str_is (hm : (gb, Bu v lr) ∈ G) (hb : Bb v bs HB) (hs : ∀ p ∈ HB, p ∈ G) : CtrP Tryz.prog 44 [.pointer (some ⟨gb, 0, none⟩)] G (S bs) := by
  cases hb with
  | nil =>
    refine fn_enter 15 func44 rfl ntmps44 rfl ?_
    intro w0
    refine cR <| oA rfl <| oN <| c_seq <| cR <| oM rfl <| oX (e_peqn runUnderlying89 rfl) <| oN <| cL rfl <| c_seq <| cQ <| qM rfl <| qC rfl <| qX (e_fak 0 runUnderlying86 rfl sizeOf72 rfl rfl rfl) ?_
    refine qX (e_load isAgg72 rfl (.inr (by assumption)) rfl) ?_
    refine qM rfl <| qC rfl <| qX (e_fak 1 runUnderlying86 rfl sizeOf3 rfl rfl rfl) ?_
    refine qX (e_load isAgg3 rfl (.inr (by assumption)) rfl) ?_
    refine qX (e_sl_le runUnderlying72 sizeOf5 rfl rfl (by omega) (by omega) rfl) <| qX (e_bsn underlying72 underlying5 underlying9 rfl) <| qA rfl <| qN <| c_ret ?_
    refine r_fn1 results44 rfl ?_
    exact ⟨rfl, rfl⟩
  | @row g cap lo hi bs rest h0 h1 h2 h3 h4 =>
    have hD := hs _ (.head _)
    have hcut : CutL (B bs ++ rest) (0 + Int.toNat 0 * 1) (bs.length - Int.toNat 0) (B bs) := by
      have := CutL.of (l := B bs ++ rest) (i := 0) (n := bs.length) (by rw [List.length_append, B_length]; omega)
      rwa [List.drop_zero, List.take_left' (B_length bs)] at this
    refine fn_enter 15 func44 rfl ntmps44 rfl ?_
    intro w0
    refine cR <| oA rfl <| oN <| c_seq <| cR <| oM rfl <| oX (e_peqn runUnderlying89 rfl) <| oN <| cL rfl <| c_seq <| cQ <| qM rfl <| qC rfl <| qX (e_fak 0 runUnderlying86 rfl sizeOf72 rfl rfl rfl) ?_
    refine qX (e_load isAgg72 rfl (.inr (by assumption)) rfl) ?_
    refine qM rfl <| qC rfl <| qX (e_fak 1 runUnderlying86 rfl sizeOf3 rfl rfl rfl) ?_
    refine qX (e_load isAgg3 rfl (.inr (by assumption)) rfl) ?_
    refine qX (e_sl_l runUnderlying72 sizeOf5 rfl rfl (by omega) (by omega) (by omega)) <| qX (e_bs underlying72 underlying5 underlying9 rfl (.inr hD) hcut) <| qA rfl <| qN <| c_ret ?_
    refine r_fn1 results44 rfl ?_
    exact ⟨rfl, rfl⟩
theorem again_ok (hl : l.length ≤ 100) (hf : ∀ x ∈ l, EnFit x) (hd : ∀ x ∈ l, x.d.length ≤ 200) (hk : kind = 1024 ∨ kind = 1025) (hbe : behind.length ≤ 4096) :
    CtrP Tryz.prog 18 [S (indexB l kind ++ behind)] G (.tuple #[.int .i64 (indexB l kind).length, S (indexB l kind), .bool true]) := by
  have hsm := bodyB_small l kind hd hl
  have hix : (indexB l kind).length ≤ 221000010 := by simp only [indexB, List.length_append, kindB_length]; omega
  have hlen : (indexB l kind ++ behind).length ≤ 300000000 := by rw [List.length_append]; omega
  have hle : (indexB l kind).length ≤ (indexB l kind ++ behind).length := by rw [List.length_append]; omega
  have hge : (indexB l kind ++ behind).length = (indexB l kind).length + behind.length := List.length_append
  obtain ⟨bs, hbs⟩ : ∃ bs, bs = indexB l kind ++ behind := ⟨_, rfl⟩
  rw [← hbs] at hlen hle hge ⊢
  refine fn_enter 34 func18 rfl ntmps18 rfl ?_
  intro w0
  refine cR <| oA rfl <| oA rfl <| oA rfl <| oN <| cR <| oM rfl ?_
  refine o_l rfl (l_sbc underlying9 underlying72 underlying5 rfl rfl (by simp; omega) rfl rfl) ?_
  rintro ⟨gs, cap, rest, lo, hi⟩ hy
  refine o_l rfl (l_call call40 newReader_is rfl rfl .nil) ?_
  rintro ⟨r, H'⟩ ⟨gr, rfl, rfl⟩
  simp only [List.cons_append, List.nil_append]
  refine oA rfl <| oN <| cR <| oM rfl <| oX (e_mkif runUnderlying75 rfl rfl) ?_
  refine o_l rfl (l_callj (HJ := [(gs, DB bs rest lo hi)]) call41 (from_ok (l := l) (kind := kind) (behind := behind) (List.mem_append_right _ (.head _)) rfl hy.le hy.lt (by omega) hbs hl hf hd hk) rfl rfl (.cons .head .nil) (by simp)) ?_
  rintro ⟨r, H'⟩ ⟨v, H1, rfl, hm, rfl⟩
  simp only [List.cons_append, List.nil_append]
  refine oM rfl <| oX (e_extract rfl rfl) <| oX (e_extract rfl rfl) <| oA rfl <| oA rfl <| oN <| c_seq <| cR <| oM rfl <| oX (e_nnen runUnderlying80 rfl) <| oN <| cL rfl <| cR ?_
  refine o_l rfl (l_alloc zeroValue86 rfl rfl) ?_; intro g8 _
  refine oN <| cR <| oM rfl <| oX (e_mkif runUnderlying89 rfl rfl) ?_
  have key : ∀ {x : Cx} {s : Slots} {H : HP} {d : Nat} {ps : List Operand} {ats : Array TypeId} {ty : TypeId} {pos : String} {af : Array Edge} {gd : Option (Nat × Bool)} {g8 : Nat}, x.P = Tryz.prog → Nat.blt d x.N = true → evs s ps = some [v, .iface 89 (.pointer (some ⟨g8, 0, none⟩))] → (∀ p ∈ H1, p ∈ H) →
      Lo x s ((g8, Bu (.slice none 0 0) 0) :: H) ⟨some d, .call { callee := .value (.func 42), args := ps.toArray, argTypes := ats }, ty, pos, af, gd⟩ (Y := Value × HP) (fun y => (d, y.1) :: s) (fun y => y.2 ++ H) (fun y => ∃ (z : Int) (v' : Value) (HB' : HP), y.1 = .tuple #[.int .u64 z, .nilIface] ∧ Bb v' (indexB l kind) HB' ∧ y.2 = (g8, Bu v' 0) :: HB') := by
    intro x s H d ps ats ty pos af gd g8 hx hN hps hj
    obtain ⟨xP, xN, xw, xM, xD, xG, xQ⟩ := x
    simp only at hx hN
    subst hx
    cases hm with
    | s h => exact l_callj (x := ⟨Tryz.prog, xN, xw, xM, xD, xG, xQ⟩) (HJ := _) call42 (writeS_is h (fun p hp => List.mem_append_right _ hp) hd hl) hN hps (.cons .head .nil) hj
    | m h => exact l_callj (x := ⟨Tryz.prog, xN, xw, xM, xD, xG, xQ⟩) (HJ := _) call42 (writeM_is h (fun p hp => List.mem_append_right _ hp) hf hd hl) hN hps (.cons .head .nil) hj
  refine o_l rfl (key rfl rfl rfl (fun p hp => .tail _ (List.mem_append_left _ hp))) ?_
  rintro ⟨r, H'⟩ ⟨z, v', HB', rfl, hb, rfl⟩
  simp only [List.cons_append]
  refine oM rfl <| oX (e_extract rfl rfl) <| oX (e_extract rfl rfl) <| oA rfl <| oN <| c_seq <| cQ <| qM rfl <| qX (e_lens runUnderlying9 rfl) <| qM rfl ?_
  refine q_call (HJ := [(gr, RB gs bs.length cap (indexB l kind).length)]) (R := fun v H' => v = _ ∧ H' = []) call43 (rlen_is (List.mem_append_right _ (.head _)) hle (by omega)) (fun _ _ h => h.1) rfl rfl rfl (by simp) ?_
  refine qX (e_subN rfl rfl (by omega)) ?_
  refine q_call (HJ := (g8, Bu v' 0) :: HB') (R := fun v H' => v = _ ∧ H' = []) call44 (str_is (List.mem_append_right _ (.head _)) hb (fun p hp => List.mem_append_right _ (.tail _ hp))) (fun _ _ h => h.1) rfl rfl rfl (by intro p hp; rcases List.mem_cons.1 hp with rfl | hp; exact .head _; exact .tail _ (List.mem_append_left _ hp)) ?_
  refine qM rfl <| qX (e_neqn runUnderlying80 rfl) <| qA rfl <| qA rfl <| qA rfl <| qN <| c_ret ?_
  refine WR.sel .nil ?_
  refine r_fn (l := [.tmp 2, .tmp 3, .tmp 4]) results18 rfl rfl ?_
  exact ⟨by rw [show bs.length - (bs.length - (indexB l kind).length) = (indexB l kind).length by omega], rfl⟩
theorem codec_ok (hl : l.length ≤ 100) (hd : ∀ x ∈ l, x.d.length ≤ 200) (hk : kind = 1024 ∨ kind = 1025) (hbe : behind.length ≤ 4096) :
    CtrP Tryz.prog 20 [S (indexB l kind ++ behind)] G (.tuple #[.int .u64 kind, .bool true]) := by
  have hsm := bodyB_small l kind hd hl
  rcases hk with rfl | rfl
  · show CtrP Tryz.prog 20 [S (128 :: 8 :: (bodyB l 1024 ++ behind))] G _
    have hlen : (bodyB l 1024 ++ behind).length ≤ 300000000 := by rw [List.length_append]; omega
    generalize bodyB l 1024 ++ behind = tl at *
    refine fn_enter 17 func20 rfl ntmps20 rfl ?_
    intro w0
    refine cR <| oA rfl <| oA rfl <| oN <| cR <| oM rfl ?_
    refine o_l rfl (l_sbc underlying9 underlying72 underlying5 rfl rfl (by simp; omega) rfl rfl) ?_
    rintro ⟨gs, cap, rest, lo, hi⟩ hy
    refine o_l rfl (l_call call40 newReader_is rfl rfl .nil) ?_
    rintro ⟨r, H'⟩ ⟨gr, rfl, rfl⟩
    simp only [List.cons_append, List.nil_append]
    refine oX (e_mkif runUnderlying75 rfl rfl) ?_
    refine o_l rfl (l_callj (HJ := [(gs, DB (128 :: 8 :: tl) rest lo hi)]) call45 (codec_of (uvar_1024 (List.mem_append_right _ (.head _)) rfl (by simp; omega))) rfl rfl (.cons .head .nil) (by simp)) ?_
    rintro ⟨r, H'⟩ ⟨rfl, rfl⟩
    simp only [List.cons_append, List.nil_append]
    refine oM rfl <| oX (e_extract rfl rfl) <| oX (e_extract rfl rfl) <| oA rfl <| oA rfl <| oN <| c_seq <| cQ <| qM rfl <| qM rfl <| qX (e_neqn runUnderlying80 rfl) <| qA rfl <| qA rfl <| qN <| c_ret ?_
    refine WR.sel .nil ?_
    refine r_fn (l := [.tmp 2, .tmp 3]) results20 rfl rfl ?_
    exact ⟨rfl, rfl⟩
  · show CtrP Tryz.prog 20 [S (129 :: 8 :: (bodyB l 1025 ++ behind))] G _
    have hlen : (bodyB l 1025 ++ behind).length ≤ 300000000 := by rw [List.length_append]; omega
    generalize bodyB l 1025 ++ behind = tl at *
    refine fn_enter 17 func20 rfl ntmps20 rfl ?_
    intro w0
    refine cR <| oA rfl <| oA rfl <| oN <| cR <| oM rfl ?_
    refine o_l rfl (l_sbc underlying9 underlying72 underlying5 rfl rfl (by simp; omega) rfl rfl) ?_
    rintro ⟨gs, cap, rest, lo, hi⟩ hy
    refine o_l rfl (l_call call40 newReader_is rfl rfl .nil) ?_
    rintro ⟨r, H'⟩ ⟨gr, rfl, rfl⟩
    simp only [List.cons_append, List.nil_append]
    refine oX (e_mkif runUnderlying75 rfl rfl) ?_
    refine o_l rfl (l_callj (HJ := [(gs, DB (129 :: 8 :: tl) rest lo hi)]) call45 (codec_of (uvar_1025 (List.mem_append_right _ (.head _)) rfl (by simp; omega))) rfl rfl (.cons .head .nil) (by simp)) ?_
    rintro ⟨r, H'⟩ ⟨rfl, rfl⟩
    simp only [List.cons_append, List.nil_append]
    refine oM rfl <| oX (e_extract rfl rfl) <| oX (e_extract rfl rfl) <| oA rfl <| oA rfl <| oN <| c_seq <| cQ <| qM rfl <| qM rfl <| qX (e_neqn runUnderlying80 rfl) <| qA rfl <| qA rfl <| qN <| c_ret ?_
    refine WR.sel .nil ?_
    refine r_fn (l := [.tmp 2, .tmp 3]) results20 rfl rfl ?_
    exact ⟨rfl, rfl⟩
end
end Go.Proofs

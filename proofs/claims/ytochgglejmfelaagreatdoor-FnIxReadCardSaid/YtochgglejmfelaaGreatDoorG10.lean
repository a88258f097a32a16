/- Rows of numbers, sorted in memory: the whole; Keys that come in any order, sorted; The parts of an index written; Rows of numbers, sorted in memory: comparisons, insertion sort; Rows of numbers, sorted in memory: heaps; Rows of numbers, sorted in memory: the pivot. (A part of the proof of this: for every input laws.FnIxRead returns true and its arguments read as they did, the listed package variables being what the program lays.) -/
import Derived.Test.YtochgglejmfelaaGreatDoorG02
import Derived.Test.YtochgglejmfelaaGreatDoorG09
import Derived.Test.YtochgglejmfelaaGreatDoorG03
import Derived.Test.YtochgglejmfelaaGreatDoorG08
import Derived.Test.YtochgglejmfelaaGreatDoorG04
import Derived.Test.YtochgglejmfelaaGreatDoorG05
namespace Go.Proofs.A4
open Go Go.Sl Tryz
set_option maxRecDepth 100000
set_option maxHeartbeats 2000000
section
variable {G : HP} {g n cap lo hi : Nat} {rest : List Value}
theorem pdq_is (hf : n ≤ lo ∨ hi = 0) (h1 : n ≤ 255) : ∀ (h : Nat) {l : List Int} {a b : Nat} {lim : Int} (_ : l.length = n) (_ : a ≤ b) (_ : b ≤ n) (_ : b - a = h) (_ : Lb a b l),
    Ctr Tryz.prog 360 [.slice (some ⟨g, 0, none⟩) n cap, .int .i64 a, .int .i64 b, .int .i64 lim] G [(g, VB .u32 l rest 212 lo hi)] (fun r H' => r = .tuple #[] ∧ ∃ l', (PR a b l l' ∧ SR a b l') ∧ H' = [(g, VB .u32 l' rest 212 lo hi)]) := by
  intro h
  induction h using Nat.strongRecOn with
  | ind h ih =>
  intro l a b lim hn hab hb hh hlb
  refine fn_enter 134 func360 rfl ntmps360 rfl ?_
  intro w0
  refine cR <| oA rfl <| oN <| cR <| oA rfl <| oN <| c_block ?_
  refine c_loop (X := List Int × Nat × Nat × Int × Bool × Bool) (fun y => [(0, .slice (some ⟨g, 0, none⟩) n cap), (1, .int .i64 y.2.1), (2, .int .i64 y.2.2.1), (3, .int .i64 y.2.2.2.1), (8, .bool y.2.2.2.2.1), (9, .bool y.2.2.2.2.2)]) (fun y => [(g, VB .u32 y.1 rest 212 lo hi)]) (fun y => PR a b l y.1 ∧ Fin a b y.2.1 y.2.2.1 y.1 ∧ Lb y.2.1 y.2.2.1 y.1 ∧ a ≤ y.2.1 ∧ y.2.1 ≤ y.2.2.1 ∧ y.2.2.1 ≤ b) (fun y => y.2.2.1 - y.2.1) (l, a, b, lim, true, true) ⟨.refl, .start, hlb, Nat.le_refl _, hab, Nat.le_refl _⟩ (sub_cons rfl (sub_cons rfl (sub_cons rfl (sub_cons rfl (sub_cons rfl (sub_cons rfl sub_nil)))))) (.refl _) ?_
  clear lim hlb
  rintro ⟨m, a', b', lim, bl, bp⟩ ⟨hm, hfin, hlb, ha, hab', hb'⟩
  simp only at hm hfin hlb ha hab' hb' ⊢
  have hl := hm.len
  refine c_block <| cR <| oM rfl <| oM rfl <| oX (e_subN rfl rfl (by omega)) <| oA rfl <| oN <| c_seq <| cR <| oM rfl <| oX (e_leq rfl rfl) <| oN ?_
  refine c_ifp rfl (fun h2 => ?_) (fun h2 => ?_)
  · refine cR <| oM rfl <| oM rfl <| oM rfl ?_
    refine o_l rfl (l_call call370 (ins_is (hl.trans hn) hf (by omega) hab' (by omega)) rfl rfl (.cons .head .nil)) ?_
    rintro ⟨r, H'⟩ ⟨rfl, m', ⟨hp, hs⟩, rfl⟩
    simp only [List.cons_append, List.nil_append]
    refine oN <| c_ret ?_
    refine r_fn0 results360 ?_
    exact ⟨rfl, m', ⟨hm.trans (hp.mono ha hb' (by omega)), hfin m' hp hs⟩, rfl⟩
  · skip
    refine c_skip <| n_code <| c_seq <| cR <| oM rfl <| oX (e_eql rfl rfl) <| oN ?_
    refine c_ifp rfl (fun h3 => ?_) (fun h3 => ?_)
    · refine cR <| oM rfl <| oM rfl <| oM rfl ?_
      refine o_l rfl (l_call call371 (heap_is (hl.trans hn) hf (by omega) (by omega) (by omega)) rfl rfl (.cons .head .nil)) ?_
      rintro ⟨r, H'⟩ ⟨rfl, m', ⟨hp, hs⟩, rfl⟩
      simp only [List.cons_append, List.nil_append]
      refine oN <| c_ret ?_
      refine r_fn0 results360 ?_
      exact ⟨rfl, m', ⟨hm.trans (hp.mono ha hb' (by omega)), hfin m' hp hs⟩, rfl⟩
    · skip
      have h12 : 12 < b' - a' := by omega
      clear h2 h3
      refine c_skip <| n_code <| c_seq ?_
      refine c_cut (X := List Int × Int) (fun y => [(0, .slice (some ⟨g, 0, none⟩) n cap), (1, .int .i64 a'), (2, .int .i64 b'), (3, .int .i64 y.2), (8, .bool bl), (9, .bool bp), (10, .int .i64 (b' - a' : Nat))]) (fun y => [(g, VB .u32 y.1 rest 212 lo hi)]) (fun y => PR a' b' m y.1) ?_ ?_
      · skip
        refine cR <| oM rfl <| oX (e_not rfl) <| oN ?_
        refine c_if rfl (fun h4 => ?_) (fun h4 => ?_)
        · refine cR <| oM rfl <| oM rfl <| oM rfl ?_
          refine o_l rfl (l_call call372 (brk_is (hl.trans hn) hf h1 (by omega) (by omega)) rfl rfl (.cons .head .nil)) ?_
          rintro ⟨r, H'⟩ ⟨rfl, m', hp, rfl⟩
          simp only [List.cons_append, List.nil_append]
          refine oN <| c_region <| oM rfl <| oX (e_sub rfl rfl) <| oA rfl <| o_nil ?_
          exact n_cut (m', _) hp (sub_cons rfl (sub_cons rfl (sub_cons rfl (sub_cons rfl (sub_cons rfl (sub_cons rfl (sub_cons rfl sub_nil))))))) (.refl _)
        · skip
          refine c_skip ?_
          exact n_cut (m, lim) .refl (sub_cons rfl (sub_cons rfl (sub_cons rfl (sub_cons rfl (sub_cons rfl (sub_cons rfl (sub_cons rfl sub_nil))))))) (.refl _)
      · rintro ⟨m1, lim1⟩ hp1
        simp only at hp1 ⊢
        replace hm : PR a b l m1 := hm.trans (hp1.mono ha hb' (by omega))
        replace hfin := hfin.pr hp1
        replace hlb := hlb.pr hp1 (Nat.le_refl _) (Nat.le_refl _)
        replace hl : m1.length = l.length := hm.len
        clear hp1
        refine n_code <| cR <| oM rfl <| oM rfl <| oM rfl ?_
        refine o_l rfl (l_call call373 (piv_is (hl.trans hn) (by omega) (by omega) (by omega)) rfl rfl (.cons .head .nil)) ?_
        rintro ⟨r, H'⟩ ⟨p, z, rfl, hp, rfl⟩
        simp only [List.cons_append, List.nil_append]
        refine oM rfl <| oX (e_extract rfl rfl) <| oX (e_extract rfl rfl) <| oA rfl <| oA rfl <| oN <| c_seq ?_
        refine c_cut (X := List Int × Nat × Int) (fun y => [(0, .slice (some ⟨g, 0, none⟩) n cap), (1, .int .i64 a'), (2, .int .i64 b'), (3, .int .i64 lim1), (8, .bool bl), (9, .bool bp), (10, .int .i64 (b' - a' : Nat)), (11, .int .i64 y.2.1), (12, .int .i64 y.2.2)]) (fun y => [(g, VB .u32 y.1 rest 212 lo hi)]) (fun y => PR a' b' m1 y.1 ∧ a' ≤ y.2.1 ∧ y.2.1 < b') ?_ ?_
        · skip
          refine cR <| oM rfl <| oX (e_eql rfl rfl) <| oN ?_
          refine c_ifp rfl (fun h4 => ?_) (fun h4 => ?_)
          · refine cR <| oM rfl <| oM rfl <| oM rfl ?_
            refine o_l rfl (l_call call374 (rev_is (hl.trans hn) hf (by omega) (by omega) (by omega)) rfl rfl (.cons .head .nil)) ?_
            rintro ⟨r, H'⟩ ⟨rfl, m', hp', rfl⟩
            simp only [List.cons_append, List.nil_append]
            refine oN <| cR <| oM rfl <| oX (e_sub1 rfl rfl (by omega)) <| oM rfl <| oM rfl <| oX (e_subN rfl rfl (by omega)) <| oX (e_subN rfl rfl (by omega)) <| oA rfl <| oN <| c_region <| oA rfl <| o_nil ?_
            exact n_cut (m', b' - 1 - (p - a'), 1) ⟨hp', by show a' ≤ b' - 1 - (p - a'); omega, by show b' - 1 - (p - a') < b'; omega⟩ (sub_cons rfl (sub_cons rfl (sub_cons rfl (sub_cons rfl (sub_cons rfl (sub_cons rfl (sub_cons rfl (sub_cons rfl (sub_cons rfl sub_nil))))))))) (.refl _)
          · skip
            refine c_skip ?_
            exact n_cut (m1, p, z) ⟨.refl, hp⟩ (sub_cons rfl (sub_cons rfl (sub_cons rfl (sub_cons rfl (sub_cons rfl (sub_cons rfl (sub_cons rfl (sub_cons rfl (sub_cons rfl sub_nil))))))))) (.refl _)
        · clear hp p z
          rintro ⟨m2, p, z⟩ ⟨hp1, hp⟩
          simp only at hp1 hp ⊢
          replace hm : PR a b l m2 := hm.trans (hp1.mono ha hb' (by omega))
          replace hfin := hfin.pr hp1
          replace hlb := hlb.pr hp1 (Nat.le_refl _) (Nat.le_refl _)
          replace hl : m2.length = l.length := hm.len
          clear hp1
          refine n_code <| c_seq ?_
          refine c_cut (X := List Int) (fun _ => [(0, .slice (some ⟨g, 0, none⟩) n cap), (1, .int .i64 a'), (2, .int .i64 b'), (3, .int .i64 lim1), (8, .bool bl), (9, .bool bp), (10, .int .i64 (b' - a' : Nat)), (11, .int .i64 p)]) (fun m => [(g, VB .u32 m rest 212 lo hi)]) (fun m => PR a' b' m2 m) ?_ ?_
          · skip
            refine cR <| oM rfl <| oM rfl ?_
            refine o_split 62 rfl (fun h4 => ?_) (fun h4 => ?_)
            · refine oM rfl <| oX (e_pick_t rfl rfl) <| oM rfl ?_
              refine o_split 65 rfl (fun h5 => ?_) (fun h5 => ?_)
              · refine oM rfl <| oX (e_eql rfl rfl) <| oX (e_pick_t rfl rfl) <| oN ?_
                refine c_ifp rfl (fun h6 => ?_) (fun h6 => ?_)
                · refine cR <| oM rfl <| oM rfl <| oM rfl ?_
                  refine o_l rfl (l_call call375 (part_is (hl.trans hn) hf (by omega) (by omega) (by omega) hlb) rfl rfl (.cons .head .nil)) ?_
                  rintro ⟨r, H'⟩ ⟨t, m', rfl, hp', hs', rfl⟩
                  simp only [List.cons_append, List.nil_append]
                  refine oN ?_
                  refine c_if rfl (fun h7 => ?_) (fun h7 => ?_)
                  · refine c_ret ?_
                    refine r_fn0 results360 ?_
                    exact ⟨rfl, m', ⟨hm.trans (hp'.mono ha hb' (by omega)), hfin m' hp' (hs' h7)⟩, rfl⟩
                  · skip
                    refine c_skip ?_
                    exact n_cut m' hp' (sub_cons rfl (sub_cons rfl (sub_cons rfl (sub_cons rfl (sub_cons rfl (sub_cons rfl (sub_cons rfl (sub_cons rfl sub_nil)))))))) (.refl _)
                · skip
                  refine c_skip ?_
                  exact n_cut m2 .refl (sub_cons rfl (sub_cons rfl (sub_cons rfl (sub_cons rfl (sub_cons rfl (sub_cons rfl (sub_cons rfl (sub_cons rfl sub_nil)))))))) (.refl _)
              · skip
                refine oS <| oS <| oX (e_pick_f rfl rfl) <| oN <| c_else rfl <| c_skip ?_
                exact n_cut m2 .refl (sub_cons rfl (sub_cons rfl (sub_cons rfl (sub_cons rfl (sub_cons rfl (sub_cons rfl (sub_cons rfl (sub_cons rfl sub_nil)))))))) (.refl _)
            · skip
              refine oS <| oX (e_pick_f rfl rfl) <| oM rfl <| oS <| oS <| oX (e_pick_f rfl rfl) <| oN <| c_else rfl <| c_skip ?_
              exact n_cut m2 .refl (sub_cons rfl (sub_cons rfl (sub_cons rfl (sub_cons rfl (sub_cons rfl (sub_cons rfl (sub_cons rfl (sub_cons rfl sub_nil)))))))) (.refl _)
          · rintro m3 hp1
            replace hm : PR a b l m3 := hm.trans (hp1.mono ha hb' (by omega))
            replace hfin := hfin.pr hp1
            replace hlb := hlb.pr hp1 (Nat.le_refl _) (Nat.le_refl _)
            replace hl : m3.length = l.length := hm.len
            clear hp1
            refine n_code <| c_seq <| c_seq <| cQ <| qM rfl <| qX (e_gtr rfl rfl) <| qM rfl ?_
            refine q_splitp 75 rfl (fun h4 => ?_) (fun h4 => ?_)
            · refine qM rfl <| qM rfl <| qX (e_sub1 rfl rfl (by omega)) <| qX (e_ian runUnderlying472 sizeOf212 rfl rfl (by omega)) <| qX (e_ld isAgg212 rfl (.inl M0) (by omega)) <| qM rfl <| qM rfl <| qX (e_ian runUnderlying472 sizeOf212 rfl rfl (by omega)) <| qX (e_ld isAgg212 rfl (.inl M0) (by omega)) <| q_pure rfl call376 (less_is) rfl rfl <| qX (e_not rfl) <| qX (e_pick_t rfl rfl) <| qN ?_
              refine c_if rfl (fun h5 => ?_) (fun h5 => ?_)
              · have h5' : ¬ gd m3 (a' - 1) < gd m3 p := by simpa using h5
                refine cR <| oM rfl <| oM rfl <| oM rfl <| oM rfl ?_
                refine o_l rfl (l_call call377 (peq_is (p := p) (hl.trans hn) hf (by omega) hp.1 hp.2 (by omega)) rfl rfl (.cons .head .nil)) ?_
                rintro ⟨r, H'⟩ ⟨mid, m4, rfl, hp1, hpe, hga, rfl⟩
                simp only [List.cons_append, List.nil_append]
                have k1 := hpe.am
                have k2 := hpe.mb
                have hmin : ∀ i, a' ≤ i → i < b' → gd m4 a' ≤ gd m4 i := by
                  have hlo : ∀ i, a' ≤ i → i < b' → gd m3 p ≤ gd m3 i := fun i i1 i2 => by
                    rcases hlb with h | h
                    · omega
                    · exact Int.le_trans (Int.not_lt.1 h5') (h i i1 i2)
                  have := hp1.all (p := fun z => gd m3 p ≤ z) hlo
                  intro i i1 i2
                  rw [hga]
                  exact this i i1 i2
                refine oA rfl <| oN <| cR <| oM rfl <| oA rfl <| oN ?_
                refine c_exit ?_; refine x_code ?_; refine x_here ?_
                refine n_round' (y := (m, a', b', lim, bl, bp)) (m4, mid, b', lim1, bl, bp) (by show b' - mid < b' - a'; omega) ?_ (sub_cons rfl (sub_cons rfl (sub_cons rfl (sub_cons rfl (sub_cons rfl (sub_cons rfl sub_nil)))))) _ (.refl _) (List.Sublist.refl _)
                have hm4 : PR a b l m4 := hm.trans (hp1.mono ha hb' (by omega))
                exact ⟨hm4, hpe.all (hfin.pr hp1) hmin (by have := hm4.len; omega), hpe.lb, by show a ≤ mid; omega, k2, hb'⟩
              · skip
                refine c_skip <| n_code <| cR <| oM rfl <| oM rfl <| oM rfl <| oM rfl ?_
                refine o_l rfl (l_call call378 (part2_is (p := p) (hl.trans hn) hf (by omega) hp.1 hp.2 (by omega)) rfl rfl (.cons .head .nil)) ?_
                rintro ⟨r, H'⟩ ⟨mid, t, m4, rfl, hp1, hpt, rfl⟩
                simp only [List.cons_append, List.nil_append]
                have k1 := hpt.am
                have k2 := hpt.mb
                have hm4 : PR a b l m4 := hm.trans (hp1.mono ha hb' (by omega))
                have hfin4 := hfin.pr hp1
                have hlb4 := hlb.pr hp1 (Nat.le_refl _) (Nat.le_refl _)
                have hl4 : m4.length = l.length := hm4.len
                refine oM rfl <| oX (e_extract rfl rfl) <| oX (e_extract rfl rfl) <| oA rfl <| oA rfl <| oN <| cR <| oM rfl <| oA rfl <| oN <| cR <| oM rfl <| oM rfl <| oX (e_subN rfl rfl (by omega)) <| oM rfl <| oM rfl <| oX (e_subN rfl rfl (by omega)) <| oA rfl <| oA rfl <| oN <| cR <| oM rfl <| oX (e_quon rfl rfl (by omega) (by omega) (by simp only [inR]; omega)) <| oA rfl <| oN <| cR <| oM rfl <| oM rfl <| oX (e_lss rfl rfl) <| oN ?_
                refine c_ifp rfl (fun h6 => ?_) (fun h6 => ?_)
                · refine cR <| oM rfl <| oM rfl <| oX (e_geq rfl rfl) <| oA rfl <| oN <| cR <| oM rfl <| oM rfl <| oM rfl <| oM rfl ?_
                  refine o_l rfl (l_call call360 (ih (mid - a') (by omega) (a := a') (b := mid) (hl4.trans hn) k1 (by omega) rfl (hlb4.less (by omega))) rfl rfl (.cons .head .nil)) ?_
                  rintro ⟨r, H'⟩ ⟨rfl, m5, ⟨hp5, hs5⟩, rfl⟩
                  simp only [List.cons_append, List.nil_append]
                  refine oN <| c_region <| oM rfl <| oX (e_addn rfl rfl (by simp only [inR]; omega)) <| oA rfl <| o_nil <| n_block ?_
                  have hq5 : PR a' b' m4 m5 := hp5.mono (Nat.le_refl _) (by omega) (by omega)
                  refine n_round' (y := (m, a', b', lim, bl, bp)) (m5, mid + 1, b', lim1, _, _) (by show b' - (mid + 1) < b' - a'; omega) ?_ (sub_cons rfl (sub_cons rfl (sub_cons rfl (sub_cons rfl (sub_cons rfl (sub_cons rfl sub_nil)))))) _ (.refl _) (List.Sublist.refl _)
                  exact ⟨hm4.trans (hq5.mono ha hb' (by omega)), hpt.left hfin4 hp5 hs5 (by omega), (hpt.keepl hp5).lbr, by show a ≤ mid + 1; omega, by show mid + 1 ≤ b'; omega, hb'⟩
                · skip
                  refine cR <| oM rfl <| oM rfl <| oX (e_geq rfl rfl) <| oA rfl <| oN <| cR <| oM rfl <| oM rfl <| oX (e_addn rfl rfl (by simp only [inR]; omega)) <| oM rfl <| oM rfl ?_
                  refine o_l rfl (l_call call360 (ih (b' - (mid + 1)) (by omega) (a := mid + 1) (b := b') (hl4.trans hn) (by omega) (by omega) rfl hpt.lbr) rfl rfl (.cons .head .nil)) ?_
                  rintro ⟨r, H'⟩ ⟨rfl, m5, ⟨hp5, hs5⟩, rfl⟩
                  simp only [List.cons_append, List.nil_append]
                  refine oN <| c_region <| oM rfl <| oA rfl <| o_nil <| n_block ?_
                  have hq5 : PR a' b' m4 m5 := hp5.mono (by omega) (Nat.le_refl _) (by omega)
                  refine n_round' (y := (m, a', b', lim, bl, bp)) (m5, a', mid, lim1, _, _) (by show mid - a' < b' - a'; omega) ?_ (sub_cons rfl (sub_cons rfl (sub_cons rfl (sub_cons rfl (sub_cons rfl (sub_cons rfl sub_nil)))))) _ (.refl _) (List.Sublist.refl _)
                  exact ⟨hm4.trans (hq5.mono ha hb' (by omega)), hpt.right hfin4 hp5 hs5 (by omega), (hlb4.pr hq5 (Nat.le_refl _) (Nat.le_refl _)).less (by show mid ≤ b'; omega), ha, k1, by show mid ≤ b; omega⟩
            · skip
              refine qS <| qS <| qS <| qS <| qS <| qS <| qS <| qS <| qS <| qS <| qS <| qX (e_pick_f rfl rfl) <| qN <| cL rfl <| cR <| oM rfl <| oM rfl <| oM rfl <| oM rfl ?_
              refine o_l rfl (l_call call378 (part2_is (p := p) (hl.trans hn) hf (by omega) hp.1 hp.2 (by omega)) rfl rfl (.cons .head .nil)) ?_
              rintro ⟨r, H'⟩ ⟨mid, t, m4, rfl, hp1, hpt, rfl⟩
              simp only [List.cons_append, List.nil_append]
              have k1 := hpt.am
              have k2 := hpt.mb
              have hm4 : PR a b l m4 := hm.trans (hp1.mono ha hb' (by omega))
              have hfin4 := hfin.pr hp1
              have hlb4 := hlb.pr hp1 (Nat.le_refl _) (Nat.le_refl _)
              have hl4 : m4.length = l.length := hm4.len
              refine oM rfl <| oX (e_extract rfl rfl) <| oX (e_extract rfl rfl) <| oA rfl <| oA rfl <| oN <| cR <| oM rfl <| oA rfl <| oN <| cR <| oM rfl <| oM rfl <| oX (e_subN rfl rfl (by omega)) <| oM rfl <| oM rfl <| oX (e_subN rfl rfl (by omega)) <| oA rfl <| oA rfl <| oN <| cR <| oM rfl <| oX (e_quon rfl rfl (by omega) (by omega) (by simp only [inR]; omega)) <| oA rfl <| oN <| cR <| oM rfl <| oM rfl <| oX (e_lss rfl rfl) <| oN ?_
              refine c_ifp rfl (fun h6 => ?_) (fun h6 => ?_)
              · refine cR <| oM rfl <| oM rfl <| oX (e_geq rfl rfl) <| oA rfl <| oN <| cR <| oM rfl <| oM rfl <| oM rfl <| oM rfl ?_
                refine o_l rfl (l_call call360 (ih (mid - a') (by omega) (a := a') (b := mid) (hl4.trans hn) k1 (by omega) rfl (hlb4.less (by omega))) rfl rfl (.cons .head .nil)) ?_
                rintro ⟨r, H'⟩ ⟨rfl, m5, ⟨hp5, hs5⟩, rfl⟩
                simp only [List.cons_append, List.nil_append]
                refine oN <| c_region <| oM rfl <| oX (e_addn rfl rfl (by simp only [inR]; omega)) <| oA rfl <| o_nil <| n_block ?_
                have hq5 : PR a' b' m4 m5 := hp5.mono (Nat.le_refl _) (by omega) (by omega)
                refine n_round' (y := (m, a', b', lim, bl, bp)) (m5, mid + 1, b', lim1, _, _) (by show b' - (mid + 1) < b' - a'; omega) ?_ (sub_cons rfl (sub_cons rfl (sub_cons rfl (sub_cons rfl (sub_cons rfl (sub_cons rfl sub_nil)))))) _ (.refl _) (List.Sublist.refl _)
                exact ⟨hm4.trans (hq5.mono ha hb' (by omega)), hpt.left hfin4 hp5 hs5 (by omega), (hpt.keepl hp5).lbr, by show a ≤ mid + 1; omega, by show mid + 1 ≤ b'; omega, hb'⟩
              · skip
                refine cR <| oM rfl <| oM rfl <| oX (e_geq rfl rfl) <| oA rfl <| oN <| cR <| oM rfl <| oM rfl <| oX (e_addn rfl rfl (by simp only [inR]; omega)) <| oM rfl <| oM rfl ?_
                refine o_l rfl (l_call call360 (ih (b' - (mid + 1)) (by omega) (a := mid + 1) (b := b') (hl4.trans hn) (by omega) (by omega) rfl hpt.lbr) rfl rfl (.cons .head .nil)) ?_
                rintro ⟨r, H'⟩ ⟨rfl, m5, ⟨hp5, hs5⟩, rfl⟩
                simp only [List.cons_append, List.nil_append]
                refine oN <| c_region <| oM rfl <| oA rfl <| o_nil <| n_block ?_
                have hq5 : PR a' b' m4 m5 := hp5.mono (by omega) (Nat.le_refl _) (by omega)
                refine n_round' (y := (m, a', b', lim, bl, bp)) (m5, a', mid, lim1, _, _) (by show mid - a' < b' - a'; omega) ?_ (sub_cons rfl (sub_cons rfl (sub_cons rfl (sub_cons rfl (sub_cons rfl (sub_cons rfl sub_nil)))))) _ (.refl _) (List.Sublist.refl _)
                exact ⟨hm4.trans (hq5.mono ha hb' (by omega)), hpt.right hfin4 hp5 hs5 (by omega), (hlb4.pr hq5 (Nat.le_refl _) (Nat.le_refl _)).less (by show mid ≤ b'; omega), ha, k1, by show mid ≤ b; omega⟩
theorem sort_is {l : List Int} (hn : l.length = n) (hf : n ≤ lo ∨ hi = 0) (h1 : n ≤ 255) :
    Ctr Tryz.prog 339 [.slice (some ⟨g, 0, none⟩) n cap] G [(g, VB .u32 l rest 212 lo hi)] (fun r H' => r = .tuple #[] ∧ H' = [(g, VB .u32 (srt l) rest 212 lo hi)]) := by
  refine fn_enter 11 func339 rfl ntmps339 rfl ?_
  intro w0
  refine cR <| oM rfl <| oX (e_lenl runUnderlying472 rfl) <| oA rfl <| oN <| c_region <| oM rfl <| oM rfl <| oM rfl <| oX (e_convn runUnderlying3 runUnderlying131 rfl (by simp only [inR]; omega)) <| o_pure rfl call66 (len_is (x := n) (by omega)) rfl rfl ?_
  refine o_l rfl (l_call call360 (pdq_is hf h1 n (a := 0) (b := n) hn (Nat.zero_le _) (Nat.le_refl _) (by omega) (.inl rfl)) rfl rfl (.cons .head .nil)) ?_
  rintro ⟨r, H'⟩ ⟨rfl, l', ⟨hp, hs⟩, rfl⟩
  simp only [List.cons_append, List.nil_append]
  refine o_nil ?_
  refine n_fn0 results339 ?_
  exact ⟨rfl, by rw [srt_of hp hs hn]⟩
end
end Go.Proofs.A4
namespace Go.Sl
open Go
theorem keys_srt {ks : List Nat} {seen : List Nat} (hnd : seen.Nodup) (hlt : ∀ i ∈ seen, i < ks.length) (hall : ∀ i, i < ks.length → i ∈ seen) (hs : ks.Pairwise (· ≤ ·)) : srt (seen.map fun i => ((ks.getD i 0 : Nat) : Int)) = ks.map fun k : Nat => (k : Int) := by
  have hp : seen.Perm (List.range ks.length) := (List.perm_ext_iff_of_nodup hnd List.nodup_range).2 fun a => ⟨fun h => List.mem_range.2 (hlt a h), fun h => hall a (List.mem_range.1 h)⟩
  have hm : (List.range ks.length).map (fun i => ((ks.getD i 0 : Nat) : Int)) = ks.map fun k : Nat => (k : Int) := by
    refine List.ext_getElem (by simp) fun i h1 h2 => ?_
    simp only [List.length_map, List.length_range] at h1
    simp [List.getD, h1]
  have hp2 : (seen.map fun i => ((ks.getD i 0 : Nat) : Int)).Perm (ks.map fun k : Nat => (k : Int)) := by rw [← hm]; exact hp.map _
  refine List.Perm.eq_of_pairwise (le := fun a b => (decide (a ≤ b)) = true) ?_ (List.pairwise_mergeSort ?_ ?_ _) ?_ ((List.mergeSort_perm _ _).trans hp2)
  · intro a b _ _ h1 h2
    simp at h1 h2
    omega
  · intro a b c h1 h2
    simp at h1 h2 ⊢
    omega
  · intro a b
    simp
    omega
  · rw [List.pairwise_map]
    exact hs.imp fun h => by simpa using h
end Go.Sl
namespace Go.Proofs
open Go Go.Sl Tryz
set_option maxRecDepth 100000
set_option maxHeartbeats 1000000
theorem MV_get : ∀ {ts : List Mpart}, (ts.map fun t => t.2.1).Nodup → ∀ t ∈ ts, mget (MV ts) (t.2.1 : Nat) = some (.agg #[.int .u32 (t.2.1 : Nat), .int .u64 (t.2.2.length / t.2.1 : Nat), .slice (some ⟨t.1, 0, none⟩) t.2.2.length t.2.2.length])
  | [], _, t, ht => by cases ht
  | t0 :: ts, hd, t, ht => by
    rw [List.map_cons, List.nodup_cons] at hd
    simp only [MV, List.map_cons, mget]
    rcases List.mem_cons.1 ht with rfl | ht
    · rw [if_pos rfl]
    · rw [if_neg (fun e => hd.1 (by have e' : t.2.1 = t0.2.1 := by omega
                                    rw [← e']; exact List.mem_map_of_mem ht))]
      exact MV_get hd.2 t ht
theorem nodup_bound : ∀ {n : Nat} {l : List Nat}, l.Nodup → (∀ i ∈ l, i < n) → l.length ≤ n
  | 0, l, _, h => by
    cases l with
    | nil => simp
    | cons a l => exact absurd (h a (.head _)) (Nat.not_lt_zero _)
  | n + 1, l, hd, h => by
    have h1 : (l.erase n).length ≤ n := nodup_bound (hd.erase n) fun i hi => by
      have h2 := h i (List.mem_of_mem_erase hi)
      have h3 : i ≠ n := fun e => by subst e; exact (hd.not_mem_erase) hi
      omega
    have h4 := List.length_erase_le (a := n) (l := l)
    have h5 : l.length ≤ (l.erase n).length + 1 := by
      by_cases hm : n ∈ l
      · rw [List.length_erase_of_mem hm]; omega
      · rw [List.erase_of_not_mem hm]; omega
    omega
section
variable {G : HP} {gm gx gb em : Nat} {bs : List UInt8} {HB : HP} {lr : Int} {v : Value} {zs : List Value} {ts : List Mpart}
theorem mwiM_is (hb : Bb v bs HB) (hm : (gm, C (.map (some gx) :: zs) em) ∈ G) (hx : (gx, Mo .u32 (MV ts)) ∈ G) (ht : ∀ p ∈ MB ts, p ∈ G) (hlen : ts.length ≤ 200) (h2 : bs.length + ((ts.map (·.2)).flatMap pbB).length < 268435456) (hok : ∀ t ∈ ts, PartOk t.2) (hso : (ts.map fun t => t.2.1).Pairwise (· ≤ ·)) (hkn : (ts.map fun t => t.2.1).Nodup) :
    Ctr Tryz.prog 329 [.pointer (some ⟨gm, 0, none⟩), .iface 89 (.pointer (some ⟨gb, 0, none⟩))] G ((gb, Bu v lr) :: HB) (fun r H' => ∃ (z : Int) (v' : Value) (HB' : HP), r = .tuple #[.int .u64 z, .nilIface] ∧ Bb v' (bs ++ pmB (ts.map (·.2))) HB' ∧ H' = (gb, Bu v' 0) :: HB') := by
  have hMl : (MV ts).length = ts.length := by simp [MV]
  refine fn_enter 72 func329 rfl ntmps329 rfl ?_
  intro w0
  refine cR <| oA rfl <| oA rfl <| oN <| cR <| oA rfl <| oN <| c_seq <| cR <| oM rfl <| oM rfl <| oC rfl ?_
  refine oX (e_load isAgg327 rfl (.inr (by assumption)) rfl) ?_
  refine oX (e_lenm runUnderlying327 rfl (.inr (by assumption))) ?_
  refine oX (e_convn runUnderlying3 runUnderlying212 rfl (by simp only [inR]; omega)) ?_
  rw [hMl]
  refine o_l rfl (l_call call318 (w32_is (k := ts.length) hb (by omega)) rfl rfl (.cons .head (by simpa using Sel.app HB []))) ?_
  rintro ⟨r, H'⟩ ⟨rfl, v1, HB1, hb1, rfl⟩
  simp only [List.cons_append, List.append_nil]
  refine oA rfl <| oN <| cR <| oM rfl <| oX (e_nnen runUnderlying80 rfl) <| oN <| cL rfl <| cR <| oM rfl <| oX (e_addn rfl rfl (by simp only [inR]; omega)) <| oA rfl <| oN <| cR <| oM rfl <| oC rfl ?_
  refine oX (e_load isAgg327 rfl (.inr (by assumption)) rfl) ?_
  refine oX (e_lenm runUnderlying327 rfl (.inr (by assumption))) ?_
  rw [hMl]
  refine o_l rfl (l_mks (l := List.replicate ts.length (.int .u32 0)) underlying472 (info_of typeInfo212) rfl rfl rfl rfl (by decide) (by omega) (by show (4 : Int) * _ ≤ _; omega) (by omega) (made_one (.int .u32 0) ts.length rfl)) ?_
  intro g8 _
  refine oA rfl <| oN <| c_seq <| cR <| oM rfl <| oC rfl ?_
  refine oX (e_load isAgg327 rfl (.inr (by assumption)) rfl) ?_
  refine o_l rfl (l_range runUnderlying327 rfl rfl (.inr hx)) ?_
  intro it _
  refine oN <| c_block ?_
  refine c_loop (X := Value × HP × List Nat) (fun y => [(0, .pointer (some ⟨gm, 0, none⟩)), (1, .iface 89 (.pointer (some ⟨gb, 0, none⟩))), (6, .int .u64 4), (8, y.1), (36, .pointer (some ⟨it, 0, none⟩))]) (fun y => (it, Io gx (MV ts).length y.2.2) :: (y.2.1 ++ ((gb, Bu v1 0) :: HB1))) (fun y => (∃ A n c, y.1 = .slice (some A) n c) ∧ Osl 212 1 y.1 y.2.2.length (V .u32 (y.2.2.map fun i => ((ts.map fun t => t.2.1).getD i 0 : Nat))) y.2.1 ∧ y.2.2.Nodup ∧ ∀ i ∈ y.2.2, i < ts.length) (fun y => ts.length - y.2.2.length) (.slice (some ⟨g8, 0, none⟩) 0 ts.length, [(g8, C (List.replicate ts.length (.int .u32 0)) 212)], []) ⟨⟨_, _, _, rfl⟩, .own (xs := []) rfl (by simp) (Nat.zero_le _) (by omega) (.inr rfl), .nil, by simp⟩ (sub_cons rfl (sub_cons rfl (sub_cons rfl (sub_cons rfl (sub_cons rfl sub_nil))))) (.refl _) ?_
  rintro ⟨u, HU, seen⟩ ⟨hu, ho, hnd, hlt⟩
  simp only at hu ho hnd hlt ⊢
  refine cR ?_
  refine o_l rfl (l_next rfl rfl (.inr hx) (fun sn => .head)) ?_
  rintro (_ | i) hy
  · simp only [stepOk, stepV] at hy ⊢
    refine oX (e_extract rfl rfl) <| oN <| c_seq <| c_else rfl ?_
    refine c_exit ?_; refine x_code ?_; refine x_upto ?_; refine x_here ?_
    refine n_code <| cR <| oM rfl ?_
    have hkl : seen.length ≤ ts.length := nodup_bound hnd hlt
    have hks := keys_srt (ks := ts.map fun t => t.2.1) hnd (fun i hi => by simpa using hlt i hi) (fun i hi => hy i (by simpa [hMl] using hi)) hso
    generalize hacc : (seen.map fun i => ((ts.map fun t => t.2.1).getD i 0 : Nat) : List Int) = acc at ho hks
    have hal : acc.length = seen.length := by rw [← hacc]; simp
    rw [← hal] at ho
    rcases ho.openV with ⟨rfl, _, _⟩ | ⟨g, cap, rest, lo, hi', rfl, rfl, hr1, hr2, hr3, hr4⟩
    · obtain ⟨A, n, c, hu⟩ := hu
      cases hu
    · refine o_l rfl (l_call call339 (A4.sort_is (l := acc) (n := acc.length) rfl (by omega) (by omega)) rfl rfl (.cons (.tail .head) .nil)) ?_
      rintro ⟨r, H'⟩ ⟨rfl, rfl⟩
      simp only [List.cons_append, List.nil_append]
      rw [hks]
      refine oN <| c_seq <| cR <| oM rfl <| oX (e_lenl runUnderlying472 rfl) <| oM rfl <| oN <| c_block ?_
      have hat : acc.length = ts.length := by have := congrArg List.length hks; simpa [srt_length] using this
      refine c_loop (X := Nat × Int × Value × HP) (fun y => [(0, .pointer (some ⟨gm, 0, none⟩)), (1, .iface 89 (.pointer (some ⟨gb, 0, none⟩))), (6, .int .u64 y.2.1), (47, .slice (some ⟨g, 0, none⟩) acc.length cap), (48, .int .i64 acc.length), (49, .int .i64 y.1)]) (fun y => (g, VB .u32 (List.map (fun k : Nat => (k : Int)) (List.map (fun t => t.2.1) ts)) rest 212 lo hi') :: (it, Io gx (MV ts).length seen) :: (gb, Bu y.2.2.1 0) :: y.2.2.2) (fun y => y.1 ≤ ts.length ∧ Bb y.2.2.1 (bs ++ lowB (ts.length : Nat) 4 ++ ((ts.map (·.2)).take y.1).flatMap pbB) y.2.2.2) (fun y => ts.length - y.1) (0, 4, v1, HB1) ⟨Nat.zero_le _, by simpa using hb1⟩ (sub_cons rfl (sub_cons rfl (sub_cons rfl (sub_cons rfl (sub_cons rfl (sub_cons rfl sub_nil)))))) (.refl _) ?_
      rintro ⟨i, z, v', HB'⟩ ⟨hi0, hb'⟩
      simp only at hi0 hb' ⊢
      have hKl : (List.map (fun k : Nat => (k : Int)) (List.map (fun t : Mpart => t.2.1) ts)).length = ts.length := by simp
      generalize hK : List.map (fun k : Nat => (k : Int)) (List.map (fun t : Mpart => t.2.1) ts) = K at *
      refine cR <| oX (e_lss rfl rfl) <| oN <| c_seq ?_
      refine c_ifp rfl (fun h5 => ?_) (fun h5 => ?_)
      · have hi3 : i < ts.length := by omega
        have hgk : gd K i = (ts[i].2.1 : Nat) := by rw [← hK]; simp [gd, hi3]
        have hmg := MV_get hkn ts[i] (List.getElem_mem hi3)
        refine c_skip <| n_code <| c_seq <| c_block <| cR <| oX (e_ian runUnderlying472 sizeOf212 rfl rfl (by omega)) <| oX (e_ld isAgg212 rfl (.inl M0) (by omega)) <| oA rfl <| oN <| cR <| oM rfl <| oC rfl ?_
        refine oX (e_load isAgg327 rfl (.inr (by assumption)) rfl) ?_
        refine oM rfl ?_
        rw [hgk]
        refine oX (e_lookup runUnderlying327 runUnderlying212 zeroValue448 rfl rfl (.inr hx)) ?_
        rw [hmg]
        refine o_l rfl (l_alloc zeroValue448 rfl rfl) ?_; intro g12 _
        refine o_l rfl (l_storea sizeOf448 rfl rfl rfl (by simp [Value.oneCell']) .head (.take (.take (.take .done))) nofrs0) ?_
        intro _ _
        refine oN <| cR <| oM rfl ?_
        have hip : i < (ts.map (·.2)).length := by simpa using hi3
        have hfl := congrArg List.length (flat_split hip)
        simp only [List.length_append, pbB_length] at hfl
        have hge : (ts.map (·.2))[i] = ts[i].2 := by simp
        rw [hge] at hfl
        have hdd : (ts[i].1, DB ts[i].2.2 [] 0 0) ∈ G := by
          have h6 := ht (ts[i].1, C (B ts[i].2.2) 5) (List.mem_map.2 ⟨ts[i], List.getElem_mem hi3, rfl⟩)
          show (_, Obj.cells (B _ ++ []).toArray 5 (0, 0)) ∈ G
          rw [List.append_nil]
          exact h6
        refine o_l rfl (l_callj (HI := (gb, Bu v' 0) :: HB') (HJ := [(g12, _)]) call340 (swiM_is hb' (List.mem_append_right _ (.head _)) (List.mem_append_left _ hdd) (hok _ (List.getElem_mem hi3)).h3 (by omega) (by simp only [List.length_append, lowB_length]; omega)) rfl rfl (.cons (.tail (.tail (.tail .head))) (Sel.appR [_, _, _] HB')) (fun p hp => by rcases List.mem_singleton.1 hp with rfl; exact .head _)) ?_
        rintro ⟨r, H'⟩ ⟨z2, v2, HB2, rfl, hb2, rfl⟩
        simp only [List.cons_append]
        refine oM rfl <| oX (e_extract rfl rfl) <| oX (e_extract rfl rfl) <| oA rfl <| oA rfl <| oN <| cR <| oM rfl <| oM rfl <| oX (e_add rfl rfl) <| oA rfl <| oN <| cR <| oM rfl <| oX (e_nnen runUnderlying80 rfl) <| oN <| c_else rfl <| c_skip <| n_block <| n_code <| c_region <| oX (e_addn rfl rfl (by simp only [inR]; omega)) <| oM rfl <| o_nil ?_
        refine n_round' (y := (i, z, v', HB')) (i + 1, _, v2, HB2) (by show ts.length - (i + 1) < ts.length - i; omega) ?_ (sub_cons rfl (sub_cons rfl (sub_cons rfl (sub_cons rfl (sub_cons rfl (sub_cons rfl sub_nil)))))) _ (List.perm_append_comm (l₁ := _ :: HB2) (l₂ := [_, _, _])) (List.sublist_cons_self _ _)
        refine ⟨by show i + 1 ≤ ts.length; omega, ?_⟩
        show Bb v2 (bs ++ lowB (ts.length : Nat) 4 ++ ((ts.map (·.2)).take (i + 1)).flatMap pbB) HB2
        rw [flat_succ hip, hge, ← List.append_assoc]
        exact hb2
      · skip
        refine c_exit ?_; refine x_code ?_; refine x_upto ?_; refine x_here ?_
        refine n_code <| cR <| oM rfl <| oA rfl <| oA rfl <| oN <| c_ret ?_
        refine WR.sel (.cons (.tail (.tail .head)) (Sel.appR [_, _] HB')) ?_
        refine r_fn (l := [.tmp 4, .tmp 5]) results329 rfl rfl ?_
        obtain rfl : i = ts.length := by omega
        refine ⟨_, v', HB', rfl, ?_, rfl⟩
        rw [List.take_of_length_le (by simp)] at hb'
        simpa [pmB] using hb'
  · obtain ⟨hi, hni⟩ : i < (MV ts).length ∧ i ∉ seen := hy
    have hq : (MV ts)[i]? = some (MV ts)[i] := List.getElem?_eq_getElem hi
    have hst : stepV .u32 (MV ts) (some i) = .tuple #[.bool true, .int .u32 (MV ts)[i].1, (MV ts)[i].2] := by simp [stepV, hq]
    rw [hst]
    refine oX (e_extract rfl rfl) <| oN <| c_seq <| c_then rfl <| c_skip <| n_code <| c_block <| cR <| oX (e_entry (j := i) (seen := seen) rfl (.inl M0) (.inr hx) hq) <| oX (e_extract rfl rfl) <| oA rfl <| oN <| c_region <| oM rfl <| oM rfl ?_
    refine o_l rfl (l_bs1 runUnderlying472 sizeOf212 zeroValue212 rfl rfl rfl) ?_; intro g43 _
    have hlt' : seen.length < ts.length := by
      have := nodup_bound (n := ts.length) (l := i :: seen) (List.nodup_cons.2 ⟨hni, hnd⟩) (fun j hj => by
        rcases List.mem_cons.1 hj with rfl | hj
        · rw [← hMl]; exact hi
        · exact hlt j hj)
      exact Nat.lt_of_succ_le (by simpa using this)
    refine o_l rfl (l_append (sz := 1) underlying472 (info_of typeInfo212) rfl rfl rfl rfl rfl rfl ho (perm_mid [_, _] HU _) (.blk underlying472 (.inl M0) (.take .done) (by simp [Value.oneCell'])) (by show _ * 4 ≤ _; omega) (by omega)) ?_
    rintro ⟨v2, HB2⟩ ho2
    refine oA rfl <| o_nil <| n_block ?_
    refine n_round' (y := (u, HU, seen)) (v2, HB2, seen ++ [i]) (by show ts.length - (seen ++ [i]).length < ts.length - seen.length; simp; omega) ?_ (sub_cons rfl (sub_cons rfl (sub_cons rfl (sub_cons rfl (sub_cons rfl sub_nil))))) _ (perm_mid HB2 [_, _] _) ?_
    · obtain ⟨g, cap, rest, lo, hi', rfl, _⟩ := Osl.open_ ho2 (Nat.succ_pos _)
      refine ⟨⟨_, _, _, rfl⟩, ?_, ?_, ?_⟩
      · have hi2 : i < ts.length := hMl ▸ hi
        simpa [MV, List.getD, hi2] using ho2
      · rw [List.nodup_append]
        exact ⟨hnd, by simp, fun a ha b hb e => by simp at hb; subst hb; subst e; exact hni ha⟩
      · intro j hj
        rcases List.mem_append.1 hj with hj | hj
        · exact hlt j hj
        · rw [List.mem_singleton.1 hj, ← hMl]; exact hi
    · exact List.sublist_cons_self _ _
end
end Go.Proofs
namespace Go.Proofs.A8
open Go Go.Sl Tryz
set_option maxRecDepth 100000
set_option maxHeartbeats 1000000
section
variable {G : HP} {g n cap lo hi : Nat} {rest : List Value} {l : List Int}
theorem nan_is {a : Int} : CtrP Tryz.prog 369 [.int .u64 a] G (.bool false) := by
  refine fn_enter 6 func369 rfl ntmps369 rfl ?_
  intro w0
  refine cR <| oA rfl <| oN <| cR <| oM rfl <| oM rfl <| oX (e_neq rfl rfl) <| oA rfl <| oN <| c_ret ?_
  refine r_fn1 results369 rfl ?_
  simp
theorem less_is {a b : Int} : CtrP Tryz.prog 357 [.int .u64 a, .int .u64 b] G (.bool (decide (a < b))) := by
  refine fn_enter 17 func357 rfl ntmps357 rfl ?_
  intro w0
  refine cR <| oA rfl <| oN <| cR <| oM rfl <| o_pure rfl call369 (nan_is) rfl rfl <| oM rfl <| oS <| oS <| oS <| oX (e_pick_f rfl rfl) <| oM rfl <| oM rfl <| oM rfl <| oX (e_lss rfl rfl) <| oX (e_pick_f rfl rfl) <| oA rfl <| oN <| c_ret ?_
  refine r_fn1 results357 rfl ?_
  exact ⟨rfl, rfl⟩
theorem ins_is {a b : Nat} (hn : l.length = n) (hf : n ≤ lo ∨ hi = 0) (h1 : n ≤ 100000) (hab : a ≤ b) (hb : b ≤ n) :
    Ctr Tryz.prog 351 [.slice (some ⟨g, 0, none⟩) n cap, .int .i64 a, .int .i64 b] G [(g, VB .u64 l rest 23 lo hi)] (fun r H' => r = .tuple #[] ∧ ∃ l', (PR a b l l' ∧ SR a b l') ∧ H' = [(g, VB .u64 l' rest 23 lo hi)]) := by
  refine fn_enter 49 func351 rfl ntmps351 rfl ?_
  intro w0
  refine cR <| oM rfl <| oX (e_addn rfl rfl (by simp only [inR]; omega)) <| oA rfl <| oN <| c_block ?_
  refine c_loop (X := List Int × Nat) (fun y => [(0, .slice (some ⟨g, 0, none⟩) n cap), (1, .int .i64 a), (2, .int .i64 b), (6, .int .i64 (a + 1 + y.2 : Nat))]) (fun y => [(g, VB .u64 y.1 rest 23 lo hi)]) (fun y => PR a b l y.1 ∧ SR a (a + 1 + y.2) y.1 ∧ (y.2 = 0 ∨ a + 1 + y.2 ≤ b)) (fun y => b - y.2) (l, 0) ⟨.refl, .small (by omega), .inl rfl⟩ (sub_cons rfl (sub_cons rfl (sub_cons rfl (sub_cons rfl sub_nil)))) (.refl _) ?_
  rintro ⟨m, i⟩ ⟨hp, hs, hi0⟩
  simp only at hp hs hi0 ⊢
  refine c_seq <| cR <| oM rfl <| oM rfl <| oX (e_lss rfl rfl) <| oN ?_
  refine c_ifp rfl (fun h2 => ?_) (fun h2 => ?_)
  · refine c_skip <| n_code <| c_seq <| c_block <| cR <| oM rfl <| oA rfl <| oN <| c_block ?_
    refine c_loop (X := List Int × Nat) (fun y => [(0, .slice (some ⟨g, 0, none⟩) n cap), (1, .int .i64 a), (2, .int .i64 b), (6, .int .i64 (a + 1 + i : Nat)), (7, .int .i64 y.2)]) (fun y => [(g, VB .u64 y.1 rest 23 lo hi)]) (fun y => PR a b l y.1 ∧ Ins a y.2 (a + 1 + i + 1) y.1 ∧ a ≤ y.2 ∧ y.2 ≤ a + 1 + i) (fun y => y.2) (m, a + 1 + i) ⟨hp, .start hs, by omega, Nat.le_refl _⟩ (sub_cons rfl (sub_cons rfl (sub_cons rfl (sub_cons rfl (sub_cons rfl sub_nil))))) (.refl _) ?_
    rintro ⟨q, j⟩ ⟨hq, hi, haj, hj⟩
    simp only at hq hi haj hj ⊢
    have hl := hq.len
    refine c_seq <| c_seq <| cQ <| qM rfl <| qM rfl <| qX (e_gtr rfl rfl) <| qM rfl ?_
    refine q_splitp 19 rfl (fun h3 => ?_) (fun h3 => ?_)
    · refine qM rfl <| qM rfl <| qX (e_ian runUnderlying29 sizeOf23 rfl rfl (by omega)) <| qX (e_ld isAgg23 rfl (.inl M0) (by omega)) <| qM rfl <| qM rfl <| qX (e_sub1 rfl rfl (by omega)) <| qX (e_ian runUnderlying29 sizeOf23 rfl rfl (by omega)) <| qX (e_ld isAgg23 rfl (.inl M0) (by omega)) <| q_pure rfl call357 (less_is) rfl rfl <| qX (e_pick_t rfl rfl) <| qN ?_
      refine c_if rfl (fun h4 => ?_) (fun h4 => ?_)
      · refine c_skip <| n_code <| c_seq <| c_block <| c_regiong [15, 17] (by kernel_rfl) <| gM 0 rfl (e_move rfl) <| gM 1 rfl (e_move rfl) <| gM 2 rfl (e_move rfl) <| gM 3 rfl (e_move rfl) <| gM 4 rfl (e_sub1 rfl rfl (by omega)) <| gM 5 rfl (e_move rfl) <| gM 6 rfl (e_move rfl) <| gM 7 rfl (e_sub1 rfl rfl (by omega)) <| gM 8 rfl (e_ian runUnderlying29 sizeOf23 rfl rfl (by omega)) <| gE 9 rfl (e_ld isAgg23 rfl (.inl M0) (by omega)) <| gM 10 rfl (e_move rfl) <| gM 11 rfl (e_move rfl) <| gM 12 rfl (e_ian runUnderlying29 sizeOf23 rfl rfl (by omega)) ?_
        refine gE 13 rfl (e_ld isAgg23 rfl (.inl M0) (by omega)) <| gM 14 rfl (e_ian runUnderlying29 sizeOf23 rfl rfl (by omega)) ?_
        refine g_l 15 (by kernel_rfl) rfl rfl rfl (l_st sizeOf23 rfl rfl .head (by omega) (by omega)) ?_
        intro _ _
        refine dX 16 rfl (e_ian runUnderlying29 sizeOf23 rfl rfl (by omega)) ?_
        refine d_l 17 (by kernel_rfl) rfl rfl (l_st sizeOf23 rfl rfl .head (by simp only [List.length_set]; omega) (by simp only [List.length_set]; omega)) (fun _ _ => hs_nil) ?_
        intro _ _
        refine dN <| n_block <| n_code <| c_region <| oM rfl <| oX (e_sub1 rfl rfl (by omega)) <| oA rfl <| o_nil ?_
        have hjl : j < q.length := by omega
        refine n_round' (y := (q, j)) (swp q j (j - 1), j - 1) (by show j - 1 < j; omega) ?_ (sub_cons rfl (sub_cons rfl (sub_cons rfl (sub_cons rfl (sub_cons rfl sub_nil))))) _ (.refl _) (List.Sublist.refl _)
        exact ⟨hq.swap (by omega) (by omega) (by omega) (by omega) (by omega), hi.step (of_decide_eq_true h4) (by omega) (by omega) (by omega), by show a ≤ j - 1; omega, by show j - 1 ≤ a + 1 + i; omega⟩
      · skip
        refine c_exit ?_; refine x_code ?_; refine x_upto ?_; refine x_here ?_
        refine n_block <| n_code <| c_region <| oM rfl <| oX (e_addn rfl rfl (by simp only [inR]; omega)) <| oA rfl <| o_nil ?_
        refine n_round' (y := (m, i)) (q, i + 1) (by show b - (i + 1) < b - i; omega) ?_ (sub_cons rfl (sub_cons rfl (sub_cons rfl (sub_cons rfl sub_nil)))) _ (.refl _) (List.Sublist.refl _)
        exact ⟨hq, hi.stop (.inr (of_decide_eq_false h4)), .inr (by show a + 1 + (i + 1) ≤ b; omega)⟩
    · skip
      refine qS <| qS <| qS <| qS <| qS <| qS <| qS <| qS <| qS <| qS <| qX (e_pick_f rfl rfl) <| qN <| c_else rfl ?_
      refine c_exit ?_; refine x_code ?_; refine x_upto ?_; refine x_here ?_
      refine n_block <| n_code <| c_region <| oM rfl <| oX (e_addn rfl rfl (by simp only [inR]; omega)) <| oA rfl <| o_nil ?_
      refine n_round' (y := (m, i)) (q, i + 1) (by show b - (i + 1) < b - i; omega) ?_ (sub_cons rfl (sub_cons rfl (sub_cons rfl (sub_cons rfl sub_nil)))) _ (.refl _) (List.Sublist.refl _)
      exact ⟨hq, hi.stop (.inl (by omega)), .inr (by show a + 1 + (i + 1) ≤ b; omega)⟩
  · skip
    refine c_exit ?_; refine x_code ?_; refine x_upto ?_; refine x_here ?_
    refine n_fn0 results351 ?_
    exact ⟨rfl, m, ⟨hp, hs.less (Nat.le_refl _) (by omega)⟩, rfl⟩
end
end Go.Proofs.A8
namespace Go.Proofs.A8
open Go Go.Sl Tryz
set_option maxRecDepth 100000
set_option maxHeartbeats 1000000
section
variable {G : HP} {g n cap lo hi : Nat} {rest : List Value} {l : List Int}
theorem sift_is {f s h : Nat} (hn : l.length = n) (hf : n ≤ lo ∨ hi = 0) (h1 : n ≤ 100000) (hb : f + h ≤ n) (hs : s ≤ h) (hp : Hp f (s + 1) h l) :
    Ctr Tryz.prog 366 [.slice (some ⟨g, 0, none⟩) n cap, .int .i64 s, .int .i64 h, .int .i64 f] G [(g, VB .u64 l rest 23 lo hi)] (fun r H' => r = .tuple #[] ∧ ∃ l', (PR (f + s) (f + h) l l' ∧ Hp f s h l') ∧ H' = [(g, VB .u64 l' rest 23 lo hi)]) := by
  refine fn_enter 76 func366 rfl ntmps366 rfl ?_
  intro w0
  refine cR <| oM rfl <| oA rfl <| oN <| c_block ?_
  refine c_loop (X := List Int × Nat) (fun y => [(0, .slice (some ⟨g, 0, none⟩) n cap), (2, .int .i64 h), (3, .int .i64 f), (8, .int .i64 y.2)]) (fun y => [(g, VB .u64 y.1 rest 23 lo hi)]) (fun y => PR (f + s) (f + h) l y.1 ∧ HQ f s h y.2 y.1 ∧ (y.2 = s ∨ y.2 < h)) (fun y => 2 * h - y.2) (l, s) ⟨.refl, .start hp, .inl rfl⟩ (sub_cons rfl (sub_cons rfl (sub_cons rfl (sub_cons rfl sub_nil)))) (.refl _) ?_
  rintro ⟨m, i⟩ ⟨hm, hq, hi0⟩
  simp only at hm hq hi0 ⊢
  have hl := hm.len
  have hsi := hq.le
  refine c_block <| cR <| oM rfl <| oX (e_muln rfl rfl (by simp only [inR]; omega)) <| oX (e_addn rfl rfl (by simp only [inR]; omega)) <| oA rfl <| oN <| c_seq <| cR <| oM rfl <| oM rfl <| oX (e_geq rfl rfl) <| oN ?_
  refine c_ifp rfl (fun h2 => ?_) (fun h2 => ?_)
  · refine c_exit ?_; refine x_code ?_; refine x_past rfl ?_; refine x_upto ?_; refine x_here ?_
    refine n_fn0 results366 ?_
    exact ⟨rfl, m, ⟨hm, hq.stop fun c h3 h4 => by omega⟩, rfl⟩
  · skip
    refine c_skip <| n_code <| c_seq ?_
    refine c_cut (X := Nat) (fun c => [(0, .slice (some ⟨g, 0, none⟩) n cap), (2, .int .i64 h), (3, .int .i64 f), (8, .int .i64 i), (9, .int .i64 c)]) (fun _ => [(g, VB .u64 m rest 23 lo hi)]) (fun d => (d = 2 * i + 1 ∨ d = 2 * i + 2) ∧ d < h ∧ ∀ c, c = 2 * i + 1 ∨ c = 2 * i + 2 → c < h → gd m (f + c) ≤ gd m (f + d)) ?_ ?_
    · skip
      refine c_seq <| cQ <| qM rfl <| qX (e_addn rfl rfl (by simp only [inR]; omega)) <| qM rfl <| qX (e_lss rfl rfl) <| qM rfl ?_
      refine q_splitp 21 rfl (fun h3 => ?_) (fun h3 => ?_)
      · refine qM rfl <| qM rfl <| qM rfl <| qX (e_addn rfl rfl (by simp only [inR]; omega)) <| qX (e_ia runUnderlying29 sizeOf23 rfl rfl (by omega) (by omega)) <| qX (e_ld isAgg23 rfl (.inl M0) (by omega)) <| qM rfl <| qM rfl <| qM rfl <| qX (e_addn rfl rfl (by simp only [inR]; omega)) <| qX (e_addn rfl rfl (by simp only [inR]; omega)) <| qX (e_ia runUnderlying29 sizeOf23 rfl rfl (by omega) (by omega)) <| qX (e_ld isAgg23 rfl (.inl M0) (by omega)) <| q_pure rfl call357 (less_is) rfl rfl <| qX (e_pick_t rfl rfl) <| qN ?_
        refine c_if rfl (fun h4 => ?_) (fun h4 => ?_)
        · have h4' := of_decide_eq_true h4
          refine c_region <| oM rfl <| oX (e_addn rfl rfl (by simp only [inR]; omega)) <| oA rfl <| o_nil ?_
          refine n_cut (2 * i + 2) ⟨.inr rfl, by omega, fun c h5 h6 => ?_⟩ (sub_cons rfl (sub_cons rfl (sub_cons rfl (sub_cons rfl (sub_cons rfl sub_nil))))) (.refl _)
          rcases h5 with rfl | rfl
          · rw [← Nat.add_assoc f]; exact Int.le_of_lt h4'
          · exact Int.le_refl _
        · have h4' := of_decide_eq_false h4
          refine c_skip ?_
          refine n_cut (2 * i + 1) ⟨.inl rfl, by omega, fun c h5 h6 => ?_⟩ (sub_cons rfl (sub_cons rfl (sub_cons rfl (sub_cons rfl (sub_cons rfl sub_nil))))) (.refl _)
          rcases h5 with rfl | rfl
          · exact Int.le_refl _
          · exact Int.not_lt.1 h4'
      · skip
        refine qS <| qS <| qS <| qS <| qS <| qS <| qS <| qS <| qS <| qS <| qS <| qS <| qS <| qS <| qX (e_pick_f rfl rfl) <| qN <| c_else rfl <| c_skip ?_
        refine n_cut (2 * i + 1) ⟨.inl rfl, by omega, fun c h5 h6 => ?_⟩ (sub_cons rfl (sub_cons rfl (sub_cons rfl (sub_cons rfl (sub_cons rfl sub_nil))))) (.refl _)
        rcases h5 with rfl | rfl
        · exact Int.le_refl _
        · omega
    · rintro d ⟨hd, hdh, hmax⟩
      refine n_code <| c_seq <| c_seq <| cQ <| qM rfl <| qM rfl <| qM rfl <| qX (e_addN rfl rfl (by omega)) <| qX (e_ian runUnderlying29 sizeOf23 rfl rfl (by omega)) <| qX (e_ld isAgg23 rfl (.inl M0) (by omega)) <| qM rfl <| qM rfl <| qM rfl <| qX (e_addN rfl rfl (by omega)) <| qX (e_ian runUnderlying29 sizeOf23 rfl rfl (by omega)) <| qX (e_ld isAgg23 rfl (.inl M0) (by omega)) <| q_pure rfl call357 (less_is) rfl rfl <| qX (e_not rfl) <| qN ?_
      refine c_if rfl (fun h5 => ?_) (fun h5 => ?_)
      · have h5' : ¬ gd m (f + i) < gd m (f + d) := by simpa using h5
        refine c_ret ?_
        refine r_fn0 results366 ?_
        exact ⟨rfl, m, ⟨hm, hq.stop fun c h6 h7 => Int.le_trans (hmax c h6 h7) (Int.not_lt.1 h5')⟩, rfl⟩
      · skip
        have h5' : gd m (f + i) < gd m (f + d) := by simpa using h5
        refine c_skip <| n_code <| c_seq <| c_regiong [21, 23] (by kernel_rfl) <| gM 0 rfl (e_move rfl) <| gM 1 rfl (e_move rfl) <| gM 2 rfl (e_move rfl) <| gM 3 rfl (e_addN rfl rfl (by omega)) <| gM 4 rfl (e_move rfl) <| gM 5 rfl (e_move rfl) <| gM 6 rfl (e_move rfl) <| gM 7 rfl (e_addN rfl rfl (by omega)) <| gM 8 rfl (e_move rfl) <| gM 9 rfl (e_move rfl) <| gM 10 rfl (e_move rfl) <| gM 11 rfl (e_addN rfl rfl (by omega)) <| gM 12 rfl (e_ian runUnderlying29 sizeOf23 rfl rfl (by omega)) <| gE 13 rfl (e_ld isAgg23 rfl (.inl M0) (by omega)) <| gM 14 rfl (e_move rfl) <| gM 15 rfl (e_move rfl) ?_
        refine gM 16 rfl (e_move rfl) <| gM 17 rfl (e_addN rfl rfl (by omega)) <| gM 18 rfl (e_ian runUnderlying29 sizeOf23 rfl rfl (by omega)) <| gE 19 rfl (e_ld isAgg23 rfl (.inl M0) (by omega)) <| gM 20 rfl (e_ian runUnderlying29 sizeOf23 rfl rfl (by omega)) ?_
        refine g_l 21 (by kernel_rfl) rfl rfl rfl (l_st sizeOf23 rfl rfl .head (by omega) (by omega)) ?_
        intro _ _
        refine dX 22 rfl (e_ian runUnderlying29 sizeOf23 rfl rfl (by omega)) ?_
        refine d_l 23 (by kernel_rfl) rfl rfl (l_st sizeOf23 rfl rfl .head (by simp only [List.length_set]; omega) (by simp only [List.length_set]; omega)) (fun _ _ => hs_nil) ?_
        intro _ _
        refine dN <| n_code <| c_region <| oM rfl <| oA rfl <| o_nil <| n_block ?_
        refine n_round' (y := (m, i)) (swp m (f + i) (f + d), d) (by show 2 * h - d < 2 * h - i; omega) ?_ (sub_cons rfl (sub_cons rfl (sub_cons rfl (sub_cons rfl sub_nil)))) _ (.refl _) (List.Sublist.refl _)
        exact ⟨hm.swap (by omega) (by omega) (by omega) (by omega) (by omega), hq.step hd hdh (by omega) hmax h5', .inr hdh⟩
theorem heap_is {a b : Nat} (hn : l.length = n) (hf : n ≤ lo ∨ hi = 0) (h1 : n ≤ 100000) (hab : a < b) (hb : b ≤ n) :
    Ctr Tryz.prog 352 [.slice (some ⟨g, 0, none⟩) n cap, .int .i64 a, .int .i64 b] G [(g, VB .u64 l rest 23 lo hi)] (fun r H' => r = .tuple #[] ∧ ∃ l', (PR a b l l' ∧ SR a b l') ∧ H' = [(g, VB .u64 l' rest 23 lo hi)]) := by
  obtain ⟨h, rfl⟩ : ∃ h, b = a + h := ⟨b - a, by omega⟩
  refine fn_enter 56 func352 rfl ntmps352 rfl ?_
  intro w0
  refine cR <| oM rfl <| oA rfl <| oN <| cR <| oA rfl <| oN <| cR <| oM rfl <| oM rfl <| oX (e_subN rfl rfl (by omega)) <| oA rfl <| oN <| c_seq <| cR <| oM rfl <| oX (e_sub1 rfl rfl (by omega)) <| oX (e_quon rfl rfl (by omega) (by omega) (by simp only [inR]; omega)) <| oA rfl <| oN <| c_block ?_
  simp only [Nat.add_sub_cancel_left]
  refine c_loop (X := List Int × Int) (fun y => [(0, .slice (some ⟨g, 0, none⟩) n cap), (6, .int .i64 a), (7, .int .i64 (0 : Nat)), (8, .int .i64 h), (9, .int .i64 y.2)]) (fun y => [(g, VB .u64 y.1 rest 23 lo hi)]) (fun y => PR a (a + h) l y.1 ∧ -1 ≤ y.2 ∧ y.2 < h ∧ Hp a (y.2 + 1).toNat h y.1) (fun y => (y.2 + 1).toNat) (l, ((h - 1 : Nat) : Int) / 2) ⟨.refl, by omega, by omega, .none (by omega)⟩ (sub_cons rfl (sub_cons rfl (sub_cons rfl (sub_cons rfl (sub_cons rfl sub_nil))))) (.refl _) ?_
  rintro ⟨m, i⟩ ⟨hm, hi0, hi1, hp⟩
  simp only at hm hi0 hi1 hp ⊢
  have hl := hm.len
  refine c_seq <| cR <| oM rfl <| oX (e_geq rfl rfl) <| oN ?_
  refine c_ifp rfl (fun h2 => ?_) (fun h2 => ?_)
  · obtain ⟨k, rfl⟩ := Int.eq_ofNat_of_zero_le h2
    refine c_skip <| n_code <| c_seq <| c_block <| c_region <| oM rfl <| oM rfl <| oM rfl <| oM rfl ?_
    refine o_l rfl (l_call call366 (sift_is (f := a) (s := k) (h := h) (hl.trans hn) hf h1 hb (by omega) hp) rfl rfl (.cons .head .nil)) ?_
    rintro ⟨r, H'⟩ ⟨rfl, m', ⟨hp1, hp2⟩, rfl⟩
    simp only [List.cons_append, List.nil_append]
    refine o_nil <| n_block <| n_code <| c_region <| oM rfl <| oX (e_subn rfl rfl (by simp only [inR]; omega)) <| oA rfl <| o_nil ?_
    refine n_round' (y := (m, (k : Int))) (m', (k : Int) - 1) (by show ((k : Int) - 1 + 1).toNat < ((k : Int) + 1).toNat; omega) ?_ (sub_cons rfl (sub_cons rfl (sub_cons rfl (sub_cons rfl (sub_cons rfl sub_nil))))) _ (.refl _) (List.Sublist.refl _)
    refine ⟨hm.trans (hp1.mono (by omega) (Nat.le_refl _) (by omega)), by show -1 ≤ (k : Int) - 1; omega, by show (k : Int) - 1 < h; omega, ?_⟩
    show Hp a ((k : Int) - 1 + 1).toNat h m'
    rw [show ((k : Int) - 1 + 1).toNat = k by omega]
    exact hp2
  · skip
    have hp0 : Hp a 0 h m := by rw [show (i + 1).toNat = 0 by omega] at hp; exact hp
    refine c_exit ?_; refine x_code ?_; refine x_upto ?_; refine x_here ?_
    refine n_code <| cR <| oM rfl <| oX (e_sub1 rfl rfl (by omega)) <| oA rfl <| oN <| c_block ?_
    refine c_loop (X := List Int × Int) (fun y => [(0, .slice (some ⟨g, 0, none⟩) n cap), (6, .int .i64 a), (7, .int .i64 (0 : Nat)), (10, .int .i64 y.2)]) (fun y => [(g, VB .u64 y.1 rest 23 lo hi)]) (fun y => PR a (a + h) l y.1 ∧ -1 ≤ y.2 ∧ y.2 < h ∧ Pop a (y.2 + 1).toNat h y.1) (fun y => (y.2 + 1).toNat) (m, ((h - 1 : Nat) : Int)) ⟨hm, by omega, by omega, by show Pop a (((h - 1 : Nat) : Int) + 1).toNat h m; rw [show (((h - 1 : Nat) : Int) + 1).toNat = h by omega]; exact .start hp0⟩ (sub_cons rfl (sub_cons rfl (sub_cons rfl (sub_cons rfl sub_nil)))) (.refl _) ?_
    clear hm hi0 hi1 hp hl hp0 h2
    rintro ⟨m, i⟩ ⟨hm, hi0, hi1, hp⟩
    simp only at hm hi0 hi1 hp ⊢
    have hl := hm.len
    refine c_seq <| cR <| oM rfl <| oX (e_geq rfl rfl) <| oN ?_
    refine c_ifp rfl (fun h2 => ?_) (fun h2 => ?_)
    · obtain ⟨k, rfl⟩ := Int.eq_ofNat_of_zero_le h2
      rw [show ((k : Int) + 1).toNat = k + 1 by omega] at hp
      refine c_skip <| n_code <| c_seq <| c_block <| c_seq <| c_regiong [17, 19] (by kernel_rfl) <| gM 0 rfl (e_move rfl) <| gM 1 rfl (e_move rfl) <| gM 2 rfl (e_move rfl) <| gM 3 rfl (e_move rfl) <| gM 4 rfl (e_move rfl) <| gM 5 rfl (e_addN rfl rfl (by omega)) <| gM 6 rfl (e_move rfl) <| gM 7 rfl (e_move rfl) <| gM 8 rfl (e_move rfl) <| gM 9 rfl (e_addN rfl rfl (by omega)) <| gM 10 rfl (e_ian runUnderlying29 sizeOf23 rfl rfl (by omega)) <| gE 11 rfl (e_ld isAgg23 rfl (.inl M0) (by omega)) <| gM 12 rfl (e_move rfl) <| gM 13 rfl (e_move rfl) ?_
      refine gM 14 rfl (e_ian runUnderlying29 sizeOf23 rfl rfl (by omega)) <| gE 15 rfl (e_ld isAgg23 rfl (.inl M0) (by omega)) <| gM 16 rfl (e_ian runUnderlying29 sizeOf23 rfl rfl (by omega)) ?_
      refine g_l 17 (by kernel_rfl) rfl rfl rfl (l_st sizeOf23 rfl rfl .head (by omega) (by omega)) ?_
      intro _ _
      refine dX 18 rfl (e_ian runUnderlying29 sizeOf23 rfl rfl (by omega)) ?_
      refine d_l 19 (by kernel_rfl) rfl rfl (l_st sizeOf23 rfl rfl .head (by simp only [List.length_set]; omega) (by simp only [List.length_set]; omega)) (fun _ _ => hs_nil) ?_
      intro _ _
      refine dN <| n_code <| c_region <| oM rfl <| oM rfl <| oM rfl <| oM rfl ?_
      have hp1 := hp.swap (by omega) (by omega)
      refine o_l rfl (l_call call366 (sift_is (f := a) (s := 0) (h := k) (l := swp m a (a + k)) (by rw [swp_length]; omega) hf h1 (by omega) (Nat.zero_le _) hp1.heap) rfl rfl (.cons .head .nil)) ?_
      rintro ⟨r, H'⟩ ⟨rfl, m', ⟨hp2, hp3⟩, rfl⟩
      simp only [List.cons_append, List.nil_append]
      refine o_nil <| n_block <| n_code <| c_region <| oM rfl <| oX (e_subn rfl rfl (by simp only [inR]; omega)) <| oA rfl <| o_nil ?_
      have hsw : PR a (a + h) m (swp m a (a + k)) := .one (by omega) (by omega) (by omega) (by omega) (by omega)
      refine n_round' (y := (m, (k : Int))) (m', (k : Int) - 1) (by show ((k : Int) - 1 + 1).toNat < ((k : Int) + 1).toNat; omega) ?_ (sub_cons rfl (sub_cons rfl (sub_cons rfl (sub_cons rfl sub_nil)))) _ (.refl _) (List.Sublist.refl _)
      refine ⟨(hm.trans hsw).trans (hp2.mono (by omega) (by omega) (by rw [swp_length]; omega)), by show -1 ≤ (k : Int) - 1; omega, by show (k : Int) - 1 < h; omega, ?_⟩
      show Pop a ((k : Int) - 1 + 1).toNat h m'
      rw [show ((k : Int) - 1 + 1).toNat = k by omega]
      exact hp1.sift hp2 hp3
    · skip
      refine c_exit ?_; refine x_code ?_; refine x_upto ?_; refine x_here ?_
      refine n_fn0 results352 ?_
      rw [show (i + 1).toNat = 0 by omega] at hp
      exact ⟨rfl, m, ⟨hm, hp.done⟩, rfl⟩
end
end Go.Proofs.A8
namespace Go.Proofs.A8
open Go Go.Sl Tryz
set_option maxRecDepth 100000
set_option maxHeartbeats 1000000
section
variable {G : HP} {g n cap lo hi gz u v : Nat} {rest : List Value} {l : List Int} {z : Int}
theorem ord_is {a b : Nat} (hn : l.length = n) (h1 : n ≤ 100000) (ha : u ≤ a ∧ a < v) (hb : u ≤ b ∧ b < v) (hv : v ≤ n) :
    Ctr Tryz.prog 380 [.slice (some ⟨g, 0, none⟩) n cap, .int .i64 a, .int .i64 b, .pointer (some ⟨gz, 0, none⟩)] G [(g, VB .u64 l rest 23 lo hi), (gz, C [.int .i64 z] 3)] (fun r H' => ∃ (x y : Nat) (z' : Int), r = .tuple #[.int .i64 x, .int .i64 y] ∧ (u ≤ x ∧ x < v) ∧ (u ≤ y ∧ y < v) ∧ H' = [(g, VB .u64 l rest 23 lo hi), (gz, C [.int .i64 z'] 3)]) := by
  refine fn_enter 28 func380 rfl ntmps380 rfl ?_
  intro w0
  refine cR <| oA rfl <| oA rfl <| oN <| c_seq <| c_seq <| cQ <| qM rfl <| qM rfl <| qX (e_ian runUnderlying29 sizeOf23 rfl rfl (by omega)) <| qX (e_ld isAgg23 rfl (.inl M0) (by omega)) <| qM rfl <| qM rfl <| qX (e_ian runUnderlying29 sizeOf23 rfl rfl (by omega)) <| qX (e_ld isAgg23 rfl (.inl M0) (by omega)) <| q_pure rfl call357 (less_is) rfl rfl <| qN ?_
  refine c_if rfl (fun h2 => ?_) (fun h2 => ?_)
  · refine cR <| oM rfl <| oC rfl ?_
    refine oX (e_load isAgg3 rfl (by first | exact .inr (by assumption) | exact .inl (by repeat (first | exact List.Mem.head _ | refine List.Mem.tail _ ?_))) rfl) ?_
    refine oX (e_add rfl rfl) <| oC rfl ?_
    refine o_l rfl (l_store sizeOf3 rfl rfl rfl (.tail .head) .head (by omega)) ?_
    intro _ _
    refine oN <| cR <| oM rfl <| oM rfl <| oA rfl <| oA rfl <| oN <| c_ret ?_
    refine r_fn (l := [.tmp 8, .tmp 9]) results380 rfl rfl ?_
    exact ⟨b, a, _, rfl, hb, ha, rfl⟩
  · skip
    refine c_skip <| n_code <| cR <| oM rfl <| oM rfl <| oA rfl <| oA rfl <| oN <| c_ret ?_
    refine r_fn (l := [.tmp 8, .tmp 9]) results380 rfl rfl ?_
    exact ⟨a, b, _, rfl, ha, hb, rfl⟩
theorem med_is {a b c : Nat} (hn : l.length = n) (h1 : n ≤ 100000) (ha : u ≤ a ∧ a < v) (hb : u ≤ b ∧ b < v) (hc : u ≤ c ∧ c < v) (hv : v ≤ n) :
    Ctr Tryz.prog 368 [.slice (some ⟨g, 0, none⟩) n cap, .int .i64 a, .int .i64 b, .int .i64 c, .pointer (some ⟨gz, 0, none⟩)] G [(g, VB .u64 l rest 23 lo hi), (gz, C [.int .i64 z] 3)] (fun r H' => ∃ (x : Nat) (z' : Int), r = .int .i64 x ∧ (u ≤ x ∧ x < v) ∧ H' = [(g, VB .u64 l rest 23 lo hi), (gz, C [.int .i64 z'] 3)]) := by
  refine fn_enter 36 func368 rfl ntmps368 rfl ?_
  intro w0
  refine cR <| oA rfl <| oN <| cR <| oM rfl <| oM rfl <| oM rfl <| oM rfl ?_
  refine o_l rfl (l_call call380 (ord_is hn h1 ha hb hv) rfl rfl (.cons .head (.cons .head .nil))) ?_
  rintro ⟨r, H'⟩ ⟨x0, y0, z0, rfl, hx0, hy0, rfl⟩
  simp only [List.cons_append, List.nil_append]
  refine oM rfl <| oX (e_extract rfl rfl) <| oX (e_extract rfl rfl) <| oA rfl <| oA rfl <| oN <| cR <| oM rfl <| oM rfl <| oM rfl <| oM rfl ?_
  refine o_l rfl (l_call call380 (ord_is hn h1 hy0 hc hv) rfl rfl (.cons .head (.cons .head .nil))) ?_
  rintro ⟨r, H'⟩ ⟨x1, y1, z1, rfl, hx1, hy1, rfl⟩
  simp only [List.cons_append, List.nil_append]
  refine oM rfl <| oX (e_extract rfl rfl) <| oX (e_extract rfl rfl) <| oA rfl <| oA rfl <| oN <| cR <| oM rfl <| oM rfl <| oM rfl <| oM rfl ?_
  refine o_l rfl (l_call call380 (ord_is hn h1 hx0 hx1 hv) rfl rfl (.cons .head (.cons .head .nil))) ?_
  rintro ⟨r, H'⟩ ⟨x2, y2, z2, rfl, hx2, hy2, rfl⟩
  simp only [List.cons_append, List.nil_append]
  refine oM rfl <| oX (e_extract rfl rfl) <| oX (e_extract rfl rfl) <| oA rfl <| oA rfl <| oN <| cR <| oM rfl <| oA rfl <| oN <| c_ret ?_
  refine r_fn1 results368 rfl ?_
  exact ⟨_, _, rfl, hy2, rfl⟩
theorem adj_is {a : Nat} (hn : l.length = n) (h1 : n ≤ 100000) (ha : u + 1 ≤ a ∧ a + 1 < v) (hv : v ≤ n) :
    Ctr Tryz.prog 367 [.slice (some ⟨g, 0, none⟩) n cap, .int .i64 a, .pointer (some ⟨gz, 0, none⟩)] G [(g, VB .u64 l rest 23 lo hi), (gz, C [.int .i64 z] 3)] (fun r H' => ∃ (x : Nat) (z' : Int), r = .int .i64 x ∧ (u ≤ x ∧ x < v) ∧ H' = [(g, VB .u64 l rest 23 lo hi), (gz, C [.int .i64 z'] 3)]) := by
  obtain ⟨a, rfl⟩ : ∃ a', a = a' + 1 := ⟨a - 1, by omega⟩
  refine fn_enter 15 func367 rfl ntmps367 rfl ?_
  intro w0
  refine cR <| oA rfl <| oN <| cR <| oM rfl <| oM rfl <| oX (e_pred rfl rfl (by omega)) <| oM rfl <| oM rfl <| oX (e_addn rfl rfl (by simp only [inR]; omega)) <| oM rfl ?_
  refine o_l rfl (l_call call368 (med_is (a := a) (b := a + 1) (c := a + 2) (u := u) (v := v) hn h1 (by omega) (by omega) (by omega) hv) rfl rfl (.cons .head (.cons .head .nil))) ?_
  rintro ⟨r, H'⟩ ⟨x, z', rfl, hx, rfl⟩
  simp only [List.cons_append, List.nil_append]
  refine oA rfl <| oN <| c_ret ?_
  refine r_fn1 results367 rfl ?_
  exact ⟨_, _, rfl, hx, rfl⟩
theorem piv_is {a b : Nat} (hn : l.length = n) (h1 : n ≤ 100000) (hab : a + 8 ≤ b) (hb : b ≤ n) :
    Ctr Tryz.prog 354 [.slice (some ⟨g, 0, none⟩) n cap, .int .i64 a, .int .i64 b] G [(g, VB .u64 l rest 23 lo hi)] (fun r H' => ∃ (x : Nat) (z' : Int), r = .tuple #[.int .i64 x, .int .i64 z'] ∧ (a ≤ x ∧ x < b) ∧ H' = [(g, VB .u64 l rest 23 lo hi)]) := by
  obtain ⟨h, rfl⟩ : ∃ h, b = a + h := ⟨b - a, by omega⟩
  refine fn_enter 57 func354 rfl ntmps354 rfl ?_
  intro w0
  refine cR <| oA rfl <| oA rfl <| oN <| cR <| oM rfl <| oM rfl <| oX (e_subN rfl rfl (by omega)) <| oA rfl <| oN <| cR ?_
  refine o_l rfl (l_alloc zeroValue3 rfl rfl) ?_; intro g9 _
  refine oN <| cR <| oM rfl <| oM rfl <| oX (e_quon rfl rfl (by omega) (by omega) (by simp only [inR]; omega)) <| oX (e_muln rfl rfl (by simp only [inR]; omega)) <| oX (e_addn rfl rfl (by simp only [inR]; omega)) <| oA rfl <| oN <| cR <| oM rfl <| oM rfl <| oX (e_quon rfl rfl (by omega) (by omega) (by simp only [inR]; omega)) <| oX (e_muln rfl rfl (by simp only [inR]; omega)) <| oX (e_addn rfl rfl (by simp only [inR]; omega)) <| oA rfl <| oN <| cR <| oM rfl <| oM rfl ?_
  refine oX (e_quon rfl rfl (by omega) (by omega) (by simp only [inR]; omega)) <| oX (e_muln rfl rfl (by simp only [inR]; omega)) <| oX (e_addn rfl rfl (by simp only [inR]; omega)) <| oA rfl <| oN <| c_seq <| cR <| oM rfl <| oX (e_geq rfl rfl) <| oN ?_
  have e1 : (a : Int) + ((a + h - a : Nat) : Int) / 4 * 1 = ((a + h / 4 : Nat) : Int) := by omega
  have e2 : (a : Int) + ((a + h - a : Nat) : Int) / 4 * 2 = ((a + h / 4 * 2 : Nat) : Int) := by omega
  have e3 : (a : Int) + ((a + h - a : Nat) : Int) / 4 * 3 = ((a + h / 4 * 3 : Nat) : Int) := by omega
  rw [e1, e2, e3]
  refine c_ifp rfl (fun h2 => ?_) (fun h2 => ?_)
  · refine c_cut (X := Nat × Int) (fun y => [(11, .int .i64 y.1), (9, .pointer (some ⟨g9, 0, none⟩))]) (fun y => [(g, VB .u64 l rest 23 lo hi), (g9, C [.int .i64 y.2] 3)]) (fun y => a ≤ y.1 ∧ y.1 < a + h) ?_ ?_
    · skip
      refine c_seq ?_
      refine c_cut (X := Nat × Nat × Nat × Int) (fun y => [(0, .slice (some ⟨g, 0, none⟩) n cap), (9, .pointer (some ⟨g9, 0, none⟩)), (10, .int .i64 y.1), (11, .int .i64 y.2.1), (12, .int .i64 y.2.2.1)]) (fun y => [(g, VB .u64 l rest 23 lo hi), (g9, C [.int .i64 y.2.2.2] 3)]) (fun y => (a ≤ y.1 ∧ y.1 < a + h) ∧ (a ≤ y.2.1 ∧ y.2.1 < a + h) ∧ (a ≤ y.2.2.1 ∧ y.2.2.1 < a + h)) ?_ ?_
      · skip
        refine cR <| oM rfl <| oX (e_geq rfl rfl) <| oN ?_
        refine c_ifp rfl (fun h3 => ?_) (fun h3 => ?_)
        · refine cR <| oM rfl <| oM rfl ?_
          refine o_l rfl (l_call call367 (adj_is (u := a) (v := a + h) hn h1 (by omega) hb) rfl rfl (.cons (.tail .head) (.cons .head .nil))) ?_
          rintro ⟨r, H'⟩ ⟨x1, z1, rfl, hx1, rfl⟩
          simp only [List.cons_append, List.nil_append]
          refine oA rfl <| oN <| cR <| oM rfl <| oM rfl ?_
          refine o_l rfl (l_call call367 (adj_is (u := a) (v := a + h) hn h1 (by omega) hb) rfl rfl (.cons .head (.cons .head .nil))) ?_
          rintro ⟨r, H'⟩ ⟨x2, z2, rfl, hx2, rfl⟩
          simp only [List.cons_append, List.nil_append]
          refine oA rfl <| oN <| c_region <| oM rfl <| oM rfl ?_
          refine o_l rfl (l_call call367 (adj_is (u := a) (v := a + h) hn h1 (by omega) hb) rfl rfl (.cons .head (.cons .head .nil))) ?_
          rintro ⟨r, H'⟩ ⟨x3, z3, rfl, hx3, rfl⟩
          simp only [List.cons_append, List.nil_append]
          refine oA rfl <| o_nil ?_
          exact n_cut (x1, x2, x3, z3) ⟨hx1, hx2, hx3⟩ (sub_cons rfl (sub_cons rfl (sub_cons rfl (sub_cons rfl (sub_cons rfl sub_nil))))) (.refl _)
        · skip
          refine c_skip ?_
          exact n_cut (a + h / 4, a + h / 4 * 2, a + h / 4 * 3, 0) ⟨by show a ≤ a + h / 4 ∧ a + h / 4 < a + h; omega, by show a ≤ a + h / 4 * 2 ∧ a + h / 4 * 2 < a + h; omega, by show a ≤ a + h / 4 * 3 ∧ a + h / 4 * 3 < a + h; omega⟩ (sub_cons rfl (sub_cons rfl (sub_cons rfl (sub_cons rfl (sub_cons rfl sub_nil))))) (List.Perm.swap _ _ _)
      · rintro ⟨x1, x2, x3, z3⟩ ⟨hx1, hx2, hx3⟩
        simp only at hx1 hx2 hx3 ⊢
        refine n_code <| c_region <| oM rfl <| oM rfl <| oM rfl <| oM rfl ?_
        refine o_l rfl (l_call call368 (med_is (u := a) (v := a + h) hn h1 hx1 hx2 hx3 hb) rfl rfl (.cons .head (.cons .head .nil))) ?_
        rintro ⟨r, H'⟩ ⟨x4, z4, rfl, hx4, rfl⟩
        simp only [List.cons_append, List.nil_append]
        refine oA rfl <| o_nil ?_
        exact n_cut (x4, z4) hx4 (sub_cons rfl (sub_cons rfl sub_nil)) (.refl _)
    · rintro ⟨x4, z4⟩ hx4
      simp only at hx4 ⊢
      refine n_code <| cR ?_
      refine oX (e_load isAgg3 rfl (by first | exact .inr (by assumption) | exact .inl (by repeat (first | exact List.Mem.head _ | refine List.Mem.tail _ ?_))) rfl) ?_
      refine oN <| c_block <| cR <| oX (e_eql rfl rfl) <| oA rfl <| oN ?_
      refine c_if rfl (fun h5 => ?_) (fun h5 => ?_)
      · refine cR <| oM rfl <| oA rfl <| oA rfl <| oN <| c_ret ?_
        refine WR.sel (.cons .head .nil) ?_
        refine r_fn (l := [.tmp 6, .tmp 7]) results354 rfl rfl ?_
        exact ⟨_, _, rfl, hx4, rfl⟩
      · skip
        refine cR <| oX (e_eql rfl rfl) <| oA rfl <| oN ?_
        refine c_if rfl (fun h6 => ?_) (fun h6 => ?_)
        · refine cR <| oM rfl <| oA rfl <| oA rfl <| oN <| c_ret ?_
          refine WR.sel (.cons .head .nil) ?_
          refine r_fn (l := [.tmp 6, .tmp 7]) results354 rfl rfl ?_
          exact ⟨_, _, rfl, hx4, rfl⟩
        · skip
          refine cR <| oM rfl <| oA rfl <| oA rfl <| oN <| c_ret ?_
          refine WR.sel (.cons .head .nil) ?_
          refine r_fn (l := [.tmp 6, .tmp 7]) results354 rfl rfl ?_
          exact ⟨_, _, rfl, hx4, rfl⟩
  · exact absurd h2 (by omega)
end
end Go.Proofs.A8

/- Rows of numbers, sorted in memory: turning a range, partial insertion; Rows of numbers, sorted in memory: partitions; Rows of numbers, sorted in memory: bits, patterns broken. (A part of the proof of this: for every input laws.FnIxRead returns true and its arguments read as they did, the listed package variables being what the program lays.) -/
import Derived.Test.YtochgglejmfelaaGreatDoorG02
import Derived.Test.YtochgglejmfelaaGreatDoorG10
import Derived.Test.YtochgglejmfelaaGreatDoorG09
namespace Go.Proofs.A8
open Go Go.Sl Tryz
set_option maxRecDepth 100000
set_option maxHeartbeats 1000000
section
variable {G : HP} {g n cap lo hi : Nat} {rest : List Value} {l : List Int}
theorem rev_is {a b : Nat} (hn : l.length = n) (hf : n ≤ lo ∨ hi = 0) (h1 : n ≤ 100000) (hab : a < b) (hb : b ≤ n) :
    Ctr Tryz.prog 355 [.slice (some ⟨g, 0, none⟩) n cap, .int .i64 a, .int .i64 b] G [(g, VB .u64 l rest 23 lo hi)] (fun r H' => r = .tuple #[] ∧ ∃ l', PR a b l l' ∧ H' = [(g, VB .u64 l' rest 23 lo hi)]) := by
  refine fn_enter 32 func355 rfl ntmps355 rfl ?_
  intro w0
  refine cR <| oM rfl <| oA rfl <| oN <| cR <| oM rfl <| oX (e_sub1 rfl rfl (by omega)) <| oA rfl <| oN <| c_block ?_
  refine c_loop (X := List Int × Nat × Nat) (fun y => [(0, .slice (some ⟨g, 0, none⟩) n cap), (6, .int .i64 y.2.1), (7, .int .i64 y.2.2)]) (fun y => [(g, VB .u64 y.1 rest 23 lo hi)]) (fun y => PR a b l y.1 ∧ a ≤ y.2.1 ∧ y.2.2 < b) (fun y => y.2.2 - y.2.1) (l, a, b - 1) ⟨.refl, Nat.le_refl _, by show b - 1 < b; omega⟩ (sub_cons rfl (sub_cons rfl (sub_cons rfl sub_nil))) (.refl _) ?_
  rintro ⟨m, i, j⟩ ⟨hm, hi0, hj⟩
  simp only at hm hi0 hj ⊢
  have hl := hm.len
  refine c_seq <| cR <| oM rfl <| oM rfl <| oX (e_lss rfl rfl) <| oN ?_
  refine c_ifp rfl (fun h2 => ?_) (fun h2 => ?_)
  · refine c_skip <| n_code <| c_block <| c_seq <| c_regiong [13, 15] (by kernel_rfl) <| gM 0 rfl (e_move rfl) <| gM 1 rfl (e_move rfl) <| gM 2 rfl (e_move rfl) <| gM 3 rfl (e_move rfl) <| gM 4 rfl (e_move rfl) <| gM 5 rfl (e_move rfl) <| gM 6 rfl (e_ian runUnderlying29 sizeOf23 rfl rfl (by omega)) <| gE 7 rfl (e_ld isAgg23 rfl (.inl M0) (by omega)) <| gM 8 rfl (e_move rfl) <| gM 9 rfl (e_move rfl) <| gM 10 rfl (e_ian runUnderlying29 sizeOf23 rfl rfl (by omega)) <| gE 11 rfl (e_ld isAgg23 rfl (.inl M0) (by omega)) ?_
    refine gM 12 rfl (e_ian runUnderlying29 sizeOf23 rfl rfl (by omega)) ?_
    refine g_l 13 (by kernel_rfl) rfl rfl rfl (l_st sizeOf23 rfl rfl .head (by omega) (by omega)) ?_
    intro _ _
    refine dX 14 rfl (e_ian runUnderlying29 sizeOf23 rfl rfl (by omega)) ?_
    refine d_l 15 (by kernel_rfl) rfl rfl (l_st sizeOf23 rfl rfl .head (by simp only [List.length_set]; omega) (by simp only [List.length_set]; omega)) (fun _ _ => hs_nil) ?_
    intro _ _
    refine dN <| n_code <| cR <| oM rfl <| oX (e_addn rfl rfl (by simp only [inR]; omega)) <| oA rfl <| oN <| c_region <| oM rfl <| oX (e_sub1 rfl rfl (by omega)) <| oA rfl <| o_nil <| n_block ?_
    refine n_round' (y := (m, i, j)) (swp m i j, i + 1, j - 1) (by show j - 1 - (i + 1) < j - i; omega) ?_ (sub_cons rfl (sub_cons rfl (sub_cons rfl sub_nil))) _ (.refl _) (List.Sublist.refl _)
    exact ⟨hm.swap (by omega) (by omega) (by omega) (by omega) (by omega), by show a ≤ i + 1; omega, by show j - 1 < b; omega⟩
  · skip
    refine c_exit ?_; refine x_code ?_; refine x_upto ?_; refine x_here ?_
    refine n_fn0 results355 ?_
    exact ⟨rfl, m, hm, rfl⟩
theorem part_is {a b : Nat} (hn : l.length = n) (hf : n ≤ lo ∨ hi = 0) (h1 : n ≤ 100000) (hab : a < b) (hb : b ≤ n) (hlb : Lb a b l) :
    Ctr Tryz.prog 356 [.slice (some ⟨g, 0, none⟩) n cap, .int .i64 a, .int .i64 b] G [(g, VB .u64 l rest 23 lo hi)] (fun r H' => ∃ (t : Bool) (l' : List Int), r = .bool t ∧ PR a b l l' ∧ (t = true → SR a b l') ∧ H' = [(g, VB .u64 l' rest 23 lo hi)]) := by
  refine fn_enter 133 func356 rfl ntmps356 rfl ?_
  intro w0
  refine cR <| oA rfl <| oN <| cR <| oM rfl <| oX (e_addn rfl rfl (by simp only [inR]; omega)) <| oA rfl <| oN <| c_seq <| cR <| oA rfl <| oN <| c_block ?_
  refine c_loop (X := List Int × Nat × Nat) (fun y => [(0, .slice (some ⟨g, 0, none⟩) n cap), (1, .int .i64 a), (2, .int .i64 b), (7, .int .i64 y.2.1), (8, .int .i64 y.2.2)]) (fun y => [(g, VB .u64 y.1 rest 23 lo hi)]) (fun y => PR a b l y.1 ∧ a < y.2.1 ∧ y.2.1 ≤ b ∧ SR a y.2.1 y.1 ∧ y.2.2 ≤ 5) (fun y => 5 - y.2.2) (l, a + 1, 0) ⟨.refl, by show a < a + 1; omega, by show a + 1 ≤ b; omega, .small (Nat.le_refl _), Nat.zero_le _⟩ (sub_cons rfl (sub_cons rfl (sub_cons rfl (sub_cons rfl (sub_cons rfl sub_nil))))) (.refl _) ?_
  rintro ⟨m, i, j⟩ ⟨hm, hi0, hi1, hs, hj⟩
  simp only at hm hi0 hi1 hs hj ⊢
  have hl := hm.len
  refine c_seq <| cR <| oM rfl <| oX (e_lss rfl rfl) <| oN ?_
  refine c_ifp rfl (fun h2 => ?_) (fun h2 => ?_)
  · refine c_skip <| n_code <| c_seq <| c_block <| c_seq ?_
    refine c_cut (X := Nat) (fun i => [(0, .slice (some ⟨g, 0, none⟩) n cap), (1, .int .i64 a), (2, .int .i64 b), (7, .int .i64 i), (8, .int .i64 j)]) (fun _ => [(g, VB .u64 m rest 23 lo hi)]) (fun i => a < i ∧ i ≤ b ∧ SR a i m ∧ (i < b → gd m i < gd m (i - 1))) ?_ ?_
    · skip
      refine c_block ?_
      refine c_loop (X := Nat) (fun i => [(0, .slice (some ⟨g, 0, none⟩) n cap), (1, .int .i64 a), (2, .int .i64 b), (7, .int .i64 i), (8, .int .i64 j)]) (fun _ => [(g, VB .u64 m rest 23 lo hi)]) (fun i => a < i ∧ i ≤ b ∧ SR a i m) (fun i => b - i) i ⟨hi0, hi1, hs⟩ (sub_cons rfl (sub_cons rfl (sub_cons rfl (sub_cons rfl (sub_cons rfl sub_nil))))) (.refl _) ?_
      clear hi0 hi1 hs
      rintro i ⟨hi0, hi1, hs⟩
      refine c_seq <| c_seq <| cQ <| qM rfl <| qM rfl <| qX (e_lss rfl rfl) <| qM rfl ?_
      refine q_splitp 20 rfl (fun h3 => ?_) (fun h3 => ?_)
      · refine qM rfl <| qM rfl <| qX (e_ian runUnderlying29 sizeOf23 rfl rfl (by omega)) <| qX (e_ld isAgg23 rfl (.inl M0) (by omega)) <| qM rfl <| qM rfl <| qX (e_sub1 rfl rfl (by omega)) <| qX (e_ian runUnderlying29 sizeOf23 rfl rfl (by omega)) <| qX (e_ld isAgg23 rfl (.inl M0) (by omega)) <| q_pure rfl call357 (less_is) rfl rfl <| qX (e_not rfl) <| qX (e_pick_t rfl rfl) <| qN ?_
        refine c_if rfl (fun h4 => ?_) (fun h4 => ?_)
        · have h4' : ¬ gd m i < gd m (i - 1) := by simpa using h4
          refine c_skip <| n_code <| c_block <| c_region <| oM rfl <| oX (e_addn rfl rfl (by simp only [inR]; omega)) <| oA rfl <| o_nil <| n_block ?_
          refine n_round' (y := i) (i + 1) (by omega) ⟨by omega, by omega, hs.snoc hi0 (Int.not_lt.1 h4')⟩ (sub_cons rfl (sub_cons rfl (sub_cons rfl (sub_cons rfl (sub_cons rfl sub_nil))))) _ (.refl _) (List.Sublist.refl _)
        · skip
          have h4' : gd m i < gd m (i - 1) := by simpa using h4
          refine c_exit ?_; refine x_code ?_; refine x_upto ?_; refine x_here ?_
          exact n_cut i ⟨hi0, hi1, hs, fun _ => h4'⟩ (sub_cons rfl (sub_cons rfl (sub_cons rfl (sub_cons rfl (sub_cons rfl sub_nil))))) (.refl _)
      · skip
        refine qS <| qS <| qS <| qS <| qS <| qS <| qS <| qS <| qS <| qS <| qS <| qX (e_pick_f rfl rfl) <| qN <| c_else rfl ?_
        refine c_exit ?_; refine x_code ?_; refine x_upto ?_; refine x_here ?_
        exact n_cut i ⟨hi0, hi1, hs, fun _ => by omega⟩ (sub_cons rfl (sub_cons rfl (sub_cons rfl (sub_cons rfl (sub_cons rfl sub_nil))))) (.refl _)
    · clear hi0 hi1 hs
      rintro i ⟨hi0, hi1, hs, hlt⟩
      refine n_code <| c_seq <| cR <| oM rfl <| oM rfl <| oX (e_eql rfl rfl) <| oN ?_
      refine c_ifp rfl (fun h3 => ?_) (fun h3 => ?_)
      · refine cR <| oA rfl <| oN <| c_ret ?_
        refine r_fn1 results356 rfl ?_
        obtain rfl : i = b := by omega
        exact ⟨true, m, rfl, hm, fun _ => hs, rfl⟩
      · skip
        have hlt' := hlt (by omega)
        refine c_skip <| n_code <| c_seq <| cR <| oM rfl <| oM rfl <| oX (e_subN rfl rfl (by omega)) <| oX (e_lss rfl rfl) <| oN ?_
        refine c_ifp rfl (fun h4 => ?_) (fun h4 => ?_)
        · refine cR <| oA rfl <| oN <| c_ret ?_
          refine r_fn1 results356 rfl ?_
          exact ⟨false, m, rfl, hm, by simp, rfl⟩
        · skip
          refine c_skip <| n_code <| c_seq <| c_regiong [15, 17] (by kernel_rfl) <| gM 0 rfl (e_move rfl) <| gM 1 rfl (e_move rfl) <| gM 2 rfl (e_move rfl) <| gM 3 rfl (e_move rfl) <| gM 4 rfl (e_sub1 rfl rfl (by omega)) <| gM 5 rfl (e_move rfl) <| gM 6 rfl (e_move rfl) <| gM 7 rfl (e_sub1 rfl rfl (by omega)) <| gM 8 rfl (e_ian runUnderlying29 sizeOf23 rfl rfl (by omega)) <| gE 9 rfl (e_ld isAgg23 rfl (.inl M0) (by omega)) <| gM 10 rfl (e_move rfl) <| gM 11 rfl (e_move rfl) <| gM 12 rfl (e_ian runUnderlying29 sizeOf23 rfl rfl (by omega)) ?_
          refine gE 13 rfl (e_ld isAgg23 rfl (.inl M0) (by omega)) <| gM 14 rfl (e_ian runUnderlying29 sizeOf23 rfl rfl (by omega)) ?_
          refine g_l 15 (by kernel_rfl) rfl rfl rfl (l_st sizeOf23 rfl rfl .head (by omega) (by omega)) ?_
          intro _ _
          refine dX 16 rfl (e_ian runUnderlying29 sizeOf23 rfl rfl (by omega)) ?_
          refine d_l 17 (by kernel_rfl) rfl rfl (l_st sizeOf23 rfl rfl .head (by simp only [List.length_set]; omega) (by simp only [List.length_set]; omega)) (fun _ _ => hs_nil) ?_
          intro _ _
          refine dN <| n_code <| c_seq ?_
          have hsw : PR a b m (swp m i (i - 1)) := .one (by omega) (by omega) (by omega) (by omega) (by omega)
          have hpre : SR a (i - 1) (swp m i (i - 1)) := (hs.less (Nat.le_refl _) (by omega)).congr fun k k1 k2 => by rw [gd_swp (by omega) (by omega), if_neg (by omega), if_neg (by omega)]
          refine c_cut (X := List Int) (fun _ => [(0, .slice (some ⟨g, 0, none⟩) n cap), (1, .int .i64 a), (2, .int .i64 b), (7, .int .i64 i), (8, .int .i64 j)]) (fun m => [(g, VB .u64 m rest 23 lo hi)]) (fun m => PR a b l m ∧ SR a i m) ?_ ?_
          · skip
            refine cR <| oM rfl <| oM rfl <| oX (e_subN rfl rfl (by omega)) <| oX (e_geq rfl rfl) <| oN ?_
            refine c_ifp rfl (fun h5 => ?_) (fun h5 => ?_)
            · refine cR <| oM rfl <| oX (e_sub1 rfl rfl (by omega)) <| oA rfl <| oN <| c_block ?_
              refine c_loop (X := List Int × Nat) (fun y => [(0, .slice (some ⟨g, 0, none⟩) n cap), (1, .int .i64 a), (2, .int .i64 b), (7, .int .i64 i), (8, .int .i64 j), (9, .int .i64 y.2)]) (fun y => [(g, VB .u64 y.1 rest 23 lo hi)]) (fun y => PR a b l y.1 ∧ Ins a y.2 i y.1 ∧ a ≤ y.2 ∧ y.2 < i) (fun y => y.2) (swp m i (i - 1), i - 1) ⟨hm.trans hsw, by have := Ins.start hpre; rwa [show i - 1 + 1 = i by omega] at this, by show a ≤ i - 1; omega, by show i - 1 < i; omega⟩ (sub_cons rfl (sub_cons rfl (sub_cons rfl (sub_cons rfl (sub_cons rfl (sub_cons rfl sub_nil)))))) (.refl _) ?_
              rintro ⟨q, k⟩ ⟨hq, hin, hk0, hk1⟩
              simp only at hq hin hk0 hk1 ⊢
              have hlq := hq.len
              refine c_seq <| cR <| oM rfl <| oX (e_geq rfl rfl) <| oN ?_
              refine c_ifp rfl (fun h6 => ?_) (fun h6 => ?_)
              · refine c_skip <| n_code <| c_seq <| c_block <| c_seq <| c_seq <| cQ <| qM rfl <| qM rfl <| qX (e_ian runUnderlying29 sizeOf23 rfl rfl (by omega)) <| qX (e_ld isAgg23 rfl (.inl M0) (by omega)) <| qM rfl <| qM rfl <| qX (e_sub1 rfl rfl (by omega)) <| qX (e_ian runUnderlying29 sizeOf23 rfl rfl (by omega)) <| qX (e_ld isAgg23 rfl (.inl M0) (by omega)) <| q_pure rfl call357 (less_is) rfl rfl <| qX (e_not rfl) <| qN ?_
                refine c_if rfl (fun h7 => ?_) (fun h7 => ?_)
                · refine c_exit ?_; refine x_code ?_; refine x_past rfl ?_; refine x_code ?_; refine x_upto ?_; refine x_here ?_
                  have h7' : ¬ gd q k < gd q (k - 1) := by simpa using h7
                  exact n_cut q ⟨hq, hin.stop (.inr h7')⟩ (sub_cons rfl (sub_cons rfl (sub_cons rfl (sub_cons rfl (sub_cons rfl sub_nil))))) (.refl _)
                · skip
                  have h7' : gd q k < gd q (k - 1) := by simpa using h7
                  have hka : a < k := by
                    rcases hlb.pr hq (Nat.le_refl _) (Nat.le_refl _) with h | h
                    · omega
                    · by_cases he : k = a
                      · subst he; exact absurd h7' (Int.not_lt.2 (h k (Nat.le_refl _) (by omega)))
                      · omega
                  refine c_skip <| n_code <| c_regiong [15, 17] (by kernel_rfl) <| gM 0 rfl (e_move rfl) <| gM 1 rfl (e_move rfl) <| gM 2 rfl (e_move rfl) <| gM 3 rfl (e_move rfl) <| gM 4 rfl (e_sub1 rfl rfl (by omega)) <| gM 5 rfl (e_move rfl) <| gM 6 rfl (e_move rfl) <| gM 7 rfl (e_sub1 rfl rfl (by omega)) <| gM 8 rfl (e_ian runUnderlying29 sizeOf23 rfl rfl (by omega)) <| gE 9 rfl (e_ld isAgg23 rfl (.inl M0) (by omega)) <| gM 10 rfl (e_move rfl) <| gM 11 rfl (e_move rfl) <| gM 12 rfl (e_ian runUnderlying29 sizeOf23 rfl rfl (by omega)) ?_
                  refine gE 13 rfl (e_ld isAgg23 rfl (.inl M0) (by omega)) <| gM 14 rfl (e_ian runUnderlying29 sizeOf23 rfl rfl (by omega)) ?_
                  refine g_l 15 (by kernel_rfl) rfl rfl rfl (l_st sizeOf23 rfl rfl .head (by omega) (by omega)) ?_
                  intro _ _
                  refine dX 16 rfl (e_ian runUnderlying29 sizeOf23 rfl rfl (by omega)) ?_
                  refine d_l 17 (by kernel_rfl) rfl rfl (l_st sizeOf23 rfl rfl .head (by simp only [List.length_set]; omega) (by simp only [List.length_set]; omega)) (fun _ _ => hs_nil) ?_
                  intro _ _
                  refine dN <| n_block <| n_code <| c_region <| oM rfl <| oX (e_sub1 rfl rfl (by omega)) <| oA rfl <| o_nil ?_
                  refine n_round' (y := (q, k)) (swp q k (k - 1), k - 1) (by show k - 1 < k; omega) ?_ (sub_cons rfl (sub_cons rfl (sub_cons rfl (sub_cons rfl (sub_cons rfl (sub_cons rfl sub_nil)))))) _ (.refl _) (List.Sublist.refl _)
                  exact ⟨hq.swap (by omega) (by omega) (by omega) (by omega) (by omega), hin.step h7' hka hk1 (by omega), by show a ≤ k - 1; omega, by show k - 1 < i; omega⟩
              · skip
                refine c_exit ?_; refine x_code ?_; refine x_upto ?_; refine x_here ?_
                exact n_cut q ⟨hq, hin.stop (.inl (by omega))⟩ (sub_cons rfl (sub_cons rfl (sub_cons rfl (sub_cons rfl (sub_cons rfl sub_nil))))) (.refl _)
            · skip
              refine c_skip ?_
              exact n_cut (swp m i (i - 1)) ⟨hm.trans hsw, .small (by omega)⟩ (sub_cons rfl (sub_cons rfl (sub_cons rfl (sub_cons rfl (sub_cons rfl sub_nil))))) (.refl _)
          · clear hs hpre hsw hlt hlt' hm hl
            rintro m ⟨hm, hs⟩
            have hl := hm.len
            refine n_code ?_
            refine c_cut (X := List Int) (fun _ => [(0, .slice (some ⟨g, 0, none⟩) n cap), (1, .int .i64 a), (2, .int .i64 b), (7, .int .i64 i), (8, .int .i64 j)]) (fun m => [(g, VB .u64 m rest 23 lo hi)]) (fun m => PR a b l m ∧ SR a i m) ?_ ?_
            · skip
              refine cR <| oM rfl <| oM rfl <| oX (e_subN rfl rfl (by omega)) <| oX (e_geq rfl rfl) <| oN ?_
              refine c_ifp rfl (fun h5 => ?_) (fun h5 => ?_)
              · refine cR <| oM rfl <| oX (e_addn rfl rfl (by simp only [inR]; omega)) <| oA rfl <| oN <| c_block ?_
                refine c_loop (X := List Int × Nat) (fun y => [(0, .slice (some ⟨g, 0, none⟩) n cap), (1, .int .i64 a), (2, .int .i64 b), (7, .int .i64 i), (8, .int .i64 j), (10, .int .i64 y.2)]) (fun y => [(g, VB .u64 y.1 rest 23 lo hi)]) (fun y => PR i b m y.1 ∧ i < y.2) (fun y => b - y.2) (m, i + 1) ⟨.refl, by show i < i + 1; omega⟩ (sub_cons rfl (sub_cons rfl (sub_cons rfl (sub_cons rfl (sub_cons rfl (sub_cons rfl sub_nil)))))) (.refl _) ?_
                rintro ⟨q, k⟩ ⟨hq, hk0⟩
                simp only at hq hk0 ⊢
                have hlq := hq.len
                have hfin : PR a b l q ∧ SR a i q := ⟨hm.trans (hq.mono (by omega) (Nat.le_refl _) (by omega)), hs.congr fun p _ hp => hq.out (.inl hp)⟩
                refine c_seq <| cR <| oM rfl <| oM rfl <| oX (e_lss rfl rfl) <| oN ?_
                refine c_ifp rfl (fun h6 => ?_) (fun h6 => ?_)
                · refine c_skip <| n_code <| c_seq <| c_block <| c_seq <| c_seq <| cQ <| qM rfl <| qM rfl <| qX (e_ian runUnderlying29 sizeOf23 rfl rfl (by omega)) <| qX (e_ld isAgg23 rfl (.inl M0) (by omega)) <| qM rfl <| qM rfl <| qX (e_sub1 rfl rfl (by omega)) <| qX (e_ian runUnderlying29 sizeOf23 rfl rfl (by omega)) <| qX (e_ld isAgg23 rfl (.inl M0) (by omega)) <| q_pure rfl call357 (less_is) rfl rfl <| qX (e_not rfl) <| qN ?_
                  refine c_if rfl (fun h7 => ?_) (fun h7 => ?_)
                  · refine c_exit ?_; refine x_code ?_; refine x_past rfl ?_; refine x_code ?_; refine x_upto ?_; refine x_here ?_
                    exact n_cut q hfin (sub_cons rfl (sub_cons rfl (sub_cons rfl (sub_cons rfl (sub_cons rfl sub_nil))))) (.refl _)
                  · skip
                    refine c_skip <| n_code <| c_regiong [15, 17] (by kernel_rfl) <| gM 0 rfl (e_move rfl) <| gM 1 rfl (e_move rfl) <| gM 2 rfl (e_move rfl) <| gM 3 rfl (e_move rfl) <| gM 4 rfl (e_sub1 rfl rfl (by omega)) <| gM 5 rfl (e_move rfl) <| gM 6 rfl (e_move rfl) <| gM 7 rfl (e_sub1 rfl rfl (by omega)) <| gM 8 rfl (e_ian runUnderlying29 sizeOf23 rfl rfl (by omega)) <| gE 9 rfl (e_ld isAgg23 rfl (.inl M0) (by omega)) <| gM 10 rfl (e_move rfl) <| gM 11 rfl (e_move rfl) <| gM 12 rfl (e_ian runUnderlying29 sizeOf23 rfl rfl (by omega)) ?_
                    refine gE 13 rfl (e_ld isAgg23 rfl (.inl M0) (by omega)) <| gM 14 rfl (e_ian runUnderlying29 sizeOf23 rfl rfl (by omega)) ?_
                    refine g_l 15 (by kernel_rfl) rfl rfl rfl (l_st sizeOf23 rfl rfl .head (by omega) (by omega)) ?_
                    intro _ _
                    refine dX 16 rfl (e_ian runUnderlying29 sizeOf23 rfl rfl (by omega)) ?_
                    refine d_l 17 (by kernel_rfl) rfl rfl (l_st sizeOf23 rfl rfl .head (by simp only [List.length_set]; omega) (by simp only [List.length_set]; omega)) (fun _ _ => hs_nil) ?_
                    intro _ _
                    refine dN <| n_block <| n_code <| c_region <| oM rfl <| oX (e_addn rfl rfl (by simp only [inR]; omega)) <| oA rfl <| o_nil ?_
                    refine n_round' (y := (q, k)) (swp q k (k - 1), k + 1) (by show b - (k + 1) < b - k; omega) ?_ (sub_cons rfl (sub_cons rfl (sub_cons rfl (sub_cons rfl (sub_cons rfl (sub_cons rfl sub_nil)))))) _ (.refl _) (List.Sublist.refl _)
                    exact ⟨hq.swap (by omega) (by omega) (by omega) (by omega) (by omega), by show i < k + 1; omega⟩
                · skip
                  refine c_exit ?_; refine x_code ?_; refine x_upto ?_; refine x_here ?_
                  exact n_cut q hfin (sub_cons rfl (sub_cons rfl (sub_cons rfl (sub_cons rfl (sub_cons rfl sub_nil))))) (.refl _)
              · skip
                refine c_skip ?_
                exact n_cut m ⟨hm, hs⟩ (sub_cons rfl (sub_cons rfl (sub_cons rfl (sub_cons rfl (sub_cons rfl sub_nil))))) (.refl _)
            · clear hs hm hl
              rintro m ⟨hm, hs⟩
              refine n_block <| n_code <| c_region <| oM rfl <| oX (e_addn rfl rfl (by simp only [inR]; omega)) <| oA rfl <| o_nil ?_
              refine n_round (y := (l, 0, j)) (m, i, j + 1) (by show 5 - (j + 1) < 5 - j; omega) ?_ (sub_cons rfl (sub_cons rfl (sub_cons rfl (sub_cons rfl (sub_cons rfl sub_nil))))) (.refl _)
              exact ⟨hm, hi0, hi1, hs, by show j + 1 ≤ 5; omega⟩
  · skip
    refine c_exit ?_; refine x_code ?_; refine x_upto ?_; refine x_here ?_
    refine n_code <| cR <| oA rfl <| oN <| c_ret ?_
    refine r_fn1 results356 rfl ?_
    exact ⟨false, m, rfl, hm, by simp, rfl⟩
end
end Go.Proofs.A8
namespace Go.Proofs.A8
open Go Go.Sl Tryz
set_option maxRecDepth 100000
set_option maxHeartbeats 1000000
section
variable {G : HP} {g n cap lo hi : Nat} {rest : List Value} {l : List Int}
theorem peq_is {a b p : Nat} (hn : l.length = n) (hf : n ≤ lo ∨ hi = 0) (h1 : n ≤ 100000) (hap : a ≤ p) (hpb : p < b) (hb : b ≤ n) :
    Ctr Tryz.prog 358 [.slice (some ⟨g, 0, none⟩) n cap, .int .i64 a, .int .i64 b, .int .i64 p] G [(g, VB .u64 l rest 23 lo hi)] (fun r H' => ∃ (m : Nat) (l' : List Int), r = .int .i64 m ∧ PR a b l l' ∧ PeF a b m l' ∧ gd l' a = gd l p ∧ H' = [(g, VB .u64 l' rest 23 lo hi)]) := by
  have hsl := swp_length l a p
  have hsw : PR a b l (swp l a p) := .one (Nat.le_refl _) (by omega) hap hpb (by omega)
  refine fn_enter 84 func358 rfl ntmps358 rfl ?_
  intro w0
  refine cR <| oA rfl <| oN <| c_seq <| c_regiong [13, 15] (by kernel_rfl) <| gM 0 rfl (e_move rfl) <| gM 1 rfl (e_move rfl) <| gM 2 rfl (e_move rfl) <| gM 3 rfl (e_move rfl) <| gM 4 rfl (e_move rfl) <| gM 5 rfl (e_move rfl) <| gM 6 rfl (e_ian runUnderlying29 sizeOf23 rfl rfl (by omega)) <| gE 7 rfl (e_ld isAgg23 rfl (.inl M0) (by omega)) <| gM 8 rfl (e_move rfl) <| gM 9 rfl (e_move rfl) <| gM 10 rfl (e_ian runUnderlying29 sizeOf23 rfl rfl (by omega)) <| gE 11 rfl (e_ld isAgg23 rfl (.inl M0) (by omega)) ?_
  refine gM 12 rfl (e_ian runUnderlying29 sizeOf23 rfl rfl (by omega)) ?_
  refine g_l 13 (by kernel_rfl) rfl rfl rfl (l_st sizeOf23 rfl rfl .head (by omega) (by omega)) ?_
  intro _ _
  refine dX 14 rfl (e_ian runUnderlying29 sizeOf23 rfl rfl (by omega)) ?_
  refine d_l 15 (by kernel_rfl) rfl rfl (l_st sizeOf23 rfl rfl .head (by simp only [List.length_set]; omega) (by simp only [List.length_set]; omega)) (fun _ _ => hs_nil) ?_
  intro _ _
  refine dN <| n_code <| cR <| oM rfl <| oX (e_addn rfl rfl (by simp only [inR]; omega)) <| oM rfl <| oX (e_sub1 rfl rfl (by omega)) <| oA rfl <| oA rfl <| oN <| c_seq <| c_block ?_
  refine c_loop (X := List Int × Nat × Nat) (fun y => [(0, .slice (some ⟨g, 0, none⟩) n cap), (1, .int .i64 a), (9, .int .i64 y.2.1), (10, .int .i64 y.2.2)]) (fun y => [(g, VB .u64 y.1 rest 23 lo hi)]) (fun y => PR a b l y.1 ∧ Pe a b y.2.1 y.2.2 y.1 ∧ gd y.1 a = gd l p) (fun y => y.2.2 + 1 - y.2.1) (swp l a p, a + 1, b - 1) ⟨hsw, .start (by omega), by show gd (swp l a p) a = gd l p; rw [gd_swp (by omega) (by omega)]; split <;> simp_all⟩ (sub_cons rfl (sub_cons rfl (sub_cons rfl (sub_cons rfl sub_nil)))) (.refl _) ?_
  clear hsl hsw
  rintro ⟨m, i0, j0⟩ ⟨hm, hpe0, hga⟩
  simp only at hm hpe0 hga ⊢
  have hl := hm.len
  refine c_block <| c_seq ?_
  refine c_cut (X := Nat) (fun i => [(0, .slice (some ⟨g, 0, none⟩) n cap), (1, .int .i64 a), (9, .int .i64 i), (10, .int .i64 j0)]) (fun _ => [(g, VB .u64 m rest 23 lo hi)]) (fun i => i0 ≤ i ∧ Pe a b i j0 m ∧ (i ≤ j0 → gd m a < gd m i)) ?_ ?_
  · skip
    refine c_block ?_
    refine c_loop (X := Nat) (fun i => [(0, .slice (some ⟨g, 0, none⟩) n cap), (1, .int .i64 a), (9, .int .i64 i), (10, .int .i64 j0)]) (fun _ => [(g, VB .u64 m rest 23 lo hi)]) (fun i => i0 ≤ i ∧ Pe a b i j0 m) (fun i => j0 + 1 - i) i0 ⟨Nat.le_refl _, hpe0⟩ (sub_cons rfl (sub_cons rfl (sub_cons rfl (sub_cons rfl sub_nil)))) (.refl _) ?_
    rintro i ⟨hii, hpe⟩
    have k1 := hpe.ai
    have k2 := hpe.jb
    refine c_seq <| c_seq <| cQ <| qM rfl <| qM rfl <| qX (e_leq rfl rfl) <| qM rfl ?_
    refine q_splitp 32 rfl (fun h3 => ?_) (fun h3 => ?_)
    · refine qM rfl <| qM rfl <| qX (e_ian runUnderlying29 sizeOf23 rfl rfl (by omega)) <| qX (e_ld isAgg23 rfl (.inl M0) (by omega)) <| qM rfl <| qM rfl <| qX (e_ian runUnderlying29 sizeOf23 rfl rfl (by omega)) <| qX (e_ld isAgg23 rfl (.inl M0) (by omega)) <| q_pure rfl call357 (less_is) rfl rfl <| qX (e_not rfl) <| qX (e_pick_t rfl rfl) <| qN ?_
      refine c_if rfl (fun h4 => ?_) (fun h4 => ?_)
      · have h4' : ¬ gd m a < gd m i := by simpa using h4
        refine c_skip <| n_code <| c_block <| c_region <| oM rfl <| oX (e_addn rfl rfl (by simp only [inR]; omega)) <| oA rfl <| o_nil <| n_block ?_
        refine n_round' (y := i) (i + 1) (by omega) ⟨by omega, hpe.incr (by omega) h4'⟩ (sub_cons rfl (sub_cons rfl (sub_cons rfl (sub_cons rfl sub_nil)))) _ (.refl _) (List.Sublist.refl _)
      · skip
        have h4' : gd m a < gd m i := by simpa using h4
        refine c_exit ?_; refine x_code ?_; refine x_upto ?_; refine x_here ?_
        exact n_cut i ⟨hii, hpe, fun _ => h4'⟩ (sub_cons rfl (sub_cons rfl (sub_cons rfl (sub_cons rfl sub_nil)))) (.refl _)
    · skip
      refine qS <| qS <| qS <| qS <| qS <| qS <| qS <| qS <| qS <| qS <| qX (e_pick_f rfl rfl) <| qN <| c_else rfl ?_
      refine c_exit ?_; refine x_code ?_; refine x_upto ?_; refine x_here ?_
      exact n_cut i ⟨hii, hpe, fun _ => by omega⟩ (sub_cons rfl (sub_cons rfl (sub_cons rfl (sub_cons rfl sub_nil)))) (.refl _)
  · clear hpe0
    rintro i ⟨hii, hpe0, hgt⟩
    refine n_code <| c_seq ?_
    refine c_cut (X := Nat) (fun j => [(0, .slice (some ⟨g, 0, none⟩) n cap), (1, .int .i64 a), (9, .int .i64 i), (10, .int .i64 j)]) (fun _ => [(g, VB .u64 m rest 23 lo hi)]) (fun j => j ≤ j0 ∧ Pe a b i j m ∧ (i ≤ j → ¬ gd m a < gd m j)) ?_ ?_
    · skip
      refine c_block ?_
      refine c_loop (X := Nat) (fun j => [(0, .slice (some ⟨g, 0, none⟩) n cap), (1, .int .i64 a), (9, .int .i64 i), (10, .int .i64 j)]) (fun _ => [(g, VB .u64 m rest 23 lo hi)]) (fun j => j ≤ j0 ∧ Pe a b i j m) (fun j => j + 1 - i) j0 ⟨Nat.le_refl _, hpe0⟩ (sub_cons rfl (sub_cons rfl (sub_cons rfl (sub_cons rfl sub_nil)))) (.refl _) ?_
      rintro j ⟨hjj, hpe⟩
      have k1 := hpe.ai
      have k2 := hpe.jb
      refine c_seq <| c_seq <| cQ <| qM rfl <| qM rfl <| qX (e_leq rfl rfl) <| qM rfl ?_
      refine q_splitp 49 rfl (fun h3 => ?_) (fun h3 => ?_)
      · refine qM rfl <| qM rfl <| qX (e_ian runUnderlying29 sizeOf23 rfl rfl (by omega)) <| qX (e_ld isAgg23 rfl (.inl M0) (by omega)) <| qM rfl <| qM rfl <| qX (e_ian runUnderlying29 sizeOf23 rfl rfl (by omega)) <| qX (e_ld isAgg23 rfl (.inl M0) (by omega)) <| q_pure rfl call357 (less_is) rfl rfl <| qX (e_pick_t rfl rfl) <| qN ?_
        refine c_if rfl (fun h4 => ?_) (fun h4 => ?_)
        · have h4' : gd m a < gd m j := by simpa using h4
          refine c_skip <| n_code <| c_block <| c_region <| oM rfl <| oX (e_sub1 rfl rfl (by omega)) <| oA rfl <| o_nil <| n_block ?_
          refine n_round' (y := j) (j - 1) (by omega) ⟨by omega, hpe.decr (by omega) h4'⟩ (sub_cons rfl (sub_cons rfl (sub_cons rfl (sub_cons rfl sub_nil)))) _ (.refl _) (List.Sublist.refl _)
        · skip
          have h4' : ¬ gd m a < gd m j := by simpa using h4
          refine c_exit ?_; refine x_code ?_; refine x_upto ?_; refine x_here ?_
          exact n_cut j ⟨hjj, hpe, fun _ => h4'⟩ (sub_cons rfl (sub_cons rfl (sub_cons rfl (sub_cons rfl sub_nil)))) (.refl _)
      · skip
        refine qS <| qS <| qS <| qS <| qS <| qS <| qS <| qS <| qS <| qX (e_pick_f rfl rfl) <| qN <| c_else rfl ?_
        refine c_exit ?_; refine x_code ?_; refine x_upto ?_; refine x_here ?_
        exact n_cut j ⟨hjj, hpe, fun _ => by omega⟩ (sub_cons rfl (sub_cons rfl (sub_cons rfl (sub_cons rfl sub_nil)))) (.refl _)
    · clear hpe0
      rintro j ⟨hjj, hpe, hle⟩
      have k1 := hpe.ai
      have k2 := hpe.jb
      refine n_code <| c_seq <| cR <| oM rfl <| oM rfl <| oX (e_gtr rfl rfl) <| oN ?_
      refine c_ifp rfl (fun h5 => ?_) (fun h5 => ?_)
      · refine c_exit ?_; refine x_code ?_; refine x_past rfl ?_; refine x_upto ?_; refine x_here ?_
        refine n_code <| cR <| oM rfl <| oA rfl <| oN <| c_ret ?_
        refine r_fn1 results358 rfl ?_
        exact ⟨i, m, rfl, hm, hpe.fin (by omega), hga, rfl⟩
      · skip
        refine c_skip <| n_code <| c_seq <| c_regiong [13, 15] (by kernel_rfl) <| gM 0 rfl (e_move rfl) <| gM 1 rfl (e_move rfl) <| gM 2 rfl (e_move rfl) <| gM 3 rfl (e_move rfl) <| gM 4 rfl (e_move rfl) <| gM 5 rfl (e_move rfl) <| gM 6 rfl (e_ian runUnderlying29 sizeOf23 rfl rfl (by omega)) <| gE 7 rfl (e_ld isAgg23 rfl (.inl M0) (by omega)) <| gM 8 rfl (e_move rfl) <| gM 9 rfl (e_move rfl) <| gM 10 rfl (e_ian runUnderlying29 sizeOf23 rfl rfl (by omega)) <| gE 11 rfl (e_ld isAgg23 rfl (.inl M0) (by omega)) ?_
        refine gM 12 rfl (e_ian runUnderlying29 sizeOf23 rfl rfl (by omega)) ?_
        refine g_l 13 (by kernel_rfl) rfl rfl rfl (l_st sizeOf23 rfl rfl .head (by omega) (by omega)) ?_
        intro _ _
        refine dX 14 rfl (e_ian runUnderlying29 sizeOf23 rfl rfl (by omega)) ?_
        refine d_l 15 (by kernel_rfl) rfl rfl (l_st sizeOf23 rfl rfl .head (by simp only [List.length_set]; omega) (by simp only [List.length_set]; omega)) (fun _ _ => hs_nil) ?_
        intro _ _
        refine dN <| n_code <| cR <| oM rfl <| oX (e_addn rfl rfl (by simp only [inR]; omega)) <| oA rfl <| oN <| c_region <| oM rfl <| oX (e_sub1 rfl rfl (by omega)) <| oA rfl <| o_nil <| n_block ?_
        refine n_round' (y := (m, i0, j0)) (swp m i j, i + 1, j - 1) (by show j - 1 + 1 - (i + 1) < j0 + 1 - i0; omega) ?_ (sub_cons rfl (sub_cons rfl (sub_cons rfl (sub_cons rfl sub_nil)))) _ (.refl _) (List.Sublist.refl _)
        refine ⟨hm.swap (by omega) (by omega) (by omega) (by omega) (by omega), hpe.swap (by omega) (hgt (by omega)) (hle (by omega)) (by omega), ?_⟩
        show gd (swp m i j) a = gd l p
        rw [gd_swp (by omega) (by omega), if_neg (by omega), if_neg (by omega), hga]
theorem part2_is {a b p : Nat} (hn : l.length = n) (hf : n ≤ lo ∨ hi = 0) (h1 : n ≤ 100000) (hap : a ≤ p) (hpb : p < b) (hb : b ≤ n) :
    Ctr Tryz.prog 359 [.slice (some ⟨g, 0, none⟩) n cap, .int .i64 a, .int .i64 b, .int .i64 p] G [(g, VB .u64 l rest 23 lo hi)] (fun r H' => ∃ (m : Nat) (t : Bool) (l' : List Int), r = .tuple #[.int .i64 m, .bool t] ∧ PR a b l l' ∧ PtF a b m l' ∧ H' = [(g, VB .u64 l' rest 23 lo hi)]) := by
  have hsl := swp_length l a p
  have hm : PR a b l (swp l a p) := .one (Nat.le_refl _) (by omega) hap hpb (by omega)
  have hl := hm.len
  have hpe0 : Pt a b (a + 1) (b - 1) (swp l a p) := .start (by omega)
  refine fn_enter 168 func359 rfl ntmps359 rfl ?_
  intro w0
  refine cR <| oA rfl <| oA rfl <| oN <| c_seq <| c_regiong [13, 15] (by kernel_rfl) <| gM 0 rfl (e_move rfl) <| gM 1 rfl (e_move rfl) <| gM 2 rfl (e_move rfl) <| gM 3 rfl (e_move rfl) <| gM 4 rfl (e_move rfl) <| gM 5 rfl (e_move rfl) <| gM 6 rfl (e_ian runUnderlying29 sizeOf23 rfl rfl (by omega)) <| gE 7 rfl (e_ld isAgg23 rfl (.inl M0) (by omega)) <| gM 8 rfl (e_move rfl) <| gM 9 rfl (e_move rfl) <| gM 10 rfl (e_ian runUnderlying29 sizeOf23 rfl rfl (by omega)) <| gE 11 rfl (e_ld isAgg23 rfl (.inl M0) (by omega)) ?_
  refine gM 12 rfl (e_ian runUnderlying29 sizeOf23 rfl rfl (by omega)) ?_
  refine g_l 13 (by kernel_rfl) rfl rfl rfl (l_st sizeOf23 rfl rfl .head (by omega) (by omega)) ?_
  intro _ _
  refine dX 14 rfl (e_ian runUnderlying29 sizeOf23 rfl rfl (by omega)) ?_
  refine d_l 15 (by kernel_rfl) rfl rfl (l_st sizeOf23 rfl rfl .head (by simp only [List.length_set]; omega) (by simp only [List.length_set]; omega)) (fun _ _ => hs_nil) ?_
  intro _ _
  refine dN <| n_code <| cR <| oM rfl <| oX (e_addn rfl rfl (by simp only [inR]; omega)) <| oM rfl <| oX (e_sub1 rfl rfl (by omega)) <| oA rfl <| oA rfl <| oN <| c_seq ?_
  have es : (l.set a (gd l p)).set p (gd l a) = swp l a p := rfl
  rw [es]
  clear es
  generalize swp l a p = m at *
  obtain ⟨i0, hi0⟩ : ∃ i0, i0 = a + 1 := ⟨_, rfl⟩
  obtain ⟨j0, hj0⟩ : ∃ j0, j0 = b - 1 := ⟨_, rfl⟩
  rw [← hi0, ← hj0] at hpe0
  refine WC.less (s' := [(0, .slice (some ⟨g, 0, none⟩) n cap), (1, .int .i64 a), (10, .int .i64 i0), (11, .int .i64 j0)]) (by subst hi0 hj0; exact (sub_cons rfl (sub_cons rfl (sub_cons rfl (sub_cons rfl sub_nil))))) (List.Sublist.refl _) ?_
  clear hi0 hj0

  refine c_cut (X := Nat) (fun i => [(0, .slice (some ⟨g, 0, none⟩) n cap), (1, .int .i64 a), (10, .int .i64 i), (11, .int .i64 j0)]) (fun _ => [(g, VB .u64 m rest 23 lo hi)]) (fun i => i0 ≤ i ∧ Pt a b i j0 m ∧ (i ≤ j0 → ¬ gd m i < gd m a)) ?_ ?_
  · skip
    refine c_block ?_
    refine c_loop (X := Nat) (fun i => [(0, .slice (some ⟨g, 0, none⟩) n cap), (1, .int .i64 a), (10, .int .i64 i), (11, .int .i64 j0)]) (fun _ => [(g, VB .u64 m rest 23 lo hi)]) (fun i => i0 ≤ i ∧ Pt a b i j0 m) (fun i => j0 + 1 - i) i0 ⟨Nat.le_refl _, hpe0⟩ (sub_cons rfl (sub_cons rfl (sub_cons rfl (sub_cons rfl sub_nil)))) (.refl _) ?_
    rintro i ⟨hii, hpe⟩
    have k1 := hpe.ai
    have k2 := hpe.jb
    refine c_seq <| c_seq <| cQ <| qM rfl <| qM rfl <| qX (e_leq rfl rfl) <| qM rfl ?_
    refine q_splitp 33 rfl (fun h3 => ?_) (fun h3 => ?_)
    · refine qM rfl <| qM rfl <| qX (e_ian runUnderlying29 sizeOf23 rfl rfl (by omega)) <| qX (e_ld isAgg23 rfl (.inl M0) (by omega)) <| qM rfl <| qM rfl <| qX (e_ian runUnderlying29 sizeOf23 rfl rfl (by omega)) <| qX (e_ld isAgg23 rfl (.inl M0) (by omega)) <| q_pure rfl call357 (less_is) rfl rfl <| qX (e_pick_t rfl rfl) <| qN ?_
      refine c_if rfl (fun h4 => ?_) (fun h4 => ?_)
      · have h4' : gd m i < gd m a := by simpa using h4
        refine c_skip <| n_code <| c_block <| c_region <| oM rfl <| oX (e_addn rfl rfl (by simp only [inR]; omega)) <| oA rfl <| o_nil <| n_block ?_
        refine n_round' (y := i) (i + 1) (by omega) ⟨by omega, hpe.incr (by omega) h4'⟩ (sub_cons rfl (sub_cons rfl (sub_cons rfl (sub_cons rfl sub_nil)))) _ (.refl _) (List.Sublist.refl _)
      · skip
        have h4' : ¬ gd m i < gd m a := by simpa using h4
        refine c_exit ?_; refine x_code ?_; refine x_upto ?_; refine x_here ?_
        exact n_cut i ⟨hii, hpe, fun _ => h4'⟩ (sub_cons rfl (sub_cons rfl (sub_cons rfl (sub_cons rfl sub_nil)))) (.refl _)
    · skip
      refine qS <| qS <| qS <| qS <| qS <| qS <| qS <| qS <| qS <| qX (e_pick_f rfl rfl) <| qN <| c_else rfl ?_
      refine c_exit ?_; refine x_code ?_; refine x_upto ?_; refine x_here ?_
      exact n_cut i ⟨hii, hpe, fun _ => by omega⟩ (sub_cons rfl (sub_cons rfl (sub_cons rfl (sub_cons rfl sub_nil)))) (.refl _)
  · clear hpe0
    rintro i ⟨hii, hpe0, hgt⟩
    refine n_code <| c_seq ?_
    refine c_cut (X := Nat) (fun j => [(0, .slice (some ⟨g, 0, none⟩) n cap), (1, .int .i64 a), (10, .int .i64 i), (11, .int .i64 j)]) (fun _ => [(g, VB .u64 m rest 23 lo hi)]) (fun j => j ≤ j0 ∧ Pt a b i j m ∧ (i ≤ j → gd m j < gd m a)) ?_ ?_
    · skip
      refine c_block ?_
      refine c_loop (X := Nat) (fun j => [(0, .slice (some ⟨g, 0, none⟩) n cap), (1, .int .i64 a), (10, .int .i64 i), (11, .int .i64 j)]) (fun _ => [(g, VB .u64 m rest 23 lo hi)]) (fun j => j ≤ j0 ∧ Pt a b i j m) (fun j => j + 1 - i) j0 ⟨Nat.le_refl _, hpe0⟩ (sub_cons rfl (sub_cons rfl (sub_cons rfl (sub_cons rfl sub_nil)))) (.refl _) ?_
      rintro j ⟨hjj, hpe⟩
      have k1 := hpe.ai
      have k2 := hpe.jb
      refine c_seq <| c_seq <| cQ <| qM rfl <| qM rfl <| qX (e_leq rfl rfl) <| qM rfl ?_
      refine q_splitp 49 rfl (fun h3 => ?_) (fun h3 => ?_)
      · refine qM rfl <| qM rfl <| qX (e_ian runUnderlying29 sizeOf23 rfl rfl (by omega)) <| qX (e_ld isAgg23 rfl (.inl M0) (by omega)) <| qM rfl <| qM rfl <| qX (e_ian runUnderlying29 sizeOf23 rfl rfl (by omega)) <| qX (e_ld isAgg23 rfl (.inl M0) (by omega)) <| q_pure rfl call357 (less_is) rfl rfl <| qX (e_not rfl) <| qX (e_pick_t rfl rfl) <| qN ?_
        refine c_if rfl (fun h4 => ?_) (fun h4 => ?_)
        · have h4' : ¬ gd m j < gd m a := by simpa using h4
          refine c_skip <| n_code <| c_block <| c_region <| oM rfl <| oX (e_sub1 rfl rfl (by omega)) <| oA rfl <| o_nil <| n_block ?_
          refine n_round' (y := j) (j - 1) (by omega) ⟨by omega, hpe.decr (by omega) h4'⟩ (sub_cons rfl (sub_cons rfl (sub_cons rfl (sub_cons rfl sub_nil)))) _ (.refl _) (List.Sublist.refl _)
        · skip
          have h4' : gd m j < gd m a := by simpa using h4
          refine c_exit ?_; refine x_code ?_; refine x_upto ?_; refine x_here ?_
          exact n_cut j ⟨hjj, hpe, fun _ => h4'⟩ (sub_cons rfl (sub_cons rfl (sub_cons rfl (sub_cons rfl sub_nil)))) (.refl _)
      · skip
        refine qS <| qS <| qS <| qS <| qS <| qS <| qS <| qS <| qS <| qS <| qX (e_pick_f rfl rfl) <| qN <| c_else rfl ?_
        refine c_exit ?_; refine x_code ?_; refine x_upto ?_; refine x_here ?_
        exact n_cut j ⟨hjj, hpe, fun _ => by omega⟩ (sub_cons rfl (sub_cons rfl (sub_cons rfl (sub_cons rfl sub_nil)))) (.refl _)
    · clear hpe0
      rintro j ⟨hjj, hpe, hle⟩
      have k1 := hpe.ai
      have k2 := hpe.jb
      have k3 := hpe.ij
      refine n_code <| c_seq <| cR <| oM rfl <| oM rfl <| oX (e_gtr rfl rfl) <| oN ?_
      refine c_ifp rfl (fun h5 => ?_) (fun h5 => ?_)
      · refine c_seq <| c_regiong [13, 15] (by kernel_rfl) <| gM 0 rfl (e_move rfl) <| gM 1 rfl (e_move rfl) <| gM 2 rfl (e_move rfl) <| gM 3 rfl (e_move rfl) <| gM 4 rfl (e_move rfl) <| gM 5 rfl (e_move rfl) <| gM 6 rfl (e_ian runUnderlying29 sizeOf23 rfl rfl (by omega)) <| gE 7 rfl (e_ld isAgg23 rfl (.inl M0) (by omega)) <| gM 8 rfl (e_move rfl) <| gM 9 rfl (e_move rfl) <| gM 10 rfl (e_ian runUnderlying29 sizeOf23 rfl rfl (by omega)) <| gE 11 rfl (e_ld isAgg23 rfl (.inl M0) (by omega)) <| gM 12 rfl (e_ian runUnderlying29 sizeOf23 rfl rfl (by omega)) ?_
        refine g_l 13 (by kernel_rfl) rfl rfl rfl (l_st sizeOf23 rfl rfl .head (by omega) (by omega)) ?_
        intro _ _
        refine dX 14 rfl (e_ian runUnderlying29 sizeOf23 rfl rfl (by omega)) ?_
        refine d_l 15 (by kernel_rfl) rfl rfl (l_st sizeOf23 rfl rfl .head (by simp only [List.length_set]; omega) (by simp only [List.length_set]; omega)) (fun _ _ => hs_nil) ?_
        intro _ _
        refine dN <| n_code <| cR <| oM rfl <| oA rfl <| oA rfl <| oN <| c_ret ?_
        refine r_fn (l := [.tmp 8, .tmp 9]) results359 rfl rfl ?_
        exact ⟨j, true, swp m j a, rfl, hm.swap (by omega) (by omega) (by omega) (by omega) (by omega), hpe.fin (by omega) (by omega), rfl⟩
      · skip
        refine c_skip <| n_code <| c_seq <| c_regiong [13, 15] (by kernel_rfl) <| gM 0 rfl (e_move rfl) <| gM 1 rfl (e_move rfl) <| gM 2 rfl (e_move rfl) <| gM 3 rfl (e_move rfl) <| gM 4 rfl (e_move rfl) <| gM 5 rfl (e_move rfl) <| gM 6 rfl (e_ian runUnderlying29 sizeOf23 rfl rfl (by omega)) <| gE 7 rfl (e_ld isAgg23 rfl (.inl M0) (by omega)) <| gM 8 rfl (e_move rfl) <| gM 9 rfl (e_move rfl) <| gM 10 rfl (e_ian runUnderlying29 sizeOf23 rfl rfl (by omega)) <| gE 11 rfl (e_ld isAgg23 rfl (.inl M0) (by omega)) ?_
        refine gM 12 rfl (e_ian runUnderlying29 sizeOf23 rfl rfl (by omega)) ?_
        refine g_l 13 (by kernel_rfl) rfl rfl rfl (l_st sizeOf23 rfl rfl .head (by omega) (by omega)) ?_
        intro _ _
        refine dX 14 rfl (e_ian runUnderlying29 sizeOf23 rfl rfl (by omega)) ?_
        refine d_l 15 (by kernel_rfl) rfl rfl (l_st sizeOf23 rfl rfl .head (by simp only [List.length_set]; omega) (by simp only [List.length_set]; omega)) (fun _ _ => hs_nil) ?_
        intro _ _
        refine dN <| n_code <| cR <| oM rfl <| oX (e_addn rfl rfl (by simp only [inR]; omega)) <| oA rfl <| oN <| cR <| oM rfl <| oX (e_sub1 rfl rfl (by omega)) <| oA rfl <| oN <| c_seq <| c_block ?_
        refine c_loop (X := List Int × Nat × Nat) (fun y => [(0, .slice (some ⟨g, 0, none⟩) n cap), (1, .int .i64 a), (10, .int .i64 y.2.1), (11, .int .i64 y.2.2)]) (fun y => [(g, VB .u64 y.1 rest 23 lo hi)]) (fun y => PR a b l y.1 ∧ Pt a b y.2.1 y.2.2 y.1) (fun y => y.2.2 + 1 - y.2.1) (swp m i j, i + 1, j - 1) ⟨hm.swap (by omega) (by omega) (by omega) (by omega) (by omega), hpe.swap (by omega) (hgt (by omega)) (hle (by omega)) (by omega)⟩ (sub_cons rfl (sub_cons rfl (sub_cons rfl (sub_cons rfl sub_nil)))) (.refl _) ?_
        clear hm hpe hle hgt hl k1 k2 k3 hii hjj h5
        rintro ⟨m, i0, j0⟩ ⟨hm, hpe0⟩
        simp only at hm hpe0 ⊢
        have hl := hm.len
        refine c_block <| c_seq ?_
        refine c_cut (X := Nat) (fun i => [(0, .slice (some ⟨g, 0, none⟩) n cap), (1, .int .i64 a), (10, .int .i64 i), (11, .int .i64 j0)]) (fun _ => [(g, VB .u64 m rest 23 lo hi)]) (fun i => i0 ≤ i ∧ Pt a b i j0 m ∧ (i ≤ j0 → ¬ gd m i < gd m a)) ?_ ?_
        · skip
          refine c_block ?_
          refine c_loop (X := Nat) (fun i => [(0, .slice (some ⟨g, 0, none⟩) n cap), (1, .int .i64 a), (10, .int .i64 i), (11, .int .i64 j0)]) (fun _ => [(g, VB .u64 m rest 23 lo hi)]) (fun i => i0 ≤ i ∧ Pt a b i j0 m) (fun i => j0 + 1 - i) i0 ⟨Nat.le_refl _, hpe0⟩ (sub_cons rfl (sub_cons rfl (sub_cons rfl (sub_cons rfl sub_nil)))) (.refl _) ?_
          rintro i ⟨hii, hpe⟩
          have k1 := hpe.ai
          have k2 := hpe.jb
          refine c_seq <| c_seq <| cQ <| qM rfl <| qM rfl <| qX (e_leq rfl rfl) <| qM rfl ?_
          refine q_splitp 102 rfl (fun h3 => ?_) (fun h3 => ?_)
          · refine qM rfl <| qM rfl <| qX (e_ian runUnderlying29 sizeOf23 rfl rfl (by omega)) <| qX (e_ld isAgg23 rfl (.inl M0) (by omega)) <| qM rfl <| qM rfl <| qX (e_ian runUnderlying29 sizeOf23 rfl rfl (by omega)) <| qX (e_ld isAgg23 rfl (.inl M0) (by omega)) <| q_pure rfl call357 (less_is) rfl rfl <| qX (e_pick_t rfl rfl) <| qN ?_
            refine c_if rfl (fun h4 => ?_) (fun h4 => ?_)
            · have h4' : gd m i < gd m a := by simpa using h4
              refine c_skip <| n_code <| c_block <| c_region <| oM rfl <| oX (e_addn rfl rfl (by simp only [inR]; omega)) <| oA rfl <| o_nil <| n_block ?_
              refine n_round' (y := i) (i + 1) (by omega) ⟨by omega, hpe.incr (by omega) h4'⟩ (sub_cons rfl (sub_cons rfl (sub_cons rfl (sub_cons rfl sub_nil)))) _ (.refl _) (List.Sublist.refl _)
            · skip
              have h4' : ¬ gd m i < gd m a := by simpa using h4
              refine c_exit ?_; refine x_code ?_; refine x_upto ?_; refine x_here ?_
              exact n_cut i ⟨hii, hpe, fun _ => h4'⟩ (sub_cons rfl (sub_cons rfl (sub_cons rfl (sub_cons rfl sub_nil)))) (.refl _)
          · skip
            refine qS <| qS <| qS <| qS <| qS <| qS <| qS <| qS <| qS <| qX (e_pick_f rfl rfl) <| qN <| c_else rfl ?_
            refine c_exit ?_; refine x_code ?_; refine x_upto ?_; refine x_here ?_
            exact n_cut i ⟨hii, hpe, fun _ => by omega⟩ (sub_cons rfl (sub_cons rfl (sub_cons rfl (sub_cons rfl sub_nil)))) (.refl _)
        · clear hpe0
          rintro i ⟨hii, hpe0, hgt⟩
          refine n_code <| c_seq ?_
          refine c_cut (X := Nat) (fun j => [(0, .slice (some ⟨g, 0, none⟩) n cap), (1, .int .i64 a), (10, .int .i64 i), (11, .int .i64 j)]) (fun _ => [(g, VB .u64 m rest 23 lo hi)]) (fun j => j ≤ j0 ∧ Pt a b i j m ∧ (i ≤ j → gd m j < gd m a)) ?_ ?_
          · skip
            refine c_block ?_
            refine c_loop (X := Nat) (fun j => [(0, .slice (some ⟨g, 0, none⟩) n cap), (1, .int .i64 a), (10, .int .i64 i), (11, .int .i64 j)]) (fun _ => [(g, VB .u64 m rest 23 lo hi)]) (fun j => j ≤ j0 ∧ Pt a b i j m) (fun j => j + 1 - i) j0 ⟨Nat.le_refl _, hpe0⟩ (sub_cons rfl (sub_cons rfl (sub_cons rfl (sub_cons rfl sub_nil)))) (.refl _) ?_
            rintro j ⟨hjj, hpe⟩
            have k1 := hpe.ai
            have k2 := hpe.jb
            refine c_seq <| c_seq <| cQ <| qM rfl <| qM rfl <| qX (e_leq rfl rfl) <| qM rfl ?_
            refine q_splitp 118 rfl (fun h3 => ?_) (fun h3 => ?_)
            · refine qM rfl <| qM rfl <| qX (e_ian runUnderlying29 sizeOf23 rfl rfl (by omega)) <| qX (e_ld isAgg23 rfl (.inl M0) (by omega)) <| qM rfl <| qM rfl <| qX (e_ian runUnderlying29 sizeOf23 rfl rfl (by omega)) <| qX (e_ld isAgg23 rfl (.inl M0) (by omega)) <| q_pure rfl call357 (less_is) rfl rfl <| qX (e_not rfl) <| qX (e_pick_t rfl rfl) <| qN ?_
              refine c_if rfl (fun h4 => ?_) (fun h4 => ?_)
              · have h4' : ¬ gd m j < gd m a := by simpa using h4
                refine c_skip <| n_code <| c_block <| c_region <| oM rfl <| oX (e_sub1 rfl rfl (by omega)) <| oA rfl <| o_nil <| n_block ?_
                refine n_round' (y := j) (j - 1) (by omega) ⟨by omega, hpe.decr (by omega) h4'⟩ (sub_cons rfl (sub_cons rfl (sub_cons rfl (sub_cons rfl sub_nil)))) _ (.refl _) (List.Sublist.refl _)
              · skip
                have h4' : gd m j < gd m a := by simpa using h4
                refine c_exit ?_; refine x_code ?_; refine x_upto ?_; refine x_here ?_
                exact n_cut j ⟨hjj, hpe, fun _ => h4'⟩ (sub_cons rfl (sub_cons rfl (sub_cons rfl (sub_cons rfl sub_nil)))) (.refl _)
            · skip
              refine qS <| qS <| qS <| qS <| qS <| qS <| qS <| qS <| qS <| qS <| qX (e_pick_f rfl rfl) <| qN <| c_else rfl ?_
              refine c_exit ?_; refine x_code ?_; refine x_upto ?_; refine x_here ?_
              exact n_cut j ⟨hjj, hpe, fun _ => by omega⟩ (sub_cons rfl (sub_cons rfl (sub_cons rfl (sub_cons rfl sub_nil)))) (.refl _)
          · clear hpe0
            rintro j ⟨hjj, hpe, hle⟩
            have k1 := hpe.ai
            have k2 := hpe.jb
            have k3 := hpe.ij
            refine n_code <| c_seq <| cR <| oM rfl <| oM rfl <| oX (e_gtr rfl rfl) <| oN ?_
            refine c_ifp rfl (fun h5 => ?_) (fun h5 => ?_)
            · refine c_exit ?_; refine x_code ?_; refine x_past rfl ?_; refine x_upto ?_; refine x_here ?_
              refine n_code <| c_seq <| c_regiong [13, 15] (by kernel_rfl) <| gM 0 rfl (e_move rfl) <| gM 1 rfl (e_move rfl) <| gM 2 rfl (e_move rfl) <| gM 3 rfl (e_move rfl) <| gM 4 rfl (e_move rfl) <| gM 5 rfl (e_move rfl) <| gM 6 rfl (e_ian runUnderlying29 sizeOf23 rfl rfl (by omega)) <| gE 7 rfl (e_ld isAgg23 rfl (.inl M0) (by omega)) <| gM 8 rfl (e_move rfl) <| gM 9 rfl (e_move rfl) <| gM 10 rfl (e_ian runUnderlying29 sizeOf23 rfl rfl (by omega)) <| gE 11 rfl (e_ld isAgg23 rfl (.inl M0) (by omega)) <| gM 12 rfl (e_ian runUnderlying29 sizeOf23 rfl rfl (by omega)) ?_
              refine g_l 13 (by kernel_rfl) rfl rfl rfl (l_st sizeOf23 rfl rfl .head (by omega) (by omega)) ?_
              intro _ _
              refine dX 14 rfl (e_ian runUnderlying29 sizeOf23 rfl rfl (by omega)) ?_
              refine d_l 15 (by kernel_rfl) rfl rfl (l_st sizeOf23 rfl rfl .head (by simp only [List.length_set]; omega) (by simp only [List.length_set]; omega)) (fun _ _ => hs_nil) ?_
              intro _ _
              refine dN <| n_code <| cR <| oM rfl <| oA rfl <| oA rfl <| oN <| c_ret ?_
              refine r_fn (l := [.tmp 8, .tmp 9]) results359 rfl rfl ?_
              exact ⟨j, false, swp m j a, rfl, hm.swap (by omega) (by omega) (by omega) (by omega) (by omega), hpe.fin (by omega) (by omega), rfl⟩
            · skip
              refine c_skip <| n_code <| c_seq <| c_regiong [13, 15] (by kernel_rfl) <| gM 0 rfl (e_move rfl) <| gM 1 rfl (e_move rfl) <| gM 2 rfl (e_move rfl) <| gM 3 rfl (e_move rfl) <| gM 4 rfl (e_move rfl) <| gM 5 rfl (e_move rfl) <| gM 6 rfl (e_ian runUnderlying29 sizeOf23 rfl rfl (by omega)) <| gE 7 rfl (e_ld isAgg23 rfl (.inl M0) (by omega)) <| gM 8 rfl (e_move rfl) <| gM 9 rfl (e_move rfl) <| gM 10 rfl (e_ian runUnderlying29 sizeOf23 rfl rfl (by omega)) <| gE 11 rfl (e_ld isAgg23 rfl (.inl M0) (by omega)) ?_
              refine gM 12 rfl (e_ian runUnderlying29 sizeOf23 rfl rfl (by omega)) ?_
              refine g_l 13 (by kernel_rfl) rfl rfl rfl (l_st sizeOf23 rfl rfl .head (by omega) (by omega)) ?_
              intro _ _
              refine dX 14 rfl (e_ian runUnderlying29 sizeOf23 rfl rfl (by omega)) ?_
              refine d_l 15 (by kernel_rfl) rfl rfl (l_st sizeOf23 rfl rfl .head (by simp only [List.length_set]; omega) (by simp only [List.length_set]; omega)) (fun _ _ => hs_nil) ?_
              intro _ _
              refine dN <| n_code <| cR <| oM rfl <| oX (e_addn rfl rfl (by simp only [inR]; omega)) <| oA rfl <| oN <| c_region <| oM rfl <| oX (e_sub1 rfl rfl (by omega)) <| oA rfl <| o_nil <| n_block ?_
              refine n_round' (y := (m, i0, j0)) (swp m i j, i + 1, j - 1) (by show j - 1 + 1 - (i + 1) < j0 + 1 - i0; omega) ?_ (sub_cons rfl (sub_cons rfl (sub_cons rfl (sub_cons rfl sub_nil)))) _ (.refl _) (List.Sublist.refl _)
              exact ⟨hm.swap (by omega) (by omega) (by omega) (by omega) (by omega), hpe.swap (by omega) (hgt (by omega)) (hle (by omega)) (by omega)⟩
end
end Go.Proofs.A8
namespace Go.Proofs.A8
open Go Go.Sl Tryz
set_option maxRecDepth 100000
set_option maxHeartbeats 1000000
section
variable {G : HP} {g n cap lo hi : Nat} {rest : List Value} {l : List Int}
theorem len64_is {x : Nat} (h : x < 256) : CtrP Tryz.prog 123 [.int .u64 x] G (.int .i64 (nb x : Nat)) := by
  have hb := tbl_get h
  have hk := (nb_is h).1
  have hk2 : (tbl.getD x 0).toNat ≤ 8 := hk
  refine fn_enter 25 func123 rfl ntmps123 rfl ?_
  intro w0
  refine cR <| oA rfl <| oN <| c_seq <| cR <| oM rfl <| oX (e_geq rfl rfl) <| oN ?_
  refine c_ifp rfl (fun h1 => ?_) (fun h1 => ?_)
  · exact absurd h1 (by omega)
  · skip
    refine c_skip <| n_code <| c_seq <| cR <| oM rfl <| oX (e_geq rfl rfl) <| oN ?_
    refine c_ifp rfl (fun h2 => ?_) (fun h2 => ?_)
    · exact absurd h2 (by omega)
    · skip
      refine c_skip <| n_code <| c_seq <| cR <| oM rfl <| oX (e_geq rfl rfl) <| oN ?_
      refine c_ifp rfl (fun h3 => ?_) (fun h3 => ?_)
      · exact absurd h3 (by omega)
      · skip
        refine c_skip <| n_code <| cR <| oM rfl <| oM rfl <| oX (e_convn runUnderlying23 runUnderlying5 rfl (by simp only [inR]; omega)) ?_
        refine oX (e_sidx runUnderlying9 rfl rfl (by omega) (by assumption)) ?_
        refine oX (e_convn runUnderlying5 runUnderlying3 rfl (by simp only [inR]; omega)) <| oX (e_addn rfl rfl (by simp only [inR]; omega)) <| oA rfl <| oN <| c_ret ?_
        refine r_fn1 results123 rfl ?_
        exact ⟨by simp [nb], rfl⟩
theorem len_is {x : Nat} (h : x < 256) : CtrP Tryz.prog 66 [.int .u64 x] G (.int .i64 (nb x : Nat)) := by
  refine fn_enter 8 func66 rfl ntmps66 rfl ?_
  intro w0
  refine cR <| oA rfl <| oN <| c_seq <| cL rfl <| cR <| oM rfl <| o_pure rfl call123 (len64_is h) rfl rfl <| oA rfl <| oN <| c_ret ?_
  refine r_fn1 results66 rfl ?_
  exact ⟨rfl, rfl⟩
theorem npt_is {x : Nat} (h : x < 256) : CtrP Tryz.prog 262 [.int .i64 x] G (.int .u64 (2 ^ nb x : Nat)) := by
  have hk := (nb_is h).1
  refine fn_enter 7 func262 rfl ntmps262 rfl ?_
  intro w0
  refine cR <| oA rfl <| oN <| cR <| oM rfl <| oX (e_convn runUnderlying3 runUnderlying131 rfl (by simp only [inR]; omega)) <| o_pure rfl call66 (len_is h) rfl rfl <| oX (e_shl rfl rfl (by omega)) <| oA rfl <| oN <| c_ret ?_
  refine r_fn1 results262 rfl ?_
  generalize nb x = k at hk
  have hc : k = 0 ∨ k = 1 ∨ k = 2 ∨ k = 3 ∨ k = 4 ∨ k = 5 ∨ k = 6 ∨ k = 7 ∨ k = 8 := by omega
  rcases hc with rfl | rfl | rfl | rfl | rfl | rfl | rfl | rfl | rfl <;> exact ⟨rfl, rfl⟩
theorem next_is {g : Nat} {z : Int} : Ctr Tryz.prog 263 [.pointer (some ⟨g, 0, none⟩)] G [(g, C [.int .u64 z] 408)] (fun r H' => ∃ y : Int, r = .int .u64 y ∧ H' = [(g, C [.int .u64 y] 408)]) := by
  refine fn_enter 33 func263 rfl ntmps263 rfl ?_
  intro w0
  refine cR <| oA rfl <| oN <| c_seq <| c_regiong [9] (by kernel_rfl) <| gM 0 rfl (e_move rfl) <| gM 1 rfl (e_nilCheck rfl) <| gE 2 rfl (e_load isAgg408 rfl (.inl M0) rfl) <| gM 3 rfl (e_move rfl) <| gM 4 rfl (e_nilCheck rfl) <| gE 5 rfl (e_load isAgg408 rfl (.inl M0) rfl) <| gM 6 rfl (e_shl rfl rfl (by omega)) <| gM 7 rfl (e_xor rfl rfl) <| gM 8 rfl (e_nilCheck rfl) ?_
  refine g_l 9 (by kernel_rfl) rfl rfl rfl (l_store sizeOf408 rfl rfl rfl .head .head (by omega)) ?_
  intro _ _
  refine dN <| n_code <| c_seq <| c_regiong [9] (by kernel_rfl) <| gM 0 rfl (e_move rfl) <| gM 1 rfl (e_nilCheck rfl) <| gE 2 rfl (e_load isAgg408 rfl (.inl M0) rfl) <| gM 3 rfl (e_move rfl) <| gM 4 rfl (e_nilCheck rfl) <| gE 5 rfl (e_load isAgg408 rfl (.inl M0) rfl) <| gM 6 rfl (e_shr rfl rfl (by omega)) <| gM 7 rfl (e_xor rfl rfl) <| gM 8 rfl (e_nilCheck rfl) ?_
  refine g_l 9 (by kernel_rfl) rfl rfl rfl (l_store sizeOf408 rfl rfl rfl .head .head (by omega)) ?_
  intro _ _
  refine dN <| n_code <| c_seq <| c_regiong [9] (by kernel_rfl) <| gM 0 rfl (e_move rfl) <| gM 1 rfl (e_nilCheck rfl) <| gE 2 rfl (e_load isAgg408 rfl (.inl M0) rfl) <| gM 3 rfl (e_move rfl) <| gM 4 rfl (e_nilCheck rfl) <| gE 5 rfl (e_load isAgg408 rfl (.inl M0) rfl) <| gM 6 rfl (e_shl rfl rfl (by omega)) <| gM 7 rfl (e_xor rfl rfl) <| gM 8 rfl (e_nilCheck rfl) ?_
  refine g_l 9 (by kernel_rfl) rfl rfl rfl (l_store sizeOf408 rfl rfl rfl .head .head (by omega)) ?_
  intro _ _
  refine dN <| n_code <| cR <| oM rfl <| oC rfl <| oX (e_load isAgg408 rfl (.inl M0) rfl) <| oA rfl <| oN <| c_ret ?_
  refine r_fn1 results263 rfl ?_
  exact ⟨_, rfl, rfl⟩
theorem brk_is {a b : Nat} (hn : l.length = n) (hf : n ≤ lo ∨ hi = 0) (h1 : n ≤ 255) (hab : a + 8 ≤ b) (hb : b ≤ n) :
    Ctr Tryz.prog 353 [.slice (some ⟨g, 0, none⟩) n cap, .int .i64 a, .int .i64 b] G [(g, VB .u64 l rest 23 lo hi)] (fun r H' => r = .tuple #[] ∧ ∃ l', PR a b l l' ∧ H' = [(g, VB .u64 l' rest 23 lo hi)]) := by
  obtain ⟨h, rfl⟩ : ∃ h, b = a + h := ⟨b - a, by omega⟩
  have hnb := (nb_is (x := h) (by omega)).2 (by omega)
  refine fn_enter 65 func353 rfl ntmps353 rfl ?_
  intro w0
  refine cR <| oM rfl <| oM rfl <| oX (e_subN rfl rfl (by omega)) <| oA rfl <| oN <| cR <| oM rfl <| oX (e_geq rfl rfl) <| oN ?_
  simp only [Nat.add_sub_cancel_left]
  refine c_ifp rfl (fun h2 => ?_) (fun h2 => ?_)
  · skip
    refine cR <| oM rfl <| oX (e_convn runUnderlying3 runUnderlying408 rfl (by simp only [inR]; omega)) ?_
    refine o_l rfl (l_alloc zeroValue408 rfl rfl) ?_; intro g7 _
    refine o_l rfl (l_store sizeOf408 rfl rfl rfl .head .head (by omega)) ?_
    intro _ _
    refine oN <| cR <| oM rfl <| o_pure rfl call262 (npt_is (x := h) (by omega)) rfl rfl <| oA rfl <| oN <| cR <| oM rfl <| oM rfl <| oX (e_quon rfl rfl (by omega) (by omega) (by simp only [inR]; omega)) <| oX (e_muln rfl rfl (by simp only [inR]; omega)) <| oX (e_addn rfl rfl (by simp only [inR]; omega)) <| oX (e_subn rfl rfl (by simp only [inR]; omega)) <| oA rfl <| oN <| c_block ?_
    generalize 2 ^ nb h = M at hnb
    have e1 : (a : Int) + (h : Int) / 4 * 2 - 1 = ((a + h / 4 * 2 - 1 : Nat) : Int) := by omega
    rw [e1]
    refine c_loop (X := List Int × Nat × Int) (fun y => [(0, .slice (some ⟨g, 0, none⟩) n cap), (1, .int .i64 a), (2, .int .i64 (a + h : Nat)), (6, .int .i64 h), (7, .pointer (some ⟨g7, 0, none⟩)), (8, .int .u64 M), (9, .int .i64 y.2.1)]) (fun y => [(g, VB .u64 y.1 rest 23 lo hi), (g7, C [.int .u64 y.2.2] 408)]) (fun y => PR a (a + h) l y.1 ∧ a ≤ y.2.1 ∧ y.2.1 ≤ a + h / 4 * 2 + 2) (fun y => a + h / 4 * 2 + 2 - y.2.1) (l, a + h / 4 * 2 - 1, (h : Int)) ⟨.refl, by show a ≤ a + h / 4 * 2 - 1; omega, by show a + h / 4 * 2 - 1 ≤ _; omega⟩ (sub_cons rfl (sub_cons rfl (sub_cons rfl (sub_cons rfl (sub_cons rfl (sub_cons rfl (sub_cons rfl sub_nil))))))) (List.Perm.swap _ _ _) ?_
    rintro ⟨m, i, z⟩ ⟨hm, hi0, hi1⟩
    simp only at hm hi0 hi1 ⊢
    have hl := hm.len
    refine c_seq <| cR <| oM rfl <| oM rfl <| oM rfl <| oX (e_quon rfl rfl (by omega) (by omega) (by simp only [inR]; omega)) <| oX (e_muln rfl rfl (by simp only [inR]; omega)) <| oX (e_addn rfl rfl (by simp only [inR]; omega)) <| oX (e_addn rfl rfl (by simp only [inR]; omega)) <| oX (e_leq rfl rfl) <| oN ?_
    refine c_ifp rfl (fun h3 => ?_) (fun h3 => ?_)
    · refine c_skip <| n_code <| c_seq <| c_block <| cR ?_
      refine o_l rfl (l_call call263 next_is rfl rfl (.cons (.tail .head) .nil)) ?_
      rintro ⟨r, H'⟩ ⟨z', rfl, rfl⟩
      simp only [List.cons_append, List.nil_append]
      refine oM rfl <| oX (e_subn rfl rfl (by simp only [inR]; omega)) ?_
      rw [show ((M : Nat) : Int) - 1 = ((M - 1 : Nat) : Int) by omega]
      obtain ⟨q, hq, hqM⟩ := ib_and (kd := .u64) rfl (m := z') (z := M - 1) (by show M - 1 < 18446744073709551616; omega)
      refine oX (e_and rfl rfl) ?_
      rw [hq]
      refine oX (e_convn runUnderlying131 runUnderlying3 rfl (by simp only [inR]; omega)) <| oA rfl <| oN <| c_seq <| cR <| oM rfl <| oM rfl <| oX (e_geq rfl rfl) <| oN ?_
      refine c_ifp rfl (fun h4 => ?_) (fun h4 => ?_)
      · refine c_region <| oM rfl <| oM rfl <| oX (e_subN rfl rfl (by omega)) <| oA rfl <| oN <| c_regiong [17, 19] (by kernel_rfl) <| gM 0 rfl (e_move rfl) <| gM 1 rfl (e_move rfl) <| gM 2 rfl (e_move rfl) <| gM 3 rfl (e_move rfl) <| gM 4 rfl (e_move rfl) <| gM 5 rfl (e_addN rfl rfl (by omega)) <| gM 6 rfl (e_move rfl) <| gM 7 rfl (e_move rfl) <| gM 8 rfl (e_move rfl) <| gM 9 rfl (e_addN rfl rfl (by omega)) <| gM 10 rfl (e_ian runUnderlying29 sizeOf23 rfl rfl (by omega)) ?_
        refine gE 11 rfl (e_ld isAgg23 rfl (by first | exact .inr (by assumption) | exact .inl (by repeat (first | exact List.Mem.head _ | refine List.Mem.tail _ ?_))) (by omega)) ?_
        refine gM 12 rfl (e_move rfl) <| gM 13 rfl (e_move rfl) <| gM 14 rfl (e_ian runUnderlying29 sizeOf23 rfl rfl (by omega)) ?_
        refine gE 15 rfl (e_ld isAgg23 rfl (by first | exact .inr (by assumption) | exact .inl (by repeat (first | exact List.Mem.head _ | refine List.Mem.tail _ ?_))) (by omega)) ?_
        refine gM 16 rfl (e_ian runUnderlying29 sizeOf23 rfl rfl (by omega)) ?_
        refine g_l 17 (by kernel_rfl) rfl rfl rfl (l_st sizeOf23 rfl rfl (.tail .head) (by omega) (by omega)) ?_
        intro _ _
        refine dX 18 rfl (e_ian runUnderlying29 sizeOf23 rfl rfl (by omega)) ?_
        refine d_l 19 (by kernel_rfl) rfl rfl (l_st sizeOf23 rfl rfl (.tail .head) (by simp only [List.length_set]; omega) (by simp only [List.length_set]; omega)) (fun _ _ => hs_nil) ?_
        intro _ _
        refine dN <| n_block <| n_code <| c_region <| oM rfl <| oX (e_addn rfl rfl (by simp only [inR]; omega)) <| oA rfl <| o_nil <| WN.perm (List.Perm.swap _ _ _) ?_
        refine n_round' (y := (m, i, z)) (swp m i (a + (q - h)), i + 1, z') (by show a + h / 4 * 2 + 2 - (i + 1) < a + h / 4 * 2 + 2 - i; omega) ?_ (sub_cons rfl (sub_cons rfl (sub_cons rfl (sub_cons rfl (sub_cons rfl (sub_cons rfl (sub_cons rfl sub_nil))))))) _ (.refl _) (List.Sublist.refl _)
        exact ⟨hm.swap (by omega) (by omega) (by omega) (by omega) (by omega), by show a ≤ i + 1; omega, by show i + 1 ≤ a + h / 4 * 2 + 2; omega⟩
      · skip
        refine c_skip <| n_code <| c_regiong [17, 19] (by kernel_rfl) <| gM 0 rfl (e_move rfl) <| gM 1 rfl (e_move rfl) <| gM 2 rfl (e_move rfl) <| gM 3 rfl (e_move rfl) <| gM 4 rfl (e_move rfl) <| gM 5 rfl (e_addN rfl rfl (by omega)) <| gM 6 rfl (e_move rfl) <| gM 7 rfl (e_move rfl) <| gM 8 rfl (e_move rfl) <| gM 9 rfl (e_addN rfl rfl (by omega)) <| gM 10 rfl (e_ian runUnderlying29 sizeOf23 rfl rfl (by omega)) ?_
        refine gE 11 rfl (e_ld isAgg23 rfl (by first | exact .inr (by assumption) | exact .inl (by repeat (first | exact List.Mem.head _ | refine List.Mem.tail _ ?_))) (by omega)) ?_
        refine gM 12 rfl (e_move rfl) <| gM 13 rfl (e_move rfl) <| gM 14 rfl (e_ian runUnderlying29 sizeOf23 rfl rfl (by omega)) ?_
        refine gE 15 rfl (e_ld isAgg23 rfl (by first | exact .inr (by assumption) | exact .inl (by repeat (first | exact List.Mem.head _ | refine List.Mem.tail _ ?_))) (by omega)) ?_
        refine gM 16 rfl (e_ian runUnderlying29 sizeOf23 rfl rfl (by omega)) ?_
        refine g_l 17 (by kernel_rfl) rfl rfl rfl (l_st sizeOf23 rfl rfl (.tail .head) (by omega) (by omega)) ?_
        intro _ _
        refine dX 18 rfl (e_ian runUnderlying29 sizeOf23 rfl rfl (by omega)) ?_
        refine d_l 19 (by kernel_rfl) rfl rfl (l_st sizeOf23 rfl rfl (.tail .head) (by simp only [List.length_set]; omega) (by simp only [List.length_set]; omega)) (fun _ _ => hs_nil) ?_
        intro _ _
        refine dN <| n_block <| n_code <| c_region <| oM rfl <| oX (e_addn rfl rfl (by simp only [inR]; omega)) <| oA rfl <| o_nil <| WN.perm (List.Perm.swap _ _ _) ?_
        refine n_round' (y := (m, i, z)) (swp m i (a + q), i + 1, z') (by show a + h / 4 * 2 + 2 - (i + 1) < a + h / 4 * 2 + 2 - i; omega) ?_ (sub_cons rfl (sub_cons rfl (sub_cons rfl (sub_cons rfl (sub_cons rfl (sub_cons rfl (sub_cons rfl sub_nil))))))) _ (.refl _) (List.Sublist.refl _)
        exact ⟨hm.swap (by omega) (by omega) (by omega) (by omega) (by omega), by show a ≤ i + 1; omega, by show i + 1 ≤ a + h / 4 * 2 + 2; omega⟩
    · skip
      refine c_exit ?_; refine x_code ?_; refine x_upto ?_; refine x_here ?_
      refine WN.sel (.cons .head .nil) ?_
      refine n_fn0 results353 ?_
      exact ⟨rfl, m, hm, rfl⟩
  · exact absurd h2 (by omega)
end
end Go.Proofs.A8

/- Rows of numbers, sorted in memory: turning a range, partial insertion; Rows of numbers, sorted in memory: partitions; Rows of numbers, sorted in memory: bits, patterns broken; Rows of numbers, sorted in memory: the whole; An index with codes written; Numbers as varints. (A part of the proof of this: for every input laws.FnIxMakeHeads returns true and its arguments read as they did, the listed package variables being what the program lays) -/
import Derived.Test.YtochgglejmfelaaGreatDoorSlZ
import Derived.Test.YtochgglejmfelaaGreatDoorG08
import Derived.Test.YtochgglejmfelaaGreatDoorG03
set_option linter.unusedVariables false
set_option linter.unusedSimpArgs false
namespace Go.Proofs.A8
open Go Go.Sl Tryz
set_option maxRecDepth 100000
set_option maxHeartbeats 1000000
section
variable {G : HP} {g n cap lo hi : Nat} {rest : List Value} {l : List Int}
theorem rev_is {a b : Nat} (hn : l.length = n) (hf : n ≤ lo ∨ hi = 0) (h1 : n ≤ 100000) (hab : a < b) (hb : b ≤ n) :
    Ctr prog 355 [.slice (some ⟨g, 0, none⟩) n cap, .int .i64 a, .int .i64 b] G [(g, VB .u64 l rest 23 lo hi)] (fun r H' => r = .tuple #[] ∧ ∃ l', PR a b l l' ∧ H' = [(g, VB .u64 l' rest 23 lo hi)]) := by
  refine fn_enter 32 func355 rfl ntmps355 rfl ?_
  intro w0
  refine gn 14 ?_
  refine c_loop (X := List Int × Nat × Nat) (fun y => [(0, .slice (some ⟨g, 0, none⟩) n cap), (6, .int .i64 y.2.1), (7, .int .i64 y.2.2)]) (fun y => [(g, VB .u64 y.1 rest 23 lo hi)]) (fun y => PR a b l y.1 ∧ a ≤ y.2.1 ∧ y.2.2 < b) (fun y => y.2.2 - y.2.1) (l, a, b - 1) ⟨.refl, Nat.le_refl _, by show b - 1 < b; omega⟩ aK (.refl _) ?_
  rintro ⟨m, i, j⟩ ⟨hm, hi0, hj⟩
  simp only at hm hi0 hj ⊢
  have hl := hm.len
  refine gn 8 ?_
  refine c_ifp rfl (fun h2 => ?_) (fun h2 => ?_)
  · refine gn 4 ?_
    refine c_regiong [13, 15] (by kernel_rfl) ?_
    refine rg [0, 1, 2, 3, 4, 5, 6, 1007, 8, 9, 10, 1011, 12] ?_
    refine gR 13 ?_
    intro _ _
    refine ld [14] ?_
    refine dR 15 ?_
    intro _ _
    refine gn 15 ?_
    refine n_round' (y := (m, i, j)) (swp m i j, i + 1, j - 1) (by show j - 1 - (i + 1) < j - i; omega) ?_ aK _ (.refl _) (List.Sublist.refl _)
    exact ⟨hm.swap (by omega) (by omega) (by omega) (by omega) (by omega), by show a ≤ i + 1; omega, by show j - 1 < b; omega⟩
  · skip
    refine gn 4 ?_
    refine n_fn0 results355 ?_
    exact ⟨rfl, m, hm, rfl⟩
theorem part_is {a b : Nat} (hn : l.length = n) (hf : n ≤ lo ∨ hi = 0) (h1 : n ≤ 100000) (hab : a < b) (hb : b ≤ n) (hlb : Lb a b l) :
    Ctr prog 356 [.slice (some ⟨g, 0, none⟩) n cap, .int .i64 a, .int .i64 b] G [(g, VB .u64 l rest 23 lo hi)] (fun r H' => ∃ (t : Bool) (l' : List Int), r = .bool t ∧ PR a b l l' ∧ (t = true → SR a b l') ∧ H' = [(g, VB .u64 l' rest 23 lo hi)]) := by
  refine fn_enter 133 func356 rfl ntmps356 rfl ?_
  intro w0
  refine gn 19 ?_
  refine c_loop (X := List Int × Nat × Nat) (fun y => [(0, .slice (some ⟨g, 0, none⟩) n cap), (1, .int .i64 a), (2, .int .i64 b), (7, .int .i64 y.2.1), (8, .int .i64 y.2.2)]) (fun y => [(g, VB .u64 y.1 rest 23 lo hi)]) (fun y => PR a b l y.1 ∧ a < y.2.1 ∧ y.2.1 ≤ b ∧ SR a y.2.1 y.1 ∧ y.2.2 ≤ 5) (fun y => 5 - y.2.2) (l, a + 1, 0) ⟨.refl, by show a < a + 1; omega, by show a + 1 ≤ b; omega, .small (Nat.le_refl _), Nat.zero_le _⟩ aK (.refl _) ?_
  rintro ⟨m, i, j⟩ ⟨hm, hi0, hi1, hs, hj⟩
  simp only at hm hi0 hi1 hs hj ⊢
  have hl := hm.len
  refine gn 7 ?_
  refine c_ifp rfl (fun h2 => ?_) (fun h2 => ?_)
  · refine gn 5 ?_
    refine c_cut (X := Nat) (fun i => [(0, .slice (some ⟨g, 0, none⟩) n cap), (1, .int .i64 a), (2, .int .i64 b), (7, .int .i64 i), (8, .int .i64 j)]) (fun _ => [(g, VB .u64 m rest 23 lo hi)]) (fun i => a < i ∧ i ≤ b ∧ SR a i m ∧ (i < b → gd m i < gd m (i - 1))) ?_ ?_
    · skip
      refine gn 1 ?_
      refine c_loop (X := Nat) (fun i => [(0, .slice (some ⟨g, 0, none⟩) n cap), (1, .int .i64 a), (2, .int .i64 b), (7, .int .i64 i), (8, .int .i64 j)]) (fun _ => [(g, VB .u64 m rest 23 lo hi)]) (fun i => a < i ∧ i ≤ b ∧ SR a i m) (fun i => b - i) i ⟨hi0, hi1, hs⟩ aK (.refl _) ?_
      clear hi0 hi1 hs
      rintro i ⟨hi0, hi1, hs⟩
      refine gn 7 ?_
      refine q_splitp 20 rfl (fun h3 => ?_) (fun h3 => ?_)
      · refine gr 9 ?_
        refine q_pure rfl call357 (less_is) rfl rfl ?_
        refine gn 4 ?_
        refine c_if rfl (fun h4 => ?_) (fun h4 => ?_)
        · have h4' : ¬ gd m i < gd m (i - 1) := by simpa using h4
          refine gn 9 ?_
          refine n_round' (y := i) (i + 1) (by omega) ⟨by omega, by omega, hs.snoc hi0 (Int.not_lt.1 h4')⟩ aK _ (.refl _) (List.Sublist.refl _)
        · skip
          have h4' : gd m i < gd m (i - 1) := by simpa using h4
          refine gn 4 ?_
          exact n_cut i ⟨hi0, hi1, hs, fun _ => h4'⟩ aK (.refl _)
      · skip
        refine gn 19 ?_
        exact n_cut i ⟨hi0, hi1, hs, fun _ => by omega⟩ aK (.refl _)
    · clear hi0 hi1 hs
      rintro i ⟨hi0, hi1, hs, hlt⟩
      refine gn 9 ?_
      refine c_ifp rfl (fun h3 => ?_) (fun h3 => ?_)
      · refine gn 6 ?_
        refine r_fn1 results356 rfl ?_
        obtain rfl : i = b := by omega
        exact ⟨true, m, rfl, hm, fun _ => hs, rfl⟩
      · skip
        have hlt' := hlt (by omega)
        refine gn 11 ?_
        refine c_ifp rfl (fun h4 => ?_) (fun h4 => ?_)
        · refine gn 6 ?_
          refine r_fn1 results356 rfl ?_
          exact ⟨false, m, rfl, hm, by simp, rfl⟩
        · skip
          refine gn 3 ?_
          refine c_regiong [15, 17] (by kernel_rfl) ?_
          refine rg [0, 1, 2, 3, 4, 5, 6, 7, 8, 1009, 10, 11, 12, 1013, 14] ?_
          refine gR 15 ?_
          intro _ _
          refine ld [16] ?_
          refine dR 17 ?_
          intro _ _
          refine gn 3 ?_
          have hsw : PR a b m (swp m i (i - 1)) := .one (by omega) (by omega) (by omega) (by omega) (by omega)
          have hpre : SR a (i - 1) (swp m i (i - 1)) := (hs.less (Nat.le_refl _) (by omega)).congr fun k k1 k2 => by rw [gd_swp (by omega) (by omega), if_neg (by omega), if_neg (by omega)]
          refine c_cut (X := List Int) (fun _ => [(0, .slice (some ⟨g, 0, none⟩) n cap), (1, .int .i64 a), (2, .int .i64 b), (7, .int .i64 i), (8, .int .i64 j)]) (fun m => [(g, VB .u64 m rest 23 lo hi)]) (fun m => PR a b l m ∧ SR a i m) ?_ ?_
          · skip
            refine gn 8 ?_
            refine c_ifp rfl (fun h5 => ?_) (fun h5 => ?_)
            · refine gn 8 ?_
              refine c_loop (X := List Int × Nat) (fun y => [(0, .slice (some ⟨g, 0, none⟩) n cap), (1, .int .i64 a), (2, .int .i64 b), (7, .int .i64 i), (8, .int .i64 j), (9, .int .i64 y.2)]) (fun y => [(g, VB .u64 y.1 rest 23 lo hi)]) (fun y => PR a b l y.1 ∧ Ins a y.2 i y.1 ∧ a ≤ y.2 ∧ y.2 < i) (fun y => y.2) (swp m i (i - 1), i - 1) ⟨hm.trans hsw, by have := Ins.start hpre; rwa [show i - 1 + 1 = i by omega] at this, by show a ≤ i - 1; omega, by show i - 1 < i; omega⟩ aK (.refl _) ?_
              rintro ⟨q, k⟩ ⟨hq, hin, hk0, hk1⟩
              simp only at hq hin hk0 hk1 ⊢
              have hlq := hq.len
              refine gn 7 ?_
              refine c_ifp rfl (fun h6 => ?_) (fun h6 => ?_)
              · refine gr 16 ?_
                refine q_pure rfl call357 (less_is) rfl rfl ?_
                refine gn 3 ?_
                refine c_if rfl (fun h7 => ?_) (fun h7 => ?_)
                · refine gn 6 ?_
                  have h7' : ¬ gd q k < gd q (k - 1) := by simpa using h7
                  exact n_cut q ⟨hq, hin.stop (.inr h7')⟩ aK (.refl _)
                · skip
                  have h7' : gd q k < gd q (k - 1) := by simpa using h7
                  have hka : a < k := by
                    rcases hlb.pr hq (Nat.le_refl _) (Nat.le_refl _) with h | h
                    · omega
                    · by_cases he : k = a
                      · subst he; exact absurd h7' (Int.not_lt.2 (h k (Nat.le_refl _) (by omega)))
                      · omega
                  refine gn 2 ?_
                  refine c_regiong [15, 17] (by kernel_rfl) ?_
                  refine rg [0, 1, 2, 3, 4, 5, 6, 7, 8, 1009, 10, 11, 12, 1013, 14] ?_
                  refine gR 15 ?_
                  intro _ _
                  refine ld [16] ?_
                  refine dR 17 ?_
                  intro _ _
                  refine gn 8 ?_
                  refine n_round' (y := (q, k)) (swp q k (k - 1), k - 1) (by show k - 1 < k; omega) ?_ aK _ (.refl _) (List.Sublist.refl _)
                  exact ⟨hq.swap (by omega) (by omega) (by omega) (by omega) (by omega), hin.step h7' hka hk1 (by omega), by show a ≤ k - 1; omega, by show k - 1 < i; omega⟩
              · skip
                refine gn 4 ?_
                exact n_cut q ⟨hq, hin.stop (.inl (by omega))⟩ aK (.refl _)
            · skip
              refine gn 1 ?_
              exact n_cut (swp m i (i - 1)) ⟨hm.trans hsw, .small (by omega)⟩ aK (.refl _)
          · clear hs hpre hsw hlt hlt' hm hl
            rintro m ⟨hm, hs⟩
            have hl := hm.len
            refine gn 1 ?_
            refine c_cut (X := List Int) (fun _ => [(0, .slice (some ⟨g, 0, none⟩) n cap), (1, .int .i64 a), (2, .int .i64 b), (7, .int .i64 i), (8, .int .i64 j)]) (fun m => [(g, VB .u64 m rest 23 lo hi)]) (fun m => PR a b l m ∧ SR a i m) ?_ ?_
            · skip
              refine gn 8 ?_
              refine c_ifp rfl (fun h5 => ?_) (fun h5 => ?_)
              · refine gn 8 ?_
                refine c_loop (X := List Int × Nat) (fun y => [(0, .slice (some ⟨g, 0, none⟩) n cap), (1, .int .i64 a), (2, .int .i64 b), (7, .int .i64 i), (8, .int .i64 j), (10, .int .i64 y.2)]) (fun y => [(g, VB .u64 y.1 rest 23 lo hi)]) (fun y => PR i b m y.1 ∧ i < y.2) (fun y => b - y.2) (m, i + 1) ⟨.refl, by show i < i + 1; omega⟩ aK (.refl _) ?_
                rintro ⟨q, k⟩ ⟨hq, hk0⟩
                simp only at hq hk0 ⊢
                have hlq := hq.len
                have hfin : PR a b l q ∧ SR a i q := ⟨hm.trans (hq.mono (by omega) (Nat.le_refl _) (by omega)), hs.congr fun p _ hp => hq.out (.inl hp)⟩
                refine gn 8 ?_
                refine c_ifp rfl (fun h6 => ?_) (fun h6 => ?_)
                · refine gr 16 ?_
                  refine q_pure rfl call357 (less_is) rfl rfl ?_
                  refine gn 3 ?_
                  refine c_if rfl (fun h7 => ?_) (fun h7 => ?_)
                  · refine gn 6 ?_
                    exact n_cut q hfin aK (.refl _)
                  · skip
                    refine gn 2 ?_
                    refine c_regiong [15, 17] (by kernel_rfl) ?_
                    refine rg [0, 1, 2, 3, 4, 5, 6, 7, 8, 1009, 10, 11, 12, 1013, 14] ?_
                    refine gR 15 ?_
                    intro _ _
                    refine ld [16] ?_
                    refine dR 17 ?_
                    intro _ _
                    refine gn 8 ?_
                    refine n_round' (y := (q, k)) (swp q k (k - 1), k + 1) (by show b - (k + 1) < b - k; omega) ?_ aK _ (.refl _) (List.Sublist.refl _)
                    exact ⟨hq.swap (by omega) (by omega) (by omega) (by omega) (by omega), by show i < k + 1; omega⟩
                · skip
                  refine gn 4 ?_
                  exact n_cut q hfin aK (.refl _)
              · skip
                refine gn 1 ?_
                exact n_cut m ⟨hm, hs⟩ aK (.refl _)
            · clear hs hm hl
              rintro m ⟨hm, hs⟩
              refine gn 7 ?_
              refine n_round (y := (l, 0, j)) (m, i, j + 1) (by show 5 - (j + 1) < 5 - j; omega) ?_ aK (.refl _)
              exact ⟨hm, hi0, hi1, hs, by show j + 1 ≤ 5; omega⟩
  · skip
    refine gn 11 ?_
    refine r_fn1 results356 rfl ?_
    exact ⟨false, m, rfl, hm, by simp, rfl⟩
end
end Go.Proofs.A8
namespace Go.Proofs.A8
open Go Go.Sl Tryz
set_option maxRecDepth 100000
set_option maxHeartbeats 1000000
section
variable {G : HP} {g n cap lo hi : Nat} {rest : List Value} {l : List Int}
theorem peq_is {a b p : Nat} (hn : l.length = n) (hf : n ≤ lo ∨ hi = 0) (h1 : n ≤ 100000) (hap : a ≤ p) (hpb : p < b) (hb : b ≤ n) :
    Ctr prog 358 [.slice (some ⟨g, 0, none⟩) n cap, .int .i64 a, .int .i64 b, .int .i64 p] G [(g, VB .u64 l rest 23 lo hi)] (fun r H' => ∃ (m : Nat) (l' : List Int), r = .int .i64 m ∧ PR a b l l' ∧ PeF a b m l' ∧ gd l' a = gd l p ∧ H' = [(g, VB .u64 l' rest 23 lo hi)]) := by
  have hsl := swp_length l a p
  have hsw : PR a b l (swp l a p) := .one (Nat.le_refl _) (by omega) hap hpb (by omega)
  refine fn_enter 84 func358 rfl ntmps358 rfl ?_
  intro w0
  refine gn 6 ?_
  refine c_regiong [13, 15] (by kernel_rfl) ?_
  refine rg [0, 1, 2, 3, 4, 5, 6, 1007, 8, 9, 10, 1011, 12] ?_
  refine gR 13 ?_
  intro _ _
  refine ld [14] ?_
  refine dR 15 ?_
  intro _ _
  refine gn 14 ?_
  refine c_loop (X := List Int × Nat × Nat) (fun y => [(0, .slice (some ⟨g, 0, none⟩) n cap), (1, .int .i64 a), (9, .int .i64 y.2.1), (10, .int .i64 y.2.2)]) (fun y => [(g, VB .u64 y.1 rest 23 lo hi)]) (fun y => PR a b l y.1 ∧ Pe a b y.2.1 y.2.2 y.1 ∧ gd y.1 a = gd l p) (fun y => y.2.2 + 1 - y.2.1) (swp l a p, a + 1, b - 1) ⟨hsw, .start (by omega), by show gd (swp l a p) a = gd l p; rw [gd_swp (by omega) (by omega)]; split <;> simp_all⟩ aK (.refl _) ?_
  clear hsl hsw
  rintro ⟨m, i0, j0⟩ ⟨hm, hpe0, hga⟩
  simp only at hm hpe0 hga ⊢
  have hl := hm.len
  refine gn 2 ?_
  refine c_cut (X := Nat) (fun i => [(0, .slice (some ⟨g, 0, none⟩) n cap), (1, .int .i64 a), (9, .int .i64 i), (10, .int .i64 j0)]) (fun _ => [(g, VB .u64 m rest 23 lo hi)]) (fun i => i0 ≤ i ∧ Pe a b i j0 m ∧ (i ≤ j0 → gd m a < gd m i)) ?_ ?_
  · skip
    refine gn 1 ?_
    refine c_loop (X := Nat) (fun i => [(0, .slice (some ⟨g, 0, none⟩) n cap), (1, .int .i64 a), (9, .int .i64 i), (10, .int .i64 j0)]) (fun _ => [(g, VB .u64 m rest 23 lo hi)]) (fun i => i0 ≤ i ∧ Pe a b i j0 m) (fun i => j0 + 1 - i) i0 ⟨Nat.le_refl _, hpe0⟩ aK (.refl _) ?_
    rintro i ⟨hii, hpe⟩
    have k1 := hpe.ai
    have k2 := hpe.jb
    refine gn 7 ?_
    refine q_splitp 32 rfl (fun h3 => ?_) (fun h3 => ?_)
    · refine gr 8 ?_
      refine q_pure rfl call357 (less_is) rfl rfl ?_
      refine gn 4 ?_
      refine c_if rfl (fun h4 => ?_) (fun h4 => ?_)
      · have h4' : ¬ gd m a < gd m i := by simpa using h4
        refine gn 9 ?_
        refine n_round' (y := i) (i + 1) (by omega) ⟨by omega, hpe.incr (by omega) h4'⟩ aK _ (.refl _) (List.Sublist.refl _)
      · skip
        have h4' : gd m a < gd m i := by simpa using h4
        refine gn 4 ?_
        exact n_cut i ⟨hii, hpe, fun _ => h4'⟩ aK (.refl _)
    · skip
      refine gn 18 ?_
      exact n_cut i ⟨hii, hpe, fun _ => by omega⟩ aK (.refl _)
  · clear hpe0
    rintro i ⟨hii, hpe0, hgt⟩
    refine gn 2 ?_
    refine c_cut (X := Nat) (fun j => [(0, .slice (some ⟨g, 0, none⟩) n cap), (1, .int .i64 a), (9, .int .i64 i), (10, .int .i64 j)]) (fun _ => [(g, VB .u64 m rest 23 lo hi)]) (fun j => j ≤ j0 ∧ Pe a b i j m ∧ (i ≤ j → ¬ gd m a < gd m j)) ?_ ?_
    · skip
      refine gn 1 ?_
      refine c_loop (X := Nat) (fun j => [(0, .slice (some ⟨g, 0, none⟩) n cap), (1, .int .i64 a), (9, .int .i64 i), (10, .int .i64 j)]) (fun _ => [(g, VB .u64 m rest 23 lo hi)]) (fun j => j ≤ j0 ∧ Pe a b i j m) (fun j => j + 1 - i) j0 ⟨Nat.le_refl _, hpe0⟩ aK (.refl _) ?_
      rintro j ⟨hjj, hpe⟩
      have k1 := hpe.ai
      have k2 := hpe.jb
      refine gn 7 ?_
      refine q_splitp 49 rfl (fun h3 => ?_) (fun h3 => ?_)
      · refine gr 8 ?_
        refine q_pure rfl call357 (less_is) rfl rfl ?_
        refine gn 3 ?_
        refine c_if rfl (fun h4 => ?_) (fun h4 => ?_)
        · have h4' : gd m a < gd m j := by simpa using h4
          refine gn 9 ?_
          refine n_round' (y := j) (j - 1) (by omega) ⟨by omega, hpe.decr (by omega) h4'⟩ aK _ (.refl _) (List.Sublist.refl _)
        · skip
          have h4' : ¬ gd m a < gd m j := by simpa using h4
          refine gn 4 ?_
          exact n_cut j ⟨hjj, hpe, fun _ => h4'⟩ aK (.refl _)
      · skip
        refine gn 17 ?_
        exact n_cut j ⟨hjj, hpe, fun _ => by omega⟩ aK (.refl _)
    · clear hpe0
      rintro j ⟨hjj, hpe, hle⟩
      have k1 := hpe.ai
      have k2 := hpe.jb
      refine gn 9 ?_
      refine c_ifp rfl (fun h5 => ?_) (fun h5 => ?_)
      · refine gn 13 ?_
        refine r_fn1 results358 rfl ?_
        exact ⟨i, m, rfl, hm, hpe.fin (by omega), hga, rfl⟩
      · skip
        refine gn 3 ?_
        refine c_regiong [13, 15] (by kernel_rfl) ?_
        refine rg [0, 1, 2, 3, 4, 5, 6, 1007, 8, 9, 10, 1011, 12] ?_
        refine gR 13 ?_
        intro _ _
        refine ld [14] ?_
        refine dR 15 ?_
        intro _ _
        refine gn 15 ?_
        refine n_round' (y := (m, i0, j0)) (swp m i j, i + 1, j - 1) (by show j - 1 + 1 - (i + 1) < j0 + 1 - i0; omega) ?_ aK _ (.refl _) (List.Sublist.refl _)
        refine ⟨hm.swap (by omega) (by omega) (by omega) (by omega) (by omega), hpe.swap (by omega) (hgt (by omega)) (hle (by omega)) (by omega), ?_⟩
        show gd (swp m i j) a = gd l p
        rw [gd_swp (by omega) (by omega), if_neg (by omega), if_neg (by omega), hga]
theorem part2_is {a b p : Nat} (hn : l.length = n) (hf : n ≤ lo ∨ hi = 0) (h1 : n ≤ 100000) (hap : a ≤ p) (hpb : p < b) (hb : b ≤ n) :
    Ctr prog 359 [.slice (some ⟨g, 0, none⟩) n cap, .int .i64 a, .int .i64 b, .int .i64 p] G [(g, VB .u64 l rest 23 lo hi)] (fun r H' => ∃ (m : Nat) (t : Bool) (l' : List Int), r = .tuple #[.int .i64 m, .bool t] ∧ PR a b l l' ∧ PtF a b m l' ∧ H' = [(g, VB .u64 l' rest 23 lo hi)]) := by
  have hsl := swp_length l a p
  have hm : PR a b l (swp l a p) := .one (Nat.le_refl _) (by omega) hap hpb (by omega)
  have hl := hm.len
  have hpe0 : Pt a b (a + 1) (b - 1) (swp l a p) := .start (by omega)
  refine fn_enter 168 func359 rfl ntmps359 rfl ?_
  intro w0
  refine gn 7 ?_
  refine c_regiong [13, 15] (by kernel_rfl) ?_
  refine rg [0, 1, 2, 3, 4, 5, 6, 1007, 8, 9, 10, 1011, 12] ?_
  refine gR 13 ?_
  intro _ _
  refine ld [14] ?_
  refine dR 15 ?_
  intro _ _
  refine gn 13 ?_
  have es : (l.set a (gd l p)).set p (gd l a) = swp l a p := rfl
  rw [es]
  clear es
  generalize swp l a p = m at *
  obtain ⟨i0, hi0⟩ : ∃ i0, i0 = a + 1 := ⟨_, rfl⟩
  obtain ⟨j0, hj0⟩ : ∃ j0, j0 = b - 1 := ⟨_, rfl⟩
  rw [← hi0, ← hj0] at hpe0
  refine WC.less (s' := [(0, .slice (some ⟨g, 0, none⟩) n cap), (1, .int .i64 a), (10, .int .i64 i0), (11, .int .i64 j0)]) (by subst hi0 hj0; exact aK) (List.Sublist.refl _) ?_
  clear hi0 hj0

  refine c_cut (X := Nat) (fun i => [(0, .slice (some ⟨g, 0, none⟩) n cap), (1, .int .i64 a), (10, .int .i64 i), (11, .int .i64 j0)]) (fun _ => [(g, VB .u64 m rest 23 lo hi)]) (fun i => i0 ≤ i ∧ Pt a b i j0 m ∧ (i ≤ j0 → ¬ gd m i < gd m a)) ?_ ?_
  · skip
    refine gn 1 ?_
    refine c_loop (X := Nat) (fun i => [(0, .slice (some ⟨g, 0, none⟩) n cap), (1, .int .i64 a), (10, .int .i64 i), (11, .int .i64 j0)]) (fun _ => [(g, VB .u64 m rest 23 lo hi)]) (fun i => i0 ≤ i ∧ Pt a b i j0 m) (fun i => j0 + 1 - i) i0 ⟨Nat.le_refl _, hpe0⟩ aK (.refl _) ?_
    rintro i ⟨hii, hpe⟩
    have k1 := hpe.ai
    have k2 := hpe.jb
    refine gn 7 ?_
    refine q_splitp 33 rfl (fun h3 => ?_) (fun h3 => ?_)
    · refine gr 8 ?_
      refine q_pure rfl call357 (less_is) rfl rfl ?_
      refine gn 3 ?_
      refine c_if rfl (fun h4 => ?_) (fun h4 => ?_)
      · have h4' : gd m i < gd m a := by simpa using h4
        refine gn 9 ?_
        refine n_round' (y := i) (i + 1) (by omega) ⟨by omega, hpe.incr (by omega) h4'⟩ aK _ (.refl _) (List.Sublist.refl _)
      · skip
        have h4' : ¬ gd m i < gd m a := by simpa using h4
        refine gn 4 ?_
        exact n_cut i ⟨hii, hpe, fun _ => h4'⟩ aK (.refl _)
    · skip
      refine gn 17 ?_
      exact n_cut i ⟨hii, hpe, fun _ => by omega⟩ aK (.refl _)
  · clear hpe0
    rintro i ⟨hii, hpe0, hgt⟩
    refine gn 2 ?_
    refine c_cut (X := Nat) (fun j => [(0, .slice (some ⟨g, 0, none⟩) n cap), (1, .int .i64 a), (10, .int .i64 i), (11, .int .i64 j)]) (fun _ => [(g, VB .u64 m rest 23 lo hi)]) (fun j => j ≤ j0 ∧ Pt a b i j m ∧ (i ≤ j → gd m j < gd m a)) ?_ ?_
    · skip
      refine gn 1 ?_
      refine c_loop (X := Nat) (fun j => [(0, .slice (some ⟨g, 0, none⟩) n cap), (1, .int .i64 a), (10, .int .i64 i), (11, .int .i64 j)]) (fun _ => [(g, VB .u64 m rest 23 lo hi)]) (fun j => j ≤ j0 ∧ Pt a b i j m) (fun j => j + 1 - i) j0 ⟨Nat.le_refl _, hpe0⟩ aK (.refl _) ?_
      rintro j ⟨hjj, hpe⟩
      have k1 := hpe.ai
      have k2 := hpe.jb
      refine gn 7 ?_
      refine q_splitp 49 rfl (fun h3 => ?_) (fun h3 => ?_)
      · refine gr 8 ?_
        refine q_pure rfl call357 (less_is) rfl rfl ?_
        refine gn 4 ?_
        refine c_if rfl (fun h4 => ?_) (fun h4 => ?_)
        · have h4' : ¬ gd m j < gd m a := by simpa using h4
          refine gn 9 ?_
          refine n_round' (y := j) (j - 1) (by omega) ⟨by omega, hpe.decr (by omega) h4'⟩ aK _ (.refl _) (List.Sublist.refl _)
        · skip
          have h4' : gd m j < gd m a := by simpa using h4
          refine gn 4 ?_
          exact n_cut j ⟨hjj, hpe, fun _ => h4'⟩ aK (.refl _)
      · skip
        refine gn 18 ?_
        exact n_cut j ⟨hjj, hpe, fun _ => by omega⟩ aK (.refl _)
    · clear hpe0
      rintro j ⟨hjj, hpe, hle⟩
      have k1 := hpe.ai
      have k2 := hpe.jb
      have k3 := hpe.ij
      refine gn 9 ?_
      refine c_ifp rfl (fun h5 => ?_) (fun h5 => ?_)
      · refine gn 1 ?_
        refine c_regiong [13, 15] (by kernel_rfl) ?_
        refine rg [0, 1, 2, 3, 4, 5, 6, 1007, 8, 9, 10, 1011, 12] ?_
        refine gR 13 ?_
        intro _ _
        refine ld [14] ?_
        refine dR 15 ?_
        intro _ _
        refine gn 10 ?_
        refine r_fn (l := [.tmp 8, .tmp 9]) results359 rfl rfl ?_
        exact ⟨j, true, swp m j a, rfl, hm.swap (by omega) (by omega) (by omega) (by omega) (by omega), hpe.fin (by omega) (by omega), rfl⟩
      · skip
        refine gn 3 ?_
        refine c_regiong [13, 15] (by kernel_rfl) ?_
        refine rg [0, 1, 2, 3, 4, 5, 6, 1007, 8, 9, 10, 1011, 12] ?_
        refine gR 13 ?_
        intro _ _
        refine ld [14] ?_
        refine dR 15 ?_
        intro _ _
        refine gn 18 ?_
        refine c_loop (X := List Int × Nat × Nat) (fun y => [(0, .slice (some ⟨g, 0, none⟩) n cap), (1, .int .i64 a), (10, .int .i64 y.2.1), (11, .int .i64 y.2.2)]) (fun y => [(g, VB .u64 y.1 rest 23 lo hi)]) (fun y => PR a b l y.1 ∧ Pt a b y.2.1 y.2.2 y.1) (fun y => y.2.2 + 1 - y.2.1) (swp m i j, i + 1, j - 1) ⟨hm.swap (by omega) (by omega) (by omega) (by omega) (by omega), hpe.swap (by omega) (hgt (by omega)) (hle (by omega)) (by omega)⟩ aK (.refl _) ?_
        clear hm hpe hle hgt hl k1 k2 k3 hii hjj h5
        rintro ⟨m, i0, j0⟩ ⟨hm, hpe0⟩
        simp only at hm hpe0 ⊢
        have hl := hm.len
        refine gn 2 ?_
        refine c_cut (X := Nat) (fun i => [(0, .slice (some ⟨g, 0, none⟩) n cap), (1, .int .i64 a), (10, .int .i64 i), (11, .int .i64 j0)]) (fun _ => [(g, VB .u64 m rest 23 lo hi)]) (fun i => i0 ≤ i ∧ Pt a b i j0 m ∧ (i ≤ j0 → ¬ gd m i < gd m a)) ?_ ?_
        · skip
          refine gn 1 ?_
          refine c_loop (X := Nat) (fun i => [(0, .slice (some ⟨g, 0, none⟩) n cap), (1, .int .i64 a), (10, .int .i64 i), (11, .int .i64 j0)]) (fun _ => [(g, VB .u64 m rest 23 lo hi)]) (fun i => i0 ≤ i ∧ Pt a b i j0 m) (fun i => j0 + 1 - i) i0 ⟨Nat.le_refl _, hpe0⟩ aK (.refl _) ?_
          rintro i ⟨hii, hpe⟩
          have k1 := hpe.ai
          have k2 := hpe.jb
          refine gn 7 ?_
          refine q_splitp 102 rfl (fun h3 => ?_) (fun h3 => ?_)
          · refine gr 8 ?_
            refine q_pure rfl call357 (less_is) rfl rfl ?_
            refine gn 3 ?_
            refine c_if rfl (fun h4 => ?_) (fun h4 => ?_)
            · have h4' : gd m i < gd m a := by simpa using h4
              refine gn 9 ?_
              refine n_round' (y := i) (i + 1) (by omega) ⟨by omega, hpe.incr (by omega) h4'⟩ aK _ (.refl _) (List.Sublist.refl _)
            · skip
              have h4' : ¬ gd m i < gd m a := by simpa using h4
              refine gn 4 ?_
              exact n_cut i ⟨hii, hpe, fun _ => h4'⟩ aK (.refl _)
          · skip
            refine gn 17 ?_
            exact n_cut i ⟨hii, hpe, fun _ => by omega⟩ aK (.refl _)
        · clear hpe0
          rintro i ⟨hii, hpe0, hgt⟩
          refine gn 2 ?_
          refine c_cut (X := Nat) (fun j => [(0, .slice (some ⟨g, 0, none⟩) n cap), (1, .int .i64 a), (10, .int .i64 i), (11, .int .i64 j)]) (fun _ => [(g, VB .u64 m rest 23 lo hi)]) (fun j => j ≤ j0 ∧ Pt a b i j m ∧ (i ≤ j → gd m j < gd m a)) ?_ ?_
          · skip
            refine gn 1 ?_
            refine c_loop (X := Nat) (fun j => [(0, .slice (some ⟨g, 0, none⟩) n cap), (1, .int .i64 a), (10, .int .i64 i), (11, .int .i64 j)]) (fun _ => [(g, VB .u64 m rest 23 lo hi)]) (fun j => j ≤ j0 ∧ Pt a b i j m) (fun j => j + 1 - i) j0 ⟨Nat.le_refl _, hpe0⟩ aK (.refl _) ?_
            rintro j ⟨hjj, hpe⟩
            have k1 := hpe.ai
            have k2 := hpe.jb
            refine gn 7 ?_
            refine q_splitp 118 rfl (fun h3 => ?_) (fun h3 => ?_)
            · refine gr 8 ?_
              refine q_pure rfl call357 (less_is) rfl rfl ?_
              refine gn 4 ?_
              refine c_if rfl (fun h4 => ?_) (fun h4 => ?_)
              · have h4' : ¬ gd m j < gd m a := by simpa using h4
                refine gn 9 ?_
                refine n_round' (y := j) (j - 1) (by omega) ⟨by omega, hpe.decr (by omega) h4'⟩ aK _ (.refl _) (List.Sublist.refl _)
              · skip
                have h4' : gd m j < gd m a := by simpa using h4
                refine gn 4 ?_
                exact n_cut j ⟨hjj, hpe, fun _ => h4'⟩ aK (.refl _)
            · skip
              refine gn 18 ?_
              exact n_cut j ⟨hjj, hpe, fun _ => by omega⟩ aK (.refl _)
          · clear hpe0
            rintro j ⟨hjj, hpe, hle⟩
            have k1 := hpe.ai
            have k2 := hpe.jb
            have k3 := hpe.ij
            refine gn 9 ?_
            refine c_ifp rfl (fun h5 => ?_) (fun h5 => ?_)
            · refine gn 7 ?_
              refine c_regiong [13, 15] (by kernel_rfl) ?_
              refine rg [0, 1, 2, 3, 4, 5, 6, 1007, 8, 9, 10, 1011, 12] ?_
              refine gR 13 ?_
              intro _ _
              refine ld [14] ?_
              refine dR 15 ?_
              intro _ _
              refine gn 10 ?_
              refine r_fn (l := [.tmp 8, .tmp 9]) results359 rfl rfl ?_
              exact ⟨j, false, swp m j a, rfl, hm.swap (by omega) (by omega) (by omega) (by omega) (by omega), hpe.fin (by omega) (by omega), rfl⟩
            · skip
              refine gn 3 ?_
              refine c_regiong [13, 15] (by kernel_rfl) ?_
              refine rg [0, 1, 2, 3, 4, 5, 6, 1007, 8, 9, 10, 1011, 12] ?_
              refine gR 13 ?_
              intro _ _
              refine ld [14] ?_
              refine dR 15 ?_
              intro _ _
              refine gn 15 ?_
              refine n_round' (y := (m, i0, j0)) (swp m i j, i + 1, j - 1) (by show j - 1 + 1 - (i + 1) < j0 + 1 - i0; omega) ?_ aK _ (.refl _) (List.Sublist.refl _)
              exact ⟨hm.swap (by omega) (by omega) (by omega) (by omega) (by omega), hpe.swap (by omega) (hgt (by omega)) (hle (by omega)) (by omega)⟩
end
end Go.Proofs.A8
namespace Go.Proofs.A8
open Go Go.Sl Tryz
set_option maxRecDepth 100000
set_option maxHeartbeats 1000000
section
variable {G : HP} {g n cap lo hi : Nat} {rest : List Value} {l : List Int}
theorem len64_is {x : Nat} (h : x < 256) : CtrP prog 123 [.int .u64 x] G (.int .i64 (nb x : Nat)) := by
  have hb := tbl_get h
  have hk := (nb_is h).1
  have hk2 : (tbl.getD x 0).toNat ≤ 8 := hk
  refine fn_enter 25 func123 rfl ntmps123 rfl ?_
  intro w0
  refine gn 12 ?_
  refine c_ifp rfl (fun h1 => ?_) (fun h1 => ?_)
  · exact absurd h1 (by omega)
  · skip
    refine gn 9 ?_
    refine c_ifp rfl (fun h2 => ?_) (fun h2 => ?_)
    · exact absurd h2 (by omega)
    · skip
      refine gn 9 ?_
      refine c_ifp rfl (fun h3 => ?_) (fun h3 => ?_)
      · exact absurd h3 (by omega)
      · skip
        refine gn 14 ?_
        refine r_fn1 results123 rfl ?_
        exact ⟨by simp [nb], rfl⟩
theorem len_is {x : Nat} (h : x < 256) : CtrP prog 66 [.int .u64 x] G (.int .i64 (nb x : Nat)) := by
  refine fn_enter 8 func66 rfl ntmps66 rfl ?_
  intro w0
  refine gn 12 ?_
  refine o_pure rfl call123 (len64_is h) rfl rfl ?_
  refine gn 4 ?_
  refine r_fn1 results66 rfl ?_
  exact ⟨rfl, rfl⟩
theorem npt_is {x : Nat} (h : x < 256) : CtrP prog 262 [.int .i64 x] G (.int .u64 (2 ^ nb x : Nat)) := by
  have hk := (nb_is h).1
  refine fn_enter 7 func262 rfl ntmps262 rfl ?_
  intro w0
  refine gn 9 ?_
  refine o_pure rfl call66 (len_is h) rfl rfl ?_
  refine gn 5 ?_
  refine r_fn1 results262 rfl ?_
  generalize nb x = k at hk
  have hc : k = 0 ∨ k = 1 ∨ k = 2 ∨ k = 3 ∨ k = 4 ∨ k = 5 ∨ k = 6 ∨ k = 7 ∨ k = 8 := by omega
  rcases hc with rfl | rfl | rfl | rfl | rfl | rfl | rfl | rfl | rfl <;> exact ⟨rfl, rfl⟩
theorem next_is {g : Nat} {z : Int} : Ctr prog 263 [.pointer (some ⟨g, 0, none⟩)] G [(g, C [.int .u64 z] 408)] (fun r H' => ∃ y : Int, r = .int .u64 y ∧ H' = [(g, C [.int .u64 y] 408)]) := by
  refine fn_enter 33 func263 rfl ntmps263 rfl ?_
  intro w0
  refine gn 6 ?_
  refine c_regiong [9] (by kernel_rfl) ?_
  refine lg [0, 1, 1002, 3, 4, 1005, 6, 7, 8] ?_
  refine gT 9 ?_
  intro _ _
  refine gn 3 ?_
  refine c_regiong [9] (by kernel_rfl) ?_
  refine lg [0, 1, 1002, 3, 4, 1005, 6, 7, 8] ?_
  refine gT 9 ?_
  intro _ _
  refine gn 3 ?_
  refine c_regiong [9] (by kernel_rfl) ?_
  refine lg [0, 1, 1002, 3, 4, 1005, 6, 7, 8] ?_
  refine gT 9 ?_
  intro _ _
  refine gn 11 ?_
  refine r_fn1 results263 rfl ?_
  exact ⟨_, rfl, rfl⟩
theorem brk_is {a b : Nat} (hn : l.length = n) (hf : n ≤ lo ∨ hi = 0) (h1 : n ≤ 255) (hab : a + 8 ≤ b) (hb : b ≤ n) :
    Ctr prog 353 [.slice (some ⟨g, 0, none⟩) n cap, .int .i64 a, .int .i64 b] G [(g, VB .u64 l rest 23 lo hi)] (fun r H' => r = .tuple #[] ∧ ∃ l', PR a b l l' ∧ H' = [(g, VB .u64 l' rest 23 lo hi)]) := by
  obtain ⟨h, rfl⟩ : ∃ h, b = a + h := ⟨b - a, by omega⟩
  have hnb := (nb_is (x := h) (by omega)).2 (by omega)
  refine fn_enter 65 func353 rfl ntmps353 rfl ?_
  intro w0
  refine gn 14 ?_
  simp only [Nat.add_sub_cancel_left]
  refine c_ifp rfl (fun h2 => ?_) (fun h2 => ?_)
  · skip
    refine gn 4 ?_
    refine oZ ?_; intro g7 _
    refine oR ?_
    intro _ _
    refine gn 5 ?_
    refine o_pure rfl call262 (npt_is (x := h) (by omega)) rfl rfl ?_
    refine gn 15 ?_
    generalize 2 ^ nb h = M at hnb
    have e1 : (a : Int) + (h : Int) / 4 * 2 - 1 = ((a + h / 4 * 2 - 1 : Nat) : Int) := by omega
    rw [e1]
    refine c_loop (X := List Int × Nat × Int) (fun y => [(0, .slice (some ⟨g, 0, none⟩) n cap), (1, .int .i64 a), (2, .int .i64 (a + h : Nat)), (6, .int .i64 h), (7, .pointer (some ⟨g7, 0, none⟩)), (8, .int .u64 M), (9, .int .i64 y.2.1)]) (fun y => [(g, VB .u64 y.1 rest 23 lo hi), (g7, C [.int .u64 y.2.2] 408)]) (fun y => PR a (a + h) l y.1 ∧ a ≤ y.2.1 ∧ y.2.1 ≤ a + h / 4 * 2 + 2) (fun y => a + h / 4 * 2 + 2 - y.2.1) (l, a + h / 4 * 2 - 1, (h : Int)) ⟨.refl, by show a ≤ a + h / 4 * 2 - 1; omega, by show a + h / 4 * 2 - 1 ≤ _; omega⟩ aK (List.Perm.swap _ _ _) ?_
    rintro ⟨m, i, z⟩ ⟨hm, hi0, hi1⟩
    simp only at hm hi0 hi1 ⊢
    have hl := hm.len
    refine gn 13 ?_
    refine c_ifp rfl (fun h3 => ?_) (fun h3 => ?_)
    · refine gn 6 ?_
      refine oL (lC next_is rfl (.cons (.tail .head) .nil)) ?_
      rintro ⟨r, H'⟩ ⟨z', rfl, rfl⟩
      simp only [List.cons_append, List.nil_append]
      refine gn 2 ?_
      rw [show ((M : Nat) : Int) - 1 = ((M - 1 : Nat) : Int) by omega]
      obtain ⟨q, hq, hqM⟩ := ib_and (kd := .u64) rfl (m := z') (z := M - 1) (by show M - 1 < 18446744073709551616; omega)
      refine gn 1 ?_
      rw [hq]
      refine gn 12 ?_
      refine c_ifp rfl (fun h4 => ?_) (fun h4 => ?_)
      · refine gn 7 ?_
        refine c_regiong [17, 19] (by kernel_rfl) ?_
        refine rg [0, 1, 2, 3, 4, 5, 6, 7, 8, 9, 10, 1011, 12, 13, 14, 1015, 16] ?_
        refine gR 17 ?_
        intro _ _
        refine ld [18] ?_
        refine dR 19 ?_
        intro _ _
        refine gn 8 ?_
        refine WN.perm (List.Perm.swap _ _ _) ?_
        refine n_round' (y := (m, i, z)) (swp m i (a + (q - h)), i + 1, z') (by show a + h / 4 * 2 + 2 - (i + 1) < a + h / 4 * 2 + 2 - i; omega) ?_ aK _ (.refl _) (List.Sublist.refl _)
        exact ⟨hm.swap (by omega) (by omega) (by omega) (by omega) (by omega), by show a ≤ i + 1; omega, by show i + 1 ≤ a + h / 4 * 2 + 2; omega⟩
      · skip
        refine gn 2 ?_
        refine c_regiong [17, 19] (by kernel_rfl) ?_
        refine rg [0, 1, 2, 3, 4, 5, 6, 7, 8, 9, 10, 1011, 12, 13, 14, 1015, 16] ?_
        refine gR 17 ?_
        intro _ _
        refine ld [18] ?_
        refine dR 19 ?_
        intro _ _
        refine gn 8 ?_
        refine WN.perm (List.Perm.swap _ _ _) ?_
        refine n_round' (y := (m, i, z)) (swp m i (a + q), i + 1, z') (by show a + h / 4 * 2 + 2 - (i + 1) < a + h / 4 * 2 + 2 - i; omega) ?_ aK _ (.refl _) (List.Sublist.refl _)
        exact ⟨hm.swap (by omega) (by omega) (by omega) (by omega) (by omega), by show a ≤ i + 1; omega, by show i + 1 ≤ a + h / 4 * 2 + 2; omega⟩
    · skip
      refine gn 4 ?_
      refine WN.sel (.cons .head .nil) ?_
      refine n_fn0 results353 ?_
      exact ⟨rfl, m, hm, rfl⟩
  · exact absurd h2 (by omega)
end
end Go.Proofs.A8
namespace Go.Proofs.A8
open Go Go.Sl Tryz
set_option maxRecDepth 100000
set_option maxHeartbeats 2000000
section
variable {G : HP} {g n cap lo hi : Nat} {rest : List Value}
theorem pdq_is (hf : n ≤ lo ∨ hi = 0) (h1 : n ≤ 255) : ∀ (h : Nat) {l : List Int} {a b : Nat} {lim : Int} (_ : l.length = n) (_ : a ≤ b) (_ : b ≤ n) (_ : b - a = h) (_ : Lb a b l),
    Ctr prog 338 [.slice (some ⟨g, 0, none⟩) n cap, .int .i64 a, .int .i64 b, .int .i64 lim] G [(g, VB .u64 l rest 23 lo hi)] (fun r H' => r = .tuple #[] ∧ ∃ l', (PR a b l l' ∧ SR a b l') ∧ H' = [(g, VB .u64 l' rest 23 lo hi)]) := by
  intro h
  induction h using Nat.strongRecOn with
  | ind h ih =>
  intro l a b lim hn hab hb hh hlb
  refine fn_enter 134 func338 rfl ntmps338 rfl ?_
  intro w0
  refine gn 11 ?_
  refine c_loop (X := List Int × Nat × Nat × Int × Bool × Bool) (fun y => [(0, .slice (some ⟨g, 0, none⟩) n cap), (1, .int .i64 y.2.1), (2, .int .i64 y.2.2.1), (3, .int .i64 y.2.2.2.1), (8, .bool y.2.2.2.2.1), (9, .bool y.2.2.2.2.2)]) (fun y => [(g, VB .u64 y.1 rest 23 lo hi)]) (fun y => PR a b l y.1 ∧ Fin a b y.2.1 y.2.2.1 y.1 ∧ Lb y.2.1 y.2.2.1 y.1 ∧ a ≤ y.2.1 ∧ y.2.1 ≤ y.2.2.1 ∧ y.2.2.1 ≤ b) (fun y => y.2.2.1 - y.2.1) (l, a, b, lim, true, true) ⟨.refl, .start, hlb, Nat.le_refl _, hab, Nat.le_refl _⟩ aK (.refl _) ?_
  clear lim hlb
  rintro ⟨m, a', b', lim, bl, bp⟩ ⟨hm, hfin, hlb, ha, hab', hb'⟩
  simp only at hm hfin hlb ha hab' hb' ⊢
  have hl := hm.len
  refine gn 16 ?_
  refine c_ifp rfl (fun h2 => ?_) (fun h2 => ?_)
  · refine gn 5 ?_
    refine oL (lC (ins_is (hl.trans hn) hf (by omega) hab' (by omega)) rfl (.cons .head .nil)) ?_
    rintro ⟨r, H'⟩ ⟨rfl, m', ⟨hp, hs⟩, rfl⟩
    simp only [List.cons_append, List.nil_append]
    refine gn 3 ?_
    refine r_fn0 results338 ?_
    exact ⟨rfl, m', ⟨hm.trans (hp.mono ha hb' (by omega)), hfin m' hp hs⟩, rfl⟩
  · skip
    refine gn 9 ?_
    refine c_ifp rfl (fun h3 => ?_) (fun h3 => ?_)
    · refine gn 5 ?_
      refine oL (lC (heap_is (hl.trans hn) hf (by omega) (by omega) (by omega)) rfl (.cons .head .nil)) ?_
      rintro ⟨r, H'⟩ ⟨rfl, m', ⟨hp, hs⟩, rfl⟩
      simp only [List.cons_append, List.nil_append]
      refine gn 3 ?_
      refine r_fn0 results338 ?_
      exact ⟨rfl, m', ⟨hm.trans (hp.mono ha hb' (by omega)), hfin m' hp hs⟩, rfl⟩
    · skip
      have h12 : 12 < b' - a' := by omega
      clear h2 h3
      refine gn 3 ?_
      refine c_cut (X := List Int × Int) (fun y => [(0, .slice (some ⟨g, 0, none⟩) n cap), (1, .int .i64 a'), (2, .int .i64 b'), (3, .int .i64 y.2), (8, .bool bl), (9, .bool bp), (10, .int .i64 (b' - a' : Nat))]) (fun y => [(g, VB .u64 y.1 rest 23 lo hi)]) (fun y => PR a' b' m y.1) ?_ ?_
      · skip
        refine gn 6 ?_
        refine c_if rfl (fun h4 => ?_) (fun h4 => ?_)
        · refine gn 5 ?_
          refine oL (lC (brk_is (hl.trans hn) hf h1 (by omega) (by omega)) rfl (.cons .head .nil)) ?_
          rintro ⟨r, H'⟩ ⟨rfl, m', hp, rfl⟩
          simp only [List.cons_append, List.nil_append]
          refine gn 7 ?_
          exact n_cut (m', _) hp aK (.refl _)
        · skip
          refine gn 1 ?_
          exact n_cut (m, lim) .refl aK (.refl _)
      · rintro ⟨m1, lim1⟩ hp1
        simp only at hp1 ⊢
        replace hm : PR a b l m1 := hm.trans (hp1.mono ha hb' (by omega))
        replace hfin := hfin.pr hp1
        replace hlb := hlb.pr hp1 (Nat.le_refl _) (Nat.le_refl _)
        replace hl : m1.length = l.length := hm.len
        clear hp1
        refine gn 6 ?_
        refine oL (lC (piv_is (hl.trans hn) (by omega) (by omega) (by omega)) rfl (.cons .head .nil)) ?_
        rintro ⟨r, H'⟩ ⟨p, z, rfl, hp, rfl⟩
        simp only [List.cons_append, List.nil_append]
        refine gn 8 ?_
        refine c_cut (X := List Int × Nat × Int) (fun y => [(0, .slice (some ⟨g, 0, none⟩) n cap), (1, .int .i64 a'), (2, .int .i64 b'), (3, .int .i64 lim1), (8, .bool bl), (9, .bool bp), (10, .int .i64 (b' - a' : Nat)), (11, .int .i64 y.2.1), (12, .int .i64 y.2.2)]) (fun y => [(g, VB .u64 y.1 rest 23 lo hi)]) (fun y => PR a' b' m1 y.1 ∧ a' ≤ y.2.1 ∧ y.2.1 < b') ?_ ?_
        · skip
          refine gn 6 ?_
          refine c_ifp rfl (fun h4 => ?_) (fun h4 => ?_)
          · refine gn 5 ?_
            refine oL (lC (rev_is (hl.trans hn) hf (by omega) (by omega) (by omega)) rfl (.cons .head .nil)) ?_
            rintro ⟨r, H'⟩ ⟨rfl, m', hp', rfl⟩
            simp only [List.cons_append, List.nil_append]
            refine gn 16 ?_
            exact n_cut (m', b' - 1 - (p - a'), 1) ⟨hp', by show a' ≤ b' - 1 - (p - a'); omega, by show b' - 1 - (p - a') < b'; omega⟩ aK (.refl _)
          · skip
            refine gn 1 ?_
            exact n_cut (m1, p, z) ⟨.refl, hp⟩ aK (.refl _)
        · clear hp p z
          rintro ⟨m2, p, z⟩ ⟨hp1, hp⟩
          simp only at hp1 hp ⊢
          replace hm : PR a b l m2 := hm.trans (hp1.mono ha hb' (by omega))
          replace hfin := hfin.pr hp1
          replace hlb := hlb.pr hp1 (Nat.le_refl _) (Nat.le_refl _)
          replace hl : m2.length = l.length := hm.len
          clear hp1
          refine gn 2 ?_
          refine c_cut (X := List Int) (fun _ => [(0, .slice (some ⟨g, 0, none⟩) n cap), (1, .int .i64 a'), (2, .int .i64 b'), (3, .int .i64 lim1), (8, .bool bl), (9, .bool bp), (10, .int .i64 (b' - a' : Nat)), (11, .int .i64 p)]) (fun m => [(g, VB .u64 m rest 23 lo hi)]) (fun m => PR a' b' m2 m) ?_ ?_
          · skip
            refine gn 4 ?_
            refine o_split 62 rfl (fun h4 => ?_) (fun h4 => ?_)
            · refine gn 3 ?_
              refine o_split 65 rfl (fun h5 => ?_) (fun h5 => ?_)
              · refine gn 5 ?_
                refine c_ifp rfl (fun h6 => ?_) (fun h6 => ?_)
                · refine gn 5 ?_
                  refine oL (lC (part_is (hl.trans hn) hf (by omega) (by omega) (by omega) hlb) rfl (.cons .head .nil)) ?_
                  rintro ⟨r, H'⟩ ⟨t, m', rfl, hp', hs', rfl⟩
                  simp only [List.cons_append, List.nil_append]
                  refine gn 2 ?_
                  refine c_if rfl (fun h7 => ?_) (fun h7 => ?_)
                  · refine gn 1 ?_
                    refine r_fn0 results338 ?_
                    exact ⟨rfl, m', ⟨hm.trans (hp'.mono ha hb' (by omega)), hfin m' hp' (hs' h7)⟩, rfl⟩
                  · skip
                    refine gn 1 ?_
                    exact n_cut m' hp' aK (.refl _)
                · skip
                  refine gn 1 ?_
                  exact n_cut m2 .refl aK (.refl _)
              · skip
                refine gn 7 ?_
                exact n_cut m2 .refl aK (.refl _)
            · skip
              refine gn 10 ?_
              exact n_cut m2 .refl aK (.refl _)
          · rintro m3 hp1
            replace hm : PR a b l m3 := hm.trans (hp1.mono ha hb' (by omega))
            replace hfin := hfin.pr hp1
            replace hlb := hlb.pr hp1 (Nat.le_refl _) (Nat.le_refl _)
            replace hl : m3.length = l.length := hm.len
            clear hp1
            refine gn 7 ?_
            refine q_splitp 75 rfl (fun h4 => ?_) (fun h4 => ?_)
            · refine gr 9 ?_
              refine q_pure rfl call357 (less_is) rfl rfl ?_
              refine gn 4 ?_
              refine c_if rfl (fun h5 => ?_) (fun h5 => ?_)
              · have h5' : ¬ gd m3 (a' - 1) < gd m3 p := by simpa using h5
                refine gn 6 ?_
                refine oL (lC (peq_is (p := p) (hl.trans hn) hf (by omega) hp.1 hp.2 (by omega)) rfl (.cons .head .nil)) ?_
                rintro ⟨r, H'⟩ ⟨mid, m4, rfl, hp1, hpe, hga, rfl⟩
                simp only [List.cons_append, List.nil_append]
                have k1 := hpe.am
                have k2 := hpe.mb
                have hmin : ∀ i, a' ≤ i → i < b' → gd m4 a' ≤ gd m4 i := by
                  have hlo : ∀ i, a' ≤ i → i < b' → gd m3 p ≤ gd m3 i := fun i i1 i2 => by
                    rcases hlb with h | h
                    · omega
                    · exact Int.le_trans (Int.not_lt.1 h5') (h i i1 i2)
                  have := hp1.all (p := fun z => gd m3 p ≤ z) hlo
                  intro i i1 i2
                  rw [hga]
                  exact this i i1 i2
                refine gn 12 ?_
                refine n_round' (y := (m, a', b', lim, bl, bp)) (m4, mid, b', lim1, bl, bp) (by show b' - mid < b' - a'; omega) ?_ aK _ (.refl _) (List.Sublist.refl _)
                have hm4 : PR a b l m4 := hm.trans (hp1.mono ha hb' (by omega))
                exact ⟨hm4, hpe.all (hfin.pr hp1) hmin (by have := hm4.len; omega), hpe.lb, by show a ≤ mid; omega, k2, hb'⟩
              · skip
                refine gn 8 ?_
                refine oL (lC (part2_is (p := p) (hl.trans hn) hf (by omega) hp.1 hp.2 (by omega)) rfl (.cons .head .nil)) ?_
                rintro ⟨r, H'⟩ ⟨mid, t, m4, rfl, hp1, hpt, rfl⟩
                simp only [List.cons_append, List.nil_append]
                have k1 := hpt.am
                have k2 := hpt.mb
                have hm4 : PR a b l m4 := hm.trans (hp1.mono ha hb' (by omega))
                have hfin4 := hfin.pr hp1
                have hlb4 := hlb.pr hp1 (Nat.le_refl _) (Nat.le_refl _)
                have hl4 : m4.length = l.length := hm4.len
                refine gn 39 ?_
                refine c_ifp rfl (fun h6 => ?_) (fun h6 => ?_)
                · refine gn 14 ?_
                  refine oL (lC (ih (mid - a') (by omega) (a := a') (b := mid) (hl4.trans hn) k1 (by omega) rfl (hlb4.less (by omega))) rfl (.cons .head .nil)) ?_
                  rintro ⟨r, H'⟩ ⟨rfl, m5, ⟨hp5, hs5⟩, rfl⟩
                  simp only [List.cons_append, List.nil_append]
                  refine gn 8 ?_
                  have hq5 : PR a' b' m4 m5 := hp5.mono (Nat.le_refl _) (by omega) (by omega)
                  refine n_round' (y := (m, a', b', lim, bl, bp)) (m5, mid + 1, b', lim1, _, _) (by show b' - (mid + 1) < b' - a'; omega) ?_ aK _ (.refl _) (List.Sublist.refl _)
                  exact ⟨hm4.trans (hq5.mono ha hb' (by omega)), hpt.left hfin4 hp5 hs5 (by omega), (hpt.keepl hp5).lbr, by show a ≤ mid + 1; omega, by show mid + 1 ≤ b'; omega, hb'⟩
                · skip
                  refine gn 15 ?_
                  refine oL (lC (ih (b' - (mid + 1)) (by omega) (a := mid + 1) (b := b') (hl4.trans hn) (by omega) (by omega) rfl hpt.lbr) rfl (.cons .head .nil)) ?_
                  rintro ⟨r, H'⟩ ⟨rfl, m5, ⟨hp5, hs5⟩, rfl⟩
                  simp only [List.cons_append, List.nil_append]
                  refine gn 7 ?_
                  have hq5 : PR a' b' m4 m5 := hp5.mono (by omega) (Nat.le_refl _) (by omega)
                  refine n_round' (y := (m, a', b', lim, bl, bp)) (m5, a', mid, lim1, _, _) (by show mid - a' < b' - a'; omega) ?_ aK _ (.refl _) (List.Sublist.refl _)
                  exact ⟨hm4.trans (hq5.mono ha hb' (by omega)), hpt.right hfin4 hp5 hs5 (by omega), (hlb4.pr hq5 (Nat.le_refl _) (Nat.le_refl _)).less (by show mid ≤ b'; omega), ha, k1, by show mid ≤ b; omega⟩
            · skip
              refine gn 23 ?_
              refine oL (lC (part2_is (p := p) (hl.trans hn) hf (by omega) hp.1 hp.2 (by omega)) rfl (.cons .head .nil)) ?_
              rintro ⟨r, H'⟩ ⟨mid, t, m4, rfl, hp1, hpt, rfl⟩
              simp only [List.cons_append, List.nil_append]
              have k1 := hpt.am
              have k2 := hpt.mb
              have hm4 : PR a b l m4 := hm.trans (hp1.mono ha hb' (by omega))
              have hfin4 := hfin.pr hp1
              have hlb4 := hlb.pr hp1 (Nat.le_refl _) (Nat.le_refl _)
              have hl4 : m4.length = l.length := hm4.len
              refine gn 39 ?_
              refine c_ifp rfl (fun h6 => ?_) (fun h6 => ?_)
              · refine gn 14 ?_
                refine oL (lC (ih (mid - a') (by omega) (a := a') (b := mid) (hl4.trans hn) k1 (by omega) rfl (hlb4.less (by omega))) rfl (.cons .head .nil)) ?_
                rintro ⟨r, H'⟩ ⟨rfl, m5, ⟨hp5, hs5⟩, rfl⟩
                simp only [List.cons_append, List.nil_append]
                refine gn 8 ?_
                have hq5 : PR a' b' m4 m5 := hp5.mono (Nat.le_refl _) (by omega) (by omega)
                refine n_round' (y := (m, a', b', lim, bl, bp)) (m5, mid + 1, b', lim1, _, _) (by show b' - (mid + 1) < b' - a'; omega) ?_ aK _ (.refl _) (List.Sublist.refl _)
                exact ⟨hm4.trans (hq5.mono ha hb' (by omega)), hpt.left hfin4 hp5 hs5 (by omega), (hpt.keepl hp5).lbr, by show a ≤ mid + 1; omega, by show mid + 1 ≤ b'; omega, hb'⟩
              · skip
                refine gn 15 ?_
                refine oL (lC (ih (b' - (mid + 1)) (by omega) (a := mid + 1) (b := b') (hl4.trans hn) (by omega) (by omega) rfl hpt.lbr) rfl (.cons .head .nil)) ?_
                rintro ⟨r, H'⟩ ⟨rfl, m5, ⟨hp5, hs5⟩, rfl⟩
                simp only [List.cons_append, List.nil_append]
                refine gn 7 ?_
                have hq5 : PR a' b' m4 m5 := hp5.mono (by omega) (Nat.le_refl _) (by omega)
                refine n_round' (y := (m, a', b', lim, bl, bp)) (m5, a', mid, lim1, _, _) (by show mid - a' < b' - a'; omega) ?_ aK _ (.refl _) (List.Sublist.refl _)
                exact ⟨hm4.trans (hq5.mono ha hb' (by omega)), hpt.right hfin4 hp5 hs5 (by omega), (hlb4.pr hq5 (Nat.le_refl _) (Nat.le_refl _)).less (by show mid ≤ b'; omega), ha, k1, by show mid ≤ b; omega⟩
theorem sort_is {l : List Int} (hn : l.length = n) (hf : n ≤ lo ∨ hi = 0) (h1 : n ≤ 255) :
    Ctr prog 327 [.slice (some ⟨g, 0, none⟩) n cap] G [(g, VB .u64 l rest 23 lo hi)] (fun r H' => r = .tuple #[] ∧ H' = [(g, VB .u64 (srt l) rest 23 lo hi)]) := by
  refine fn_enter 11 func327 rfl ntmps327 rfl ?_
  intro w0
  refine gn 12 ?_
  refine o_pure rfl call66 (len_is (x := n) (by omega)) rfl rfl ?_
  refine oL (lC (pdq_is hf h1 n (a := 0) (b := n) hn (Nat.zero_le _) (Nat.le_refl _) (by omega) (.inl rfl)) rfl (.cons .head .nil)) ?_
  rintro ⟨r, H'⟩ ⟨rfl, l', ⟨hp, hs⟩, rfl⟩
  simp only [List.cons_append, List.nil_append]
  refine gn 1 ?_
  refine n_fn0 results327 ?_
  exact ⟨rfl, by rw [srt_of hp hs hn]⟩
end
end Go.Proofs.A8
namespace Go.Proofs
open Go Go.Sl Tryz
set_option maxRecDepth 100000
set_option maxHeartbeats 1000000
theorem KV_get : ∀ {ms : List Mcode}, (ms.map fun t => t.code).Nodup → ∀ t ∈ ms, mget (KV ms) (t.code : Nat) = some (.pointer (some ⟨t.gc, 0, none⟩))
  | [], _, t, ht => by cases ht
  | t0 :: ms, hd, t, ht => by
    rw [List.map_cons, List.nodup_cons] at hd
    simp only [KV, List.map_cons, mget]
    rcases List.mem_cons.1 ht with rfl | ht
    · rw [if_pos rfl]
    · rw [if_neg (fun e => hd.1 (by have e' : t.code = t0.code := by omega
                                    rw [← e']; exact List.mem_map_of_mem ht))]
      exact KV_get hd.2 t ht
end Go.Proofs
namespace Go.Sl
open Go
set_option maxRecDepth 10000
def uvF : Nat → Nat → List UInt8
  | 0, x => [UInt8.ofNat x]
  | f + 1, x => if x < 128 then [UInt8.ofNat x] else UInt8.ofNat (128 + x % 128) :: uvF f (x / 128)
/-- A number as a varint. -/
def uv (x : Nat) : List UInt8 := uvF 9 x
theorem uvF_pos (f x : Nat) : 0 < (uvF f x).length := by
  cases f with
  | zero => simp [uvF]
  | succ f => simp only [uvF]; split <;> simp
theorem uvF_le (f x : Nat) : (uvF f x).length ≤ f + 1 := by
  induction f generalizing x with
  | zero => simp [uvF]
  | succ f ih =>
    simp only [uvF]
    split
    · simp
    · have := ih (x / 128); simp; omega
theorem pow_div (x i : Nat) : x / 128 / 128 ^ i = x / 128 ^ (i + 1) := by rw [Nat.div_div_eq_div_mul, Nat.pow_succ, Nat.mul_comm]
theorem uvF_mid (f x i : Nat) (h : i + 1 < (uvF f x).length) : 128 ≤ x / 128 ^ i ∧ (uvF f x)[i]? = some (UInt8.ofNat (128 + x / 128 ^ i % 128)) := by
  induction f generalizing x i with
  | zero => simp [uvF] at h
  | succ f ih =>
    simp only [uvF] at h ⊢
    split at h
    · simp at h
    · rename_i hx
      rw [if_neg hx]
      cases i with
      | zero => simp; omega
      | succ i =>
        have := ih (x / 128) i (by simpa using h)
        rw [pow_div] at this
        exact ⟨this.1, by simpa using this.2⟩
theorem uvF_last (f x i : Nat) (hx : x < 128 ^ (f + 1)) (h : i + 1 = (uvF f x).length) : x / 128 ^ i < 128 ∧ (uvF f x)[i]? = some (UInt8.ofNat (x / 128 ^ i)) ∧ (0 < i → 0 < x / 128 ^ i) := by
  induction f generalizing x i with
  | zero =>
    have : i = 0 := by simpa [uvF] using h
    subst this
    simpa [uvF] using hx
  | succ f ih =>
    simp only [uvF] at h ⊢
    split at h
    · rename_i hx'
      have : i = 0 := by simpa using h
      subst this
      rw [if_pos hx']
      simpa using hx'
    · rename_i hx'
      rw [if_neg hx']
      cases i with
      | zero => have := uvF_pos f (x / 128); simp at h; rw [h] at this; simp at this
      | succ i =>
        have h2 : x / 128 < 128 ^ (f + 1) := by rw [Nat.div_lt_iff_lt_mul (by decide)]; rw [Nat.pow_succ 128 (f + 1)] at hx; omega
        have := ih (x / 128) i h2 (by simpa using h)
        rw [pow_div] at this
        refine ⟨this.1, by simpa using this.2.1, fun _ => ?_⟩
        by_cases h0 : 0 < i
        · exact this.2.2 h0
        · obtain rfl : i = 0 := by omega
          simp; omega
theorem uv_pos (x : Nat) : 0 < (uv x).length := uvF_pos 9 x
theorem uv_le (x : Nat) : (uv x).length ≤ 10 := uvF_le 9 x
theorem uv_le9 {x : Nat} (hx : x < 9223372036854775808) : (uv x).length ≤ 9 := by
  apply Decidable.byContradiction
  intro hn
  have hl := uv_le x
  have := uvF_mid 9 x 8 (show 8 + 1 < (uv x).length by omega)
  have h2 : x / 128 ^ 8 < 128 := by rw [Nat.div_lt_iff_lt_mul (by decide)]; omega
  omega
theorem uv_mid {x i : Nat} (h : i + 1 < (uv x).length) : 128 ≤ x / 128 ^ i ∧ (uv x)[i]? = some (UInt8.ofNat (128 + x / 128 ^ i % 128)) := uvF_mid 9 x i h
theorem uv_last {x i : Nat} (hx : x < 18446744073709551616) (h : i + 1 = (uv x).length) : x / 128 ^ i < 128 ∧ (uv x)[i]? = some (UInt8.ofNat (x / 128 ^ i)) ∧ (0 < i → 0 < x / 128 ^ i) := uvF_last 9 x i (by omega) h
/-- A byte's 'or' with 128. -/
theorem or128_all : (List.range 256).all (fun y => (BitVec.ofNat 8 y ||| BitVec.ofNat 8 128).toNat == 128 + y % 128) = true := by decide
theorem or128 (z : Int) (n : Nat) (hz : z = n) : ib .or .u8 (IntKind.u8.wrap z) 128 = ((128 + n % 128 : Nat) : Int) := by
  have hw : IntKind.u8.wrap z = ((n % 256 : Nat) : Int) := by
    subst hz
    simp [IntKind.wrap, IntKind.bits, IntKind.signed]
  have h := List.all_eq_true.1 or128_all (n % 256) (List.mem_range.2 (by omega))
  simp only [beq_iff_eq] at h
  have e : n % 256 % 128 = n % 128 := by omega
  rw [e] at h
  rw [hw]
  simp only [ib]
  rw [show ((128 : Int)) = ((128 : Nat) : Int) from rfl, BitVec.ofInt_natCast, BitVec.ofInt_natCast]
  show IntKind.u8.wrap ((BitVec.ofNat 8 (n % 256) ||| BitVec.ofNat 8 128).toNat : Int) = _
  rw [h]
  refine wrap_in .u8 _ ?_ ?_ <;> simp [IntKind.min, IntKind.max, IntKind.signed, IntKind.bits] <;> omega
theorem and127_all : (List.range 256).all (fun y => (BitVec.ofNat 8 y &&& BitVec.ofNat 8 127).toNat == y % 128) = true := by decide
theorem and127 {n : Nat} (hn : n < 256) : ib .and .u8 (n : Nat) 127 = ((n % 128 : Nat) : Int) := by
  have h := List.all_eq_true.1 and127_all n (List.mem_range.2 hn)
  simp only [beq_iff_eq] at h
  simp only [ib]
  rw [show ((127 : Int)) = ((127 : Nat) : Int) from rfl, BitVec.ofInt_natCast, BitVec.ofInt_natCast]
  show IntKind.u8.wrap ((BitVec.ofNat 8 n &&& BitVec.ofNat 8 127).toNat : Int) = _
  rw [h]
  refine wrap_in .u8 _ ?_ ?_ <;> simp [IntKind.min, IntKind.max, IntKind.signed, IntKind.bits] <;> omega
theorem p128 (i : Nat) : 128 ^ i = 2 ^ (7 * i) := by rw [show (128 : Nat) = 2 ^ 7 from rfl, ← Nat.pow_mul]
/-- One digit more. -/
theorem mod_succ (x i : Nat) : x % 128 ^ i + x / 128 ^ i % 128 * 2 ^ (7 * i) = x % 128 ^ (i + 1) := by
  rw [← p128, Nat.pow_succ, Nat.mod_mul, Nat.mul_comm (128 ^ i)]
theorem mod_last {x i : Nat} : x % 128 ^ i + x / 128 ^ i * 2 ^ (7 * i) = x := by
  rw [← p128, Nat.mul_comm]
  exact Nat.mod_add_div x (128 ^ i)
theorem mod_lt' (x i : Nat) : x % 128 ^ i < 2 ^ (7 * i) := by rw [← p128]; exact Nat.mod_lt _ (Nat.pow_pos (by decide))
/-- So many bits. -/
def Blen (x n : Nat) : Prop := (x = 0 ∧ n = 0) ∨ (0 < n ∧ 2 ^ (n - 1) ≤ x ∧ x < 2 ^ n)
theorem uv_bits {x n : Nat} (hx : x < 18446744073709551616) (h : Blen x n) : (uv x).length = (if 0 < n % 7 ∨ n / 7 = 0 then n / 7 + 1 else n / 7) := by
  have hp := uv_pos x
  obtain ⟨L, hL⟩ : ∃ L, (uv x).length = L + 1 := ⟨(uv x).length - 1, by omega⟩
  have hl := uv_last (i := L) hx (by omega)
  rw [hL]
  rcases h with ⟨rfl, rfl⟩ | ⟨hn, h1, h2⟩
  · have : (uv 0).length = 1 := rfl
    simp; omega
  · have k2 : n ≤ 7 * (L + 1) := by
      apply Decidable.byContradiction
      intro hc
      have a1 : x < 128 ^ (L + 1) := by
        have := hl.1
        rw [Nat.div_lt_iff_lt_mul (Nat.pow_pos (by decide))] at this
        rw [Nat.pow_succ, Nat.mul_comm]; exact this
      rw [p128] at a1
      have a2 : 2 ^ (7 * (L + 1)) ≤ 2 ^ (n - 1) := Nat.pow_le_pow_right (by decide) (by omega)
      omega
    have k1 : 7 * L < n := by
      cases L with
      | zero => omega
      | succ L =>
        have := (uv_mid (x := x) (i := L) (by omega)).1
        rw [Nat.le_div_iff_mul_le (Nat.pow_pos (by decide))] at this
        apply Decidable.byContradiction
        intro hc
        have a2 : 2 ^ n ≤ 2 ^ (7 * (L + 1)) := Nat.pow_le_pow_right (by decide) (by omega)
        rw [← p128, Nat.pow_succ] at a2
        omega
    split <;> omega
theorem nbl_all : (List.range 256).all (fun x => decide (x = 0 ∧ nb x = 0) || decide (0 < nb x ∧ 2 ^ (nb x - 1) ≤ x ∧ x < 2 ^ nb x)) = true := by kernel_rfl
theorem nbl {x : Nat} (h : x < 256) : Blen x (nb x) ∧ nb x ≤ 8 := by
  have := List.all_eq_true.1 nbl_all x (List.mem_range.2 h)
  simp only [Bool.or_eq_true, decide_eq_true_eq] at this
  exact ⟨this, (nb_is h).1⟩
theorem bl_shift {x y n m : Nat} (hy : x / 2 ^ n = y) (hz : n = 0 ∨ 0 < y) (h : Blen y m) : Blen x (n + m) := by
  rcases h with ⟨rfl, rfl⟩ | ⟨h0, h1, h2⟩
  · obtain rfl : n = 0 := by omega
    left; simpa using hy
  · right
    subst hy
    rw [Nat.le_div_iff_mul_le (Nat.pow_pos (by decide))] at h1
    rw [Nat.div_lt_iff_lt_mul (Nat.pow_pos (by decide))] at h2
    refine ⟨by omega, ?_, ?_⟩
    · rw [show n + m - 1 = (m - 1) + n by omega, Nat.pow_add]; exact h1
    · rw [Nat.add_comm, Nat.pow_add]; exact h2
section
variable {x : Cx} {s : Slots} {H : HP} {d : Nat} {p q : Operand} {ty t t' : TypeId} {pos : String} {af : Array Edge} {gd : Option (Nat × Bool)}
theorem e_shrk {m : Nat} {kd kd' : IntKind} {n : Int} (k : Nat) (hp : ev s p = some (.int kd (m : Nat))) (hq : ev s q = some (.int kd' n)) (hn : n = k) (hk : k ≤ kd.bits) : Ex x s H ⟨some d, .binOp .shr t p q t', ty, pos, af, gd⟩ (.int kd ((m / 2 ^ k : Nat) : Int)) := by
  subst hn
  have h := e_shr (x := x) (s := s) (H := H) (d := d) (ty := ty) (pos := pos) (af := af) (gd := gd) (t := t) (t' := t') hp hq (by omega)
  have h1 : min ((k : Nat) : Int).toNat kd.bits = k := by rw [Int.toNat_natCast]; exact Nat.min_eq_left hk
  rw [h1] at h
  have h2 : ((m : Nat) : Int).fdiv (2 ^ k) = ((m / 2 ^ k : Nat) : Int) := by
    rw [Int.fdiv_eq_ediv_of_nonneg _ (Int.le_of_lt (Int.pow_pos (by decide)))]
    simp
  rwa [h2] at h
end
end Go.Sl

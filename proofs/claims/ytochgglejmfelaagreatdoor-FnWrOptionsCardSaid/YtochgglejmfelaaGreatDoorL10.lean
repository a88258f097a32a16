/- Rows of numbers, sorted in memory: turning a range, partial insertion; Rows of numbers, sorted in memory: partitions; How many bits a small number has; Rows of numbers, sorted in memory: bits, patterns broken; Rows of numbers, sorted in memory: the whole; The parts of an index written; Rows of numbers, sorted in memory: comparisons, insertion sort. (A part of the proof of this: for every input laws.FnWrOptions returns true and its arguments read as they did, the listed package variables being what the program lays) -/
import Derived.Test.YtochgglejmfelaaGreatDoorLSlZ
import Derived.Test.YtochgglejmfelaaGreatDoorL09
import Derived.Test.YtochgglejmfelaaGreatDoorL06
import Derived.KernelRfl
import Derived.Test.YtochgglejmfelaaGreatDoorL03
set_option linter.unusedVariables false
set_option linter.unusedSimpArgs false
namespace Go.Proofs.A4
open Go Go.Sl Tryz
set_option maxRecDepth 100000
set_option maxHeartbeats 1000000
section
variable {G : HP} {g n cap lo hi : Nat} {rest : List Value} {l : List Int}
theorem rev_is {a b : Nat} (hn : l.length = n) (hf : n ≤ lo ∨ hi = 0) (h1 : n ≤ 100000) (hab : a < b) (hb : b ≤ n) :
    Ctr prog 374 [.slice (some ⟨g, 0, none⟩) n cap, .int .i64 a, .int .i64 b] G [(g, VB .u32 l rest 212 lo hi)] (fun r H' => r = .tuple #[] ∧ ∃ l', PR a b l l' ∧ H' = [(g, VB .u32 l' rest 212 lo hi)]) := by
  refine fn_enter 32 func374 rfl ntmps374 rfl ?_
  intro w0
  refine gn 14 ?_
  refine c_loop (X := List Int × Nat × Nat) (fun y => [(0, .slice (some ⟨g, 0, none⟩) n cap), (6, .int .i64 y.2.1), (7, .int .i64 y.2.2)]) (fun y => [(g, VB .u32 y.1 rest 212 lo hi)]) (fun y => PR a b l y.1 ∧ a ≤ y.2.1 ∧ y.2.2 < b) (fun y => y.2.2 - y.2.1) (l, a, b - 1) ⟨.refl, Nat.le_refl _, by show b - 1 < b; omega⟩ aK (.refl _) ?_
  rintro ⟨m, i, j⟩ ⟨hm, hi0, hj⟩
  simp only at hm hi0 hj ⊢
  have hl := hm.len
  refine gn 8 ?_
  refine c_ifp rfl (fun h2 => ?_) (fun h2 => ?_)
  · refine gn 4 ?_
    refine c_regiong [13, 15] (by kernel_rfl) ?_
    refine rg [0, 1, 2, 3, 4, 5, 6, 1007, 8, 9, 10, 1011, 12] ?_
    refine gR 13 ?_
    intro _ _
    refine ld [14] ?_
    refine dR 15 ?_
    intro _ _
    refine gn 15 ?_
    refine n_round' (y := (m, i, j)) (swp m i j, i + 1, j - 1) (by show j - 1 - (i + 1) < j - i; omega) ?_ aK _ (.refl _) (List.Sublist.refl _)
    exact ⟨hm.swap (by omega) (by omega) (by omega) (by omega) (by omega), by show a ≤ i + 1; omega, by show j - 1 < b; omega⟩
  · skip
    refine gn 4 ?_
    refine n_fn0 results374 ?_
    exact ⟨rfl, m, hm, rfl⟩
theorem part_is {a b : Nat} (hn : l.length = n) (hf : n ≤ lo ∨ hi = 0) (h1 : n ≤ 100000) (hab : a < b) (hb : b ≤ n) (hlb : Lb a b l) :
    Ctr prog 375 [.slice (some ⟨g, 0, none⟩) n cap, .int .i64 a, .int .i64 b] G [(g, VB .u32 l rest 212 lo hi)] (fun r H' => ∃ (t : Bool) (l' : List Int), r = .bool t ∧ PR a b l l' ∧ (t = true → SR a b l') ∧ H' = [(g, VB .u32 l' rest 212 lo hi)]) := by
  refine fn_enter 133 func375 rfl ntmps375 rfl ?_
  intro w0
  refine gn 19 ?_
  refine c_loop (X := List Int × Nat × Nat) (fun y => [(0, .slice (some ⟨g, 0, none⟩) n cap), (1, .int .i64 a), (2, .int .i64 b), (7, .int .i64 y.2.1), (8, .int .i64 y.2.2)]) (fun y => [(g, VB .u32 y.1 rest 212 lo hi)]) (fun y => PR a b l y.1 ∧ a < y.2.1 ∧ y.2.1 ≤ b ∧ SR a y.2.1 y.1 ∧ y.2.2 ≤ 5) (fun y => 5 - y.2.2) (l, a + 1, 0) ⟨.refl, by show a < a + 1; omega, by show a + 1 ≤ b; omega, .small (Nat.le_refl _), Nat.zero_le _⟩ aK (.refl _) ?_
  rintro ⟨m, i, j⟩ ⟨hm, hi0, hi1, hs, hj⟩
  simp only at hm hi0 hi1 hs hj ⊢
  have hl := hm.len
  refine gn 7 ?_
  refine c_ifp rfl (fun h2 => ?_) (fun h2 => ?_)
  · refine gn 5 ?_
    refine c_cut (X := Nat) (fun i => [(0, .slice (some ⟨g, 0, none⟩) n cap), (1, .int .i64 a), (2, .int .i64 b), (7, .int .i64 i), (8, .int .i64 j)]) (fun _ => [(g, VB .u32 m rest 212 lo hi)]) (fun i => a < i ∧ i ≤ b ∧ SR a i m ∧ (i < b → gd m i < gd m (i - 1))) ?_ ?_
    · skip
      refine gn 1 ?_
      refine c_loop (X := Nat) (fun i => [(0, .slice (some ⟨g, 0, none⟩) n cap), (1, .int .i64 a), (2, .int .i64 b), (7, .int .i64 i), (8, .int .i64 j)]) (fun _ => [(g, VB .u32 m rest 212 lo hi)]) (fun i => a < i ∧ i ≤ b ∧ SR a i m) (fun i => b - i) i ⟨hi0, hi1, hs⟩ aK (.refl _) ?_
      clear hi0 hi1 hs
      rintro i ⟨hi0, hi1, hs⟩
      refine gn 7 ?_
      refine q_splitp 20 rfl (fun h3 => ?_) (fun h3 => ?_)
      · refine gr 9 ?_
        refine q_pure rfl call376 (less_is) rfl rfl ?_
        refine gn 4 ?_
        refine c_if rfl (fun h4 => ?_) (fun h4 => ?_)
        · have h4' : ¬ gd m i < gd m (i - 1) := by simpa using h4
          refine gn 9 ?_
          refine n_round' (y := i) (i + 1) (by omega) ⟨by omega, by omega, hs.snoc hi0 (Int.not_lt.1 h4')⟩ aK _ (.refl _) (List.Sublist.refl _)
        · skip
          have h4' : gd m i < gd m (i - 1) := by simpa using h4
          refine gn 4 ?_
          exact n_cut i ⟨hi0, hi1, hs, fun _ => h4'⟩ aK (.refl _)
      · skip
        refine gn 19 ?_
        exact n_cut i ⟨hi0, hi1, hs, fun _ => by omega⟩ aK (.refl _)
    · clear hi0 hi1 hs
      rintro i ⟨hi0, hi1, hs, hlt⟩
      refine gn 9 ?_
      refine c_ifp rfl (fun h3 => ?_) (fun h3 => ?_)
      · refine gn 6 ?_
        refine r_fn1 results375 rfl ?_
        obtain rfl : i = b := by omega
        exact ⟨true, m, rfl, hm, fun _ => hs, rfl⟩
      · skip
        have hlt' := hlt (by omega)
        refine gn 11 ?_
        refine c_ifp rfl (fun h4 => ?_) (fun h4 => ?_)
        · refine gn 6 ?_
          refine r_fn1 results375 rfl ?_
          exact ⟨false, m, rfl, hm, by simp, rfl⟩
        · skip
          refine gn 3 ?_
          refine c_regiong [15, 17] (by kernel_rfl) ?_
          refine rg [0, 1, 2, 3, 4, 5, 6, 7, 8, 1009, 10, 11, 12, 1013, 14] ?_
          refine gR 15 ?_
          intro _ _
          refine ld [16] ?_
          refine dR 17 ?_
          intro _ _
          refine gn 3 ?_
          have hsw : PR a b m (swp m i (i - 1)) := .one (by omega) (by omega) (by omega) (by omega) (by omega)
          have hpre : SR a (i - 1) (swp m i (i - 1)) := (hs.less (Nat.le_refl _) (by omega)).congr fun k k1 k2 => by rw [gd_swp (by omega) (by omega), if_neg (by omega), if_neg (by omega)]
          refine c_cut (X := List Int) (fun _ => [(0, .slice (some ⟨g, 0, none⟩) n cap), (1, .int .i64 a), (2, .int .i64 b), (7, .int .i64 i), (8, .int .i64 j)]) (fun m => [(g, VB .u32 m rest 212 lo hi)]) (fun m => PR a b l m ∧ SR a i m) ?_ ?_
          · skip
            refine gn 8 ?_
            refine c_ifp rfl (fun h5 => ?_) (fun h5 => ?_)
            · refine gn 8 ?_
              refine c_loop (X := List Int × Nat) (fun y => [(0, .slice (some ⟨g, 0, none⟩) n cap), (1, .int .i64 a), (2, .int .i64 b), (7, .int .i64 i), (8, .int .i64 j), (9, .int .i64 y.2)]) (fun y => [(g, VB .u32 y.1 rest 212 lo hi)]) (fun y => PR a b l y.1 ∧ Ins a y.2 i y.1 ∧ a ≤ y.2 ∧ y.2 < i) (fun y => y.2) (swp m i (i - 1), i - 1) ⟨hm.trans hsw, by have := Ins.start hpre; rwa [show i - 1 + 1 = i by omega] at this, by show a ≤ i - 1; omega, by show i - 1 < i; omega⟩ aK (.refl _) ?_
              rintro ⟨q, k⟩ ⟨hq, hin, hk0, hk1⟩
              simp only at hq hin hk0 hk1 ⊢
              have hlq := hq.len
              refine gn 7 ?_
              refine c_ifp rfl (fun h6 => ?_) (fun h6 => ?_)
              · refine gr 16 ?_
                refine q_pure rfl call376 (less_is) rfl rfl ?_
                refine gn 3 ?_
                refine c_if rfl (fun h7 => ?_) (fun h7 => ?_)
                · refine gn 6 ?_
                  have h7' : ¬ gd q k < gd q (k - 1) := by simpa using h7
                  exact n_cut q ⟨hq, hin.stop (.inr h7')⟩ aK (.refl _)
                · skip
                  have h7' : gd q k < gd q (k - 1) := by simpa using h7
                  have hka : a < k := by
                    rcases hlb.pr hq (Nat.le_refl _) (Nat.le_refl _) with h | h
                    · omega
                    · by_cases he : k = a
                      · subst he; exact absurd h7' (Int.not_lt.2 (h k (Nat.le_refl _) (by omega)))
                      · omega
                  refine gn 2 ?_
                  refine c_regiong [15, 17] (by kernel_rfl) ?_
                  refine rg [0, 1, 2, 3, 4, 5, 6, 7, 8, 1009, 10, 11, 12, 1013, 14] ?_
                  refine gR 15 ?_
                  intro _ _
                  refine ld [16] ?_
                  refine dR 17 ?_
                  intro _ _
                  refine gn 8 ?_
                  refine n_round' (y := (q, k)) (swp q k (k - 1), k - 1) (by show k - 1 < k; omega) ?_ aK _ (.refl _) (List.Sublist.refl _)
                  exact ⟨hq.swap (by omega) (by omega) (by omega) (by omega) (by omega), hin.step h7' hka hk1 (by omega), by show a ≤ k - 1; omega, by show k - 1 < i; omega⟩
              · skip
                refine gn 4 ?_
                exact n_cut q ⟨hq, hin.stop (.inl (by omega))⟩ aK (.refl _)
            · skip
              refine gn 1 ?_
              exact n_cut (swp m i (i - 1)) ⟨hm.trans hsw, .small (by omega)⟩ aK (.refl _)
          · clear hs hpre hsw hlt hlt' hm hl
            rintro m ⟨hm, hs⟩
            have hl := hm.len
            refine gn 1 ?_
            refine c_cut (X := List Int) (fun _ => [(0, .slice (some ⟨g, 0, none⟩) n cap), (1, .int .i64 a), (2, .int .i64 b), (7, .int .i64 i), (8, .int .i64 j)]) (fun m => [(g, VB .u32 m rest 212 lo hi)]) (fun m => PR a b l m ∧ SR a i m) ?_ ?_
            · skip
              refine gn 8 ?_
              refine c_ifp rfl (fun h5 => ?_) (fun h5 => ?_)
              · refine gn 8 ?_
                refine c_loop (X := List Int × Nat) (fun y => [(0, .slice (some ⟨g, 0, none⟩) n cap), (1, .int .i64 a), (2, .int .i64 b), (7, .int .i64 i), (8, .int .i64 j), (10, .int .i64 y.2)]) (fun y => [(g, VB .u32 y.1 rest 212 lo hi)]) (fun y => PR i b m y.1 ∧ i < y.2) (fun y => b - y.2) (m, i + 1) ⟨.refl, by show i < i + 1; omega⟩ aK (.refl _) ?_
                rintro ⟨q, k⟩ ⟨hq, hk0⟩
                simp only at hq hk0 ⊢
                have hlq := hq.len
                have hfin : PR a b l q ∧ SR a i q := ⟨hm.trans (hq.mono (by omega) (Nat.le_refl _) (by omega)), hs.congr fun p _ hp => hq.out (.inl hp)⟩
                refine gn 8 ?_
                refine c_ifp rfl (fun h6 => ?_) (fun h6 => ?_)
                · refine gr 16 ?_
                  refine q_pure rfl call376 (less_is) rfl rfl ?_
                  refine gn 3 ?_
                  refine c_if rfl (fun h7 => ?_) (fun h7 => ?_)
                  · refine gn 6 ?_
                    exact n_cut q hfin aK (.refl _)
                  · skip
                    refine gn 2 ?_
                    refine c_regiong [15, 17] (by kernel_rfl) ?_
                    refine rg [0, 1, 2, 3, 4, 5, 6, 7, 8, 1009, 10, 11, 12, 1013, 14] ?_
                    refine gR 15 ?_
                    intro _ _
                    refine ld [16] ?_
                    refine dR 17 ?_
                    intro _ _
                    refine gn 8 ?_
                    refine n_round' (y := (q, k)) (swp q k (k - 1), k + 1) (by show b - (k + 1) < b - k; omega) ?_ aK _ (.refl _) (List.Sublist.refl _)
                    exact ⟨hq.swap (by omega) (by omega) (by omega) (by omega) (by omega), by show i < k + 1; omega⟩
                · skip
                  refine gn 4 ?_
                  exact n_cut q hfin aK (.refl _)
              · skip
                refine gn 1 ?_
                exact n_cut m ⟨hm, hs⟩ aK (.refl _)
            · clear hs hm hl
              rintro m ⟨hm, hs⟩
              refine gn 7 ?_
              refine n_round (y := (l, 0, j)) (m, i, j + 1) (by show 5 - (j + 1) < 5 - j; omega) ?_ aK (.refl _)
              exact ⟨hm, hi0, hi1, hs, by show j + 1 ≤ 5; omega⟩
  · skip
    refine gn 11 ?_
    refine r_fn1 results375 rfl ?_
    exact ⟨false, m, rfl, hm, by simp, rfl⟩
end
end Go.Proofs.A4
namespace Go.Proofs.A4
open Go Go.Sl Tryz
set_option maxRecDepth 100000
set_option maxHeartbeats 1000000
section
variable {G : HP} {g n cap lo hi : Nat} {rest : List Value} {l : List Int}
theorem peq_is {a b p : Nat} (hn : l.length = n) (hf : n ≤ lo ∨ hi = 0) (h1 : n ≤ 100000) (hap : a ≤ p) (hpb : p < b) (hb : b ≤ n) :
    Ctr prog 377 [.slice (some ⟨g, 0, none⟩) n cap, .int .i64 a, .int .i64 b, .int .i64 p] G [(g, VB .u32 l rest 212 lo hi)] (fun r H' => ∃ (m : Nat) (l' : List Int), r = .int .i64 m ∧ PR a b l l' ∧ PeF a b m l' ∧ gd l' a = gd l p ∧ H' = [(g, VB .u32 l' rest 212 lo hi)]) := by
  have hsl := swp_length l a p
  have hsw : PR a b l (swp l a p) := .one (Nat.le_refl _) (by omega) hap hpb (by omega)
  refine fn_enter 84 func377 rfl ntmps377 rfl ?_
  intro w0
  refine gn 6 ?_
  refine c_regiong [13, 15] (by kernel_rfl) ?_
  refine rg [0, 1, 2, 3, 4, 5, 6, 1007, 8, 9, 10, 1011, 12] ?_
  refine gR 13 ?_
  intro _ _
  refine ld [14] ?_
  refine dR 15 ?_
  intro _ _
  refine gn 14 ?_
  refine c_loop (X := List Int × Nat × Nat) (fun y => [(0, .slice (some ⟨g, 0, none⟩) n cap), (1, .int .i64 a), (9, .int .i64 y.2.1), (10, .int .i64 y.2.2)]) (fun y => [(g, VB .u32 y.1 rest 212 lo hi)]) (fun y => PR a b l y.1 ∧ Pe a b y.2.1 y.2.2 y.1 ∧ gd y.1 a = gd l p) (fun y => y.2.2 + 1 - y.2.1) (swp l a p, a + 1, b - 1) ⟨hsw, .start (by omega), by show gd (swp l a p) a = gd l p; rw [gd_swp (by omega) (by omega)]; split <;> simp_all⟩ aK (.refl _) ?_
  clear hsl hsw
  rintro ⟨m, i0, j0⟩ ⟨hm, hpe0, hga⟩
  simp only at hm hpe0 hga ⊢
  have hl := hm.len
  refine gn 2 ?_
  refine c_cut (X := Nat) (fun i => [(0, .slice (some ⟨g, 0, none⟩) n cap), (1, .int .i64 a), (9, .int .i64 i), (10, .int .i64 j0)]) (fun _ => [(g, VB .u32 m rest 212 lo hi)]) (fun i => i0 ≤ i ∧ Pe a b i j0 m ∧ (i ≤ j0 → gd m a < gd m i)) ?_ ?_
  · skip
    refine gn 1 ?_
    refine c_loop (X := Nat) (fun i => [(0, .slice (some ⟨g, 0, none⟩) n cap), (1, .int .i64 a), (9, .int .i64 i), (10, .int .i64 j0)]) (fun _ => [(g, VB .u32 m rest 212 lo hi)]) (fun i => i0 ≤ i ∧ Pe a b i j0 m) (fun i => j0 + 1 - i) i0 ⟨Nat.le_refl _, hpe0⟩ aK (.refl _) ?_
    rintro i ⟨hii, hpe⟩
    have k1 := hpe.ai
    have k2 := hpe.jb
    refine gn 7 ?_
    refine q_splitp 32 rfl (fun h3 => ?_) (fun h3 => ?_)
    · refine gr 8 ?_
      refine q_pure rfl call376 (less_is) rfl rfl ?_
      refine gn 4 ?_
      refine c_if rfl (fun h4 => ?_) (fun h4 => ?_)
      · have h4' : ¬ gd m a < gd m i := by simpa using h4
        refine gn 9 ?_
        refine n_round' (y := i) (i + 1) (by omega) ⟨by omega, hpe.incr (by omega) h4'⟩ aK _ (.refl _) (List.Sublist.refl _)
      · skip
        have h4' : gd m a < gd m i := by simpa using h4
        refine gn 4 ?_
        exact n_cut i ⟨hii, hpe, fun _ => h4'⟩ aK (.refl _)
    · skip
      refine gn 18 ?_
      exact n_cut i ⟨hii, hpe, fun _ => by omega⟩ aK (.refl _)
  · clear hpe0
    rintro i ⟨hii, hpe0, hgt⟩
    refine gn 2 ?_
    refine c_cut (X := Nat) (fun j => [(0, .slice (some ⟨g, 0, none⟩) n cap), (1, .int .i64 a), (9, .int .i64 i), (10, .int .i64 j)]) (fun _ => [(g, VB .u32 m rest 212 lo hi)]) (fun j => j ≤ j0 ∧ Pe a b i j m ∧ (i ≤ j → ¬ gd m a < gd m j)) ?_ ?_
    · skip
      refine gn 1 ?_
      refine c_loop (X := Nat) (fun j => [(0, .slice (some ⟨g, 0, none⟩) n cap), (1, .int .i64 a), (9, .int .i64 i), (10, .int .i64 j)]) (fun _ => [(g, VB .u32 m rest 212 lo hi)]) (fun j => j ≤ j0 ∧ Pe a b i j m) (fun j => j + 1 - i) j0 ⟨Nat.le_refl _, hpe0⟩ aK (.refl _) ?_
      rintro j ⟨hjj, hpe⟩
      have k1 := hpe.ai
      have k2 := hpe.jb
      refine gn 7 ?_
      refine q_splitp 49 rfl (fun h3 => ?_) (fun h3 => ?_)
      · refine gr 8 ?_
        refine q_pure rfl call376 (less_is) rfl rfl ?_
        refine gn 3 ?_
        refine c_if rfl (fun h4 => ?_) (fun h4 => ?_)
        · have h4' : gd m a < gd m j := by simpa using h4
          refine gn 9 ?_
          refine n_round' (y := j) (j - 1) (by omega) ⟨by omega, hpe.decr (by omega) h4'⟩ aK _ (.refl _) (List.Sublist.refl _)
        · skip
          have h4' : ¬ gd m a < gd m j := by simpa using h4
          refine gn 4 ?_
          exact n_cut j ⟨hjj, hpe, fun _ => h4'⟩ aK (.refl _)
      · skip
        refine gn 17 ?_
        exact n_cut j ⟨hjj, hpe, fun _ => by omega⟩ aK (.refl _)
    · clear hpe0
      rintro j ⟨hjj, hpe, hle⟩
      have k1 := hpe.ai
      have k2 := hpe.jb
      refine gn 9 ?_
      refine c_ifp rfl (fun h5 => ?_) (fun h5 => ?_)
      · refine gn 13 ?_
        refine r_fn1 results377 rfl ?_
        exact ⟨i, m, rfl, hm, hpe.fin (by omega), hga, rfl⟩
      · skip
        refine gn 3 ?_
        refine c_regiong [13, 15] (by kernel_rfl) ?_
        refine rg [0, 1, 2, 3, 4, 5, 6, 1007, 8, 9, 10, 1011, 12] ?_
        refine gR 13 ?_
        intro _ _
        refine ld [14] ?_
        refine dR 15 ?_
        intro _ _
        refine gn 15 ?_
        refine n_round' (y := (m, i0, j0)) (swp m i j, i + 1, j - 1) (by show j - 1 + 1 - (i + 1) < j0 + 1 - i0; omega) ?_ aK _ (.refl _) (List.Sublist.refl _)
        refine ⟨hm.swap (by omega) (by omega) (by omega) (by omega) (by omega), hpe.swap (by omega) (hgt (by omega)) (hle (by omega)) (by omega), ?_⟩
        show gd (swp m i j) a = gd l p
        rw [gd_swp (by omega) (by omega), if_neg (by omega), if_neg (by omega), hga]
theorem part2_is {a b p : Nat} (hn : l.length = n) (hf : n ≤ lo ∨ hi = 0) (h1 : n ≤ 100000) (hap : a ≤ p) (hpb : p < b) (hb : b ≤ n) :
    Ctr prog 378 [.slice (some ⟨g, 0, none⟩) n cap, .int .i64 a, .int .i64 b, .int .i64 p] G [(g, VB .u32 l rest 212 lo hi)] (fun r H' => ∃ (m : Nat) (t : Bool) (l' : List Int), r = .tuple #[.int .i64 m, .bool t] ∧ PR a b l l' ∧ PtF a b m l' ∧ H' = [(g, VB .u32 l' rest 212 lo hi)]) := by
  have hsl := swp_length l a p
  have hm : PR a b l (swp l a p) := .one (Nat.le_refl _) (by omega) hap hpb (by omega)
  have hl := hm.len
  have hpe0 : Pt a b (a + 1) (b - 1) (swp l a p) := .start (by omega)
  refine fn_enter 168 func378 rfl ntmps378 rfl ?_
  intro w0
  refine gn 7 ?_
  refine c_regiong [13, 15] (by kernel_rfl) ?_
  refine rg [0, 1, 2, 3, 4, 5, 6, 1007, 8, 9, 10, 1011, 12] ?_
  refine gR 13 ?_
  intro _ _
  refine ld [14] ?_
  refine dR 15 ?_
  intro _ _
  refine gn 13 ?_
  have es : (l.set a (gd l p)).set p (gd l a) = swp l a p := rfl
  rw [es]
  clear es
  generalize swp l a p = m at *
  obtain ⟨i0, hi0⟩ : ∃ i0, i0 = a + 1 := ⟨_, rfl⟩
  obtain ⟨j0, hj0⟩ : ∃ j0, j0 = b - 1 := ⟨_, rfl⟩
  rw [← hi0, ← hj0] at hpe0
  refine WC.less (s' := [(0, .slice (some ⟨g, 0, none⟩) n cap), (1, .int .i64 a), (10, .int .i64 i0), (11, .int .i64 j0)]) (by subst hi0 hj0; exact aK) (List.Sublist.refl _) ?_
  clear hi0 hj0

  refine c_cut (X := Nat) (fun i => [(0, .slice (some ⟨g, 0, none⟩) n cap), (1, .int .i64 a), (10, .int .i64 i), (11, .int .i64 j0)]) (fun _ => [(g, VB .u32 m rest 212 lo hi)]) (fun i => i0 ≤ i ∧ Pt a b i j0 m ∧ (i ≤ j0 → ¬ gd m i < gd m a)) ?_ ?_
  · skip
    refine gn 1 ?_
    refine c_loop (X := Nat) (fun i => [(0, .slice (some ⟨g, 0, none⟩) n cap), (1, .int .i64 a), (10, .int .i64 i), (11, .int .i64 j0)]) (fun _ => [(g, VB .u32 m rest 212 lo hi)]) (fun i => i0 ≤ i ∧ Pt a b i j0 m) (fun i => j0 + 1 - i) i0 ⟨Nat.le_refl _, hpe0⟩ aK (.refl _) ?_
    rintro i ⟨hii, hpe⟩
    have k1 := hpe.ai
    have k2 := hpe.jb
    refine gn 7 ?_
    refine q_splitp 33 rfl (fun h3 => ?_) (fun h3 => ?_)
    · refine gr 8 ?_
      refine q_pure rfl call376 (less_is) rfl rfl ?_
      refine gn 3 ?_
      refine c_if rfl (fun h4 => ?_) (fun h4 => ?_)
      · have h4' : gd m i < gd m a := by simpa using h4
        refine gn 9 ?_
        refine n_round' (y := i) (i + 1) (by omega) ⟨by omega, hpe.incr (by omega) h4'⟩ aK _ (.refl _) (List.Sublist.refl _)
      · skip
        have h4' : ¬ gd m i < gd m a := by simpa using h4
        refine gn 4 ?_
        exact n_cut i ⟨hii, hpe, fun _ => h4'⟩ aK (.refl _)
    · skip
      refine gn 17 ?_
      exact n_cut i ⟨hii, hpe, fun _ => by omega⟩ aK (.refl _)
  · clear hpe0
    rintro i ⟨hii, hpe0, hgt⟩
    refine gn 2 ?_
    refine c_cut (X := Nat) (fun j => [(0, .slice (some ⟨g, 0, none⟩) n cap), (1, .int .i64 a), (10, .int .i64 i), (11, .int .i64 j)]) (fun _ => [(g, VB .u32 m rest 212 lo hi)]) (fun j => j ≤ j0 ∧ Pt a b i j m ∧ (i ≤ j → gd m j < gd m a)) ?_ ?_
    · skip
      refine gn 1 ?_
      refine c_loop (X := Nat) (fun j => [(0, .slice (some ⟨g, 0, none⟩) n cap), (1, .int .i64 a), (10, .int .i64 i), (11, .int .i64 j)]) (fun _ => [(g, VB .u32 m rest 212 lo hi)]) (fun j => j ≤ j0 ∧ Pt a b i j m) (fun j => j + 1 - i) j0 ⟨Nat.le_refl _, hpe0⟩ aK (.refl _) ?_
      rintro j ⟨hjj, hpe⟩
      have k1 := hpe.ai
      have k2 := hpe.jb
      refine gn 7 ?_
      refine q_splitp 49 rfl (fun h3 => ?_) (fun h3 => ?_)
      · refine gr 8 ?_
        refine q_pure rfl call376 (less_is) rfl rfl ?_
        refine gn 4 ?_
        refine c_if rfl (fun h4 => ?_) (fun h4 => ?_)
        · have h4' : ¬ gd m j < gd m a := by simpa using h4
          refine gn 9 ?_
          refine n_round' (y := j) (j - 1) (by omega) ⟨by omega, hpe.decr (by omega) h4'⟩ aK _ (.refl _) (List.Sublist.refl _)
        · skip
          have h4' : gd m j < gd m a := by simpa using h4
          refine gn 4 ?_
          exact n_cut j ⟨hjj, hpe, fun _ => h4'⟩ aK (.refl _)
      · skip
        refine gn 18 ?_
        exact n_cut j ⟨hjj, hpe, fun _ => by omega⟩ aK (.refl _)
    · clear hpe0
      rintro j ⟨hjj, hpe, hle⟩
      have k1 := hpe.ai
      have k2 := hpe.jb
      have k3 := hpe.ij
      refine gn 9 ?_
      refine c_ifp rfl (fun h5 => ?_) (fun h5 => ?_)
      · refine gn 1 ?_
        refine c_regiong [13, 15] (by kernel_rfl) ?_
        refine rg [0, 1, 2, 3, 4, 5, 6, 1007, 8, 9, 10, 1011, 12] ?_
        refine gR 13 ?_
        intro _ _
        refine ld [14] ?_
        refine dR 15 ?_
        intro _ _
        refine gn 10 ?_
        refine r_fn (l := [.tmp 8, .tmp 9]) results378 rfl rfl ?_
        exact ⟨j, true, swp m j a, rfl, hm.swap (by omega) (by omega) (by omega) (by omega) (by omega), hpe.fin (by omega) (by omega), rfl⟩
      · skip
        refine gn 3 ?_
        refine c_regiong [13, 15] (by kernel_rfl) ?_
        refine rg [0, 1, 2, 3, 4, 5, 6, 1007, 8, 9, 10, 1011, 12] ?_
        refine gR 13 ?_
        intro _ _
        refine ld [14] ?_
        refine dR 15 ?_
        intro _ _
        refine gn 18 ?_
        refine c_loop (X := List Int × Nat × Nat) (fun y => [(0, .slice (some ⟨g, 0, none⟩) n cap), (1, .int .i64 a), (10, .int .i64 y.2.1), (11, .int .i64 y.2.2)]) (fun y => [(g, VB .u32 y.1 rest 212 lo hi)]) (fun y => PR a b l y.1 ∧ Pt a b y.2.1 y.2.2 y.1) (fun y => y.2.2 + 1 - y.2.1) (swp m i j, i + 1, j - 1) ⟨hm.swap (by omega) (by omega) (by omega) (by omega) (by omega), hpe.swap (by omega) (hgt (by omega)) (hle (by omega)) (by omega)⟩ aK (.refl _) ?_
        clear hm hpe hle hgt hl k1 k2 k3 hii hjj h5
        rintro ⟨m, i0, j0⟩ ⟨hm, hpe0⟩
        simp only at hm hpe0 ⊢
        have hl := hm.len
        refine gn 2 ?_
        refine c_cut (X := Nat) (fun i => [(0, .slice (some ⟨g, 0, none⟩) n cap), (1, .int .i64 a), (10, .int .i64 i), (11, .int .i64 j0)]) (fun _ => [(g, VB .u32 m rest 212 lo hi)]) (fun i => i0 ≤ i ∧ Pt a b i j0 m ∧ (i ≤ j0 → ¬ gd m i < gd m a)) ?_ ?_
        · skip
          refine gn 1 ?_
          refine c_loop (X := Nat) (fun i => [(0, .slice (some ⟨g, 0, none⟩) n cap), (1, .int .i64 a), (10, .int .i64 i), (11, .int .i64 j0)]) (fun _ => [(g, VB .u32 m rest 212 lo hi)]) (fun i => i0 ≤ i ∧ Pt a b i j0 m) (fun i => j0 + 1 - i) i0 ⟨Nat.le_refl _, hpe0⟩ aK (.refl _) ?_
          rintro i ⟨hii, hpe⟩
          have k1 := hpe.ai
          have k2 := hpe.jb
          refine gn 7 ?_
          refine q_splitp 102 rfl (fun h3 => ?_) (fun h3 => ?_)
          · refine gr 8 ?_
            refine q_pure rfl call376 (less_is) rfl rfl ?_
            refine gn 3 ?_
            refine c_if rfl (fun h4 => ?_) (fun h4 => ?_)
            · have h4' : gd m i < gd m a := by simpa using h4
              refine gn 9 ?_
              refine n_round' (y := i) (i + 1) (by omega) ⟨by omega, hpe.incr (by omega) h4'⟩ aK _ (.refl _) (List.Sublist.refl _)
            · skip
              have h4' : ¬ gd m i < gd m a := by simpa using h4
              refine gn 4 ?_
              exact n_cut i ⟨hii, hpe, fun _ => h4'⟩ aK (.refl _)
          · skip
            refine gn 17 ?_
            exact n_cut i ⟨hii, hpe, fun _ => by omega⟩ aK (.refl _)
        · clear hpe0
          rintro i ⟨hii, hpe0, hgt⟩
          refine gn 2 ?_
          refine c_cut (X := Nat) (fun j => [(0, .slice (some ⟨g, 0, none⟩) n cap), (1, .int .i64 a), (10, .int .i64 i), (11, .int .i64 j)]) (fun _ => [(g, VB .u32 m rest 212 lo hi)]) (fun j => j ≤ j0 ∧ Pt a b i j m ∧ (i ≤ j → gd m j < gd m a)) ?_ ?_
          · skip
            refine gn 1 ?_
            refine c_loop (X := Nat) (fun j => [(0, .slice (some ⟨g, 0, none⟩) n cap), (1, .int .i64 a), (10, .int .i64 i), (11, .int .i64 j)]) (fun _ => [(g, VB .u32 m rest 212 lo hi)]) (fun j => j ≤ j0 ∧ Pt a b i j m) (fun j => j + 1 - i) j0 ⟨Nat.le_refl _, hpe0⟩ aK (.refl _) ?_
            rintro j ⟨hjj, hpe⟩
            have k1 := hpe.ai
            have k2 := hpe.jb
            refine gn 7 ?_
            refine q_splitp 118 rfl (fun h3 => ?_) (fun h3 => ?_)
            · refine gr 8 ?_
              refine q_pure rfl call376 (less_is) rfl rfl ?_
              refine gn 4 ?_
              refine c_if rfl (fun h4 => ?_) (fun h4 => ?_)
              · have h4' : ¬ gd m j < gd m a := by simpa using h4
                refine gn 9 ?_
                refine n_round' (y := j) (j - 1) (by omega) ⟨by omega, hpe.decr (by omega) h4'⟩ aK _ (.refl _) (List.Sublist.refl _)
              · skip
                have h4' : gd m j < gd m a := by simpa using h4
                refine gn 4 ?_
                exact n_cut j ⟨hjj, hpe, fun _ => h4'⟩ aK (.refl _)
            · skip
              refine gn 18 ?_
              exact n_cut j ⟨hjj, hpe, fun _ => by omega⟩ aK (.refl _)
          · clear hpe0
            rintro j ⟨hjj, hpe, hle⟩
            have k1 := hpe.ai
            have k2 := hpe.jb
            have k3 := hpe.ij
            refine gn 9 ?_
            refine c_ifp rfl (fun h5 => ?_) (fun h5 => ?_)
            · refine gn 7 ?_
              refine c_regiong [13, 15] (by kernel_rfl) ?_
              refine rg [0, 1, 2, 3, 4, 5, 6, 1007, 8, 9, 10, 1011, 12] ?_
              refine gR 13 ?_
              intro _ _
              refine ld [14] ?_
              refine dR 15 ?_
              intro _ _
              refine gn 10 ?_
              refine r_fn (l := [.tmp 8, .tmp 9]) results378 rfl rfl ?_
              exact ⟨j, false, swp m j a, rfl, hm.swap (by omega) (by omega) (by omega) (by omega) (by omega), hpe.fin (by omega) (by omega), rfl⟩
            · skip
              refine gn 3 ?_
              refine c_regiong [13, 15] (by kernel_rfl) ?_
              refine rg [0, 1, 2, 3, 4, 5, 6, 1007, 8, 9, 10, 1011, 12] ?_
              refine gR 13 ?_
              intro _ _
              refine ld [14] ?_
              refine dR 15 ?_
              intro _ _
              refine gn 15 ?_
              refine n_round' (y := (m, i0, j0)) (swp m i j, i + 1, j - 1) (by show j - 1 + 1 - (i + 1) < j0 + 1 - i0; omega) ?_ aK _ (.refl _) (List.Sublist.refl _)
              exact ⟨hm.swap (by omega) (by omega) (by omega) (by omega) (by omega), hpe.swap (by omega) (hgt (by omega)) (hle (by omega)) (by omega)⟩
end
end Go.Proofs.A4
namespace Go.Sl
open Go
set_option maxRecDepth 10000
def tbl : List UInt8 := [0, 1] ++ List.replicate 2 2 ++ List.replicate 4 3 ++ List.replicate 8 4 ++ List.replicate 16 5 ++ List.replicate 32 6 ++ List.replicate 64 7 ++ List.replicate 128 8
def nb (x : Nat) : Nat := (tbl.getD x 0).toNat
theorem tbl_get {x : Nat} (h : x < 256) : tbl[((x : Nat) : Int).toNat]? = some (tbl.getD x 0) := by
  have : tbl.length = 256 := rfl
  rw [Int.toNat_natCast, List.getD_eq_getElem?_getD, List.getElem?_eq_getElem (by omega)]
  rfl
theorem nb_all : (List.range 256).all (fun x => decide (nb x ≤ 8) && (decide (x < 8) || (decide (x < 2 ^ nb x) && decide (2 ^ nb x ≤ 2 * x) && decide (4 ≤ nb x)))) = true := by kernel_rfl
theorem nb_is {x : Nat} (h : x < 256) : nb x ≤ 8 ∧ (8 ≤ x → x < 2 ^ nb x ∧ 2 ^ nb x ≤ 2 * x ∧ 4 ≤ nb x) := by
  have := List.all_eq_true.1 nb_all x (List.mem_range.2 h)
  simp only [Bool.and_eq_true, Bool.or_eq_true, decide_eq_true_eq] at this
  refine ⟨this.1, fun h8 => ?_⟩
  rcases this.2 with h | h
  · omega
  · exact ⟨h.1.1, h.1.2, h.2⟩
/-- What 'and' with ones comes to. -/
theorem ib_and {kd : IntKind} (hk : kd.signed = false) {m : Int} {z : Nat} (hz : z < 2 ^ kd.bits) : ∃ r : Nat, ib .and kd m (z : Nat) = (r : Int) ∧ r ≤ z := by
  refine ⟨(BitVec.ofInt kd.bits m &&& BitVec.ofInt kd.bits (z : Nat)).toNat, ?_, ?_⟩
  · have h := (BitVec.ofInt kd.bits m &&& BitVec.ofInt kd.bits (z : Nat)).isLt
    simp only [ib]
    generalize (BitVec.ofInt kd.bits m &&& BitVec.ofInt kd.bits (z : Nat)).toNat = q at h
    refine wrap_in kd _ ?_ ?_
    · cases kd <;> simp_all [IntKind.min, IntKind.signed] <;> omega
    · cases kd <;> simp_all [IntKind.max, IntKind.signed, IntKind.bits] <;> omega
  · rw [BitVec.toNat_and, BitVec.ofInt_natCast, BitVec.toNat_ofNat, Nat.mod_eq_of_lt hz]
    exact Nat.and_le_right
end Go.Sl
namespace Go.Proofs.A4
open Go Go.Sl Tryz
set_option maxRecDepth 100000
set_option maxHeartbeats 1000000
section
variable {G : HP} {g n cap lo hi : Nat} {rest : List Value} {l : List Int}
theorem len64_is {x : Nat} (h : x < 256) : CtrP prog 123 [.int .u64 x] G (.int .i64 (nb x : Nat)) := by
  have hb := tbl_get h
  have hk := (nb_is h).1
  have hk2 : (tbl.getD x 0).toNat ≤ 8 := hk
  refine fn_enter 25 func123 rfl ntmps123 rfl ?_
  intro w0
  refine gn 12 ?_
  refine c_ifp rfl (fun h1 => ?_) (fun h1 => ?_)
  · exact absurd h1 (by omega)
  · skip
    refine gn 9 ?_
    refine c_ifp rfl (fun h2 => ?_) (fun h2 => ?_)
    · exact absurd h2 (by omega)
    · skip
      refine gn 9 ?_
      refine c_ifp rfl (fun h3 => ?_) (fun h3 => ?_)
      · exact absurd h3 (by omega)
      · skip
        refine gn 14 ?_
        refine r_fn1 results123 rfl ?_
        exact ⟨by simp [nb], rfl⟩
theorem len_is {x : Nat} (h : x < 256) : CtrP prog 66 [.int .u64 x] G (.int .i64 (nb x : Nat)) := by
  refine fn_enter 8 func66 rfl ntmps66 rfl ?_
  intro w0
  refine gn 12 ?_
  refine o_pure rfl call123 (len64_is h) rfl rfl ?_
  refine gn 4 ?_
  refine r_fn1 results66 rfl ?_
  exact ⟨rfl, rfl⟩
theorem npt_is {x : Nat} (h : x < 256) : CtrP prog 262 [.int .i64 x] G (.int .u64 (2 ^ nb x : Nat)) := by
  have hk := (nb_is h).1
  refine fn_enter 7 func262 rfl ntmps262 rfl ?_
  intro w0
  refine gn 9 ?_
  refine o_pure rfl call66 (len_is h) rfl rfl ?_
  refine gn 5 ?_
  refine r_fn1 results262 rfl ?_
  generalize nb x = k at hk
  have hc : k = 0 ∨ k = 1 ∨ k = 2 ∨ k = 3 ∨ k = 4 ∨ k = 5 ∨ k = 6 ∨ k = 7 ∨ k = 8 := by omega
  rcases hc with rfl | rfl | rfl | rfl | rfl | rfl | rfl | rfl | rfl <;> exact ⟨rfl, rfl⟩
theorem next_is {g : Nat} {z : Int} : Ctr prog 263 [.pointer (some ⟨g, 0, none⟩)] G [(g, C [.int .u64 z] 408)] (fun r H' => ∃ y : Int, r = .int .u64 y ∧ H' = [(g, C [.int .u64 y] 408)]) := by
  refine fn_enter 33 func263 rfl ntmps263 rfl ?_
  intro w0
  refine gn 6 ?_
  refine c_regiong [9] (by kernel_rfl) ?_
  refine lg [0, 1, 1002, 3, 4, 1005, 6, 7, 8] ?_
  refine gT 9 ?_
  intro _ _
  refine gn 3 ?_
  refine c_regiong [9] (by kernel_rfl) ?_
  refine lg [0, 1, 1002, 3, 4, 1005, 6, 7, 8] ?_
  refine gT 9 ?_
  intro _ _
  refine gn 3 ?_
  refine c_regiong [9] (by kernel_rfl) ?_
  refine lg [0, 1, 1002, 3, 4, 1005, 6, 7, 8] ?_
  refine gT 9 ?_
  intro _ _
  refine gn 11 ?_
  refine r_fn1 results263 rfl ?_
  exact ⟨_, rfl, rfl⟩
theorem brk_is {a b : Nat} (hn : l.length = n) (hf : n ≤ lo ∨ hi = 0) (h1 : n ≤ 255) (hab : a + 8 ≤ b) (hb : b ≤ n) :
    Ctr prog 372 [.slice (some ⟨g, 0, none⟩) n cap, .int .i64 a, .int .i64 b] G [(g, VB .u32 l rest 212 lo hi)] (fun r H' => r = .tuple #[] ∧ ∃ l', PR a b l l' ∧ H' = [(g, VB .u32 l' rest 212 lo hi)]) := by
  obtain ⟨h, rfl⟩ : ∃ h, b = a + h := ⟨b - a, by omega⟩
  have hnb := (nb_is (x := h) (by omega)).2 (by omega)
  refine fn_enter 65 func372 rfl ntmps372 rfl ?_
  intro w0
  refine gn 14 ?_
  simp only [Nat.add_sub_cancel_left]
  refine c_ifp rfl (fun h2 => ?_) (fun h2 => ?_)
  · skip
    refine gn 4 ?_
    refine oZ ?_; intro g7 _
    refine oR ?_
    intro _ _
    refine gn 5 ?_
    refine o_pure rfl call262 (npt_is (x := h) (by omega)) rfl rfl ?_
    refine gn 15 ?_
    generalize 2 ^ nb h = M at hnb
    have e1 : (a : Int) + (h : Int) / 4 * 2 - 1 = ((a + h / 4 * 2 - 1 : Nat) : Int) := by omega
    rw [e1]
    refine c_loop (X := List Int × Nat × Int) (fun y => [(0, .slice (some ⟨g, 0, none⟩) n cap), (1, .int .i64 a), (2, .int .i64 (a + h : Nat)), (6, .int .i64 h), (7, .pointer (some ⟨g7, 0, none⟩)), (8, .int .u64 M), (9, .int .i64 y.2.1)]) (fun y => [(g, VB .u32 y.1 rest 212 lo hi), (g7, C [.int .u64 y.2.2] 408)]) (fun y => PR a (a + h) l y.1 ∧ a ≤ y.2.1 ∧ y.2.1 ≤ a + h / 4 * 2 + 2) (fun y => a + h / 4 * 2 + 2 - y.2.1) (l, a + h / 4 * 2 - 1, (h : Int)) ⟨.refl, by show a ≤ a + h / 4 * 2 - 1; omega, by show a + h / 4 * 2 - 1 ≤ _; omega⟩ aK (List.Perm.swap _ _ _) ?_
    rintro ⟨m, i, z⟩ ⟨hm, hi0, hi1⟩
    simp only at hm hi0 hi1 ⊢
    have hl := hm.len
    refine gn 13 ?_
    refine c_ifp rfl (fun h3 => ?_) (fun h3 => ?_)
    · refine gn 6 ?_
      refine oL (lC next_is rfl (.cons (.tail .head) .nil)) ?_
      rintro ⟨r, H'⟩ ⟨z', rfl, rfl⟩
      simp only [List.cons_append, List.nil_append]
      refine gn 2 ?_
      rw [show ((M : Nat) : Int) - 1 = ((M - 1 : Nat) : Int) by omega]
      obtain ⟨q, hq, hqM⟩ := ib_and (kd := .u64) rfl (m := z') (z := M - 1) (by show M - 1 < 18446744073709551616; omega)
      refine gn 1 ?_
      rw [hq]
      refine gn 12 ?_
      refine c_ifp rfl (fun h4 => ?_) (fun h4 => ?_)
      · refine gn 7 ?_
        refine c_regiong [17, 19] (by kernel_rfl) ?_
        refine rg [0, 1, 2, 3, 4, 5, 6, 7, 8, 9, 10, 1011, 12, 13, 14, 1015, 16] ?_
        refine gR 17 ?_
        intro _ _
        refine ld [18] ?_
        refine dR 19 ?_
        intro _ _
        refine gn 8 ?_
        refine WN.perm (List.Perm.swap _ _ _) ?_
        refine n_round' (y := (m, i, z)) (swp m i (a + (q - h)), i + 1, z') (by show a + h / 4 * 2 + 2 - (i + 1) < a + h / 4 * 2 + 2 - i; omega) ?_ aK _ (.refl _) (List.Sublist.refl _)
        exact ⟨hm.swap (by omega) (by omega) (by omega) (by omega) (by omega), by show a ≤ i + 1; omega, by show i + 1 ≤ a + h / 4 * 2 + 2; omega⟩
      · skip
        refine gn 2 ?_
        refine c_regiong [17, 19] (by kernel_rfl) ?_
        refine rg [0, 1, 2, 3, 4, 5, 6, 7, 8, 9, 10, 1011, 12, 13, 14, 1015, 16] ?_
        refine gR 17 ?_
        intro _ _
        refine ld [18] ?_
        refine dR 19 ?_
        intro _ _
        refine gn 8 ?_
        refine WN.perm (List.Perm.swap _ _ _) ?_
        refine n_round' (y := (m, i, z)) (swp m i (a + q), i + 1, z') (by show a + h / 4 * 2 + 2 - (i + 1) < a + h / 4 * 2 + 2 - i; omega) ?_ aK _ (.refl _) (List.Sublist.refl _)
        exact ⟨hm.swap (by omega) (by omega) (by omega) (by omega) (by omega), by show a ≤ i + 1; omega, by show i + 1 ≤ a + h / 4 * 2 + 2; omega⟩
    · skip
      refine gn 4 ?_
      refine WN.sel (.cons .head .nil) ?_
      refine n_fn0 results372 ?_
      exact ⟨rfl, m, hm, rfl⟩
  · exact absurd h2 (by omega)
end
end Go.Proofs.A4
namespace Go.Proofs.A4
open Go Go.Sl Tryz
set_option maxRecDepth 100000
set_option maxHeartbeats 2000000
section
variable {G : HP} {g n cap lo hi : Nat} {rest : List Value}
theorem pdq_is (hf : n ≤ lo ∨ hi = 0) (h1 : n ≤ 255) : ∀ (h : Nat) {l : List Int} {a b : Nat} {lim : Int} (_ : l.length = n) (_ : a ≤ b) (_ : b ≤ n) (_ : b - a = h) (_ : Lb a b l),
    Ctr prog 360 [.slice (some ⟨g, 0, none⟩) n cap, .int .i64 a, .int .i64 b, .int .i64 lim] G [(g, VB .u32 l rest 212 lo hi)] (fun r H' => r = .tuple #[] ∧ ∃ l', (PR a b l l' ∧ SR a b l') ∧ H' = [(g, VB .u32 l' rest 212 lo hi)]) := by
  intro h
  induction h using Nat.strongRecOn with
  | ind h ih =>
  intro l a b lim hn hab hb hh hlb
  refine fn_enter 134 func360 rfl ntmps360 rfl ?_
  intro w0
  refine gn 11 ?_
  refine c_loop (X := List Int × Nat × Nat × Int × Bool × Bool) (fun y => [(0, .slice (some ⟨g, 0, none⟩) n cap), (1, .int .i64 y.2.1), (2, .int .i64 y.2.2.1), (3, .int .i64 y.2.2.2.1), (8, .bool y.2.2.2.2.1), (9, .bool y.2.2.2.2.2)]) (fun y => [(g, VB .u32 y.1 rest 212 lo hi)]) (fun y => PR a b l y.1 ∧ Fin a b y.2.1 y.2.2.1 y.1 ∧ Lb y.2.1 y.2.2.1 y.1 ∧ a ≤ y.2.1 ∧ y.2.1 ≤ y.2.2.1 ∧ y.2.2.1 ≤ b) (fun y => y.2.2.1 - y.2.1) (l, a, b, lim, true, true) ⟨.refl, .start, hlb, Nat.le_refl _, hab, Nat.le_refl _⟩ aK (.refl _) ?_
  clear lim hlb
  rintro ⟨m, a', b', lim, bl, bp⟩ ⟨hm, hfin, hlb, ha, hab', hb'⟩
  simp only at hm hfin hlb ha hab' hb' ⊢
  have hl := hm.len
  refine gn 16 ?_
  refine c_ifp rfl (fun h2 => ?_) (fun h2 => ?_)
  · refine gn 5 ?_
    refine oL (lC (ins_is (hl.trans hn) hf (by omega) hab' (by omega)) rfl (.cons .head .nil)) ?_
    rintro ⟨r, H'⟩ ⟨rfl, m', ⟨hp, hs⟩, rfl⟩
    simp only [List.cons_append, List.nil_append]
    refine gn 3 ?_
    refine r_fn0 results360 ?_
    exact ⟨rfl, m', ⟨hm.trans (hp.mono ha hb' (by omega)), hfin m' hp hs⟩, rfl⟩
  · skip
    refine gn 9 ?_
    refine c_ifp rfl (fun h3 => ?_) (fun h3 => ?_)
    · refine gn 5 ?_
      refine oL (lC (heap_is (hl.trans hn) hf (by omega) (by omega) (by omega)) rfl (.cons .head .nil)) ?_
      rintro ⟨r, H'⟩ ⟨rfl, m', ⟨hp, hs⟩, rfl⟩
      simp only [List.cons_append, List.nil_append]
      refine gn 3 ?_
      refine r_fn0 results360 ?_
      exact ⟨rfl, m', ⟨hm.trans (hp.mono ha hb' (by omega)), hfin m' hp hs⟩, rfl⟩
    · skip
      have h12 : 12 < b' - a' := by omega
      clear h2 h3
      refine gn 3 ?_
      refine c_cut (X := List Int × Int) (fun y => [(0, .slice (some ⟨g, 0, none⟩) n cap), (1, .int .i64 a'), (2, .int .i64 b'), (3, .int .i64 y.2), (8, .bool bl), (9, .bool bp), (10, .int .i64 (b' - a' : Nat))]) (fun y => [(g, VB .u32 y.1 rest 212 lo hi)]) (fun y => PR a' b' m y.1) ?_ ?_
      · skip
        refine gn 6 ?_
        refine c_if rfl (fun h4 => ?_) (fun h4 => ?_)
        · refine gn 5 ?_
          refine oL (lC (brk_is (hl.trans hn) hf h1 (by omega) (by omega)) rfl (.cons .head .nil)) ?_
          rintro ⟨r, H'⟩ ⟨rfl, m', hp, rfl⟩
          simp only [List.cons_append, List.nil_append]
          refine gn 7 ?_
          exact n_cut (m', _) hp aK (.refl _)
        · skip
          refine gn 1 ?_
          exact n_cut (m, lim) .refl aK (.refl _)
      · rintro ⟨m1, lim1⟩ hp1
        simp only at hp1 ⊢
        replace hm : PR a b l m1 := hm.trans (hp1.mono ha hb' (by omega))
        replace hfin := hfin.pr hp1
        replace hlb := hlb.pr hp1 (Nat.le_refl _) (Nat.le_refl _)
        replace hl : m1.length = l.length := hm.len
        clear hp1
        refine gn 6 ?_
        refine oL (lC (piv_is (hl.trans hn) (by omega) (by omega) (by omega)) rfl (.cons .head .nil)) ?_
        rintro ⟨r, H'⟩ ⟨p, z, rfl, hp, rfl⟩
        simp only [List.cons_append, List.nil_append]
        refine gn 8 ?_
        refine c_cut (X := List Int × Nat × Int) (fun y => [(0, .slice (some ⟨g, 0, none⟩) n cap), (1, .int .i64 a'), (2, .int .i64 b'), (3, .int .i64 lim1), (8, .bool bl), (9, .bool bp), (10, .int .i64 (b' - a' : Nat)), (11, .int .i64 y.2.1), (12, .int .i64 y.2.2)]) (fun y => [(g, VB .u32 y.1 rest 212 lo hi)]) (fun y => PR a' b' m1 y.1 ∧ a' ≤ y.2.1 ∧ y.2.1 < b') ?_ ?_
        · skip
          refine gn 6 ?_
          refine c_ifp rfl (fun h4 => ?_) (fun h4 => ?_)
          · refine gn 5 ?_
            refine oL (lC (rev_is (hl.trans hn) hf (by omega) (by omega) (by omega)) rfl (.cons .head .nil)) ?_
            rintro ⟨r, H'⟩ ⟨rfl, m', hp', rfl⟩
            simp only [List.cons_append, List.nil_append]
            refine gn 16 ?_
            exact n_cut (m', b' - 1 - (p - a'), 1) ⟨hp', by show a' ≤ b' - 1 - (p - a'); omega, by show b' - 1 - (p - a') < b'; omega⟩ aK (.refl _)
          · skip
            refine gn 1 ?_
            exact n_cut (m1, p, z) ⟨.refl, hp⟩ aK (.refl _)
        · clear hp p z
          rintro ⟨m2, p, z⟩ ⟨hp1, hp⟩
          simp only at hp1 hp ⊢
          replace hm : PR a b l m2 := hm.trans (hp1.mono ha hb' (by omega))
          replace hfin := hfin.pr hp1
          replace hlb := hlb.pr hp1 (Nat.le_refl _) (Nat.le_refl _)
          replace hl : m2.length = l.length := hm.len
          clear hp1
          refine gn 2 ?_
          refine c_cut (X := List Int) (fun _ => [(0, .slice (some ⟨g, 0, none⟩) n cap), (1, .int .i64 a'), (2, .int .i64 b'), (3, .int .i64 lim1), (8, .bool bl), (9, .bool bp), (10, .int .i64 (b' - a' : Nat)), (11, .int .i64 p)]) (fun m => [(g, VB .u32 m rest 212 lo hi)]) (fun m => PR a' b' m2 m) ?_ ?_
          · skip
            refine gn 4 ?_
            refine o_split 62 rfl (fun h4 => ?_) (fun h4 => ?_)
            · refine gn 3 ?_
              refine o_split 65 rfl (fun h5 => ?_) (fun h5 => ?_)
              · refine gn 5 ?_
                refine c_ifp rfl (fun h6 => ?_) (fun h6 => ?_)
                · refine gn 5 ?_
                  refine oL (lC (part_is (hl.trans hn) hf (by omega) (by omega) (by omega) hlb) rfl (.cons .head .nil)) ?_
                  rintro ⟨r, H'⟩ ⟨t, m', rfl, hp', hs', rfl⟩
                  simp only [List.cons_append, List.nil_append]
                  refine gn 2 ?_
                  refine c_if rfl (fun h7 => ?_) (fun h7 => ?_)
                  · refine gn 1 ?_
                    refine r_fn0 results360 ?_
                    exact ⟨rfl, m', ⟨hm.trans (hp'.mono ha hb' (by omega)), hfin m' hp' (hs' h7)⟩, rfl⟩
                  · skip
                    refine gn 1 ?_
                    exact n_cut m' hp' aK (.refl _)
                · skip
                  refine gn 1 ?_
                  exact n_cut m2 .refl aK (.refl _)
              · skip
                refine gn 7 ?_
                exact n_cut m2 .refl aK (.refl _)
            · skip
              refine gn 10 ?_
              exact n_cut m2 .refl aK (.refl _)
          · rintro m3 hp1
            replace hm : PR a b l m3 := hm.trans (hp1.mono ha hb' (by omega))
            replace hfin := hfin.pr hp1
            replace hlb := hlb.pr hp1 (Nat.le_refl _) (Nat.le_refl _)
            replace hl : m3.length = l.length := hm.len
            clear hp1
            refine gn 7 ?_
            refine q_splitp 75 rfl (fun h4 => ?_) (fun h4 => ?_)
            · refine gr 9 ?_
              refine q_pure rfl call376 (less_is) rfl rfl ?_
              refine gn 4 ?_
              refine c_if rfl (fun h5 => ?_) (fun h5 => ?_)
              · have h5' : ¬ gd m3 (a' - 1) < gd m3 p := by simpa using h5
                refine gn 6 ?_
                refine oL (lC (peq_is (p := p) (hl.trans hn) hf (by omega) hp.1 hp.2 (by omega)) rfl (.cons .head .nil)) ?_
                rintro ⟨r, H'⟩ ⟨mid, m4, rfl, hp1, hpe, hga, rfl⟩
                simp only [List.cons_append, List.nil_append]
                have k1 := hpe.am
                have k2 := hpe.mb
                have hmin : ∀ i, a' ≤ i → i < b' → gd m4 a' ≤ gd m4 i := by
                  have hlo : ∀ i, a' ≤ i → i < b' → gd m3 p ≤ gd m3 i := fun i i1 i2 => by
                    rcases hlb with h | h
                    · omega
                    · exact Int.le_trans (Int.not_lt.1 h5') (h i i1 i2)
                  have := hp1.all (p := fun z => gd m3 p ≤ z) hlo
                  intro i i1 i2
                  rw [hga]
                  exact this i i1 i2
                refine gn 12 ?_
                refine n_round' (y := (m, a', b', lim, bl, bp)) (m4, mid, b', lim1, bl, bp) (by show b' - mid < b' - a'; omega) ?_ aK _ (.refl _) (List.Sublist.refl _)
                have hm4 : PR a b l m4 := hm.trans (hp1.mono ha hb' (by omega))
                exact ⟨hm4, hpe.all (hfin.pr hp1) hmin (by have := hm4.len; omega), hpe.lb, by show a ≤ mid; omega, k2, hb'⟩
              · skip
                refine gn 8 ?_
                refine oL (lC (part2_is (p := p) (hl.trans hn) hf (by omega) hp.1 hp.2 (by omega)) rfl (.cons .head .nil)) ?_
                rintro ⟨r, H'⟩ ⟨mid, t, m4, rfl, hp1, hpt, rfl⟩
                simp only [List.cons_append, List.nil_append]
                have k1 := hpt.am
                have k2 := hpt.mb
                have hm4 : PR a b l m4 := hm.trans (hp1.mono ha hb' (by omega))
                have hfin4 := hfin.pr hp1
                have hlb4 := hlb.pr hp1 (Nat.le_refl _) (Nat.le_refl _)
                have hl4 : m4.length = l.length := hm4.len
                refine gn 39 ?_
                refine c_ifp rfl (fun h6 => ?_) (fun h6 => ?_)
                · refine gn 14 ?_
                  refine oL (lC (ih (mid - a') (by omega) (a := a') (b := mid) (hl4.trans hn) k1 (by omega) rfl (hlb4.less (by omega))) rfl (.cons .head .nil)) ?_
                  rintro ⟨r, H'⟩ ⟨rfl, m5, ⟨hp5, hs5⟩, rfl⟩
                  simp only [List.cons_append, List.nil_append]
                  refine gn 8 ?_
                  have hq5 : PR a' b' m4 m5 := hp5.mono (Nat.le_refl _) (by omega) (by omega)
                  refine n_round' (y := (m, a', b', lim, bl, bp)) (m5, mid + 1, b', lim1, _, _) (by show b' - (mid + 1) < b' - a'; omega) ?_ aK _ (.refl _) (List.Sublist.refl _)
                  exact ⟨hm4.trans (hq5.mono ha hb' (by omega)), hpt.left hfin4 hp5 hs5 (by omega), (hpt.keepl hp5).lbr, by show a ≤ mid + 1; omega, by show mid + 1 ≤ b'; omega, hb'⟩
                · skip
                  refine gn 15 ?_
                  refine oL (lC (ih (b' - (mid + 1)) (by omega) (a := mid + 1) (b := b') (hl4.trans hn) (by omega) (by omega) rfl hpt.lbr) rfl (.cons .head .nil)) ?_
                  rintro ⟨r, H'⟩ ⟨rfl, m5, ⟨hp5, hs5⟩, rfl⟩
                  simp only [List.cons_append, List.nil_append]
                  refine gn 7 ?_
                  have hq5 : PR a' b' m4 m5 := hp5.mono (by omega) (Nat.le_refl _) (by omega)
                  refine n_round' (y := (m, a', b', lim, bl, bp)) (m5, a', mid, lim1, _, _) (by show mid - a' < b' - a'; omega) ?_ aK _ (.refl _) (List.Sublist.refl _)
                  exact ⟨hm4.trans (hq5.mono ha hb' (by omega)), hpt.right hfin4 hp5 hs5 (by omega), (hlb4.pr hq5 (Nat.le_refl _) (Nat.le_refl _)).less (by show mid ≤ b'; omega), ha, k1, by show mid ≤ b; omega⟩
            · skip
              refine gn 23 ?_
              refine oL (lC (part2_is (p := p) (hl.trans hn) hf (by omega) hp.1 hp.2 (by omega)) rfl (.cons .head .nil)) ?_
              rintro ⟨r, H'⟩ ⟨mid, t, m4, rfl, hp1, hpt, rfl⟩
              simp only [List.cons_append, List.nil_append]
              have k1 := hpt.am
              have k2 := hpt.mb
              have hm4 : PR a b l m4 := hm.trans (hp1.mono ha hb' (by omega))
              have hfin4 := hfin.pr hp1
              have hlb4 := hlb.pr hp1 (Nat.le_refl _) (Nat.le_refl _)
              have hl4 : m4.length = l.length := hm4.len
              refine gn 39 ?_
              refine c_ifp rfl (fun h6 => ?_) (fun h6 => ?_)
              · refine gn 14 ?_
                refine oL (lC (ih (mid - a') (by omega) (a := a') (b := mid) (hl4.trans hn) k1 (by omega) rfl (hlb4.less (by omega))) rfl (.cons .head .nil)) ?_
                rintro ⟨r, H'⟩ ⟨rfl, m5, ⟨hp5, hs5⟩, rfl⟩
                simp only [List.cons_append, List.nil_append]
                refine gn 8 ?_
                have hq5 : PR a' b' m4 m5 := hp5.mono (Nat.le_refl _) (by omega) (by omega)
                refine n_round' (y := (m, a', b', lim, bl, bp)) (m5, mid + 1, b', lim1, _, _) (by show b' - (mid + 1) < b' - a'; omega) ?_ aK _ (.refl _) (List.Sublist.refl _)
                exact ⟨hm4.trans (hq5.mono ha hb' (by omega)), hpt.left hfin4 hp5 hs5 (by omega), (hpt.keepl hp5).lbr, by show a ≤ mid + 1; omega, by show mid + 1 ≤ b'; omega, hb'⟩
              · skip
                refine gn 15 ?_
                refine oL (lC (ih (b' - (mid + 1)) (by omega) (a := mid + 1) (b := b') (hl4.trans hn) (by omega) (by omega) rfl hpt.lbr) rfl (.cons .head .nil)) ?_
                rintro ⟨r, H'⟩ ⟨rfl, m5, ⟨hp5, hs5⟩, rfl⟩
                simp only [List.cons_append, List.nil_append]
                refine gn 7 ?_
                have hq5 : PR a' b' m4 m5 := hp5.mono (by omega) (Nat.le_refl _) (by omega)
                refine n_round' (y := (m, a', b', lim, bl, bp)) (m5, a', mid, lim1, _, _) (by show mid - a' < b' - a'; omega) ?_ aK _ (.refl _) (List.Sublist.refl _)
                exact ⟨hm4.trans (hq5.mono ha hb' (by omega)), hpt.right hfin4 hp5 hs5 (by omega), (hlb4.pr hq5 (Nat.le_refl _) (Nat.le_refl _)).less (by show mid ≤ b'; omega), ha, k1, by show mid ≤ b; omega⟩
theorem sort_is {l : List Int} (hn : l.length = n) (hf : n ≤ lo ∨ hi = 0) (h1 : n ≤ 255) :
    Ctr prog 339 [.slice (some ⟨g, 0, none⟩) n cap] G [(g, VB .u32 l rest 212 lo hi)] (fun r H' => r = .tuple #[] ∧ H' = [(g, VB .u32 (srt l) rest 212 lo hi)]) := by
  refine fn_enter 11 func339 rfl ntmps339 rfl ?_
  intro w0
  refine gn 12 ?_
  refine o_pure rfl call66 (len_is (x := n) (by omega)) rfl rfl ?_
  refine oL (lC (pdq_is hf h1 n (a := 0) (b := n) hn (Nat.zero_le _) (Nat.le_refl _) (by omega) (.inl rfl)) rfl (.cons .head .nil)) ?_
  rintro ⟨r, H'⟩ ⟨rfl, l', ⟨hp, hs⟩, rfl⟩
  simp only [List.cons_append, List.nil_append]
  refine gn 1 ?_
  refine n_fn0 results339 ?_
  exact ⟨rfl, by rw [srt_of hp hs hn]⟩
end
end Go.Proofs.A4
namespace Go.Proofs
open Go Go.Sl Tryz
set_option maxRecDepth 100000
set_option maxHeartbeats 1000000
theorem MV_get : ∀ {ts : List Mpart}, (ts.map fun t => t.2.1).Nodup → ∀ t ∈ ts, mget (MV ts) (t.2.1 : Nat) = some (.agg #[.int .u32 (t.2.1 : Nat), .int .u64 (t.2.2.length / t.2.1 : Nat), .slice (some ⟨t.1, 0, none⟩) t.2.2.length t.2.2.length])
  | [], _, t, ht => by cases ht
  | t0 :: ts, hd, t, ht => by
    rw [List.map_cons, List.nodup_cons] at hd
    simp only [MV, List.map_cons, mget]
    rcases List.mem_cons.1 ht with rfl | ht
    · rw [if_pos rfl]
    · rw [if_neg (fun e => hd.1 (by have e' : t.2.1 = t0.2.1 := by omega
                                    rw [← e']; exact List.mem_map_of_mem ht))]
      exact MV_get hd.2 t ht
theorem nodup_bound : ∀ {n : Nat} {l : List Nat}, l.Nodup → (∀ i ∈ l, i < n) → l.length ≤ n
  | 0, l, _, h => by
    cases l with
    | nil => simp
    | cons a l => exact absurd (h a (.head _)) (Nat.not_lt_zero _)
  | n + 1, l, hd, h => by
    have h1 : (l.erase n).length ≤ n := nodup_bound (hd.erase n) fun i hi => by
      have h2 := h i (List.mem_of_mem_erase hi)
      have h3 : i ≠ n := fun e => by subst e; exact (hd.not_mem_erase) hi
      omega
    have h4 := List.length_erase_le (a := n) (l := l)
    have h5 : l.length ≤ (l.erase n).length + 1 := by
      by_cases hm : n ∈ l
      · rw [List.length_erase_of_mem hm]; omega
      · rw [List.erase_of_not_mem hm]; omega
    omega
end Go.Proofs
namespace Go.Proofs.A8
open Go Go.Sl Tryz
set_option maxRecDepth 100000
set_option maxHeartbeats 1000000
section
variable {G : HP} {g n cap lo hi : Nat} {rest : List Value} {l : List Int}
theorem nan_is {a : Int} : CtrP prog 369 [.int .u64 a] G (.bool false) := by
  refine fn_enter 6 func369 rfl ntmps369 rfl ?_
  intro w0
  refine gn 14 ?_
  refine r_fn1 results369 rfl ?_
  simp
theorem less_is {a b : Int} : CtrP prog 357 [.int .u64 a, .int .u64 b] G (.bool (decide (a < b))) := by
  refine fn_enter 17 func357 rfl ntmps357 rfl ?_
  intro w0
  refine gn 8 ?_
  refine o_pure rfl call369 (nan_is) rfl rfl ?_
  refine gn 14 ?_
  refine r_fn1 results357 rfl ?_
  exact ⟨rfl, rfl⟩
theorem ins_is {a b : Nat} (hn : l.length = n) (hf : n ≤ lo ∨ hi = 0) (h1 : n ≤ 100000) (hab : a ≤ b) (hb : b ≤ n) :
    Ctr prog 351 [.slice (some ⟨g, 0, none⟩) n cap, .int .i64 a, .int .i64 b] G [(g, VB .u64 l rest 23 lo hi)] (fun r H' => r = .tuple #[] ∧ ∃ l', (PR a b l l' ∧ SR a b l') ∧ H' = [(g, VB .u64 l' rest 23 lo hi)]) := by
  refine fn_enter 49 func351 rfl ntmps351 rfl ?_
  intro w0
  refine gn 8 ?_
  refine c_loop (X := List Int × Nat) (fun y => [(0, .slice (some ⟨g, 0, none⟩) n cap), (1, .int .i64 a), (2, .int .i64 b), (6, .int .i64 (a + 1 + y.2 : Nat))]) (fun y => [(g, VB .u64 y.1 rest 23 lo hi)]) (fun y => PR a b l y.1 ∧ SR a (a + 1 + y.2) y.1 ∧ (y.2 = 0 ∨ a + 1 + y.2 ≤ b)) (fun y => b - y.2) (l, 0) ⟨.refl, .small (by omega), .inl rfl⟩ aK (.refl _) ?_
  rintro ⟨m, i⟩ ⟨hp, hs, hi0⟩
  simp only at hp hs hi0 ⊢
  refine gn 8 ?_
  refine c_ifp rfl (fun h2 => ?_) (fun h2 => ?_)
  · refine gn 11 ?_
    refine c_loop (X := List Int × Nat) (fun y => [(0, .slice (some ⟨g, 0, none⟩) n cap), (1, .int .i64 a), (2, .int .i64 b), (6, .int .i64 (a + 1 + i : Nat)), (7, .int .i64 y.2)]) (fun y => [(g, VB .u64 y.1 rest 23 lo hi)]) (fun y => PR a b l y.1 ∧ Ins a y.2 (a + 1 + i + 1) y.1 ∧ a ≤ y.2 ∧ y.2 ≤ a + 1 + i) (fun y => y.2) (m, a + 1 + i) ⟨hp, .start hs, by omega, Nat.le_refl _⟩ aK (.refl _) ?_
    rintro ⟨q, j⟩ ⟨hq, hi, haj, hj⟩
    simp only at hq hi haj hj ⊢
    have hl := hq.len
    refine gn 7 ?_
    refine q_splitp 19 rfl (fun h3 => ?_) (fun h3 => ?_)
    · refine gr 9 ?_
      refine q_pure rfl call357 (less_is) rfl rfl ?_
      refine gn 3 ?_
      refine c_if rfl (fun h4 => ?_) (fun h4 => ?_)
      · refine gn 4 ?_
        refine c_regiong [15, 17] (by kernel_rfl) ?_
        refine rg [0, 1, 2, 3, 4, 5, 6, 7, 8, 1009, 10, 11, 12, 1013, 14] ?_
        refine gR 15 ?_
        intro _ _
        refine ld [16] ?_
        refine dR 17 ?_
        intro _ _
        refine gn 8 ?_
        have hjl : j < q.length := by omega
        refine n_round' (y := (q, j)) (swp q j (j - 1), j - 1) (by show j - 1 < j; omega) ?_ aK _ (.refl _) (List.Sublist.refl _)
        exact ⟨hq.swap (by omega) (by omega) (by omega) (by omega) (by omega), hi.step (of_decide_eq_true h4) (by omega) (by omega) (by omega), by show a ≤ j - 1; omega, by show j - 1 ≤ a + 1 + i; omega⟩
      · skip
        refine gn 11 ?_
        refine n_round' (y := (m, i)) (q, i + 1) (by show b - (i + 1) < b - i; omega) ?_ aK _ (.refl _) (List.Sublist.refl _)
        exact ⟨hq, hi.stop (.inr (of_decide_eq_false h4)), .inr (by show a + 1 + (i + 1) ≤ b; omega)⟩
    · skip
      refine gn 25 ?_
      refine n_round' (y := (m, i)) (q, i + 1) (by show b - (i + 1) < b - i; omega) ?_ aK _ (.refl _) (List.Sublist.refl _)
      exact ⟨hq, hi.stop (.inl (by omega)), .inr (by show a + 1 + (i + 1) ≤ b; omega)⟩
  · skip
    refine gn 4 ?_
    refine n_fn0 results351 ?_
    exact ⟨rfl, m, ⟨hp, hs.less (Nat.le_refl _) (by omega)⟩, rfl⟩
end
end Go.Proofs.A8

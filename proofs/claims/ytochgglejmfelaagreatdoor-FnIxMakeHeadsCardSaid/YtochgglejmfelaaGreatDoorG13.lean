/- Rows of numbers, sorted in memory: partitions; Rows of numbers, sorted in memory: bits, patterns broken; Rows of numbers, sorted in memory: the whole; Rows of records: their order's methods. (A part of the proof of this: for every input laws.FnIxMakeHeads returns true and its arguments read as they did, the listed package variables being what the program lays) -/
import Derived.Test.YtochgglejmfelaaGreatDoorSlZ
import Derived.Test.YtochgglejmfelaaGreatDoorG12
import Derived.Test.YtochgglejmfelaaGreatDoorG08
import Derived.Test.YtochgglejmfelaaGreatDoorG11
import Derived.Test.YtochgglejmfelaaGreatDoorG10
set_option linter.unusedVariables false
set_option linter.unusedSimpArgs false
namespace Go.Proofs.AI
open Go Go.Sl Tryz
set_option maxRecDepth 100000
set_option maxHeartbeats 1000000
section
variable {G : HP} {n : Nat} {tv : TypeId} {vv : Value} {l : List Int} {Q : SoC G tv vv n}
theorem peq_is {a b p : Nat} (hg : Q.Lg l) (h1 : n ≤ 100000) (hap : a ≤ p) (hpb : p < b) (hb : b ≤ n) :
    Ctr prog 349 [.iface tv vv, .int .i64 a, .int .i64 b, .int .i64 p] G [(Q.X l)] (fun r H' => ∃ (m : Nat) (l' : List Int), r = .int .i64 m ∧ PR a b l l' ∧ PeF a b m l' ∧ gd l' a = gd l p ∧ H' = [(Q.X l')]) := by
  have hn := Q.len hg
  have hsl := swp_length l a p
  have hsw : PR a b l (swp l a p) := .one (Nat.le_refl _) (by omega) hap hpb (by omega)
  refine fn_enter 54 func349 rfl ntmps349 rfl ?_
  intro w0
  refine gn 10 ?_
  first | refine o_l rfl (l_calli0 Q.hfS Q.hmS (Q.swap (by first | assumption | exact Q.sw (by assumption) (by omega) (by omega)) (by first | omega | (simp; omega)) (by first | omega | (simp; omega))) rfl rfl rfl (.cons .head .nil)) ?_ | refine o_l rfl (l_calli0 Q.hfS Q.hmS (Q.swap (by first | assumption | exact Q.sw (by assumption) (by omega) (by omega)) (by first | omega | (simp; omega)) (by first | omega | (simp; omega))) rfl rfl rfl (.cons (.tail .head) .nil)) ?_
  rintro ⟨r, H'⟩ ⟨rfl, rfl⟩
  simp only [List.cons_append, List.nil_append]
  refine gn 14 ?_
  refine c_loop (X := List Int × Nat × Nat) (fun y => [(0, .iface tv vv), (1, .int .i64 a), (9, .int .i64 y.2.1), (10, .int .i64 y.2.2)]) (fun y => [(Q.X y.1)]) (fun y => PR a b l y.1 ∧ Pe a b y.2.1 y.2.2 y.1 ∧ gd y.1 a = gd l p) (fun y => y.2.2 + 1 - y.2.1) (swp l a p, a + 1, b - 1) ⟨hsw, .start (by omega), by show gd (swp l a p) a = gd l p; rw [gd_swp (by omega) (by omega)]; split <;> simp_all⟩ aK (.refl _) ?_
  clear hsl hsw
  rintro ⟨m, i0, j0⟩ ⟨hm, hpe0, hga⟩
  simp only at hm hpe0 hga ⊢
  have hl := hm.len
  have hg' := Q.pr hm (by omega) hg
  refine gn 2 ?_
  refine c_cut (X := Nat) (fun i => [(0, .iface tv vv), (1, .int .i64 a), (9, .int .i64 i), (10, .int .i64 j0)]) (fun _ => [(Q.X m)]) (fun i => i0 ≤ i ∧ Pe a b i j0 m ∧ (i ≤ j0 → gd m a < gd m i)) ?_ ?_
  · skip
    refine gn 1 ?_
    refine c_loop (X := Nat) (fun i => [(0, .iface tv vv), (1, .int .i64 a), (9, .int .i64 i), (10, .int .i64 j0)]) (fun _ => [(Q.X m)]) (fun i => i0 ≤ i ∧ Pe a b i j0 m) (fun i => j0 + 1 - i) i0 ⟨Nat.le_refl _, hpe0⟩ aK (.refl _) ?_
    rintro i ⟨hii, hpe⟩
    have k1 := hpe.ai
    have k2 := hpe.jb
    refine gn 7 ?_
    refine o_splitp 22 rfl (fun h3 => ?_) (fun h3 => ?_)
    · refine gn 3 ?_
      refine o_inv rfl Q.hfL Q.hmL (Q.less (by first | assumption | exact Q.sw (by assumption) (by omega) (by omega)) (by first | omega | (simp; omega)) (by first | omega | (simp; omega))) rfl rfl rfl (.cons .head .nil) ?_
      refine gn 4 ?_
      refine c_if rfl (fun h4 => ?_) (fun h4 => ?_)
      · have h4' : ¬ gd m a < gd m i := by simpa using h4
        refine gn 9 ?_
        refine n_round' (y := i) (i + 1) (by omega) ⟨by omega, hpe.incr (by omega) h4'⟩ aK _ (.refl _) (List.Sublist.refl _)
      · skip
        have h4' : gd m a < gd m i := by simpa using h4
        refine gn 4 ?_
        exact n_cut i ⟨hii, hpe, fun _ => h4'⟩ aK (.refl _)
    · skip
      refine gn 13 ?_
      exact n_cut i ⟨hii, hpe, fun _ => by omega⟩ aK (.refl _)
  · clear hpe0
    rintro i ⟨hii, hpe0, hgt⟩
    refine gn 2 ?_
    refine c_cut (X := Nat) (fun j => [(0, .iface tv vv), (1, .int .i64 a), (9, .int .i64 i), (10, .int .i64 j)]) (fun _ => [(Q.X m)]) (fun j => j ≤ j0 ∧ Pe a b i j m ∧ (i ≤ j → ¬ gd m a < gd m j)) ?_ ?_
    · skip
      refine gn 1 ?_
      refine c_loop (X := Nat) (fun j => [(0, .iface tv vv), (1, .int .i64 a), (9, .int .i64 i), (10, .int .i64 j)]) (fun _ => [(Q.X m)]) (fun j => j ≤ j0 ∧ Pe a b i j m) (fun j => j + 1 - i) j0 ⟨Nat.le_refl _, hpe0⟩ aK (.refl _) ?_
      rintro j ⟨hjj, hpe⟩
      have k1 := hpe.ai
      have k2 := hpe.jb
      refine gn 7 ?_
      refine o_splitp 34 rfl (fun h3 => ?_) (fun h3 => ?_)
      · refine gn 3 ?_
        refine o_inv rfl Q.hfL Q.hmL (Q.less (by first | assumption | exact Q.sw (by assumption) (by omega) (by omega)) (by first | omega | (simp; omega)) (by first | omega | (simp; omega))) rfl rfl rfl (.cons .head .nil) ?_
        refine gn 3 ?_
        refine c_if rfl (fun h4 => ?_) (fun h4 => ?_)
        · have h4' : gd m a < gd m j := by simpa using h4
          refine gn 9 ?_
          refine n_round' (y := j) (j - 1) (by omega) ⟨by omega, hpe.decr (by omega) h4'⟩ aK _ (.refl _) (List.Sublist.refl _)
        · skip
          have h4' : ¬ gd m a < gd m j := by simpa using h4
          refine gn 4 ?_
          exact n_cut j ⟨hjj, hpe, fun _ => h4'⟩ aK (.refl _)
      · skip
        refine gn 12 ?_
        exact n_cut j ⟨hjj, hpe, fun _ => by omega⟩ aK (.refl _)
    · clear hpe0
      rintro j ⟨hjj, hpe, hle⟩
      have k1 := hpe.ai
      have k2 := hpe.jb
      refine gn 9 ?_
      refine c_ifp rfl (fun h5 => ?_) (fun h5 => ?_)
      · refine gn 13 ?_
        refine r_fn1 results349 rfl ?_
        exact ⟨i, m, rfl, hm, hpe.fin (by omega), hga, rfl⟩
      · skip
        refine gn 7 ?_
        first | refine o_l rfl (l_calli0 Q.hfS Q.hmS (Q.swap (by first | assumption | exact Q.sw (by assumption) (by omega) (by omega)) (by first | omega | (simp; omega)) (by first | omega | (simp; omega))) rfl rfl rfl (.cons .head .nil)) ?_ | refine o_l rfl (l_calli0 Q.hfS Q.hmS (Q.swap (by first | assumption | exact Q.sw (by assumption) (by omega) (by omega)) (by first | omega | (simp; omega)) (by first | omega | (simp; omega))) rfl rfl rfl (.cons (.tail .head) .nil)) ?_
        rintro ⟨r, H'⟩ ⟨rfl, rfl⟩
        simp only [List.cons_append, List.nil_append]
        refine gn 15 ?_
        refine n_round' (y := (m, i0, j0)) (swp m i j, i + 1, j - 1) (by show j - 1 + 1 - (i + 1) < j0 + 1 - i0; omega) ?_ aK _ (.refl _) (List.Sublist.refl _)
        refine ⟨hm.swap (by omega) (by omega) (by omega) (by omega) (by omega), hpe.swap (by omega) (hgt (by omega)) (hle (by omega)) (by omega), ?_⟩
        show gd (swp m i j) a = gd l p
        rw [gd_swp (by omega) (by omega), if_neg (by omega), if_neg (by omega), hga]
theorem part2_is {a b p : Nat} (hg : Q.Lg l) (h1 : n ≤ 100000) (hap : a ≤ p) (hpb : p < b) (hb : b ≤ n) :
    Ctr prog 350 [.iface tv vv, .int .i64 a, .int .i64 b, .int .i64 p] G [(Q.X l)] (fun r H' => ∃ (m : Nat) (t : Bool) (l' : List Int), r = .tuple #[.int .i64 m, .bool t] ∧ PR a b l l' ∧ PtF a b m l' ∧ H' = [(Q.X l')]) := by
  have hn := Q.len hg
  have hsl := swp_length l a p
  have hm : PR a b l (swp l a p) := .one (Nat.le_refl _) (by omega) hap hpb (by omega)
  have hl := hm.len
  have hg' := Q.pr hm (by omega) hg
  have hpe0 : Pt a b (a + 1) (b - 1) (swp l a p) := .start (by omega)
  refine fn_enter 98 func350 rfl ntmps350 rfl ?_
  intro w0
  refine gn 11 ?_
  first | refine o_l rfl (l_calli0 Q.hfS Q.hmS (Q.swap (by first | assumption | exact Q.sw (by assumption) (by omega) (by omega)) (by first | omega | (simp; omega)) (by first | omega | (simp; omega))) rfl rfl rfl (.cons .head .nil)) ?_ | refine o_l rfl (l_calli0 Q.hfS Q.hmS (Q.swap (by first | assumption | exact Q.sw (by assumption) (by omega) (by omega)) (by first | omega | (simp; omega)) (by first | omega | (simp; omega))) rfl rfl rfl (.cons (.tail .head) .nil)) ?_
  rintro ⟨r, H'⟩ ⟨rfl, rfl⟩
  simp only [List.cons_append, List.nil_append]
  refine gn 13 ?_
  generalize swp l a p = m at *
  obtain ⟨i0, hi0⟩ : ∃ i0, i0 = a + 1 := ⟨_, rfl⟩
  obtain ⟨j0, hj0⟩ : ∃ j0, j0 = b - 1 := ⟨_, rfl⟩
  rw [← hi0, ← hj0] at hpe0
  refine WC.less (s' := [(0, .iface tv vv), (1, .int .i64 a), (10, .int .i64 i0), (11, .int .i64 j0)]) (by subst hi0 hj0; exact aK) (List.Sublist.refl _) ?_
  clear hi0 hj0

  refine c_cut (X := Nat) (fun i => [(0, .iface tv vv), (1, .int .i64 a), (10, .int .i64 i), (11, .int .i64 j0)]) (fun _ => [(Q.X m)]) (fun i => i0 ≤ i ∧ Pt a b i j0 m ∧ (i ≤ j0 → ¬ gd m i < gd m a)) ?_ ?_
  · skip
    refine gn 1 ?_
    refine c_loop (X := Nat) (fun i => [(0, .iface tv vv), (1, .int .i64 a), (10, .int .i64 i), (11, .int .i64 j0)]) (fun _ => [(Q.X m)]) (fun i => i0 ≤ i ∧ Pt a b i j0 m) (fun i => j0 + 1 - i) i0 ⟨Nat.le_refl _, hpe0⟩ aK (.refl _) ?_
    rintro i ⟨hii, hpe⟩
    have k1 := hpe.ai
    have k2 := hpe.jb
    refine gn 7 ?_
    refine o_splitp 23 rfl (fun h3 => ?_) (fun h3 => ?_)
    · refine gn 3 ?_
      refine o_inv rfl Q.hfL Q.hmL (Q.less (by first | assumption | exact Q.sw (by assumption) (by omega) (by omega)) (by first | omega | (simp; omega)) (by first | omega | (simp; omega))) rfl rfl rfl (.cons .head .nil) ?_
      refine gn 3 ?_
      refine c_if rfl (fun h4 => ?_) (fun h4 => ?_)
      · have h4' : gd m i < gd m a := by simpa using h4
        refine gn 9 ?_
        refine n_round' (y := i) (i + 1) (by omega) ⟨by omega, hpe.incr (by omega) h4'⟩ aK _ (.refl _) (List.Sublist.refl _)
      · skip
        have h4' : ¬ gd m i < gd m a := by simpa using h4
        refine gn 4 ?_
        exact n_cut i ⟨hii, hpe, fun _ => h4'⟩ aK (.refl _)
    · skip
      refine gn 12 ?_
      exact n_cut i ⟨hii, hpe, fun _ => by omega⟩ aK (.refl _)
  · clear hpe0
    rintro i ⟨hii, hpe0, hgt⟩
    refine gn 2 ?_
    refine c_cut (X := Nat) (fun j => [(0, .iface tv vv), (1, .int .i64 a), (10, .int .i64 i), (11, .int .i64 j)]) (fun _ => [(Q.X m)]) (fun j => j ≤ j0 ∧ Pt a b i j m ∧ (i ≤ j → gd m j < gd m a)) ?_ ?_
    · skip
      refine gn 1 ?_
      refine c_loop (X := Nat) (fun j => [(0, .iface tv vv), (1, .int .i64 a), (10, .int .i64 i), (11, .int .i64 j)]) (fun _ => [(Q.X m)]) (fun j => j ≤ j0 ∧ Pt a b i j m) (fun j => j + 1 - i) j0 ⟨Nat.le_refl _, hpe0⟩ aK (.refl _) ?_
      rintro j ⟨hjj, hpe⟩
      have k1 := hpe.ai
      have k2 := hpe.jb
      refine gn 7 ?_
      refine o_splitp 34 rfl (fun h3 => ?_) (fun h3 => ?_)
      · refine gn 3 ?_
        refine o_inv rfl Q.hfL Q.hmL (Q.less (by first | assumption | exact Q.sw (by assumption) (by omega) (by omega)) (by first | omega | (simp; omega)) (by first | omega | (simp; omega))) rfl rfl rfl (.cons .head .nil) ?_
        refine gn 4 ?_
        refine c_if rfl (fun h4 => ?_) (fun h4 => ?_)
        · have h4' : ¬ gd m j < gd m a := by simpa using h4
          refine gn 9 ?_
          refine n_round' (y := j) (j - 1) (by omega) ⟨by omega, hpe.decr (by omega) h4'⟩ aK _ (.refl _) (List.Sublist.refl _)
        · skip
          have h4' : gd m j < gd m a := by simpa using h4
          refine gn 4 ?_
          exact n_cut j ⟨hjj, hpe, fun _ => h4'⟩ aK (.refl _)
      · skip
        refine gn 13 ?_
        exact n_cut j ⟨hjj, hpe, fun _ => by omega⟩ aK (.refl _)
    · clear hpe0
      rintro j ⟨hjj, hpe, hle⟩
      have k1 := hpe.ai
      have k2 := hpe.jb
      have k3 := hpe.ij
      refine gn 9 ?_
      refine c_ifp rfl (fun h5 => ?_) (fun h5 => ?_)
      · refine gn 5 ?_
        first | refine o_l rfl (l_calli0 Q.hfS Q.hmS (Q.swap (by first | assumption | exact Q.sw (by assumption) (by omega) (by omega)) (by first | omega | (simp; omega)) (by first | omega | (simp; omega))) rfl rfl rfl (.cons .head .nil)) ?_ | refine o_l rfl (l_calli0 Q.hfS Q.hmS (Q.swap (by first | assumption | exact Q.sw (by assumption) (by omega) (by omega)) (by first | omega | (simp; omega)) (by first | omega | (simp; omega))) rfl rfl rfl (.cons (.tail .head) .nil)) ?_
        rintro ⟨r, H'⟩ ⟨rfl, rfl⟩
        simp only [List.cons_append, List.nil_append]
        refine gn 10 ?_
        refine r_fn (l := [.tmp 8, .tmp 9]) results350 rfl rfl ?_
        exact ⟨j, true, swp m j a, rfl, hm.swap (by omega) (by omega) (by omega) (by omega) (by omega), hpe.fin (by omega) (by omega), rfl⟩
      · skip
        refine gn 7 ?_
        first | refine o_l rfl (l_calli0 Q.hfS Q.hmS (Q.swap (by first | assumption | exact Q.sw (by assumption) (by omega) (by omega)) (by first | omega | (simp; omega)) (by first | omega | (simp; omega))) rfl rfl rfl (.cons .head .nil)) ?_ | refine o_l rfl (l_calli0 Q.hfS Q.hmS (Q.swap (by first | assumption | exact Q.sw (by assumption) (by omega) (by omega)) (by first | omega | (simp; omega)) (by first | omega | (simp; omega))) rfl rfl rfl (.cons (.tail .head) .nil)) ?_
        rintro ⟨r, H'⟩ ⟨rfl, rfl⟩
        simp only [List.cons_append, List.nil_append]
        refine gn 18 ?_
        refine c_loop (X := List Int × Nat × Nat) (fun y => [(0, .iface tv vv), (1, .int .i64 a), (10, .int .i64 y.2.1), (11, .int .i64 y.2.2)]) (fun y => [(Q.X y.1)]) (fun y => PR a b l y.1 ∧ Pt a b y.2.1 y.2.2 y.1) (fun y => y.2.2 + 1 - y.2.1) (swp m i j, i + 1, j - 1) ⟨hm.swap (by omega) (by omega) (by omega) (by omega) (by omega), hpe.swap (by omega) (hgt (by omega)) (hle (by omega)) (by omega)⟩ aK (.refl _) ?_
        clear hm hpe hle hgt hl k1 k2 k3 hii hjj h5
        rintro ⟨m, i0, j0⟩ ⟨hm, hpe0⟩
        simp only at hm hpe0 ⊢
        have hl := hm.len
        have hg' := Q.pr hm (by omega) hg
        refine gn 2 ?_
        refine c_cut (X := Nat) (fun i => [(0, .iface tv vv), (1, .int .i64 a), (10, .int .i64 i), (11, .int .i64 j0)]) (fun _ => [(Q.X m)]) (fun i => i0 ≤ i ∧ Pt a b i j0 m ∧ (i ≤ j0 → ¬ gd m i < gd m a)) ?_ ?_
        · skip
          refine gn 1 ?_
          refine c_loop (X := Nat) (fun i => [(0, .iface tv vv), (1, .int .i64 a), (10, .int .i64 i), (11, .int .i64 j0)]) (fun _ => [(Q.X m)]) (fun i => i0 ≤ i ∧ Pt a b i j0 m) (fun i => j0 + 1 - i) i0 ⟨Nat.le_refl _, hpe0⟩ aK (.refl _) ?_
          rintro i ⟨hii, hpe⟩
          have k1 := hpe.ai
          have k2 := hpe.jb
          refine gn 7 ?_
          refine o_splitp 62 rfl (fun h3 => ?_) (fun h3 => ?_)
          · refine gn 3 ?_
            refine o_inv rfl Q.hfL Q.hmL (Q.less (by first | assumption | exact Q.sw (by assumption) (by omega) (by omega)) (by first | omega | (simp; omega)) (by first | omega | (simp; omega))) rfl rfl rfl (.cons .head .nil) ?_
            refine gn 3 ?_
            refine c_if rfl (fun h4 => ?_) (fun h4 => ?_)
            · have h4' : gd m i < gd m a := by simpa using h4
              refine gn 9 ?_
              refine n_round' (y := i) (i + 1) (by omega) ⟨by omega, hpe.incr (by omega) h4'⟩ aK _ (.refl _) (List.Sublist.refl _)
            · skip
              have h4' : ¬ gd m i < gd m a := by simpa using h4
              refine gn 4 ?_
              exact n_cut i ⟨hii, hpe, fun _ => h4'⟩ aK (.refl _)
          · skip
            refine gn 12 ?_
            exact n_cut i ⟨hii, hpe, fun _ => by omega⟩ aK (.refl _)
        · clear hpe0
          rintro i ⟨hii, hpe0, hgt⟩
          refine gn 2 ?_
          refine c_cut (X := Nat) (fun j => [(0, .iface tv vv), (1, .int .i64 a), (10, .int .i64 i), (11, .int .i64 j)]) (fun _ => [(Q.X m)]) (fun j => j ≤ j0 ∧ Pt a b i j m ∧ (i ≤ j → gd m j < gd m a)) ?_ ?_
          · skip
            refine gn 1 ?_
            refine c_loop (X := Nat) (fun j => [(0, .iface tv vv), (1, .int .i64 a), (10, .int .i64 i), (11, .int .i64 j)]) (fun _ => [(Q.X m)]) (fun j => j ≤ j0 ∧ Pt a b i j m) (fun j => j + 1 - i) j0 ⟨Nat.le_refl _, hpe0⟩ aK (.refl _) ?_
            rintro j ⟨hjj, hpe⟩
            have k1 := hpe.ai
            have k2 := hpe.jb
            refine gn 7 ?_
            refine o_splitp 73 rfl (fun h3 => ?_) (fun h3 => ?_)
            · refine gn 3 ?_
              refine o_inv rfl Q.hfL Q.hmL (Q.less (by first | assumption | exact Q.sw (by assumption) (by omega) (by omega)) (by first | omega | (simp; omega)) (by first | omega | (simp; omega))) rfl rfl rfl (.cons .head .nil) ?_
              refine gn 4 ?_
              refine c_if rfl (fun h4 => ?_) (fun h4 => ?_)
              · have h4' : ¬ gd m j < gd m a := by simpa using h4
                refine gn 9 ?_
                refine n_round' (y := j) (j - 1) (by omega) ⟨by omega, hpe.decr (by omega) h4'⟩ aK _ (.refl _) (List.Sublist.refl _)
              · skip
                have h4' : gd m j < gd m a := by simpa using h4
                refine gn 4 ?_
                exact n_cut j ⟨hjj, hpe, fun _ => h4'⟩ aK (.refl _)
            · skip
              refine gn 13 ?_
              exact n_cut j ⟨hjj, hpe, fun _ => by omega⟩ aK (.refl _)
          · clear hpe0
            rintro j ⟨hjj, hpe, hle⟩
            have k1 := hpe.ai
            have k2 := hpe.jb
            have k3 := hpe.ij
            refine gn 9 ?_
            refine c_ifp rfl (fun h5 => ?_) (fun h5 => ?_)
            · refine gn 11 ?_
              first | refine o_l rfl (l_calli0 Q.hfS Q.hmS (Q.swap (by first | assumption | exact Q.sw (by assumption) (by omega) (by omega)) (by first | omega | (simp; omega)) (by first | omega | (simp; omega))) rfl rfl rfl (.cons .head .nil)) ?_ | refine o_l rfl (l_calli0 Q.hfS Q.hmS (Q.swap (by first | assumption | exact Q.sw (by assumption) (by omega) (by omega)) (by first | omega | (simp; omega)) (by first | omega | (simp; omega))) rfl rfl rfl (.cons (.tail .head) .nil)) ?_
              rintro ⟨r, H'⟩ ⟨rfl, rfl⟩
              simp only [List.cons_append, List.nil_append]
              refine gn 10 ?_
              refine r_fn (l := [.tmp 8, .tmp 9]) results350 rfl rfl ?_
              exact ⟨j, false, swp m j a, rfl, hm.swap (by omega) (by omega) (by omega) (by omega) (by omega), hpe.fin (by omega) (by omega), rfl⟩
            · skip
              refine gn 7 ?_
              first | refine o_l rfl (l_calli0 Q.hfS Q.hmS (Q.swap (by first | assumption | exact Q.sw (by assumption) (by omega) (by omega)) (by first | omega | (simp; omega)) (by first | omega | (simp; omega))) rfl rfl rfl (.cons .head .nil)) ?_ | refine o_l rfl (l_calli0 Q.hfS Q.hmS (Q.swap (by first | assumption | exact Q.sw (by assumption) (by omega) (by omega)) (by first | omega | (simp; omega)) (by first | omega | (simp; omega))) rfl rfl rfl (.cons (.tail .head) .nil)) ?_
              rintro ⟨r, H'⟩ ⟨rfl, rfl⟩
              simp only [List.cons_append, List.nil_append]
              refine gn 15 ?_
              refine n_round' (y := (m, i0, j0)) (swp m i j, i + 1, j - 1) (by show j - 1 + 1 - (i + 1) < j0 + 1 - i0; omega) ?_ aK _ (.refl _) (List.Sublist.refl _)
              exact ⟨hm.swap (by omega) (by omega) (by omega) (by omega) (by omega), hpe.swap (by omega) (hgt (by omega)) (hle (by omega)) (by omega)⟩
end
end Go.Proofs.AI
namespace Go.Proofs.AI
open Go Go.Sl Tryz
set_option maxRecDepth 100000
set_option maxHeartbeats 1000000
section
variable {G : HP} {n : Nat} {tv : TypeId} {vv : Value} {l : List Int} {Q : SoC G tv vv n}
theorem npt_is {x : Nat} (h : x < 256) : CtrP prog 181 [.int .i64 x] G (.int .u64 (2 ^ nb x : Nat)) := by
  have hk := (nb_is h).1
  refine fn_enter 10 func181 rfl ntmps181 rfl ?_
  intro w0
  refine gn 9 ?_
  refine o_pure rfl call66 (A4.len_is h) rfl rfl ?_
  refine gn 12 ?_
  refine r_fn1 results181 rfl ?_
  generalize nb x = k at hk
  have hc : k = 0 ∨ k = 1 ∨ k = 2 ∨ k = 3 ∨ k = 4 ∨ k = 5 ∨ k = 6 ∨ k = 7 ∨ k = 8 := by omega
  rcases hc with rfl | rfl | rfl | rfl | rfl | rfl | rfl | rfl | rfl <;> exact ⟨rfl, rfl⟩
theorem next_is {g : Nat} {z : Int} : Ctr prog 182 [.pointer (some ⟨g, 0, none⟩)] G [(g, C [.int .u64 z] 298)] (fun r H' => ∃ y : Int, r = .int .u64 y ∧ H' = [(g, C [.int .u64 y] 298)]) := by
  refine fn_enter 33 func182 rfl ntmps182 rfl ?_
  intro w0
  refine gn 6 ?_
  refine c_regiong [9] (by kernel_rfl) ?_
  refine lg [0, 1, 1002, 3, 4, 1005, 6, 7, 8] ?_
  refine gT 9 ?_
  intro _ _
  refine gn 3 ?_
  refine c_regiong [9] (by kernel_rfl) ?_
  refine lg [0, 1, 1002, 3, 4, 1005, 6, 7, 8] ?_
  refine gT 9 ?_
  intro _ _
  refine gn 3 ?_
  refine c_regiong [9] (by kernel_rfl) ?_
  refine lg [0, 1, 1002, 3, 4, 1005, 6, 7, 8] ?_
  refine gT 9 ?_
  intro _ _
  refine gn 11 ?_
  refine r_fn1 results182 rfl ?_
  exact ⟨_, rfl, rfl⟩
theorem brk_is {a b : Nat} (hg : Q.Lg l) (h1 : n ≤ 255) (hab : a + 8 ≤ b) (hb : b ≤ n) :
    Ctr prog 345 [.iface tv vv, .int .i64 a, .int .i64 b] G [(Q.X l)] (fun r H' => r = .tuple #[] ∧ ∃ l', PR a b l l' ∧ H' = [(Q.X l')]) := by
  have hn := Q.len hg
  obtain ⟨h, rfl⟩ : ∃ h, b = a + h := ⟨b - a, by omega⟩
  have hnb := (nb_is (x := h) (by omega)).2 (by omega)
  refine fn_enter 53 func345 rfl ntmps345 rfl ?_
  intro w0
  refine gn 14 ?_
  simp only [Nat.add_sub_cancel_left]
  refine c_ifp rfl (fun h2 => ?_) (fun h2 => ?_)
  · skip
    refine gn 4 ?_
    refine oZ ?_; intro g7 _
    refine oT ?_; intro _ _
    refine gn 5 ?_
    refine o_pure rfl call181 (npt_is (x := h) (by omega)) rfl rfl ?_
    refine gn 15 ?_
    generalize 2 ^ nb h = M at hnb
    have e1 : (a : Int) + (h : Int) / 4 * 2 - 1 = ((a + h / 4 * 2 - 1 : Nat) : Int) := by omega
    rw [e1]
    refine c_loop (X := List Int × Nat × Int) (fun y => [(0, .iface tv vv), (1, .int .i64 a), (2, .int .i64 (a + h : Nat)), (6, .int .i64 h), (7, .pointer (some ⟨g7, 0, none⟩)), (8, .int .u64 M), (9, .int .i64 y.2.1)]) (fun y => [(Q.X y.1), (g7, C [.int .u64 y.2.2] 298)]) (fun y => PR a (a + h) l y.1 ∧ a ≤ y.2.1 ∧ y.2.1 ≤ a + h / 4 * 2 + 2) (fun y => a + h / 4 * 2 + 2 - y.2.1) (l, a + h / 4 * 2 - 1, (h : Int)) ⟨.refl, by show a ≤ a + h / 4 * 2 - 1; omega, by show a + h / 4 * 2 - 1 ≤ _; omega⟩ aK (List.Perm.swap _ _ _) ?_
    rintro ⟨m, i, z⟩ ⟨hm, hi0, hi1⟩
    simp only at hm hi0 hi1 ⊢
    have hl := hm.len
    have hg' := Q.pr hm (by omega) hg
    refine gn 13 ?_
    refine c_ifp rfl (fun h3 => ?_) (fun h3 => ?_)
    · refine gn 6 ?_
      refine oL (lC next_is rfl (.cons (.tail .head) .nil)) ?_
      rintro ⟨r, H'⟩ ⟨z', rfl, rfl⟩
      simp only [List.cons_append, List.nil_append]
      refine gn 2 ?_
      rw [show ((M : Nat) : Int) - 1 = ((M - 1 : Nat) : Int) by omega]
      obtain ⟨q, hq, hqM⟩ := ib_and (kd := .u64) rfl (m := z') (z := M - 1) (by show M - 1 < 18446744073709551616; omega)
      refine gn 1 ?_
      rw [hq]
      refine gn 12 ?_
      refine c_ifp rfl (fun h4 => ?_) (fun h4 => ?_)
      · refine gn 13 ?_
        first | refine o_l rfl (l_calli0 Q.hfS Q.hmS (Q.swap (by first | assumption | exact Q.sw (by assumption) (by omega) (by omega)) (by first | omega | (simp; omega)) (by first | omega | (simp; omega))) rfl rfl rfl (.cons .head .nil)) ?_ | refine o_l rfl (l_calli0 Q.hfS Q.hmS (Q.swap (by first | assumption | exact Q.sw (by assumption) (by omega) (by omega)) (by first | omega | (simp; omega)) (by first | omega | (simp; omega))) rfl rfl rfl (.cons (.tail .head) .nil)) ?_
        rintro ⟨r, H'⟩ ⟨rfl, rfl⟩
        simp only [List.cons_append, List.nil_append]
        refine gn 8 ?_
        refine n_round' (y := (m, i, z)) (swp m i (a + (q - h)), i + 1, z') (by show a + h / 4 * 2 + 2 - (i + 1) < a + h / 4 * 2 + 2 - i; omega) ?_ aK _ (.refl _) (List.Sublist.refl _)
        exact ⟨hm.swap (by omega) (by omega) (by omega) (by omega) (by omega), by show a ≤ i + 1; omega, by show i + 1 ≤ a + h / 4 * 2 + 2; omega⟩
      · skip
        refine gn 8 ?_
        first | refine o_l rfl (l_calli0 Q.hfS Q.hmS (Q.swap (by first | assumption | exact Q.sw (by assumption) (by omega) (by omega)) (by first | omega | (simp; omega)) (by first | omega | (simp; omega))) rfl rfl rfl (.cons .head .nil)) ?_ | refine o_l rfl (l_calli0 Q.hfS Q.hmS (Q.swap (by first | assumption | exact Q.sw (by assumption) (by omega) (by omega)) (by first | omega | (simp; omega)) (by first | omega | (simp; omega))) rfl rfl rfl (.cons (.tail .head) .nil)) ?_
        rintro ⟨r, H'⟩ ⟨rfl, rfl⟩
        simp only [List.cons_append, List.nil_append]
        refine gn 8 ?_
        refine n_round' (y := (m, i, z)) (swp m i (a + q), i + 1, z') (by show a + h / 4 * 2 + 2 - (i + 1) < a + h / 4 * 2 + 2 - i; omega) ?_ aK _ (.refl _) (List.Sublist.refl _)
        exact ⟨hm.swap (by omega) (by omega) (by omega) (by omega) (by omega), by show a ≤ i + 1; omega, by show i + 1 ≤ a + h / 4 * 2 + 2; omega⟩
    · skip
      refine gn 4 ?_
      refine WN.sel (.cons .head .nil) ?_
      refine n_fn0 results345 ?_
      exact ⟨rfl, m, hm, rfl⟩
  · exact absurd h2 (by omega)
end
end Go.Proofs.AI
namespace Go.Proofs.AI
open Go Go.Sl Tryz
set_option maxRecDepth 100000
set_option maxHeartbeats 2000000
section
variable {G : HP} {n : Nat} {tv : TypeId} {vv : Value} {l : List Int} {Q : SoC G tv vv n}
theorem pdq_is (h1 : n ≤ 255) : ∀ (h : Nat) {l : List Int} {a b : Nat} {lim : Int} (_ : Q.Lg l) (_ : a ≤ b) (_ : b ≤ n) (_ : b - a = h) (_ : Lb a b l),
    Ctr prog 337 [.iface tv vv, .int .i64 a, .int .i64 b, .int .i64 lim] G [(Q.X l)] (fun r H' => r = .tuple #[] ∧ ∃ l', (PR a b l l' ∧ SR a b l') ∧ H' = [(Q.X l')]) := by
  intro h
  induction h using Nat.strongRecOn with
  | ind h ih =>
  intro l a b lim hg hab hb hh hlb
  have hn := Q.len hg
  refine fn_enter 129 func337 rfl ntmps337 rfl ?_
  intro w0
  refine gn 11 ?_
  refine c_loop (X := List Int × Nat × Nat × Int × Bool × Bool) (fun y => [(0, .iface tv vv), (1, .int .i64 y.2.1), (2, .int .i64 y.2.2.1), (3, .int .i64 y.2.2.2.1), (8, .bool y.2.2.2.2.1), (9, .bool y.2.2.2.2.2)]) (fun y => [(Q.X y.1)]) (fun y => PR a b l y.1 ∧ Fin a b y.2.1 y.2.2.1 y.1 ∧ Lb y.2.1 y.2.2.1 y.1 ∧ a ≤ y.2.1 ∧ y.2.1 ≤ y.2.2.1 ∧ y.2.2.1 ≤ b) (fun y => y.2.2.1 - y.2.1) (l, a, b, lim, true, true) ⟨.refl, .start, hlb, Nat.le_refl _, hab, Nat.le_refl _⟩ aK (.refl _) ?_
  clear lim hlb
  rintro ⟨m, a', b', lim, bl, bp⟩ ⟨hm, hfin, hlb, ha, hab', hb'⟩
  simp only at hm hfin hlb ha hab' hb' ⊢
  have hl := hm.len
  have hg' := Q.pr hm (by omega) hg
  refine gn 16 ?_
  refine c_ifp rfl (fun h2 => ?_) (fun h2 => ?_)
  · refine gn 5 ?_
    refine oL (lC (ins_is (Q.pr hm (by omega) hg) (by omega) hab' (by omega)) rfl (.cons .head .nil)) ?_
    rintro ⟨r, H'⟩ ⟨rfl, m', ⟨hp, hs⟩, rfl⟩
    simp only [List.cons_append, List.nil_append]
    refine gn 3 ?_
    refine r_fn0 results337 ?_
    exact ⟨rfl, m', ⟨hm.trans (hp.mono ha hb' (by omega)), hfin m' hp hs⟩, rfl⟩
  · skip
    refine gn 9 ?_
    refine c_ifp rfl (fun h3 => ?_) (fun h3 => ?_)
    · refine gn 5 ?_
      refine oL (lC (heap_is (Q.pr hm (by omega) hg) (by omega) (by omega) (by omega)) rfl (.cons .head .nil)) ?_
      rintro ⟨r, H'⟩ ⟨rfl, m', ⟨hp, hs⟩, rfl⟩
      simp only [List.cons_append, List.nil_append]
      refine gn 3 ?_
      refine r_fn0 results337 ?_
      exact ⟨rfl, m', ⟨hm.trans (hp.mono ha hb' (by omega)), hfin m' hp hs⟩, rfl⟩
    · skip
      have h12 : 12 < b' - a' := by omega
      clear h2 h3
      refine gn 3 ?_
      refine c_cut (X := List Int × Int) (fun y => [(0, .iface tv vv), (1, .int .i64 a'), (2, .int .i64 b'), (3, .int .i64 y.2), (8, .bool bl), (9, .bool bp), (10, .int .i64 (b' - a' : Nat))]) (fun y => [(Q.X y.1)]) (fun y => PR a' b' m y.1) ?_ ?_
      · skip
        refine gn 6 ?_
        refine c_if rfl (fun h4 => ?_) (fun h4 => ?_)
        · refine gn 5 ?_
          refine oL (lC (brk_is (Q.pr hm (by omega) hg) h1 (by omega) (by omega)) rfl (.cons .head .nil)) ?_
          rintro ⟨r, H'⟩ ⟨rfl, m', hp, rfl⟩
          simp only [List.cons_append, List.nil_append]
          refine gn 7 ?_
          exact n_cut (m', _) hp aK (.refl _)
        · skip
          refine gn 1 ?_
          exact n_cut (m, lim) .refl aK (.refl _)
      · rintro ⟨m1, lim1⟩ hp1
        simp only at hp1 ⊢
        replace hm : PR a b l m1 := hm.trans (hp1.mono ha hb' (by omega))
        replace hfin := hfin.pr hp1
        replace hlb := hlb.pr hp1 (Nat.le_refl _) (Nat.le_refl _)
        replace hl : m1.length = l.length := hm.len
        have hg' := Q.pr hm (by omega) hg
        clear hp1
        refine gn 6 ?_
        refine oL (lC (piv_is (Q.pr hm (by omega) hg) (by omega) (by omega) (by omega)) rfl (.cons .head .nil)) ?_
        rintro ⟨r, H'⟩ ⟨p, z, rfl, hp, rfl⟩
        simp only [List.cons_append, List.nil_append]
        refine gn 8 ?_
        refine c_cut (X := List Int × Nat × Int) (fun y => [(0, .iface tv vv), (1, .int .i64 a'), (2, .int .i64 b'), (3, .int .i64 lim1), (8, .bool bl), (9, .bool bp), (10, .int .i64 (b' - a' : Nat)), (11, .int .i64 y.2.1), (12, .int .i64 y.2.2)]) (fun y => [(Q.X y.1)]) (fun y => PR a' b' m1 y.1 ∧ a' ≤ y.2.1 ∧ y.2.1 < b') ?_ ?_
        · skip
          refine gn 6 ?_
          refine c_ifp rfl (fun h4 => ?_) (fun h4 => ?_)
          · refine gn 5 ?_
            refine oL (lC (rev_is (Q.pr hm (by omega) hg) (by omega) (by omega) (by omega)) rfl (.cons .head .nil)) ?_
            rintro ⟨r, H'⟩ ⟨rfl, m', hp', rfl⟩
            simp only [List.cons_append, List.nil_append]
            refine gn 16 ?_
            exact n_cut (m', b' - 1 - (p - a'), 1) ⟨hp', by show a' ≤ b' - 1 - (p - a'); omega, by show b' - 1 - (p - a') < b'; omega⟩ aK (.refl _)
          · skip
            refine gn 1 ?_
            exact n_cut (m1, p, z) ⟨.refl, hp⟩ aK (.refl _)
        · clear hp p z
          rintro ⟨m2, p, z⟩ ⟨hp1, hp⟩
          simp only at hp1 hp ⊢
          replace hm : PR a b l m2 := hm.trans (hp1.mono ha hb' (by omega))
          replace hfin := hfin.pr hp1
          replace hlb := hlb.pr hp1 (Nat.le_refl _) (Nat.le_refl _)
          replace hl : m2.length = l.length := hm.len
          have hg' := Q.pr hm (by omega) hg
          clear hp1
          refine gn 2 ?_
          refine c_cut (X := List Int) (fun _ => [(0, .iface tv vv), (1, .int .i64 a'), (2, .int .i64 b'), (3, .int .i64 lim1), (8, .bool bl), (9, .bool bp), (10, .int .i64 (b' - a' : Nat)), (11, .int .i64 p)]) (fun m => [(Q.X m)]) (fun m => PR a' b' m2 m) ?_ ?_
          · skip
            refine gn 4 ?_
            refine o_split 62 rfl (fun h4 => ?_) (fun h4 => ?_)
            · refine gn 3 ?_
              refine o_split 65 rfl (fun h5 => ?_) (fun h5 => ?_)
              · refine gn 5 ?_
                refine c_ifp rfl (fun h6 => ?_) (fun h6 => ?_)
                · refine gn 5 ?_
                  refine oL (lC (part_is (Q.pr hm (by omega) hg) (by omega) (by omega) (by omega) hlb) rfl (.cons .head .nil)) ?_
                  rintro ⟨r, H'⟩ ⟨t, m', rfl, hp', hs', rfl⟩
                  simp only [List.cons_append, List.nil_append]
                  refine gn 2 ?_
                  refine c_if rfl (fun h7 => ?_) (fun h7 => ?_)
                  · refine gn 1 ?_
                    refine r_fn0 results337 ?_
                    exact ⟨rfl, m', ⟨hm.trans (hp'.mono ha hb' (by omega)), hfin m' hp' (hs' h7)⟩, rfl⟩
                  · skip
                    refine gn 1 ?_
                    exact n_cut m' hp' aK (.refl _)
                · skip
                  refine gn 1 ?_
                  exact n_cut m2 .refl aK (.refl _)
              · skip
                refine gn 7 ?_
                exact n_cut m2 .refl aK (.refl _)
            · skip
              refine gn 10 ?_
              exact n_cut m2 .refl aK (.refl _)
          · rintro m3 hp1
            replace hm : PR a b l m3 := hm.trans (hp1.mono ha hb' (by omega))
            replace hfin := hfin.pr hp1
            replace hlb := hlb.pr hp1 (Nat.le_refl _) (Nat.le_refl _)
            replace hl : m3.length = l.length := hm.len
            have hg' := Q.pr hm (by omega) hg
            clear hp1
            refine gn 7 ?_
            refine o_splitp 75 rfl (fun h4 => ?_) (fun h4 => ?_)
            · refine gn 4 ?_
              refine o_inv rfl Q.hfL Q.hmL (Q.less (by first | assumption | exact Q.sw (by assumption) (by omega) (by omega)) (by first | omega | (simp; omega)) (by first | omega | (simp; omega))) rfl rfl rfl (.cons .head .nil) ?_
              refine gn 4 ?_
              refine c_if rfl (fun h5 => ?_) (fun h5 => ?_)
              · have h5' : ¬ gd m3 (a' - 1) < gd m3 p := by simpa using h5
                refine gn 6 ?_
                refine oL (lC (peq_is (p := p) (Q.pr hm (by omega) hg) (by omega) hp.1 hp.2 (by omega)) rfl (.cons .head .nil)) ?_
                rintro ⟨r, H'⟩ ⟨mid, m4, rfl, hp1, hpe, hga, rfl⟩
                simp only [List.cons_append, List.nil_append]
                have k1 := hpe.am
                have k2 := hpe.mb
                have hmin : ∀ i, a' ≤ i → i < b' → gd m4 a' ≤ gd m4 i := by
                  have hlo : ∀ i, a' ≤ i → i < b' → gd m3 p ≤ gd m3 i := fun i i1 i2 => by
                    rcases hlb with h | h
                    · omega
                    · exact Int.le_trans (Int.not_lt.1 h5') (h i i1 i2)
                  have := hp1.all (p := fun z => gd m3 p ≤ z) hlo
                  intro i i1 i2
                  rw [hga]
                  exact this i i1 i2
                refine gn 12 ?_
                refine n_round' (y := (m, a', b', lim, bl, bp)) (m4, mid, b', lim1, bl, bp) (by show b' - mid < b' - a'; omega) ?_ aK _ (.refl _) (List.Sublist.refl _)
                have hm4 : PR a b l m4 := hm.trans (hp1.mono ha hb' (by omega))
                exact ⟨hm4, hpe.all (hfin.pr hp1) hmin (by have := hm4.len; omega), hpe.lb, by show a ≤ mid; omega, k2, hb'⟩
              · skip
                refine gn 8 ?_
                refine oL (lC (part2_is (p := p) (Q.pr hm (by omega) hg) (by omega) hp.1 hp.2 (by omega)) rfl (.cons .head .nil)) ?_
                rintro ⟨r, H'⟩ ⟨mid, t, m4, rfl, hp1, hpt, rfl⟩
                simp only [List.cons_append, List.nil_append]
                have k1 := hpt.am
                have k2 := hpt.mb
                have hm4 : PR a b l m4 := hm.trans (hp1.mono ha hb' (by omega))
                have hfin4 := hfin.pr hp1
                have hlb4 := hlb.pr hp1 (Nat.le_refl _) (Nat.le_refl _)
                have hl4 : m4.length = l.length := hm4.len
                refine gn 39 ?_
                refine c_ifp rfl (fun h6 => ?_) (fun h6 => ?_)
                · refine gn 14 ?_
                  refine oL (lC (ih (mid - a') (by omega) (a := a') (b := mid) (Q.pr hm4 (by omega) hg) k1 (by omega) rfl (hlb4.less (by omega))) rfl (.cons .head .nil)) ?_
                  rintro ⟨r, H'⟩ ⟨rfl, m5, ⟨hp5, hs5⟩, rfl⟩
                  simp only [List.cons_append, List.nil_append]
                  refine gn 8 ?_
                  have hq5 : PR a' b' m4 m5 := hp5.mono (Nat.le_refl _) (by omega) (by omega)
                  refine n_round' (y := (m, a', b', lim, bl, bp)) (m5, mid + 1, b', lim1, _, _) (by show b' - (mid + 1) < b' - a'; omega) ?_ aK _ (.refl _) (List.Sublist.refl _)
                  exact ⟨hm4.trans (hq5.mono ha hb' (by omega)), hpt.left hfin4 hp5 hs5 (by omega), (hpt.keepl hp5).lbr, by show a ≤ mid + 1; omega, by show mid + 1 ≤ b'; omega, hb'⟩
                · skip
                  refine gn 15 ?_
                  refine oL (lC (ih (b' - (mid + 1)) (by omega) (a := mid + 1) (b := b') (Q.pr hm4 (by omega) hg) (by omega) (by omega) rfl hpt.lbr) rfl (.cons .head .nil)) ?_
                  rintro ⟨r, H'⟩ ⟨rfl, m5, ⟨hp5, hs5⟩, rfl⟩
                  simp only [List.cons_append, List.nil_append]
                  refine gn 7 ?_
                  have hq5 : PR a' b' m4 m5 := hp5.mono (by omega) (Nat.le_refl _) (by omega)
                  refine n_round' (y := (m, a', b', lim, bl, bp)) (m5, a', mid, lim1, _, _) (by show mid - a' < b' - a'; omega) ?_ aK _ (.refl _) (List.Sublist.refl _)
                  exact ⟨hm4.trans (hq5.mono ha hb' (by omega)), hpt.right hfin4 hp5 hs5 (by omega), (hlb4.pr hq5 (Nat.le_refl _) (Nat.le_refl _)).less (by show mid ≤ b'; omega), ha, k1, by show mid ≤ b; omega⟩
            · skip
              refine gn 18 ?_
              refine oL (lC (part2_is (p := p) (Q.pr hm (by omega) hg) (by omega) hp.1 hp.2 (by omega)) rfl (.cons .head .nil)) ?_
              rintro ⟨r, H'⟩ ⟨mid, t, m4, rfl, hp1, hpt, rfl⟩
              simp only [List.cons_append, List.nil_append]
              have k1 := hpt.am
              have k2 := hpt.mb
              have hm4 : PR a b l m4 := hm.trans (hp1.mono ha hb' (by omega))
              have hfin4 := hfin.pr hp1
              have hlb4 := hlb.pr hp1 (Nat.le_refl _) (Nat.le_refl _)
              have hl4 : m4.length = l.length := hm4.len
              refine gn 39 ?_
              refine c_ifp rfl (fun h6 => ?_) (fun h6 => ?_)
              · refine gn 14 ?_
                refine oL (lC (ih (mid - a') (by omega) (a := a') (b := mid) (Q.pr hm4 (by omega) hg) k1 (by omega) rfl (hlb4.less (by omega))) rfl (.cons .head .nil)) ?_
                rintro ⟨r, H'⟩ ⟨rfl, m5, ⟨hp5, hs5⟩, rfl⟩
                simp only [List.cons_append, List.nil_append]
                refine gn 8 ?_
                have hq5 : PR a' b' m4 m5 := hp5.mono (Nat.le_refl _) (by omega) (by omega)
                refine n_round' (y := (m, a', b', lim, bl, bp)) (m5, mid + 1, b', lim1, _, _) (by show b' - (mid + 1) < b' - a'; omega) ?_ aK _ (.refl _) (List.Sublist.refl _)
                exact ⟨hm4.trans (hq5.mono ha hb' (by omega)), hpt.left hfin4 hp5 hs5 (by omega), (hpt.keepl hp5).lbr, by show a ≤ mid + 1; omega, by show mid + 1 ≤ b'; omega, hb'⟩
              · skip
                refine gn 15 ?_
                refine oL (lC (ih (b' - (mid + 1)) (by omega) (a := mid + 1) (b := b') (Q.pr hm4 (by omega) hg) (by omega) (by omega) rfl hpt.lbr) rfl (.cons .head .nil)) ?_
                rintro ⟨r, H'⟩ ⟨rfl, m5, ⟨hp5, hs5⟩, rfl⟩
                simp only [List.cons_append, List.nil_append]
                refine gn 7 ?_
                have hq5 : PR a' b' m4 m5 := hp5.mono (by omega) (Nat.le_refl _) (by omega)
                refine n_round' (y := (m, a', b', lim, bl, bp)) (m5, a', mid, lim1, _, _) (by show mid - a' < b' - a'; omega) ?_ aK _ (.refl _) (List.Sublist.refl _)
                exact ⟨hm4.trans (hq5.mono ha hb' (by omega)), hpt.right hfin4 hp5 hs5 (by omega), (hlb4.pr hq5 (Nat.le_refl _) (Nat.le_refl _)).less (by show mid ≤ b'; omega), ha, k1, by show mid ≤ b; omega⟩
theorem sort_is {l : List Int} (hg : Q.Lg l) (h1 : n ≤ 255) :
    Ctr prog 324 [.iface tv vv] G [Q.X l] (fun r H' => r = .tuple #[] ∧ H' = [Q.X (srt l)]) := by
  have hn := Q.len hg
  refine fn_enter 15 func324 rfl ntmps324 rfl ?_
  intro w0
  refine gn 3 ?_
  refine oL (l_calli0 Q.hfN Q.hmN Q.lenc rfl rfl rfl .nil) ?_
  rintro ⟨r, H'⟩ ⟨rfl, rfl⟩
  simp only [List.nil_append]
  refine gn 10 ?_
  refine c_ifp rfl (fun h2 => ?_) (fun h2 => ?_)
  · refine gn 1 ?_
    refine r_fn0 results324 ?_
    refine ⟨rfl, ?_⟩
    rw [show srt l = l from (srt_of .refl (.small (by omega)) hn).symm]
  · skip
    refine gn 6 ?_
    refine o_pure rfl call66 (A4.len_is (x := n) (by omega)) rfl rfl ?_
    refine gn 7 ?_
    refine oL (lC (pdq_is h1 n (a := 0) (b := n) hg (Nat.zero_le _) (Nat.le_refl _) (by omega) (.inl rfl)) rfl (.cons .head .nil)) ?_
    rintro ⟨r, H'⟩ ⟨rfl, l', ⟨hp, hs⟩, rfl⟩
    simp only [List.cons_append, List.nil_append]
    refine gn 1 ?_
    refine n_fn0 results324 ?_
    exact ⟨rfl, by rw [srt_of hp hs hn]⟩
end
end Go.Proofs.AI
namespace Go.Proofs
open Go Go.Sl Tryz
set_option maxRecDepth 100000
set_option maxHeartbeats 1000000
/-- A record: its entry, the value of its digest. -/
abbrev Rc := En × Value
def rcC (r : Rc) : List Value := [r.2, .int .u64 r.1.o]
abbrev rcs (l : List Rc) : List Value := l.flatMap rcC
theorem rcs_cut : ∀ {l : List Rc} {i : Nat} (h : i < l.length) (rest : List Value), CutL (rcs l ++ rest) (i * 2) 2 (rcC l[i])
  | a :: l, 0, _, rest => .take (.take .done)
  | a :: l, i + 1, h, rest => by
    have := rcs_cut (l := l) (i := i) (by simpa using h) rest
    rw [show (i + 1) * 2 = i * 2 + 1 + 1 by omega]
    exact .skip (.skip this)
theorem rcs_put : ∀ {l : List Rc} {i : Nat} (r : Rc) (_ : i < l.length) (rest : List Value), PutL (rcs l ++ rest) (i * 2) (rcC r) (rcs (l.set i r) ++ rest)
  | a :: l, 0, r, _, rest => .take (.take .done)
  | a :: l, i + 1, r, h, rest => by
    have := rcs_put (l := l) (i := i) r (by simpa using h) rest
    rw [show (i + 1) * 2 = i * 2 + 1 + 1 by omega]
    exact .skip (.skip this)
theorem rcs_at {l : List Rc} {i : Nat} (h : i < l.length) (rest : List Value) : (rcs l ++ rest)[i * 2]? = some l[i].2 := by
  have h1 := (rcs_cut h rest).eq
  have := congrArg (fun z => z[0]?) h1
  simpa [rcC] using this.symm
theorem cmp_lt : ∀ x y : List UInt8, (Lib.compareBytes x y < 0) ↔ Op.bytesLess x y = true
  | [], [] => by simp [Lib.compareBytes, Op.bytesLess]
  | [], b :: y => by simp [Lib.compareBytes, Op.bytesLess]
  | a :: x, [] => by simp [Lib.compareBytes, Op.bytesLess]
  | a :: x, b :: y => by
    have ih := cmp_lt x y
    simp only [Lib.compareBytes, Op.bytesLess, Bool.or_eq_true, Bool.and_eq_true, decide_eq_true_eq, beq_iff_eq]
    split
    · rename_i h
      simp [h]
    · split
      · rename_i h1 h
        rw [u8_lt] at h h1
        constructor
        · intro h2; omega
        · rintro (h2 | ⟨rfl, _⟩)
          · exact absurd (u8_lt.1 h2) h1
          · omega
      · rename_i h1 h2
        rw [u8_lt] at h1 h2
        have e : a = b := UInt8.toNat_inj.1 (by omega)
        subst e
        simp only [u8_lt, Nat.lt_irrefl, false_or, true_and]
        exact ih
section
variable {G : HP} {g n c i j lo hi : Nat} {l : List Rc} {rest : List Value}
theorem rcLen_is : Ctr prog 424 [.slice (some ⟨g, 0, none⟩) n c] G [] (fun r H' => r = .int .i64 (n : Nat) ∧ H' = []) := by
  refine fn_enter 5 func424 rfl ntmps424 rfl ?_
  intro w0
  refine gn 13 ?_
  refine r_fn1 results424 rfl ?_
  exact ⟨rfl, rfl⟩
theorem rcLess_is (hn : l.length = n) (hi' : i < n) (hj : j < n) (hn2 : n ≤ 100000) (hc : n ≤ c) (hb : ∀ r ∈ l, BS G r.2 r.1.d) : Ctr prog 425 [.slice (some ⟨g, 0, none⟩) n c, .int .i64 (i : Nat), .int .i64 (j : Nat)] G [(g, .cells (rcs l ++ rest).toArray 455 (lo, hi))] (fun r H' => r = .bool (Op.bytesLess (l[i]'(by omega)).1.d (l[j]'(by omega)).1.d) ∧ H' = [(g, .cells (rcs l ++ rest).toArray 455 (lo, hi))]) := by
  subst hn
  have hcmp := compare_is (hb l[i] (List.getElem_mem _)) (hb l[j] (List.getElem_mem _))
  have h1 : (rcs l ++ rest)[0 + i * 2 + 0]? = some l[i].2 := by rw [Nat.zero_add]; exact rcs_at hi' rest
  have h2 : (rcs l ++ rest)[0 + j * 2 + 0]? = some l[j].2 := by rw [Nat.zero_add]; exact rcs_at hj rest
  refine fn_enter 19 func425 rfl ntmps425 rfl ?_
  intro w0
  refine gn 17 ?_
  refine q_pure rfl call342 hcmp rfl rfl ?_
  refine gn 5 ?_
  refine r_fn1 results425 rfl ?_
  refine ⟨congrArg Value.bool ?_, rfl⟩
  have := cmp_lt l[i].1.d l[j].1.d
  cases hbl : Op.bytesLess l[i].1.d l[j].1.d with
  | true => exact decide_eq_true (this.2 hbl)
  | false => exact decide_eq_false fun h => by have := this.1 h; rw [hbl] at this; cases this
theorem rcSwap_is (hn : l.length = n) (hi' : i < n) (hj : j < n) (hn2 : n ≤ 100000) (hc : n ≤ c) (hm : c * 2 ≤ lo ∨ hi = 0) (hb : ∀ r ∈ l, r.2.oneCell' = true) : Ctr prog 426 [.slice (some ⟨g, 0, none⟩) n c, .int .i64 (i : Nat), .int .i64 (j : Nat)] G [(g, .cells (rcs l ++ rest).toArray 455 (lo, hi))] (fun r H' => r = .tuple #[] ∧ H' = [(g, .cells (rcs ((l.set i (l[j]'(by omega))).set j (l[i]'(by omega))) ++ rest).toArray 455 (lo, hi))]) := by
  subst hn
  have h1 : CutL (rcs l ++ rest) (0 + i * 2) 2 (rcC l[i]) := by rw [Nat.zero_add]; exact rcs_cut hi' rest
  have h2 : CutL (rcs l ++ rest) (0 + j * 2) 2 (rcC l[j]) := by rw [Nat.zero_add]; exact rcs_cut hj rest
  refine fn_enter 20 func426 rfl ntmps426 rfl ?_
  intro w0
  refine c_regiong [13, 15] (by kernel_rfl) ?_
  refine lg [0, 1, 2, 3, 4, 5, 6, 1007, 8, 9, 10, 1011, 12] ?_
  have p1 : PutL (rcs l ++ rest) (0 + i * 2) (rcC l[j]) (rcs (l.set i l[j]) ++ rest) := by rw [Nat.zero_add]; exact rcs_put _ hi' rest
  have p2 : PutL (rcs (l.set i l[j]) ++ rest) (0 + j * 2) (rcC l[i]) (rcs ((l.set i l[j]).set j l[i]) ++ rest) := by rw [Nat.zero_add]; exact rcs_put _ (by rw [List.length_set]; exact hj) rest
  have o1 : ∀ v ∈ rcC l[i], v.oneCell' = true := by
    intro v hv
    rcases List.mem_cons.1 hv with rfl | hv
    · exact hb _ (List.getElem_mem _)
    · rcases List.mem_singleton.1 hv with rfl; rfl
  have o2 : ∀ v ∈ rcC l[j], v.oneCell' = true := by
    intro v hv
    rcases List.mem_cons.1 hv with rfl | hv
    · exact hb _ (List.getElem_mem _)
    · rcases List.mem_singleton.1 hv with rfl; rfl
  refine gL 13 rfl (l_storea sizeOf455 rfl rfl rfl o2 .head p1 (fun k h3 h4 => by omega)) ?_
  intro _ _
  refine ld [14] ?_
  refine dL 15 rfl (l_storea sizeOf455 rfl rfl rfl o1 .head p2 (fun k h3 h4 => by omega)) ?_
  intro _ _
  refine gn 1 ?_
  refine n_fn0 results426 ?_
  exact ⟨rfl, rfl⟩
end
/-! ### The order of records by numbers. -/
def tbR (l0 : List Rc) (k : Int) : Rc := (l0.find? fun r => decide ((kap (l0.map (·.1)) r.1 : Int) = k)).getD (⟨0, 0, 0, [], 0⟩, S [])
/-- Digests are there once. -/
def OnceD (l0 : List Rc) : Prop := (l0.map (·.1.d)).Nodup
theorem once_inj {a b : Rc} : ∀ {l : List Rc}, OnceD l → a ∈ l → b ∈ l → a.1.d = b.1.d → a = b := by
  intro l
  induction l with
  | nil => intro _ h; cases h
  | cons c l ih =>
    intro hn ha hb e
    simp only [OnceD] at hn ih
    rw [List.map_cons, List.nodup_cons] at hn
    rcases List.mem_cons.1 ha with e1 | ha1
    · rcases List.mem_cons.1 hb with e2 | hb1
      · rw [e1, e2]
      · exact (hn.1 (by rw [← e1, e]; exact List.mem_map_of_mem (f := fun r : Rc => r.1.d) hb1)).elim
    · rcases List.mem_cons.1 hb with e2 | hb1
      · exact (hn.1 (by rw [← e2, ← e]; exact List.mem_map_of_mem (f := fun r : Rc => r.1.d) ha1)).elim
      · exact ih hn.2 ha1 hb1 e
theorem kap_inj {l0 : List Rc} (ho : OnceD l0) {a b : Rc} (ha : a ∈ l0) (hb : b ∈ l0) (h : kap (l0.map (·.1)) a.1 = kap (l0.map (·.1)) b.1) : a = b := by
  have h1 := kap_lt (y := b.1) (List.mem_map_of_mem (f := (·.1)) ha)
  have h2 := kap_lt (y := a.1) (List.mem_map_of_mem (f := (·.1)) hb)
  rw [h, decide_eq_false (Nat.lt_irrefl _)] at h1
  rw [h, decide_eq_false (Nat.lt_irrefl _)] at h2
  by_cases e : a.1.d = b.1.d
  · exact once_inj ho ha hb e
  · simp only [ltE] at h1 h2
    rw [if_pos e] at h1
    rw [if_pos (fun h => e h.symm)] at h2
    exact absurd (bl_tri _ _ h1 h2) e
theorem tbR_is {l0 : List Rc} (ho : OnceD l0) {a : Rc} (ha : a ∈ l0) : tbR l0 (kap (l0.map (·.1)) a.1 : Nat) = a := by
  rw [tbR]
  cases hf : l0.find? fun r => decide ((kap (l0.map (·.1)) r.1 : Int) = (kap (l0.map (·.1)) a.1 : Nat)) with
  | none =>
    have := List.find?_eq_none.1 hf a ha
    simp at this
  | some r =>
    have h1 := List.find?_some hf
    have h2 := List.mem_of_find?_eq_some hf
    simp only [decide_eq_true_eq] at h1
    have h3 : kap (l0.map (·.1)) r.1 = kap (l0.map (·.1)) a.1 := by omega
    exact kap_inj ho h2 ha h3
def rkR (l0 : List Rc) : List Int := l0.map fun r => (kap (l0.map (·.1)) r.1 : Int)
theorem tbR_mem {l0 : List Rc} (ho : OnceD l0) {k : Int} (hk : k ∈ rkR l0) : tbR l0 k ∈ l0 ∧ (kap (l0.map (·.1)) (tbR l0 k).1 : Int) = k := by
  obtain ⟨r, hr, rfl⟩ := List.mem_map.1 hk
  rw [tbR_is ho hr]
  exact ⟨hr, rfl⟩
theorem tbR_lt {l0 : List Rc} (ho : OnceD l0) {k m : Int} (hk : k ∈ rkR l0) (hm : m ∈ rkR l0) : Op.bytesLess (tbR l0 k).1.d (tbR l0 m).1.d = decide (k < m) := by
  obtain ⟨h1, h2⟩ := tbR_mem ho hk
  obtain ⟨h3, h4⟩ := tbR_mem ho hm
  have h5 := kap_lt (y := (tbR l0 m).1) (List.mem_map_of_mem (f := (·.1)) h1)
  by_cases e : (tbR l0 k).1.d = (tbR l0 m).1.d
  · have e2 : tbR l0 k = tbR l0 m := by
      exact once_inj ho h1 h3 e
    have e3 : k = m := by rw [← h2, ← h4, e2]
    rw [e3, bl_irrefl, decide_eq_false (by omega)]
  · simp only [ltE] at h5
    rw [if_pos e] at h5
    rw [h5]
    congr 1
    apply propext
    omega
theorem rkR_nodup {l0 : List Rc} (ho : OnceD l0) : (rkR l0).Nodup := by
  refine nodup_map_on (fun a ha b hb h => kap_inj ho ha hb (by omega)) ?_
  exact (List.pairwise_map.1 ho).imp fun h e => h (by rw [e])
theorem rkR_map {l0 : List Rc} (ho : OnceD l0) : (rkR l0).map (tbR l0) = l0 := by
  rw [rkR, List.map_map]
  conv => rhs; rw [← List.map_id l0]
  exact List.map_congr_left fun a ha => tbR_is ho ha
theorem swp_map {l : List Int} {f : Int → Rc} {i j : Nat} (hi : i < l.length) (hj : j < l.length) : (swp l i j).map f = (((l.map f).set i ((l.map f)[j]'(by simpa using hj))).set j ((l.map f)[i]'(by simpa using hi))) := by
  have e1 : gd l i = l[i] := by have := gd_eq hi; rw [List.getElem?_eq_getElem hi] at this; exact (Option.some.inj this).symm
  have e2 : gd l j = l[j] := by have := gd_eq hj; rw [List.getElem?_eq_getElem hj] at this; exact (Option.some.inj this).symm
  rw [swp, List.map_set, List.map_set, e1, e2, List.getElem_map, List.getElem_map]
section
variable {G : HP} {g n c lo hi : Nat} {l0 : List Rc} {rest : List Value}
/-- A row of records, to be sorted. -/
def recQ (rest : List Value) (lo hi : Nat) (ho : OnceD l0) (hb : ∀ r ∈ l0, BS G r.2 r.1.d) (hn : l0.length = n) (h1 : n ≤ 100000) (hc : n ≤ c) (hm : c * 2 ≤ lo ∨ hi = 0) : AI.SoC G 457 (.slice (some ⟨g, 0, none⟩) n c) n where
  X := fun l => (g, .cells (rcs (l.map (tbR l0)) ++ rest).toArray 455 (lo, hi))
  Lg := fun l => l.Perm (rkR l0)
  len := fun h => by rw [h.length_eq, rkR, List.length_map, hn]
  sw := fun {l i j} h hi hj => by
    have hl : l.length = n := by rw [h.length_eq, rkR, List.length_map, hn]
    exact (swp_perm (by omega) (by omega)).trans h
  fN := 424
  fL := 425
  fS := 426
  rv := .slice (some ⟨g, 0, none⟩) n c
  hfN := call424
  hfL := call425
  hfS := call426
  hmN := by intro w; kernel_rfl
  hmL := by intro w; kernel_rfl
  hmS := by intro w; kernel_rfl
  lenc := rcLen_is
  less := fun {l i j} h hi' hj' => by
    have hl : l.length = n := by rw [h.length_eq, rkR, List.length_map, hn]
    have hmem : ∀ r ∈ l.map (tbR l0), BS G r.2 r.1.d := fun r hr => by
      obtain ⟨k, hk, rfl⟩ := List.mem_map.1 hr
      exact hb _ (tbR_mem ho (h.subset hk)).1
    have hL := rcLess_is (G := G) (g := g) (c := c) (lo := lo) (hi := hi) (rest := rest) (l := l.map (tbR l0)) (n := n) (by rw [List.length_map, hl]) hi' hj' h1 hc hmem
    have e1 : gd l i = l[i] := by have := gd_eq (l := l) (i := i) (by omega); rw [List.getElem?_eq_getElem (by omega)] at this; exact (Option.some.inj this).symm
    have e2 : gd l j = l[j] := by have := gd_eq (l := l) (i := j) (by omega); rw [List.getElem?_eq_getElem (by omega)] at this; exact (Option.some.inj this).symm
    have e := tbR_lt ho (k := l[i]) (m := l[j]) (h.subset (List.getElem_mem _)) (h.subset (List.getElem_mem _))
    simp only [List.getElem_map] at hL
    rw [e] at hL
    rw [e1, e2]
    exact hL
  swap := fun {l i j} h hi' hj' => by
    have hl : l.length = n := by rw [h.length_eq, rkR, List.length_map, hn]
    have hmem : ∀ r ∈ l.map (tbR l0), r.2.oneCell' = true := fun r hr => by
      obtain ⟨k, hk, rfl⟩ := List.mem_map.1 hr
      exact (hb _ (tbR_mem ho (h.subset hk)).1).one
    have hS := rcSwap_is (G := G) (g := g) (c := c) (lo := lo) (hi := hi) (rest := rest) (l := l.map (tbR l0)) (n := n) (by rw [List.length_map, hl]) hi' hj' h1 hc hm hmem
    rw [← swp_map (by omega) (by omega)] at hS
    exact hS
/-- Records sorted by their digests. -/
theorem rsort_is (ho : OnceD l0) (hb : ∀ r ∈ l0, BS G r.2 r.1.d) (hn : l0.length = n) (h1 : n ≤ 255) (hc : n ≤ c) (hm : c * 2 ≤ lo ∨ hi = 0) :
    Ctr prog 324 [.iface 457 (.slice (some ⟨g, 0, none⟩) n c)] G [(g, .cells (rcs l0 ++ rest).toArray 455 (lo, hi))] (fun r H' => r = .tuple #[] ∧ ∃ l : List Rc, l.Perm l0 ∧ l.Pairwise (fun a b => Op.bytesLess a.1.d b.1.d = true) ∧ H' = [(g, .cells (rcs l ++ rest).toArray 455 (lo, hi))]) := by
  have h := AI.sort_is (Q := recQ (g := g) (c := c) rest lo hi ho hb hn (by omega) hc hm) (l := rkR l0) (List.Perm.refl _) h1
  have eX : (recQ (g := g) (c := c) rest lo hi ho hb hn (by omega) hc hm).X (rkR l0) = (g, .cells (rcs l0 ++ rest).toArray 455 (lo, hi)) := by
    show (g, Obj.cells (rcs ((rkR l0).map (tbR l0)) ++ rest).toArray 455 (lo, hi)) = _
    rw [rkR_map ho]
  rw [eX] at h
  refine Ctr.perm h (List.Perm.refl _) ?_
  rintro r H' ⟨rfl, rfl⟩
  refine ⟨_, List.Perm.refl _, rfl, (srt (rkR l0)).map (tbR l0), ?_, ?_, rfl⟩
  · have := (List.mergeSort_perm (rkR l0) fun a b => decide (a ≤ b)).map (tbR l0)
    rw [rkR_map ho] at this
    exact this
  · have hp : (srt (rkR l0)).Pairwise (fun a b => a < b) := by
      have h2 : (srt (rkR l0)).Pairwise (fun a b => decide (a ≤ b) = true) := List.pairwise_mergeSort (fun a b c h h' => by simp only [decide_eq_true_eq] at *; omega) (fun a b => by simp only [Bool.or_eq_true, decide_eq_true_eq]; omega) _
      have h3 : (srt (rkR l0)).Nodup := srt_nodup (rkR_nodup ho)
      exact (h2.and h3).imp fun ⟨h, h'⟩ => by simp only [decide_eq_true_eq] at h; omega
    rw [List.pairwise_map]
    refine hp.imp_of_mem fun {a b} ha hb h => ?_
    rw [tbR_lt ho (srt_mem.1 ha) (srt_mem.1 hb)]
    exact decide_eq_true h
end
end Go.Proofs

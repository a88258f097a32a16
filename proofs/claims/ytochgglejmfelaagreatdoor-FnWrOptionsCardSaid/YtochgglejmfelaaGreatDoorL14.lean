/- Rows of numbers, sorted in memory: heaps; Rows of numbers, sorted in memory: the pivot; Rows of numbers, sorted in memory: turning a range, partial insertion; Rows of numbers, sorted in memory: partitions; Rows of numbers, sorted in memory: bits, patterns broken. (A part of the proof of this: for every input laws.FnWrOptions returns true and its arguments read as they did, the listed package variables being what the program lays) -/
import Derived.Test.YtochgglejmfelaaGreatDoorLSlZ
import Derived.Test.YtochgglejmfelaaGreatDoorL13
import Derived.Test.YtochgglejmfelaaGreatDoorL10
set_option linter.unusedVariables false
set_option linter.unusedSimpArgs false
namespace Go.Proofs.AI
open Go Go.Sl Tryz
set_option maxRecDepth 100000
set_option maxHeartbeats 1000000
section
variable {G : HP} {n : Nat} {tv : TypeId} {v : Value} {l : List Int} {Q : SoC G tv v n}
theorem sift_is {f s h : Nat} (hg : Q.Lg l) (h1 : n ≤ 100000) (hb : f + h ≤ n) (hs : s ≤ h) (hp : Hp f (s + 1) h l) :
    Ctr prog 363 [.iface tv v, .int .i64 s, .int .i64 h, .int .i64 f] G [(Q.X l)] (fun r H' => r = .tuple #[] ∧ ∃ l', (PR (f + s) (f + h) l l' ∧ Hp f s h l') ∧ H' = [(Q.X l')]) := by
  have hn := Q.len hg
  refine fn_enter 52 func363 rfl ntmps363 rfl ?_
  intro w0
  refine gn 7 ?_
  refine c_loop (X := List Int × Nat) (fun y => [(0, .iface tv v), (2, .int .i64 h), (3, .int .i64 f), (8, .int .i64 y.2)]) (fun y => [(Q.X y.1)]) (fun y => PR (f + s) (f + h) l y.1 ∧ HQ f s h y.2 y.1 ∧ (y.2 = s ∨ y.2 < h)) (fun y => 2 * h - y.2) (l, s) ⟨.refl, .start hp, .inl rfl⟩ aK (.refl _) ?_
  rintro ⟨m, i⟩ ⟨hm, hq, hi0⟩
  simp only at hm hq hi0 ⊢
  have hl := hm.len
  have hg' := Q.pr hm (by omega) hg
  have hsi := hq.le
  refine gn 17 ?_
  refine c_ifp rfl (fun h2 => ?_) (fun h2 => ?_)
  · refine gn 5 ?_
    refine n_fn0 results363 ?_
    exact ⟨rfl, m, ⟨hm, hq.stop fun c h3 h4 => by omega⟩, rfl⟩
  · skip
    refine gn 3 ?_
    refine c_cut (X := Nat) (fun c => [(0, .iface tv v), (2, .int .i64 h), (3, .int .i64 f), (8, .int .i64 i), (9, .int .i64 c)]) (fun _ => [(Q.X m)]) (fun d => (d = 2 * i + 1 ∨ d = 2 * i + 2) ∧ d < h ∧ ∀ c, c = 2 * i + 1 ∨ c = 2 * i + 2 → c < h → gd m (f + c) ≤ gd m (f + d)) ?_ ?_
    · skip
      refine gn 7 ?_
      refine o_splitp 21 rfl (fun h3 => ?_) (fun h3 => ?_)
      · refine gn 8 ?_
        refine o_inv rfl Q.hfL Q.hmL (Q.less (by first | assumption | exact Q.sw (by assumption) (by omega) (by omega)) (by first | omega | (simp; omega)) (by first | omega | (simp; omega))) rfl rfl rfl (.cons .head .nil) ?_
        refine gn 3 ?_
        refine c_if rfl (fun h4 => ?_) (fun h4 => ?_)
        · have h4' := of_decide_eq_true h4
          refine gn 5 ?_
          refine n_cut (2 * i + 2) ⟨.inr rfl, by omega, fun c h5 h6 => ?_⟩ aK (.refl _)
          rcases h5 with rfl | rfl
          · rw [← Nat.add_assoc f]; exact Int.le_of_lt h4'
          · exact Int.le_refl _
        · have h4' := of_decide_eq_false h4
          refine gn 1 ?_
          refine n_cut (2 * i + 1) ⟨.inl rfl, by omega, fun c h5 h6 => ?_⟩ aK (.refl _)
          rcases h5 with rfl | rfl
          · exact Int.le_refl _
          · exact Int.not_lt.1 h4'
      · skip
        refine gn 14 ?_
        refine n_cut (2 * i + 1) ⟨.inl rfl, by omega, fun c h5 h6 => ?_⟩ aK (.refl _)
        rcases h5 with rfl | rfl
        · exact Int.le_refl _
        · omega
    · rintro d ⟨hd, hdh, hmax⟩
      refine gn 11 ?_
      refine o_inv rfl Q.hfL Q.hmL (Q.less (by first | assumption | exact Q.sw (by assumption) (by omega) (by omega)) (by first | omega | (simp; omega)) (by first | omega | (simp; omega))) rfl rfl rfl (.cons .head .nil) ?_
      refine gn 3 ?_
      refine c_if rfl (fun h5 => ?_) (fun h5 => ?_)
      · have h5' : ¬ gd m (f + i) < gd m (f + d) := by simpa using h5
        refine gn 1 ?_
        refine r_fn0 results363 ?_
        exact ⟨rfl, m, ⟨hm, hq.stop fun c h6 h7 => Int.le_trans (hmax c h6 h7) (Int.not_lt.1 h5')⟩, rfl⟩
      · skip
        have h5' : gd m (f + i) < gd m (f + d) := by simpa using h5
        refine gn 11 ?_
        refine oL (l_calli0 Q.hfS Q.hmS (Q.swap (by first | assumption | exact Q.sw (by assumption) (by omega) (by omega)) (by first | omega | (simp; omega)) (by first | omega | (simp; omega))) rfl rfl rfl (by first | exact .cons .head .nil | exact .cons (.tail .head) .nil)) ?_
        rintro ⟨r, H'⟩ ⟨rfl, rfl⟩
        simp only [List.cons_append, List.nil_append]
        refine gn 7 ?_
        refine n_round' (y := (m, i)) (swp m (f + i) (f + d), d) (by show 2 * h - d < 2 * h - i; omega) ?_ aK _ (.refl _) (List.Sublist.refl _)
        exact ⟨hm.swap (by omega) (by omega) (by omega) (by omega) (by omega), hq.step hd hdh (by omega) hmax h5', .inr hdh⟩
theorem heap_is {a b : Nat} (hg : Q.Lg l) (h1 : n ≤ 100000) (hab : a < b) (hb : b ≤ n) :
    Ctr prog 344 [.iface tv v, .int .i64 a, .int .i64 b] G [(Q.X l)] (fun r H' => r = .tuple #[] ∧ ∃ l', (PR a b l l' ∧ SR a b l') ∧ H' = [(Q.X l')]) := by
  have hn := Q.len hg
  obtain ⟨h, rfl⟩ : ∃ h, b = a + h := ⟨b - a, by omega⟩
  refine fn_enter 44 func344 rfl ntmps344 rfl ?_
  intro w0
  refine gn 29 ?_
  simp only [Nat.add_sub_cancel_left]
  refine c_loop (X := List Int × Int) (fun y => [(0, .iface tv v), (6, .int .i64 a), (7, .int .i64 (0 : Nat)), (8, .int .i64 h), (9, .int .i64 y.2)]) (fun y => [(Q.X y.1)]) (fun y => PR a (a + h) l y.1 ∧ -1 ≤ y.2 ∧ y.2 < h ∧ Hp a (y.2 + 1).toNat h y.1) (fun y => (y.2 + 1).toNat) (l, ((h - 1 : Nat) : Int) / 2) ⟨.refl, by omega, by omega, .none (by omega)⟩ aK (.refl _) ?_
  rintro ⟨m, i⟩ ⟨hm, hi0, hi1, hp⟩
  simp only at hm hi0 hi1 hp ⊢
  have hl := hm.len
  have hg' := Q.pr hm (by omega) hg
  refine gn 7 ?_
  refine c_ifp rfl (fun h2 => ?_) (fun h2 => ?_)
  · obtain ⟨k, rfl⟩ := Int.eq_ofNat_of_zero_le h2
    refine gn 9 ?_
    refine oL (lC (sift_is (f := a) (s := k) (h := h) (Q.pr hm (by omega) hg) h1 hb (by omega) hp) rfl (.cons .head .nil)) ?_
    rintro ⟨r, H'⟩ ⟨rfl, m', ⟨hp1, hp2⟩, rfl⟩
    simp only [List.cons_append, List.nil_append]
    refine gn 8 ?_
    refine n_round' (y := (m, (k : Int))) (m', (k : Int) - 1) (by show ((k : Int) - 1 + 1).toNat < ((k : Int) + 1).toNat; omega) ?_ aK _ (.refl _) (List.Sublist.refl _)
    refine ⟨hm.trans (hp1.mono (by omega) (Nat.le_refl _) (by omega)), by show -1 ≤ (k : Int) - 1; omega, by show (k : Int) - 1 < h; omega, ?_⟩
    show Hp a ((k : Int) - 1 + 1).toNat h m'
    rw [show ((k : Int) - 1 + 1).toNat = k by omega]
    exact hp2
  · skip
    have hp0 : Hp a 0 h m := by rw [show (i + 1).toNat = 0 by omega] at hp; exact hp
    refine gn 13 ?_
    refine c_loop (X := List Int × Int) (fun y => [(0, .iface tv v), (6, .int .i64 a), (7, .int .i64 (0 : Nat)), (10, .int .i64 y.2)]) (fun y => [(Q.X y.1)]) (fun y => PR a (a + h) l y.1 ∧ -1 ≤ y.2 ∧ y.2 < h ∧ Pop a (y.2 + 1).toNat h y.1) (fun y => (y.2 + 1).toNat) (m, ((h - 1 : Nat) : Int)) ⟨hm, by omega, by omega, by show Pop a (((h - 1 : Nat) : Int) + 1).toNat h m; rw [show (((h - 1 : Nat) : Int) + 1).toNat = h by omega]; exact .start hp0⟩ aK (.refl _) ?_
    clear hm hi0 hi1 hp hl hp0 h2
    rintro ⟨m, i⟩ ⟨hm, hi0, hi1, hp⟩
    simp only at hm hi0 hi1 hp ⊢
    have hl := hm.len
    have hg' := Q.pr hm (by omega) hg
    refine gn 7 ?_
    refine c_ifp rfl (fun h2 => ?_) (fun h2 => ?_)
    · obtain ⟨k, rfl⟩ := Int.eq_ofNat_of_zero_le h2
      rw [show ((k : Int) + 1).toNat = k + 1 by omega] at hp
      refine gn 11 ?_
      refine oL (l_calli0 Q.hfS Q.hmS (Q.swap (by first | assumption | exact Q.sw (by assumption) (by omega) (by omega)) (by first | omega | (simp; omega)) (by first | omega | (simp; omega))) rfl rfl rfl (by first | exact .cons .head .nil | exact .cons (.tail .head) .nil)) ?_
      rintro ⟨r, H'⟩ ⟨rfl, rfl⟩
      simp only [List.cons_append, List.nil_append]
      refine gn 7 ?_
      have hp1 := hp.swap (by omega) (by omega)
      refine oL (lC (sift_is (f := a) (s := 0) (h := k) (l := swp m a (a + k)) (Q.sw (Q.pr hm (by omega) hg) (by omega) (by omega)) h1 (by omega) (Nat.zero_le _) hp1.heap) rfl (.cons .head .nil)) ?_
      rintro ⟨r, H'⟩ ⟨rfl, m', ⟨hp2, hp3⟩, rfl⟩
      simp only [List.cons_append, List.nil_append]
      refine gn 8 ?_
      have hsw : PR a (a + h) m (swp m a (a + k)) := .one (by omega) (by omega) (by omega) (by omega) (by omega)
      refine n_round' (y := (m, (k : Int))) (m', (k : Int) - 1) (by show ((k : Int) - 1 + 1).toNat < ((k : Int) + 1).toNat; omega) ?_ aK _ (.refl _) (List.Sublist.refl _)
      refine ⟨(hm.trans hsw).trans (hp2.mono (by omega) (by omega) (by rw [swp_length]; omega)), by show -1 ≤ (k : Int) - 1; omega, by show (k : Int) - 1 < h; omega, ?_⟩
      show Pop a ((k : Int) - 1 + 1).toNat h m'
      rw [show ((k : Int) - 1 + 1).toNat = k by omega]
      exact hp1.sift hp2 hp3
    · skip
      refine gn 4 ?_
      refine n_fn0 results344 ?_
      rw [show (i + 1).toNat = 0 by omega] at hp
      exact ⟨rfl, m, ⟨hm, hp.done⟩, rfl⟩
end
end Go.Proofs.AI
namespace Go.Proofs.AI
open Go Go.Sl Tryz
set_option maxRecDepth 100000
set_option maxHeartbeats 1000000
section
variable {gz u v : Nat} {z : Int} {G : HP} {n : Nat} {tv : TypeId} {vv : Value} {l : List Int} {Q : SoC G tv vv n}
theorem ord_is {a b : Nat} (hg : Q.Lg l) (h1 : n ≤ 100000) (ha : u ≤ a ∧ a < v) (hb : u ≤ b ∧ b < v) (hv : v ≤ n) :
    Ctr prog 379 [.iface tv vv, .int .i64 a, .int .i64 b, .pointer (some ⟨gz, 0, none⟩)] G [(Q.X l), (gz, C [.int .i64 z] 3)] (fun r H' => ∃ (x y : Nat) (z' : Int), r = .tuple #[.int .i64 x, .int .i64 y] ∧ (u ≤ x ∧ x < v) ∧ (u ≤ y ∧ y < v) ∧ H' = [(Q.X l), (gz, C [.int .i64 z'] 3)]) := by
  have hn := Q.len hg
  refine fn_enter 23 func379 rfl ntmps379 rfl ?_
  intro w0
  refine gn 12 ?_
  refine o_inv rfl Q.hfL Q.hmL (Q.less (by first | assumption | exact Q.sw (by assumption) (by omega) (by omega)) (by first | omega | (simp; omega)) (by first | omega | (simp; omega))) rfl rfl rfl (.cons .head .nil) ?_
  refine gn 2 ?_
  refine c_if rfl (fun h2 => ?_) (fun h2 => ?_)
  · refine gn 7 ?_
    refine oT ?_; intro _ _
    refine gn 11 ?_
    refine r_fn (l := [.tmp 8, .tmp 9]) results379 rfl rfl ?_
    exact ⟨b, a, _, rfl, hb, ha, rfl⟩
  · skip
    refine gn 11 ?_
    refine r_fn (l := [.tmp 8, .tmp 9]) results379 rfl rfl ?_
    exact ⟨a, b, _, rfl, ha, hb, rfl⟩
theorem med_is {a b c : Nat} (hg : Q.Lg l) (h1 : n ≤ 100000) (ha : u ≤ a ∧ a < v) (hb : u ≤ b ∧ b < v) (hc : u ≤ c ∧ c < v) (hv : v ≤ n) :
    Ctr prog 365 [.iface tv vv, .int .i64 a, .int .i64 b, .int .i64 c, .pointer (some ⟨gz, 0, none⟩)] G [(Q.X l), (gz, C [.int .i64 z] 3)] (fun r H' => ∃ (x : Nat) (z' : Int), r = .int .i64 x ∧ (u ≤ x ∧ x < v) ∧ H' = [(Q.X l), (gz, C [.int .i64 z'] 3)]) := by
  have hn := Q.len hg
  refine fn_enter 36 func365 rfl ntmps365 rfl ?_
  intro w0
  refine gn 11 ?_
  refine oL (lC (ord_is hg h1 ha hb hv) rfl (.cons .head (.cons .head .nil))) ?_
  rintro ⟨r, H'⟩ ⟨x0, y0, z0, rfl, hx0, hy0, rfl⟩
  simp only [List.cons_append, List.nil_append]
  refine gn 13 ?_
  refine oL (lC (ord_is hg h1 hy0 hc hv) rfl (.cons .head (.cons .head .nil))) ?_
  rintro ⟨r, H'⟩ ⟨x1, y1, z1, rfl, hx1, hy1, rfl⟩
  simp only [List.cons_append, List.nil_append]
  refine gn 13 ?_
  refine oL (lC (ord_is hg h1 hx0 hx1 hv) rfl (.cons .head (.cons .head .nil))) ?_
  rintro ⟨r, H'⟩ ⟨x2, y2, z2, rfl, hx2, hy2, rfl⟩
  simp only [List.cons_append, List.nil_append]
  refine gn 14 ?_
  refine r_fn1 results365 rfl ?_
  exact ⟨_, _, rfl, hy2, rfl⟩
theorem adj_is {a : Nat} (hg : Q.Lg l) (h1 : n ≤ 100000) (ha : u + 1 ≤ a ∧ a + 1 < v) (hv : v ≤ n) :
    Ctr prog 364 [.iface tv vv, .int .i64 a, .pointer (some ⟨gz, 0, none⟩)] G [(Q.X l), (gz, C [.int .i64 z] 3)] (fun r H' => ∃ (x : Nat) (z' : Int), r = .int .i64 x ∧ (u ≤ x ∧ x < v) ∧ H' = [(Q.X l), (gz, C [.int .i64 z'] 3)]) := by
  have hn := Q.len hg
  obtain ⟨a, rfl⟩ : ∃ a', a = a' + 1 := ⟨a - 1, by omega⟩
  refine fn_enter 15 func364 rfl ntmps364 rfl ?_
  intro w0
  refine gn 14 ?_
  refine oL (lC (med_is (a := a) (b := a + 1) (c := a + 2) (u := u) (v := v) hg h1 (by omega) (by omega) (by omega) hv) rfl (.cons .head (.cons .head .nil))) ?_
  rintro ⟨r, H'⟩ ⟨x, z', rfl, hx, rfl⟩
  simp only [List.cons_append, List.nil_append]
  refine gn 4 ?_
  refine r_fn1 results364 rfl ?_
  exact ⟨_, _, rfl, hx, rfl⟩
theorem piv_is {a b : Nat} (hg : Q.Lg l) (h1 : n ≤ 100000) (hab : a + 8 ≤ b) (hb : b ≤ n) :
    Ctr prog 346 [.iface tv vv, .int .i64 a, .int .i64 b] G [(Q.X l)] (fun r H' => ∃ (x : Nat) (z' : Int), r = .tuple #[.int .i64 x, .int .i64 z'] ∧ (a ≤ x ∧ x < b) ∧ H' = [(Q.X l)]) := by
  have hn := Q.len hg
  obtain ⟨h, rfl⟩ : ∃ h, b = a + h := ⟨b - a, by omega⟩
  refine fn_enter 57 func346 rfl ntmps346 rfl ?_
  intro w0
  refine gn 16 ?_
  refine oZ ?_; intro g9 _
  refine gn 39 ?_
  have e1 : (a : Int) + ((a + h - a : Nat) : Int) / 4 * 1 = ((a + h / 4 : Nat) : Int) := by omega
  have e2 : (a : Int) + ((a + h - a : Nat) : Int) / 4 * 2 = ((a + h / 4 * 2 : Nat) : Int) := by omega
  have e3 : (a : Int) + ((a + h - a : Nat) : Int) / 4 * 3 = ((a + h / 4 * 3 : Nat) : Int) := by omega
  rw [e1, e2, e3]
  refine c_ifp rfl (fun h2 => ?_) (fun h2 => ?_)
  · refine c_cut (X := Nat × Int) (fun y => [(11, .int .i64 y.1), (9, .pointer (some ⟨g9, 0, none⟩))]) (fun y => [(Q.X l), (g9, C [.int .i64 y.2] 3)]) (fun y => a ≤ y.1 ∧ y.1 < a + h) ?_ ?_
    · skip
      refine gn 1 ?_
      refine c_cut (X := Nat × Nat × Nat × Int) (fun y => [(0, .iface tv vv), (9, .pointer (some ⟨g9, 0, none⟩)), (10, .int .i64 y.1), (11, .int .i64 y.2.1), (12, .int .i64 y.2.2.1)]) (fun y => [(Q.X l), (g9, C [.int .i64 y.2.2.2] 3)]) (fun y => (a ≤ y.1 ∧ y.1 < a + h) ∧ (a ≤ y.2.1 ∧ y.2.1 < a + h) ∧ (a ≤ y.2.2.1 ∧ y.2.2.1 < a + h)) ?_ ?_
      · skip
        refine gn 6 ?_
        refine c_ifp rfl (fun h3 => ?_) (fun h3 => ?_)
        · refine gn 4 ?_
          refine oL (lC (adj_is (u := a) (v := a + h) hg h1 (by omega) hb) rfl (.cons (.tail .head) (.cons .head .nil))) ?_
          rintro ⟨r, H'⟩ ⟨x1, z1, rfl, hx1, rfl⟩
          simp only [List.cons_append, List.nil_append]
          refine gn 7 ?_
          refine oL (lC (adj_is (u := a) (v := a + h) hg h1 (by omega) hb) rfl (.cons .head (.cons .head .nil))) ?_
          rintro ⟨r, H'⟩ ⟨x2, z2, rfl, hx2, rfl⟩
          simp only [List.cons_append, List.nil_append]
          refine gn 6 ?_
          refine oL (lC (adj_is (u := a) (v := a + h) hg h1 (by omega) hb) rfl (.cons .head (.cons .head .nil))) ?_
          rintro ⟨r, H'⟩ ⟨x3, z3, rfl, hx3, rfl⟩
          simp only [List.cons_append, List.nil_append]
          refine gn 2 ?_
          exact n_cut (x1, x2, x3, z3) ⟨hx1, hx2, hx3⟩ aK (.refl _)
        · skip
          refine gn 1 ?_
          exact n_cut (a + h / 4, a + h / 4 * 2, a + h / 4 * 3, 0) ⟨by show a ≤ a + h / 4 ∧ a + h / 4 < a + h; omega, by show a ≤ a + h / 4 * 2 ∧ a + h / 4 * 2 < a + h; omega, by show a ≤ a + h / 4 * 3 ∧ a + h / 4 * 3 < a + h; omega⟩ aK (List.Perm.swap _ _ _)
      · rintro ⟨x1, x2, x3, z3⟩ ⟨hx1, hx2, hx3⟩
        simp only at hx1 hx2 hx3 ⊢
        refine gn 6 ?_
        refine oL (lC (med_is (u := a) (v := a + h) hg h1 hx1 hx2 hx3 hb) rfl (.cons .head (.cons .head .nil))) ?_
        rintro ⟨r, H'⟩ ⟨x4, z4, rfl, hx4, rfl⟩
        simp only [List.cons_append, List.nil_append]
        refine gn 2 ?_
        exact n_cut (x4, z4) hx4 aK (.refl _)
    · rintro ⟨x4, z4⟩ hx4
      simp only at hx4 ⊢
      refine gn 13 ?_
      refine c_if rfl (fun h5 => ?_) (fun h5 => ?_)
      · refine gn 8 ?_
        refine WR.sel (.cons .head .nil) ?_
        refine r_fn (l := [.tmp 6, .tmp 7]) results346 rfl rfl ?_
        exact ⟨_, _, rfl, hx4, rfl⟩
      · skip
        refine gn 6 ?_
        refine c_if rfl (fun h6 => ?_) (fun h6 => ?_)
        · refine gn 8 ?_
          refine WR.sel (.cons .head .nil) ?_
          refine r_fn (l := [.tmp 6, .tmp 7]) results346 rfl rfl ?_
          exact ⟨_, _, rfl, hx4, rfl⟩
        · skip
          refine gn 8 ?_
          refine WR.sel (.cons .head .nil) ?_
          refine r_fn (l := [.tmp 6, .tmp 7]) results346 rfl rfl ?_
          exact ⟨_, _, rfl, hx4, rfl⟩
  · exact absurd h2 (by omega)
end
end Go.Proofs.AI
namespace Go.Proofs.AI
open Go Go.Sl Tryz
set_option maxRecDepth 100000
set_option maxHeartbeats 1000000
section
variable {G : HP} {n : Nat} {tv : TypeId} {vv : Value} {l : List Int} {Q : SoC G tv vv n}
theorem rev_is {a b : Nat} (hg : Q.Lg l) (h1 : n ≤ 100000) (hab : a < b) (hb : b ≤ n) :
    Ctr prog 347 [.iface tv vv, .int .i64 a, .int .i64 b] G [(Q.X l)] (fun r H' => r = .tuple #[] ∧ ∃ l', PR a b l l' ∧ H' = [(Q.X l')]) := by
  have hn := Q.len hg
  refine fn_enter 22 func347 rfl ntmps347 rfl ?_
  intro w0
  refine gn 14 ?_
  refine c_loop (X := List Int × Nat × Nat) (fun y => [(0, .iface tv vv), (6, .int .i64 y.2.1), (7, .int .i64 y.2.2)]) (fun y => [(Q.X y.1)]) (fun y => PR a b l y.1 ∧ a ≤ y.2.1 ∧ y.2.2 < b) (fun y => y.2.2 - y.2.1) (l, a, b - 1) ⟨.refl, Nat.le_refl _, by show b - 1 < b; omega⟩ aK (.refl _) ?_
  rintro ⟨m, i, j⟩ ⟨hm, hi0, hj⟩
  simp only at hm hi0 hj ⊢
  have hl := hm.len
  have hg' := Q.pr hm (by omega) hg
  refine gn 8 ?_
  refine c_ifp rfl (fun h2 => ?_) (fun h2 => ?_)
  · refine gn 8 ?_
    refine oL (l_calli0 Q.hfS Q.hmS (Q.swap (by first | assumption | exact Q.sw (by assumption) (by omega) (by omega)) (by first | omega | (simp; omega)) (by first | omega | (simp; omega))) rfl rfl rfl (by first | exact .cons .head .nil | exact .cons (.tail .head) .nil)) ?_
    rintro ⟨r, H'⟩ ⟨rfl, rfl⟩
    simp only [List.cons_append, List.nil_append]
    refine gn 15 ?_
    refine n_round' (y := (m, i, j)) (swp m i j, i + 1, j - 1) (by show j - 1 - (i + 1) < j - i; omega) ?_ aK _ (.refl _) (List.Sublist.refl _)
    exact ⟨hm.swap (by omega) (by omega) (by omega) (by omega) (by omega), by show a ≤ i + 1; omega, by show j - 1 < b; omega⟩
  · skip
    refine gn 4 ?_
    refine n_fn0 results347 ?_
    exact ⟨rfl, m, hm, rfl⟩
theorem part_is {a b : Nat} (hg : Q.Lg l) (h1 : n ≤ 100000) (hab : a < b) (hb : b ≤ n) (hlb : Lb a b l) :
    Ctr prog 348 [.iface tv vv, .int .i64 a, .int .i64 b] G [(Q.X l)] (fun r H' => ∃ (t : Bool) (l' : List Int), r = .bool t ∧ PR a b l l' ∧ (t = true → SR a b l') ∧ H' = [(Q.X l')]) := by
  have hn := Q.len hg
  refine fn_enter 85 func348 rfl ntmps348 rfl ?_
  intro w0
  refine gn 19 ?_
  refine c_loop (X := List Int × Nat × Nat) (fun y => [(0, .iface tv vv), (1, .int .i64 a), (2, .int .i64 b), (7, .int .i64 y.2.1), (8, .int .i64 y.2.2)]) (fun y => [(Q.X y.1)]) (fun y => PR a b l y.1 ∧ a < y.2.1 ∧ y.2.1 ≤ b ∧ SR a y.2.1 y.1 ∧ y.2.2 ≤ 5) (fun y => 5 - y.2.2) (l, a + 1, 0) ⟨.refl, by show a < a + 1; omega, by show a + 1 ≤ b; omega, .small (Nat.le_refl _), Nat.zero_le _⟩ aK (.refl _) ?_
  rintro ⟨m, i, j⟩ ⟨hm, hi0, hi1, hs, hj⟩
  simp only at hm hi0 hi1 hs hj ⊢
  have hl := hm.len
  have hg' := Q.pr hm (by omega) hg
  refine gn 7 ?_
  refine c_ifp rfl (fun h2 => ?_) (fun h2 => ?_)
  · refine gn 5 ?_
    refine c_cut (X := Nat) (fun i => [(0, .iface tv vv), (1, .int .i64 a), (2, .int .i64 b), (7, .int .i64 i), (8, .int .i64 j)]) (fun _ => [(Q.X m)]) (fun i => a < i ∧ i ≤ b ∧ SR a i m ∧ (i < b → gd m i < gd m (i - 1))) ?_ ?_
    · skip
      refine gn 1 ?_
      refine c_loop (X := Nat) (fun i => [(0, .iface tv vv), (1, .int .i64 a), (2, .int .i64 b), (7, .int .i64 i), (8, .int .i64 j)]) (fun _ => [(Q.X m)]) (fun i => a < i ∧ i ≤ b ∧ SR a i m) (fun i => b - i) i ⟨hi0, hi1, hs⟩ aK (.refl _) ?_
      clear hi0 hi1 hs
      rintro i ⟨hi0, hi1, hs⟩
      refine gn 7 ?_
      refine o_splitp 20 rfl (fun h3 => ?_) (fun h3 => ?_)
      · refine gn 4 ?_
        refine o_inv rfl Q.hfL Q.hmL (Q.less (by first | assumption | exact Q.sw (by assumption) (by omega) (by omega)) (by first | omega | (simp; omega)) (by first | omega | (simp; omega))) rfl rfl rfl (.cons .head .nil) ?_
        refine gn 4 ?_
        refine c_if rfl (fun h4 => ?_) (fun h4 => ?_)
        · have h4' : ¬ gd m i < gd m (i - 1) := by simpa using h4
          refine gn 9 ?_
          refine n_round' (y := i) (i + 1) (by omega) ⟨by omega, by omega, hs.snoc hi0 (Int.not_lt.1 h4')⟩ aK _ (.refl _) (List.Sublist.refl _)
        · skip
          have h4' : gd m i < gd m (i - 1) := by simpa using h4
          refine gn 4 ?_
          exact n_cut i ⟨hi0, hi1, hs, fun _ => h4'⟩ aK (.refl _)
      · skip
        refine gn 14 ?_
        exact n_cut i ⟨hi0, hi1, hs, fun _ => by omega⟩ aK (.refl _)
    · clear hi0 hi1 hs
      rintro i ⟨hi0, hi1, hs, hlt⟩
      refine gn 9 ?_
      refine c_ifp rfl (fun h3 => ?_) (fun h3 => ?_)
      · refine gn 6 ?_
        refine r_fn1 results348 rfl ?_
        obtain rfl : i = b := by omega
        exact ⟨true, m, rfl, hm, fun _ => hs, rfl⟩
      · skip
        have hlt' := hlt (by omega)
        refine gn 11 ?_
        refine c_ifp rfl (fun h4 => ?_) (fun h4 => ?_)
        · refine gn 6 ?_
          refine r_fn1 results348 rfl ?_
          exact ⟨false, m, rfl, hm, by simp, rfl⟩
        · skip
          refine gn 8 ?_
          refine oL (l_calli0 Q.hfS Q.hmS (Q.swap (by first | assumption | exact Q.sw (by assumption) (by omega) (by omega)) (by first | omega | (simp; omega)) (by first | omega | (simp; omega))) rfl rfl rfl (by first | exact .cons .head .nil | exact .cons (.tail .head) .nil)) ?_
          rintro ⟨r, H'⟩ ⟨rfl, rfl⟩
          simp only [List.cons_append, List.nil_append]
          refine gn 3 ?_
          have hsw : PR a b m (swp m i (i - 1)) := .one (by omega) (by omega) (by omega) (by omega) (by omega)
          have hpre : SR a (i - 1) (swp m i (i - 1)) := (hs.less (Nat.le_refl _) (by omega)).congr fun k k1 k2 => by rw [gd_swp (by omega) (by omega), if_neg (by omega), if_neg (by omega)]
          refine c_cut (X := List Int) (fun _ => [(0, .iface tv vv), (1, .int .i64 a), (2, .int .i64 b), (7, .int .i64 i), (8, .int .i64 j)]) (fun m => [(Q.X m)]) (fun m => PR a b l m ∧ SR a i m) ?_ ?_
          · skip
            refine gn 8 ?_
            refine c_ifp rfl (fun h5 => ?_) (fun h5 => ?_)
            · refine gn 8 ?_
              refine c_loop (X := List Int × Nat) (fun y => [(0, .iface tv vv), (1, .int .i64 a), (2, .int .i64 b), (7, .int .i64 i), (8, .int .i64 j), (9, .int .i64 y.2)]) (fun y => [(Q.X y.1)]) (fun y => PR a b l y.1 ∧ Ins a y.2 i y.1 ∧ a ≤ y.2 ∧ y.2 < i) (fun y => y.2) (swp m i (i - 1), i - 1) ⟨hm.trans hsw, by have := Ins.start hpre; rwa [show i - 1 + 1 = i by omega] at this, by show a ≤ i - 1; omega, by show i - 1 < i; omega⟩ aK (.refl _) ?_
              rintro ⟨q, k⟩ ⟨hq, hin, hk0, hk1⟩
              simp only at hq hin hk0 hk1 ⊢
              have hlq := hq.len
              have hgq := Q.pr (show PR a b l q by first | exact hq | exact hm.trans (hq.mono (by omega) (Nat.le_refl _) (by omega))) (by omega) hg
              refine gn 7 ?_
              refine c_ifp rfl (fun h6 => ?_) (fun h6 => ?_)
              · refine gn 11 ?_
                refine o_inv rfl Q.hfL Q.hmL (Q.less (by first | assumption | exact Q.sw (by assumption) (by omega) (by omega)) (by first | omega | (simp; omega)) (by first | omega | (simp; omega))) rfl rfl rfl (.cons .head .nil) ?_
                refine gn 3 ?_
                refine c_if rfl (fun h7 => ?_) (fun h7 => ?_)
                · refine gn 6 ?_
                  have h7' : ¬ gd q k < gd q (k - 1) := by simpa using h7
                  exact n_cut q ⟨hq, hin.stop (.inr h7')⟩ aK (.refl _)
                · skip
                  have h7' : gd q k < gd q (k - 1) := by simpa using h7
                  have hka : a < k := by
                    rcases hlb.pr hq (Nat.le_refl _) (Nat.le_refl _) with h | h
                    · omega
                    · by_cases he : k = a
                      · subst he; exact absurd h7' (Int.not_lt.2 (h k (Nat.le_refl _) (by omega)))
                      · omega
                  refine gn 7 ?_
                  refine oL (l_calli0 Q.hfS Q.hmS (Q.swap (by first | assumption | exact Q.sw (by assumption) (by omega) (by omega)) (by first | omega | (simp; omega)) (by first | omega | (simp; omega))) rfl rfl rfl (by first | exact .cons .head .nil | exact .cons (.tail .head) .nil)) ?_
                  rintro ⟨r, H'⟩ ⟨rfl, rfl⟩
                  simp only [List.cons_append, List.nil_append]
                  refine gn 8 ?_
                  refine n_round' (y := (q, k)) (swp q k (k - 1), k - 1) (by show k - 1 < k; omega) ?_ aK _ (.refl _) (List.Sublist.refl _)
                  exact ⟨hq.swap (by omega) (by omega) (by omega) (by omega) (by omega), hin.step h7' hka hk1 (by omega), by show a ≤ k - 1; omega, by show k - 1 < i; omega⟩
              · skip
                refine gn 4 ?_
                exact n_cut q ⟨hq, hin.stop (.inl (by omega))⟩ aK (.refl _)
            · skip
              refine gn 1 ?_
              exact n_cut (swp m i (i - 1)) ⟨hm.trans hsw, .small (by omega)⟩ aK (.refl _)
          · clear hs hpre hsw hlt hlt' hm hl
            rintro m ⟨hm, hs⟩
            have hl := hm.len
            have hg' := Q.pr hm (by omega) hg
            refine gn 1 ?_
            refine c_cut (X := List Int) (fun _ => [(0, .iface tv vv), (1, .int .i64 a), (2, .int .i64 b), (7, .int .i64 i), (8, .int .i64 j)]) (fun m => [(Q.X m)]) (fun m => PR a b l m ∧ SR a i m) ?_ ?_
            · skip
              refine gn 8 ?_
              refine c_ifp rfl (fun h5 => ?_) (fun h5 => ?_)
              · refine gn 8 ?_
                refine c_loop (X := List Int × Nat) (fun y => [(0, .iface tv vv), (1, .int .i64 a), (2, .int .i64 b), (7, .int .i64 i), (8, .int .i64 j), (10, .int .i64 y.2)]) (fun y => [(Q.X y.1)]) (fun y => PR i b m y.1 ∧ i < y.2) (fun y => b - y.2) (m, i + 1) ⟨.refl, by show i < i + 1; omega⟩ aK (.refl _) ?_
                rintro ⟨q, k⟩ ⟨hq, hk0⟩
                simp only at hq hk0 ⊢
                have hlq := hq.len
                have hgq := Q.pr (show PR a b l q by first | exact hq | exact hm.trans (hq.mono (by omega) (Nat.le_refl _) (by omega))) (by omega) hg
                have hfin : PR a b l q ∧ SR a i q := ⟨hm.trans (hq.mono (by omega) (Nat.le_refl _) (by omega)), hs.congr fun p _ hp => hq.out (.inl hp)⟩
                refine gn 8 ?_
                refine c_ifp rfl (fun h6 => ?_) (fun h6 => ?_)
                · refine gn 11 ?_
                  refine o_inv rfl Q.hfL Q.hmL (Q.less (by first | assumption | exact Q.sw (by assumption) (by omega) (by omega)) (by first | omega | (simp; omega)) (by first | omega | (simp; omega))) rfl rfl rfl (.cons .head .nil) ?_
                  refine gn 3 ?_
                  refine c_if rfl (fun h7 => ?_) (fun h7 => ?_)
                  · refine gn 6 ?_
                    exact n_cut q hfin aK (.refl _)
                  · skip
                    refine gn 7 ?_
                    refine oL (l_calli0 Q.hfS Q.hmS (Q.swap (by first | assumption | exact Q.sw (by assumption) (by omega) (by omega)) (by first | omega | (simp; omega)) (by first | omega | (simp; omega))) rfl rfl rfl (by first | exact .cons .head .nil | exact .cons (.tail .head) .nil)) ?_
                    rintro ⟨r, H'⟩ ⟨rfl, rfl⟩
                    simp only [List.cons_append, List.nil_append]
                    refine gn 8 ?_
                    refine n_round' (y := (q, k)) (swp q k (k - 1), k + 1) (by show b - (k + 1) < b - k; omega) ?_ aK _ (.refl _) (List.Sublist.refl _)
                    exact ⟨hq.swap (by omega) (by omega) (by omega) (by omega) (by omega), by show i < k + 1; omega⟩
                · skip
                  refine gn 4 ?_
                  exact n_cut q hfin aK (.refl _)
              · skip
                refine gn 1 ?_
                exact n_cut m ⟨hm, hs⟩ aK (.refl _)
            · clear hs hm hl
              rintro m ⟨hm, hs⟩
              refine gn 7 ?_
              refine n_round (y := (l, 0, j)) (m, i, j + 1) (by show 5 - (j + 1) < 5 - j; omega) ?_ aK (.refl _)
              exact ⟨hm, hi0, hi1, hs, by show j + 1 ≤ 5; omega⟩
  · skip
    refine gn 11 ?_
    refine r_fn1 results348 rfl ?_
    exact ⟨false, m, rfl, hm, by simp, rfl⟩
end
end Go.Proofs.AI
namespace Go.Proofs.AI
open Go Go.Sl Tryz
set_option maxRecDepth 100000
set_option maxHeartbeats 1000000
section
variable {G : HP} {n : Nat} {tv : TypeId} {vv : Value} {l : List Int} {Q : SoC G tv vv n}
theorem peq_is {a b p : Nat} (hg : Q.Lg l) (h1 : n ≤ 100000) (hap : a ≤ p) (hpb : p < b) (hb : b ≤ n) :
    Ctr prog 349 [.iface tv vv, .int .i64 a, .int .i64 b, .int .i64 p] G [(Q.X l)] (fun r H' => ∃ (m : Nat) (l' : List Int), r = .int .i64 m ∧ PR a b l l' ∧ PeF a b m l' ∧ gd l' a = gd l p ∧ H' = [(Q.X l')]) := by
  have hn := Q.len hg
  have hsl := swp_length l a p
  have hsw : PR a b l (swp l a p) := .one (Nat.le_refl _) (by omega) hap hpb (by omega)
  refine fn_enter 54 func349 rfl ntmps349 rfl ?_
  intro w0
  refine gn 10 ?_
  first | refine o_l rfl (l_calli0 Q.hfS Q.hmS (Q.swap (by first | assumption | exact Q.sw (by assumption) (by omega) (by omega)) (by first | omega | (simp; omega)) (by first | omega | (simp; omega))) rfl rfl rfl (.cons .head .nil)) ?_ | refine o_l rfl (l_calli0 Q.hfS Q.hmS (Q.swap (by first | assumption | exact Q.sw (by assumption) (by omega) (by omega)) (by first | omega | (simp; omega)) (by first | omega | (simp; omega))) rfl rfl rfl (.cons (.tail .head) .nil)) ?_
  rintro ⟨r, H'⟩ ⟨rfl, rfl⟩
  simp only [List.cons_append, List.nil_append]
  refine gn 14 ?_
  refine c_loop (X := List Int × Nat × Nat) (fun y => [(0, .iface tv vv), (1, .int .i64 a), (9, .int .i64 y.2.1), (10, .int .i64 y.2.2)]) (fun y => [(Q.X y.1)]) (fun y => PR a b l y.1 ∧ Pe a b y.2.1 y.2.2 y.1 ∧ gd y.1 a = gd l p) (fun y => y.2.2 + 1 - y.2.1) (swp l a p, a + 1, b - 1) ⟨hsw, .start (by omega), by show gd (swp l a p) a = gd l p; rw [gd_swp (by omega) (by omega)]; split <;> simp_all⟩ aK (.refl _) ?_
  clear hsl hsw
  rintro ⟨m, i0, j0⟩ ⟨hm, hpe0, hga⟩
  simp only at hm hpe0 hga ⊢
  have hl := hm.len
  have hg' := Q.pr hm (by omega) hg
  refine gn 2 ?_
  refine c_cut (X := Nat) (fun i => [(0, .iface tv vv), (1, .int .i64 a), (9, .int .i64 i), (10, .int .i64 j0)]) (fun _ => [(Q.X m)]) (fun i => i0 ≤ i ∧ Pe a b i j0 m ∧ (i ≤ j0 → gd m a < gd m i)) ?_ ?_
  · skip
    refine gn 1 ?_
    refine c_loop (X := Nat) (fun i => [(0, .iface tv vv), (1, .int .i64 a), (9, .int .i64 i), (10, .int .i64 j0)]) (fun _ => [(Q.X m)]) (fun i => i0 ≤ i ∧ Pe a b i j0 m) (fun i => j0 + 1 - i) i0 ⟨Nat.le_refl _, hpe0⟩ aK (.refl _) ?_
    rintro i ⟨hii, hpe⟩
    have k1 := hpe.ai
    have k2 := hpe.jb
    refine gn 7 ?_
    refine o_splitp 22 rfl (fun h3 => ?_) (fun h3 => ?_)
    · refine gn 3 ?_
      refine o_inv rfl Q.hfL Q.hmL (Q.less (by first | assumption | exact Q.sw (by assumption) (by omega) (by omega)) (by first | omega | (simp; omega)) (by first | omega | (simp; omega))) rfl rfl rfl (.cons .head .nil) ?_
      refine gn 4 ?_
      refine c_if rfl (fun h4 => ?_) (fun h4 => ?_)
      · have h4' : ¬ gd m a < gd m i := by simpa using h4
        refine gn 9 ?_
        refine n_round' (y := i) (i + 1) (by omega) ⟨by omega, hpe.incr (by omega) h4'⟩ aK _ (.refl _) (List.Sublist.refl _)
      · skip
        have h4' : gd m a < gd m i := by simpa using h4
        refine gn 4 ?_
        exact n_cut i ⟨hii, hpe, fun _ => h4'⟩ aK (.refl _)
    · skip
      refine gn 13 ?_
      exact n_cut i ⟨hii, hpe, fun _ => by omega⟩ aK (.refl _)
  · clear hpe0
    rintro i ⟨hii, hpe0, hgt⟩
    refine gn 2 ?_
    refine c_cut (X := Nat) (fun j => [(0, .iface tv vv), (1, .int .i64 a), (9, .int .i64 i), (10, .int .i64 j)]) (fun _ => [(Q.X m)]) (fun j => j ≤ j0 ∧ Pe a b i j m ∧ (i ≤ j → ¬ gd m a < gd m j)) ?_ ?_
    · skip
      refine gn 1 ?_
      refine c_loop (X := Nat) (fun j => [(0, .iface tv vv), (1, .int .i64 a), (9, .int .i64 i), (10, .int .i64 j)]) (fun _ => [(Q.X m)]) (fun j => j ≤ j0 ∧ Pe a b i j m) (fun j => j + 1 - i) j0 ⟨Nat.le_refl _, hpe0⟩ aK (.refl _) ?_
      rintro j ⟨hjj, hpe⟩
      have k1 := hpe.ai
      have k2 := hpe.jb
      refine gn 7 ?_
      refine o_splitp 34 rfl (fun h3 => ?_) (fun h3 => ?_)
      · refine gn 3 ?_
        refine o_inv rfl Q.hfL Q.hmL (Q.less (by first | assumption | exact Q.sw (by assumption) (by omega) (by omega)) (by first | omega | (simp; omega)) (by first | omega | (simp; omega))) rfl rfl rfl (.cons .head .nil) ?_
        refine gn 3 ?_
        refine c_if rfl (fun h4 => ?_) (fun h4 => ?_)
        · have h4' : gd m a < gd m j := by simpa using h4
          refine gn 9 ?_
          refine n_round' (y := j) (j - 1) (by omega) ⟨by omega, hpe.decr (by omega) h4'⟩ aK _ (.refl _) (List.Sublist.refl _)
        · skip
          have h4' : ¬ gd m a < gd m j := by simpa using h4
          refine gn 4 ?_
          exact n_cut j ⟨hjj, hpe, fun _ => h4'⟩ aK (.refl _)
      · skip
        refine gn 12 ?_
        exact n_cut j ⟨hjj, hpe, fun _ => by omega⟩ aK (.refl _)
    · clear hpe0
      rintro j ⟨hjj, hpe, hle⟩
      have k1 := hpe.ai
      have k2 := hpe.jb
      refine gn 9 ?_
      refine c_ifp rfl (fun h5 => ?_) (fun h5 => ?_)
      · refine gn 13 ?_
        refine r_fn1 results349 rfl ?_
        exact ⟨i, m, rfl, hm, hpe.fin (by omega), hga, rfl⟩
      · skip
        refine gn 7 ?_
        first | refine o_l rfl (l_calli0 Q.hfS Q.hmS (Q.swap (by first | assumption | exact Q.sw (by assumption) (by omega) (by omega)) (by first | omega | (simp; omega)) (by first | omega | (simp; omega))) rfl rfl rfl (.cons .head .nil)) ?_ | refine o_l rfl (l_calli0 Q.hfS Q.hmS (Q.swap (by first | assumption | exact Q.sw (by assumption) (by omega) (by omega)) (by first | omega | (simp; omega)) (by first | omega | (simp; omega))) rfl rfl rfl (.cons (.tail .head) .nil)) ?_
        rintro ⟨r, H'⟩ ⟨rfl, rfl⟩
        simp only [List.cons_append, List.nil_append]
        refine gn 15 ?_
        refine n_round' (y := (m, i0, j0)) (swp m i j, i + 1, j - 1) (by show j - 1 + 1 - (i + 1) < j0 + 1 - i0; omega) ?_ aK _ (.refl _) (List.Sublist.refl _)
        refine ⟨hm.swap (by omega) (by omega) (by omega) (by omega) (by omega), hpe.swap (by omega) (hgt (by omega)) (hle (by omega)) (by omega), ?_⟩
        show gd (swp m i j) a = gd l p
        rw [gd_swp (by omega) (by omega), if_neg (by omega), if_neg (by omega), hga]
theorem part2_is {a b p : Nat} (hg : Q.Lg l) (h1 : n ≤ 100000) (hap : a ≤ p) (hpb : p < b) (hb : b ≤ n) :
    Ctr prog 350 [.iface tv vv, .int .i64 a, .int .i64 b, .int .i64 p] G [(Q.X l)] (fun r H' => ∃ (m : Nat) (t : Bool) (l' : List Int), r = .tuple #[.int .i64 m, .bool t] ∧ PR a b l l' ∧ PtF a b m l' ∧ H' = [(Q.X l')]) := by
  have hn := Q.len hg
  have hsl := swp_length l a p
  have hm : PR a b l (swp l a p) := .one (Nat.le_refl _) (by omega) hap hpb (by omega)
  have hl := hm.len
  have hg' := Q.pr hm (by omega) hg
  have hpe0 : Pt a b (a + 1) (b - 1) (swp l a p) := .start (by omega)
  refine fn_enter 98 func350 rfl ntmps350 rfl ?_
  intro w0
  refine gn 11 ?_
  first | refine o_l rfl (l_calli0 Q.hfS Q.hmS (Q.swap (by first | assumption | exact Q.sw (by assumption) (by omega) (by omega)) (by first | omega | (simp; omega)) (by first | omega | (simp; omega))) rfl rfl rfl (.cons .head .nil)) ?_ | refine o_l rfl (l_calli0 Q.hfS Q.hmS (Q.swap (by first | assumption | exact Q.sw (by assumption) (by omega) (by omega)) (by first | omega | (simp; omega)) (by first | omega | (simp; omega))) rfl rfl rfl (.cons (.tail .head) .nil)) ?_
  rintro ⟨r, H'⟩ ⟨rfl, rfl⟩
  simp only [List.cons_append, List.nil_append]
  refine gn 13 ?_
  generalize swp l a p = m at *
  obtain ⟨i0, hi0⟩ : ∃ i0, i0 = a + 1 := ⟨_, rfl⟩
  obtain ⟨j0, hj0⟩ : ∃ j0, j0 = b - 1 := ⟨_, rfl⟩
  rw [← hi0, ← hj0] at hpe0
  refine WC.less (s' := [(0, .iface tv vv), (1, .int .i64 a), (10, .int .i64 i0), (11, .int .i64 j0)]) (by subst hi0 hj0; exact aK) (List.Sublist.refl _) ?_
  clear hi0 hj0

  refine c_cut (X := Nat) (fun i => [(0, .iface tv vv), (1, .int .i64 a), (10, .int .i64 i), (11, .int .i64 j0)]) (fun _ => [(Q.X m)]) (fun i => i0 ≤ i ∧ Pt a b i j0 m ∧ (i ≤ j0 → ¬ gd m i < gd m a)) ?_ ?_
  · skip
    refine gn 1 ?_
    refine c_loop (X := Nat) (fun i => [(0, .iface tv vv), (1, .int .i64 a), (10, .int .i64 i), (11, .int .i64 j0)]) (fun _ => [(Q.X m)]) (fun i => i0 ≤ i ∧ Pt a b i j0 m) (fun i => j0 + 1 - i) i0 ⟨Nat.le_refl _, hpe0⟩ aK (.refl _) ?_
    rintro i ⟨hii, hpe⟩
    have k1 := hpe.ai
    have k2 := hpe.jb
    refine gn 7 ?_
    refine o_splitp 23 rfl (fun h3 => ?_) (fun h3 => ?_)
    · refine gn 3 ?_
      refine o_inv rfl Q.hfL Q.hmL (Q.less (by first | assumption | exact Q.sw (by assumption) (by omega) (by omega)) (by first | omega | (simp; omega)) (by first | omega | (simp; omega))) rfl rfl rfl (.cons .head .nil) ?_
      refine gn 3 ?_
      refine c_if rfl (fun h4 => ?_) (fun h4 => ?_)
      · have h4' : gd m i < gd m a := by simpa using h4
        refine gn 9 ?_
        refine n_round' (y := i) (i + 1) (by omega) ⟨by omega, hpe.incr (by omega) h4'⟩ aK _ (.refl _) (List.Sublist.refl _)
      · skip
        have h4' : ¬ gd m i < gd m a := by simpa using h4
        refine gn 4 ?_
        exact n_cut i ⟨hii, hpe, fun _ => h4'⟩ aK (.refl _)
    · skip
      refine gn 12 ?_
      exact n_cut i ⟨hii, hpe, fun _ => by omega⟩ aK (.refl _)
  · clear hpe0
    rintro i ⟨hii, hpe0, hgt⟩
    refine gn 2 ?_
    refine c_cut (X := Nat) (fun j => [(0, .iface tv vv), (1, .int .i64 a), (10, .int .i64 i), (11, .int .i64 j)]) (fun _ => [(Q.X m)]) (fun j => j ≤ j0 ∧ Pt a b i j m ∧ (i ≤ j → gd m j < gd m a)) ?_ ?_
    · skip
      refine gn 1 ?_
      refine c_loop (X := Nat) (fun j => [(0, .iface tv vv), (1, .int .i64 a), (10, .int .i64 i), (11, .int .i64 j)]) (fun _ => [(Q.X m)]) (fun j => j ≤ j0 ∧ Pt a b i j m) (fun j => j + 1 - i) j0 ⟨Nat.le_refl _, hpe0⟩ aK (.refl _) ?_
      rintro j ⟨hjj, hpe⟩
      have k1 := hpe.ai
      have k2 := hpe.jb
      refine gn 7 ?_
      refine o_splitp 34 rfl (fun h3 => ?_) (fun h3 => ?_)
      · refine gn 3 ?_
        refine o_inv rfl Q.hfL Q.hmL (Q.less (by first | assumption | exact Q.sw (by assumption) (by omega) (by omega)) (by first | omega | (simp; omega)) (by first | omega | (simp; omega))) rfl rfl rfl (.cons .head .nil) ?_
        refine gn 4 ?_
        refine c_if rfl (fun h4 => ?_) (fun h4 => ?_)
        · have h4' : ¬ gd m j < gd m a := by simpa using h4
          refine gn 9 ?_
          refine n_round' (y := j) (j - 1) (by omega) ⟨by omega, hpe.decr (by omega) h4'⟩ aK _ (.refl _) (List.Sublist.refl _)
        · skip
          have h4' : gd m j < gd m a := by simpa using h4
          refine gn 4 ?_
          exact n_cut j ⟨hjj, hpe, fun _ => h4'⟩ aK (.refl _)
      · skip
        refine gn 13 ?_
        exact n_cut j ⟨hjj, hpe, fun _ => by omega⟩ aK (.refl _)
    · clear hpe0
      rintro j ⟨hjj, hpe, hle⟩
      have k1 := hpe.ai
      have k2 := hpe.jb
      have k3 := hpe.ij
      refine gn 9 ?_
      refine c_ifp rfl (fun h5 => ?_) (fun h5 => ?_)
      · refine gn 5 ?_
        first | refine o_l rfl (l_calli0 Q.hfS Q.hmS (Q.swap (by first | assumption | exact Q.sw (by assumption) (by omega) (by omega)) (by first | omega | (simp; omega)) (by first | omega | (simp; omega))) rfl rfl rfl (.cons .head .nil)) ?_ | refine o_l rfl (l_calli0 Q.hfS Q.hmS (Q.swap (by first | assumption | exact Q.sw (by assumption) (by omega) (by omega)) (by first | omega | (simp; omega)) (by first | omega | (simp; omega))) rfl rfl rfl (.cons (.tail .head) .nil)) ?_
        rintro ⟨r, H'⟩ ⟨rfl, rfl⟩
        simp only [List.cons_append, List.nil_append]
        refine gn 10 ?_
        refine r_fn (l := [.tmp 8, .tmp 9]) results350 rfl rfl ?_
        exact ⟨j, true, swp m j a, rfl, hm.swap (by omega) (by omega) (by omega) (by omega) (by omega), hpe.fin (by omega) (by omega), rfl⟩
      · skip
        refine gn 7 ?_
        first | refine o_l rfl (l_calli0 Q.hfS Q.hmS (Q.swap (by first | assumption | exact Q.sw (by assumption) (by omega) (by omega)) (by first | omega | (simp; omega)) (by first | omega | (simp; omega))) rfl rfl rfl (.cons .head .nil)) ?_ | refine o_l rfl (l_calli0 Q.hfS Q.hmS (Q.swap (by first | assumption | exact Q.sw (by assumption) (by omega) (by omega)) (by first | omega | (simp; omega)) (by first | omega | (simp; omega))) rfl rfl rfl (.cons (.tail .head) .nil)) ?_
        rintro ⟨r, H'⟩ ⟨rfl, rfl⟩
        simp only [List.cons_append, List.nil_append]
        refine gn 18 ?_
        refine c_loop (X := List Int × Nat × Nat) (fun y => [(0, .iface tv vv), (1, .int .i64 a), (10, .int .i64 y.2.1), (11, .int .i64 y.2.2)]) (fun y => [(Q.X y.1)]) (fun y => PR a b l y.1 ∧ Pt a b y.2.1 y.2.2 y.1) (fun y => y.2.2 + 1 - y.2.1) (swp m i j, i + 1, j - 1) ⟨hm.swap (by omega) (by omega) (by omega) (by omega) (by omega), hpe.swap (by omega) (hgt (by omega)) (hle (by omega)) (by omega)⟩ aK (.refl _) ?_
        clear hm hpe hle hgt hl k1 k2 k3 hii hjj h5
        rintro ⟨m, i0, j0⟩ ⟨hm, hpe0⟩
        simp only at hm hpe0 ⊢
        have hl := hm.len
        have hg' := Q.pr hm (by omega) hg
        refine gn 2 ?_
        refine c_cut (X := Nat) (fun i => [(0, .iface tv vv), (1, .int .i64 a), (10, .int .i64 i), (11, .int .i64 j0)]) (fun _ => [(Q.X m)]) (fun i => i0 ≤ i ∧ Pt a b i j0 m ∧ (i ≤ j0 → ¬ gd m i < gd m a)) ?_ ?_
        · skip
          refine gn 1 ?_
          refine c_loop (X := Nat) (fun i => [(0, .iface tv vv), (1, .int .i64 a), (10, .int .i64 i), (11, .int .i64 j0)]) (fun _ => [(Q.X m)]) (fun i => i0 ≤ i ∧ Pt a b i j0 m) (fun i => j0 + 1 - i) i0 ⟨Nat.le_refl _, hpe0⟩ aK (.refl _) ?_
          rintro i ⟨hii, hpe⟩
          have k1 := hpe.ai
          have k2 := hpe.jb
          refine gn 7 ?_
          refine o_splitp 62 rfl (fun h3 => ?_) (fun h3 => ?_)
          · refine gn 3 ?_
            refine o_inv rfl Q.hfL Q.hmL (Q.less (by first | assumption | exact Q.sw (by assumption) (by omega) (by omega)) (by first | omega | (simp; omega)) (by first | omega | (simp; omega))) rfl rfl rfl (.cons .head .nil) ?_
            refine gn 3 ?_
            refine c_if rfl (fun h4 => ?_) (fun h4 => ?_)
            · have h4' : gd m i < gd m a := by simpa using h4
              refine gn 9 ?_
              refine n_round' (y := i) (i + 1) (by omega) ⟨by omega, hpe.incr (by omega) h4'⟩ aK _ (.refl _) (List.Sublist.refl _)
            · skip
              have h4' : ¬ gd m i < gd m a := by simpa using h4
              refine gn 4 ?_
              exact n_cut i ⟨hii, hpe, fun _ => h4'⟩ aK (.refl _)
          · skip
            refine gn 12 ?_
            exact n_cut i ⟨hii, hpe, fun _ => by omega⟩ aK (.refl _)
        · clear hpe0
          rintro i ⟨hii, hpe0, hgt⟩
          refine gn 2 ?_
          refine c_cut (X := Nat) (fun j => [(0, .iface tv vv), (1, .int .i64 a), (10, .int .i64 i), (11, .int .i64 j)]) (fun _ => [(Q.X m)]) (fun j => j ≤ j0 ∧ Pt a b i j m ∧ (i ≤ j → gd m j < gd m a)) ?_ ?_
          · skip
            refine gn 1 ?_
            refine c_loop (X := Nat) (fun j => [(0, .iface tv vv), (1, .int .i64 a), (10, .int .i64 i), (11, .int .i64 j)]) (fun _ => [(Q.X m)]) (fun j => j ≤ j0 ∧ Pt a b i j m) (fun j => j + 1 - i) j0 ⟨Nat.le_refl _, hpe0⟩ aK (.refl _) ?_
            rintro j ⟨hjj, hpe⟩
            have k1 := hpe.ai
            have k2 := hpe.jb
            refine gn 7 ?_
            refine o_splitp 73 rfl (fun h3 => ?_) (fun h3 => ?_)
            · refine gn 3 ?_
              refine o_inv rfl Q.hfL Q.hmL (Q.less (by first | assumption | exact Q.sw (by assumption) (by omega) (by omega)) (by first | omega | (simp; omega)) (by first | omega | (simp; omega))) rfl rfl rfl (.cons .head .nil) ?_
              refine gn 4 ?_
              refine c_if rfl (fun h4 => ?_) (fun h4 => ?_)
              · have h4' : ¬ gd m j < gd m a := by simpa using h4
                refine gn 9 ?_
                refine n_round' (y := j) (j - 1) (by omega) ⟨by omega, hpe.decr (by omega) h4'⟩ aK _ (.refl _) (List.Sublist.refl _)
              · skip
                have h4' : gd m j < gd m a := by simpa using h4
                refine gn 4 ?_
                exact n_cut j ⟨hjj, hpe, fun _ => h4'⟩ aK (.refl _)
            · skip
              refine gn 13 ?_
              exact n_cut j ⟨hjj, hpe, fun _ => by omega⟩ aK (.refl _)
          · clear hpe0
            rintro j ⟨hjj, hpe, hle⟩
            have k1 := hpe.ai
            have k2 := hpe.jb
            have k3 := hpe.ij
            refine gn 9 ?_
            refine c_ifp rfl (fun h5 => ?_) (fun h5 => ?_)
            · refine gn 11 ?_
              first | refine o_l rfl (l_calli0 Q.hfS Q.hmS (Q.swap (by first | assumption | exact Q.sw (by assumption) (by omega) (by omega)) (by first | omega | (simp; omega)) (by first | omega | (simp; omega))) rfl rfl rfl (.cons .head .nil)) ?_ | refine o_l rfl (l_calli0 Q.hfS Q.hmS (Q.swap (by first | assumption | exact Q.sw (by assumption) (by omega) (by omega)) (by first | omega | (simp; omega)) (by first | omega | (simp; omega))) rfl rfl rfl (.cons (.tail .head) .nil)) ?_
              rintro ⟨r, H'⟩ ⟨rfl, rfl⟩
              simp only [List.cons_append, List.nil_append]
              refine gn 10 ?_
              refine r_fn (l := [.tmp 8, .tmp 9]) results350 rfl rfl ?_
              exact ⟨j, false, swp m j a, rfl, hm.swap (by omega) (by omega) (by omega) (by omega) (by omega), hpe.fin (by omega) (by omega), rfl⟩
            · skip
              refine gn 7 ?_
              first | refine o_l rfl (l_calli0 Q.hfS Q.hmS (Q.swap (by first | assumption | exact Q.sw (by assumption) (by omega) (by omega)) (by first | omega | (simp; omega)) (by first | omega | (simp; omega))) rfl rfl rfl (.cons .head .nil)) ?_ | refine o_l rfl (l_calli0 Q.hfS Q.hmS (Q.swap (by first | assumption | exact Q.sw (by assumption) (by omega) (by omega)) (by first | omega | (simp; omega)) (by first | omega | (simp; omega))) rfl rfl rfl (.cons (.tail .head) .nil)) ?_
              rintro ⟨r, H'⟩ ⟨rfl, rfl⟩
              simp only [List.cons_append, List.nil_append]
              refine gn 15 ?_
              refine n_round' (y := (m, i0, j0)) (swp m i j, i + 1, j - 1) (by show j - 1 + 1 - (i + 1) < j0 + 1 - i0; omega) ?_ aK _ (.refl _) (List.Sublist.refl _)
              exact ⟨hm.swap (by omega) (by omega) (by omega) (by omega) (by omega), hpe.swap (by omega) (hgt (by omega)) (hle (by omega)) (by omega)⟩
end
end Go.Proofs.AI
namespace Go.Proofs.AI
open Go Go.Sl Tryz
set_option maxRecDepth 100000
set_option maxHeartbeats 1000000
section
variable {G : HP} {n : Nat} {tv : TypeId} {vv : Value} {l : List Int} {Q : SoC G tv vv n}
theorem npt_is {x : Nat} (h : x < 256) : CtrP prog 181 [.int .i64 x] G (.int .u64 (2 ^ nb x : Nat)) := by
  have hk := (nb_is h).1
  refine fn_enter 10 func181 rfl ntmps181 rfl ?_
  intro w0
  refine gn 9 ?_
  refine o_pure rfl call66 (A4.len_is h) rfl rfl ?_
  refine gn 12 ?_
  refine r_fn1 results181 rfl ?_
  generalize nb x = k at hk
  have hc : k = 0 ∨ k = 1 ∨ k = 2 ∨ k = 3 ∨ k = 4 ∨ k = 5 ∨ k = 6 ∨ k = 7 ∨ k = 8 := by omega
  rcases hc with rfl | rfl | rfl | rfl | rfl | rfl | rfl | rfl | rfl <;> exact ⟨rfl, rfl⟩
theorem next_is {g : Nat} {z : Int} : Ctr prog 182 [.pointer (some ⟨g, 0, none⟩)] G [(g, C [.int .u64 z] 298)] (fun r H' => ∃ y : Int, r = .int .u64 y ∧ H' = [(g, C [.int .u64 y] 298)]) := by
  refine fn_enter 33 func182 rfl ntmps182 rfl ?_
  intro w0
  refine gn 6 ?_
  refine c_regiong [9] (by kernel_rfl) ?_
  refine lg [0, 1, 1002, 3, 4, 1005, 6, 7, 8] ?_
  refine gT 9 ?_
  intro _ _
  refine gn 3 ?_
  refine c_regiong [9] (by kernel_rfl) ?_
  refine lg [0, 1, 1002, 3, 4, 1005, 6, 7, 8] ?_
  refine gT 9 ?_
  intro _ _
  refine gn 3 ?_
  refine c_regiong [9] (by kernel_rfl) ?_
  refine lg [0, 1, 1002, 3, 4, 1005, 6, 7, 8] ?_
  refine gT 9 ?_
  intro _ _
  refine gn 11 ?_
  refine r_fn1 results182 rfl ?_
  exact ⟨_, rfl, rfl⟩
theorem brk_is {a b : Nat} (hg : Q.Lg l) (h1 : n ≤ 255) (hab : a + 8 ≤ b) (hb : b ≤ n) :
    Ctr prog 345 [.iface tv vv, .int .i64 a, .int .i64 b] G [(Q.X l)] (fun r H' => r = .tuple #[] ∧ ∃ l', PR a b l l' ∧ H' = [(Q.X l')]) := by
  have hn := Q.len hg
  obtain ⟨h, rfl⟩ : ∃ h, b = a + h := ⟨b - a, by omega⟩
  have hnb := (nb_is (x := h) (by omega)).2 (by omega)
  refine fn_enter 53 func345 rfl ntmps345 rfl ?_
  intro w0
  refine gn 14 ?_
  simp only [Nat.add_sub_cancel_left]
  refine c_ifp rfl (fun h2 => ?_) (fun h2 => ?_)
  · skip
    refine gn 4 ?_
    refine oZ ?_; intro g7 _
    refine oT ?_; intro _ _
    refine gn 5 ?_
    refine o_pure rfl call181 (npt_is (x := h) (by omega)) rfl rfl ?_
    refine gn 15 ?_
    generalize 2 ^ nb h = M at hnb
    have e1 : (a : Int) + (h : Int) / 4 * 2 - 1 = ((a + h / 4 * 2 - 1 : Nat) : Int) := by omega
    rw [e1]
    refine c_loop (X := List Int × Nat × Int) (fun y => [(0, .iface tv vv), (1, .int .i64 a), (2, .int .i64 (a + h : Nat)), (6, .int .i64 h), (7, .pointer (some ⟨g7, 0, none⟩)), (8, .int .u64 M), (9, .int .i64 y.2.1)]) (fun y => [(Q.X y.1), (g7, C [.int .u64 y.2.2] 298)]) (fun y => PR a (a + h) l y.1 ∧ a ≤ y.2.1 ∧ y.2.1 ≤ a + h / 4 * 2 + 2) (fun y => a + h / 4 * 2 + 2 - y.2.1) (l, a + h / 4 * 2 - 1, (h : Int)) ⟨.refl, by show a ≤ a + h / 4 * 2 - 1; omega, by show a + h / 4 * 2 - 1 ≤ _; omega⟩ aK (List.Perm.swap _ _ _) ?_
    rintro ⟨m, i, z⟩ ⟨hm, hi0, hi1⟩
    simp only at hm hi0 hi1 ⊢
    have hl := hm.len
    have hg' := Q.pr hm (by omega) hg
    refine gn 13 ?_
    refine c_ifp rfl (fun h3 => ?_) (fun h3 => ?_)
    · refine gn 6 ?_
      refine oL (lC next_is rfl (.cons (.tail .head) .nil)) ?_
      rintro ⟨r, H'⟩ ⟨z', rfl, rfl⟩
      simp only [List.cons_append, List.nil_append]
      refine gn 2 ?_
      rw [show ((M : Nat) : Int) - 1 = ((M - 1 : Nat) : Int) by omega]
      obtain ⟨q, hq, hqM⟩ := ib_and (kd := .u64) rfl (m := z') (z := M - 1) (by show M - 1 < 18446744073709551616; omega)
      refine gn 1 ?_
      rw [hq]
      refine gn 12 ?_
      refine c_ifp rfl (fun h4 => ?_) (fun h4 => ?_)
      · refine gn 13 ?_
        first | refine o_l rfl (l_calli0 Q.hfS Q.hmS (Q.swap (by first | assumption | exact Q.sw (by assumption) (by omega) (by omega)) (by first | omega | (simp; omega)) (by first | omega | (simp; omega))) rfl rfl rfl (.cons .head .nil)) ?_ | refine o_l rfl (l_calli0 Q.hfS Q.hmS (Q.swap (by first | assumption | exact Q.sw (by assumption) (by omega) (by omega)) (by first | omega | (simp; omega)) (by first | omega | (simp; omega))) rfl rfl rfl (.cons (.tail .head) .nil)) ?_
        rintro ⟨r, H'⟩ ⟨rfl, rfl⟩
        simp only [List.cons_append, List.nil_append]
        refine gn 8 ?_
        refine n_round' (y := (m, i, z)) (swp m i (a + (q - h)), i + 1, z') (by show a + h / 4 * 2 + 2 - (i + 1) < a + h / 4 * 2 + 2 - i; omega) ?_ aK _ (.refl _) (List.Sublist.refl _)
        exact ⟨hm.swap (by omega) (by omega) (by omega) (by omega) (by omega), by show a ≤ i + 1; omega, by show i + 1 ≤ a + h / 4 * 2 + 2; omega⟩
      · skip
        refine gn 8 ?_
        first | refine o_l rfl (l_calli0 Q.hfS Q.hmS (Q.swap (by first | assumption | exact Q.sw (by assumption) (by omega) (by omega)) (by first | omega | (simp; omega)) (by first | omega | (simp; omega))) rfl rfl rfl (.cons .head .nil)) ?_ | refine o_l rfl (l_calli0 Q.hfS Q.hmS (Q.swap (by first | assumption | exact Q.sw (by assumption) (by omega) (by omega)) (by first | omega | (simp; omega)) (by first | omega | (simp; omega))) rfl rfl rfl (.cons (.tail .head) .nil)) ?_
        rintro ⟨r, H'⟩ ⟨rfl, rfl⟩
        simp only [List.cons_append, List.nil_append]
        refine gn 8 ?_
        refine n_round' (y := (m, i, z)) (swp m i (a + q), i + 1, z') (by show a + h / 4 * 2 + 2 - (i + 1) < a + h / 4 * 2 + 2 - i; omega) ?_ aK _ (.refl _) (List.Sublist.refl _)
        exact ⟨hm.swap (by omega) (by omega) (by omega) (by omega) (by omega), by show a ≤ i + 1; omega, by show i + 1 ≤ a + h / 4 * 2 + 2; omega⟩
    · skip
      refine gn 4 ?_
      refine WN.sel (.cons .head .nil) ?_
      refine n_fn0 results345 ?_
      exact ⟨rfl, m, hm, rfl⟩
  · exact absurd h2 (by omega)
end
end Go.Proofs.AI

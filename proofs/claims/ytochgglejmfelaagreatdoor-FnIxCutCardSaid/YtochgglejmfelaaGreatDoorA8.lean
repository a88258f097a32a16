/- The stable sort of entries: the whole; spec.ByDigest. -/
import Derived.Test.YtochgglejmfelaaGreatDoorA7
namespace Go.Proofs
open Go Go.Sl
set_option maxRecDepth 100000
set_option maxHeartbeats 1000000

def isP (n : Nat) : Nat → Nat → List En → List En
  | 0, a, l => isortN a (n - (a + 1)) l
  | f + 1, a, l => if a + 20 ≤ n then isP n f (a + 20) (isortN a 19 l) else isortN a (n - (a + 1)) l
theorem isP_fuel (n : Nat) : ∀ (f f' a : Nat) (l : List En), n - a ≤ f → n - a ≤ f' → isP n f a l = isP n f' a l := by
  intro f
  induction f with
  | zero =>
    intro f' a l h h'
    cases f' with
    | zero => rfl
    | succ f' => simp only [isP]; rw [if_neg (by omega)]
  | succ f ih =>
    intro f' a l h h'
    cases f' with
    | zero => simp only [isP]; rw [if_neg (by omega)]
    | succ f' =>
      simp only [isP]
      split
      · exact ih _ _ _ (by omega) (by omega)
      · rfl
theorem isP_length (n : Nat) : ∀ (f a : Nat) (l : List En), (isP n f a l).length = l.length := by
  intro f
  induction f with
  | zero => intro a l; exact isortN_length ..
  | succ f ih => intro a l; simp only [isP]; split <;> simp [ih, isortN_length]
def mgP (n s : Nat) : Nat → Nat → List En → List En
  | 0, a, l => if a + s < n then symM (n - a) l a (a + s) n else l
  | f + 1, a, l => if a + 2 * s ≤ n then mgP n s f (a + 2 * s) (symM (2 * s) l a (a + s) (a + 2 * s)) else if a + s < n then symM (n - a) l a (a + s) n else l
theorem mgP_fuel (n s : Nat) (hs : 0 < s) : ∀ (f f' a : Nat) (l : List En), n - a ≤ f → n - a ≤ f' → mgP n s f a l = mgP n s f' a l := by
  intro f
  induction f with
  | zero =>
    intro f' a l h h'
    cases f' with
    | zero => rfl
    | succ f' => simp only [mgP]; rw [if_neg (show ¬ a + 2 * s ≤ n by omega)]
  | succ f ih =>
    intro f' a l h h'
    cases f' with
    | zero => simp only [mgP]; rw [if_neg (show ¬ a + 2 * s ≤ n by omega)]
    | succ f' =>
      simp only [mgP]
      split
      · exact ih _ _ _ (by omega) (by omega)
      · rfl
theorem mgP_length (n s : Nat) : ∀ (f a : Nat) (l : List En), (mgP n s f a l).length = l.length := by
  intro f
  induction f with
  | zero => intro a l; simp only [mgP]; split <;> simp [symM_length]
  | succ f ih => intro a l; simp only [mgP]; split <;> (try split) <;> simp [ih, symM_length]
def stM (n : Nat) : Nat → Nat → List En → List En
  | 0, _, l => l
  | f + 1, s, l => if s < n then stM n f (2 * s) (mgP n s n 0 l) else l
theorem stM_fuel (n : Nat) : ∀ (f f' s : Nat) (l : List En), 0 < s → n - s ≤ f → n - s ≤ f' → stM n f s l = stM n f' s l := by
  intro f
  induction f with
  | zero =>
    intro f' s l h0 h h'
    cases f' with
    | zero => rfl
    | succ f' => simp only [stM]; rw [if_neg (by omega)]
  | succ f ih =>
    intro f' s l h0 h h'
    cases f' with
    | zero => simp only [stM]; rw [if_neg (by omega)]
    | succ f' =>
      simp only [stM]
      split
      · exact ih _ _ _ (by omega) (by omega) (by omega)
      · rfl
theorem isP_step {n f a : Nat} {l : List En} (h : a + 20 ≤ n) (hf : n - a ≤ f) : isP n f (a + 20) (isortN a 19 l) = isP n f a l := by
  cases f with
  | zero => omega
  | succ f =>
    show isP n (f + 1) (a + 20) (isortN a 19 l) = if a + 20 ≤ n then isP n f (a + 20) (isortN a 19 l) else isortN a (n - (a + 1)) l
    rw [if_pos h]
    exact isP_fuel n (f + 1) f _ _ (by omega) (by omega)
theorem isP_end {n f a : Nat} {l : List En} (h : ¬ a + 20 ≤ n) : isP n f a l = isortN a (n - (a + 1)) l := by
  cases f <;> simp [isP, h]
theorem mgP_step {n s f a : Nat} {l : List En} (hs : 0 < s) (h : a + 2 * s ≤ n) (hf : n - a ≤ f) : mgP n s f (a + 2 * s) (symM (2 * s) l a (a + s) (a + 2 * s)) = mgP n s f a l := by
  cases f with
  | zero => omega
  | succ f =>
    show mgP n s (f + 1) (a + 2 * s) (symM (2 * s) l a (a + s) (a + 2 * s)) = if a + 2 * s ≤ n then mgP n s f (a + 2 * s) (symM (2 * s) l a (a + s) (a + 2 * s)) else _
    rw [if_pos h]
    exact mgP_fuel n s hs (f + 1) f _ _ (by omega) (by omega)
theorem mgP_end {n s f a : Nat} {l : List En} (h : ¬ a + 2 * s ≤ n) : mgP n s f a l = if a + s < n then symM (n - a) l a (a + s) n else l := by
  cases f <;> simp [mgP, h]
theorem stM_step {n f s : Nat} {l : List En} (h0 : 0 < s) (h : s < n) (hf : n - s ≤ f) : stM n f (2 * s) (mgP n s n 0 l) = stM n f s l := by
  cases f with
  | zero => omega
  | succ f =>
    show stM n (f + 1) (2 * s) (mgP n s n 0 l) = if s < n then stM n f (2 * s) (mgP n s n 0 l) else l
    rw [if_pos h]
    exact stM_fuel n (f + 1) f _ _ (by omega) (by omega) (by omega)
theorem stM_end {n f s : Nat} {l : List En} (h : ¬ s < n) : stM n f s l = l := by
  cases f <;> simp [stM, h]
def stable (l : List En) : List En := stM l.length l.length 20 (isP l.length l.length 0 l)
section
variable {G : HP} {gs g n cap lo hi : Nat} {rest : List Value}
theorem stable_is {l : List En} (hn : l.length = n) (hf : n * 5 ≤ lo ∨ hi = 0) (h1 : n ≤ 1000) :
    Ctr Tryz.prog 219 [.agg (Dv gs g n cap).toArray, .int .i64 (n : Nat)] G (SH gs g n cap rest lo hi l) (fun r H' => r = .tuple #[] ∧ H' = SH gs g n cap rest lo hi (stable l)) := by
  simp only [Dv, SH]
  refine fn_enter 57 Tryz.func219 rfl Tryz.ntmps219 rfl ?_
  intro w0
  refine c_seq ?_
  refine c_region ?_
  refine o_l rfl (l_box rfl rfl rfl) ?_; intro g2 _
  refine o_nil ?_
  refine n_code ?_
  refine c_seq ?_
  refine c_region ?_
  refine o_e rfl rfl rfl (e_assign rfl) ?_
  refine o_nil ?_
  refine n_code ?_
  refine c_seq ?_
  refine c_region ?_
  refine o_e rfl rfl rfl (e_move rfl) ?_
  refine o_e rfl rfl rfl (e_assign rfl) ?_
  refine o_e rfl rfl rfl (e_assign rfl) ?_
  refine o_nil ?_
  refine n_code ?_
  refine c_seq ?_
  refine c_block ?_
  refine c_loop (X := Nat × List En) (fun y => [(1, .int .i64 n), (2, .pointer (some ⟨g2, 0, none⟩)), (4, .int .i64 20), (5, .int .i64 y.1), (6, .int .i64 (y.1 + 20 : Nat))]) (fun y => (g2, C [.func (.func 193) #[] #[.pointer (some ⟨gs, 0, none⟩)], .func (.func 121) #[] #[.slice (some ⟨g, 0, none⟩) n cap, .pointer (some ⟨26, 56, none⟩)]] 134) :: SH gs g n cap rest lo hi y.2) (fun y => y.1 ≤ n ∧ y.2.length = n ∧ isP n n y.1 y.2 = isP n n 0 l) (fun y => n - y.1) (0, l) ⟨Nat.zero_le _, hn, rfl⟩ (sub_cons rfl (sub_cons rfl (sub_cons rfl (sub_cons rfl (sub_cons rfl sub_nil))))) (.refl _) ?_
  rintro ⟨a, l1⟩ ⟨ha, hl1, hp⟩
  simp only at ha hl1 hp
  simp only [SH]
  refine c_seq ?_
  refine c_seq ?_
  refine c_region ?_
  refine o_e rfl rfl rfl (e_move rfl) ?_
  refine o_e rfl rfl rfl (e_move rfl) ?_
  refine o_e rfl rfl rfl (e_leq rfl rfl) ?_
  refine o_nil ?_
  refine n_code ?_
  refine c_ifp rfl (fun c1 => ?_) (fun c1 => ?_)
  · have c1' : a + 20 ≤ n := by omega
    refine c_skip ?_
    refine n_code ?_
    refine c_block ?_
    refine c_seq ?_
    refine c_region ?_
    refine o_e rfl rfl rfl (e_loada Tryz.isAgg134 Tryz.sizeOf134 rfl (by first | exact .inr (by assumption) | exact .inl (by repeat (first | exact List.Mem.head _ | refine List.Mem.tail _ ?_))) (by first | assumption | repeat constructor)) ?_
    refine o_e rfl rfl rfl (e_move rfl) ?_
    refine o_e rfl rfl rfl (e_move rfl) ?_
    refine o_l rfl (l_call Tryz.call124 (isort_is (rest := rest) (l := l1) (a := a) (b := a + 20) hl1 hf h1 (by omega) (by omega)) rfl rfl (.cons (.tail .head) (.cons (.tail .head) .nil))) ?_
    rintro ⟨r, H'⟩ ⟨rfl, rfl⟩
    rw [show a + 20 - (a + 1) = 19 by omega]
    simp only [SH, List.cons_append, List.nil_append]
    refine o_nil ?_
    refine n_code ?_
    refine c_seq ?_
    refine c_region ?_
    refine o_e rfl rfl rfl (e_move rfl) ?_
    refine o_e rfl rfl rfl (e_assign rfl) ?_
    refine o_nil ?_
    refine n_code ?_
    refine c_region ?_
    refine o_e rfl rfl rfl (e_move rfl) ?_
    refine o_e rfl rfl rfl (e_move rfl) ?_
    first | refine o_e rfl rfl rfl (e_addN rfl rfl (by omega)) ?_ | refine o_e rfl rfl rfl (e_addn rfl rfl (by simp only [inR]; omega)) ?_ | refine o_e rfl rfl rfl (e_add rfl rfl) ?_
    refine o_e rfl rfl rfl (e_assign rfl) ?_
    refine o_nil ?_
    refine n_block ?_
    refine n_round' (y := (a, l1)) (a + 20, isortN a 19 l1) (by show n - (a + 20) < n - a; omega) ?_ (sub_cons rfl (sub_cons rfl (sub_cons rfl (sub_cons rfl (sub_cons rfl sub_nil))))) _ (List.perm_append_comm (l₁ := [_, _])) (List.Sublist.refl _)
    refine ⟨by show a + 20 ≤ n; omega, by show (isortN a 19 l1).length = n; rw [isortN_length, hl1], ?_⟩
    rw [← hp]
    exact isP_step c1' (by omega)
  · skip
    have c1' : ¬ a + 20 ≤ n := by omega
    refine c_exit ?_; refine x_code ?_; refine x_upto ?_; refine x_here ?_
    refine n_code ?_
    refine c_seq ?_
    refine c_region ?_
    refine o_e rfl rfl rfl (e_loada Tryz.isAgg134 Tryz.sizeOf134 rfl (by first | exact .inr (by assumption) | exact .inl (by repeat (first | exact List.Mem.head _ | refine List.Mem.tail _ ?_))) (by first | assumption | repeat constructor)) ?_
    refine o_e rfl rfl rfl (e_move rfl) ?_
    refine o_e rfl rfl rfl (e_move rfl) ?_
    refine o_l rfl (l_call Tryz.call124 (isort_is (rest := rest) (l := l1) (a := a) (b := n) hl1 hf h1 (by omega) (by omega)) rfl rfl (.cons (.tail .head) (.cons (.tail .head) .nil))) ?_
    rintro ⟨r, H'⟩ ⟨rfl, rfl⟩
    have hl2 : isortN a (n - (a + 1)) l1 = isP n n 0 l := by rw [← hp, isP_end c1']
    rw [hl2]
    have hn2 : (isP n n 0 l).length = n := by rw [isP_length, hn]
    have hst : stable l = stM n n 20 (isP n n 0 l) := by simp only [stable, hn]
    rw [hst]
    generalize isP n n 0 l = l2 at *
    simp only [SH, List.cons_append, List.nil_append]
    refine o_nil ?_
    refine n_code ?_
    refine c_block ?_
    refine c_loop (X := Nat × List En) (fun y => [(1, .int .i64 n), (2, .pointer (some ⟨g2, 0, none⟩)), (4, .int .i64 y.1)]) (fun y => (g2, C [.func (.func 193) #[] #[.pointer (some ⟨gs, 0, none⟩)], .func (.func 121) #[] #[.slice (some ⟨g, 0, none⟩) n cap, .pointer (some ⟨26, 56, none⟩)]] 134) :: SH gs g n cap rest lo hi y.2) (fun y => 0 < y.1 ∧ y.1 ≤ 2000 ∧ y.2.length = n ∧ stM n n y.1 y.2 = stM n n 20 l2) (fun y => n - y.1) (20, l2) ⟨by show 0 < 20; decide, by show 20 ≤ 2000; decide, hn2, rfl⟩ (sub_cons rfl (sub_cons rfl (sub_cons rfl sub_nil))) (List.perm_append_comm (l₁ := [_, _])) ?_
    rintro ⟨s, l3⟩ ⟨hs0, hs1, hl3, hq⟩
    simp only at hs0 hs1 hl3 hq
    simp only [SH]
    refine c_seq ?_
    refine c_seq ?_
    refine c_region ?_
    refine o_e rfl rfl rfl (e_move rfl) ?_
    refine o_e rfl rfl rfl (e_move rfl) ?_
    refine o_e rfl rfl rfl (e_lss rfl rfl) ?_
    refine o_nil ?_
    refine n_code ?_
    refine c_ifp rfl (fun c2 => ?_) (fun c2 => ?_)
    · have c2' : s < n := by omega
      refine c_skip ?_
      refine n_code ?_
      refine c_block ?_
      refine c_seq ?_
      refine c_region ?_
      refine o_e rfl rfl rfl (e_move rfl) ?_
      first | refine o_e rfl rfl rfl (e_muln rfl rfl (by simp only [inR]; omega)) ?_ | refine o_e rfl rfl rfl (e_mul rfl rfl) ?_
      refine o_e rfl rfl rfl (e_assign rfl) ?_
      refine o_e rfl rfl rfl (e_assign rfl) ?_
      refine o_nil ?_
      refine n_code ?_
      refine c_seq ?_
      refine c_block ?_
      refine c_loop (X := Nat × List En) (fun y => [(1, .int .i64 n), (2, .pointer (some ⟨g2, 0, none⟩)), (4, .int .i64 s), (5, .int .i64 y.1), (6, .int .i64 (y.1 + 2 * s : Nat))]) (fun y => (g2, C [.func (.func 193) #[] #[.pointer (some ⟨gs, 0, none⟩)], .func (.func 121) #[] #[.slice (some ⟨g, 0, none⟩) n cap, .pointer (some ⟨26, 56, none⟩)]] 134) :: SH gs g n cap rest lo hi y.2) (fun y => y.1 ≤ n ∧ y.2.length = n ∧ mgP n s n y.1 y.2 = mgP n s n 0 l3) (fun y => n - y.1) (0, l3) ⟨Nat.zero_le _, hl3, rfl⟩ (sub_cons rfl (sub_cons rfl (sub_cons rfl (sub_cons rfl (sub_cons ?_ sub_nil))))) (.refl _) ?_
      · show lk _ 6 = some (Value.int .i64 ((0 + 2 * s : Nat) : Int))
        rw [Nat.zero_add]
        rfl
      rintro ⟨a, l4⟩ ⟨ha4, hl4, hm⟩
      simp only at ha4 hl4 hm
      simp only [SH]
      refine c_seq ?_
      refine c_seq ?_
      refine c_region ?_
      refine o_e rfl rfl rfl (e_move rfl) ?_
      refine o_e rfl rfl rfl (e_move rfl) ?_
      refine o_e rfl rfl rfl (e_leq rfl rfl) ?_
      refine o_nil ?_
      refine n_code ?_
      refine c_ifp rfl (fun c3 => ?_) (fun c3 => ?_)
      · have c3' : a + 2 * s ≤ n := by omega
        refine c_skip ?_
        refine n_code ?_
        refine c_block ?_
        refine c_seq ?_
        refine c_region ?_
        refine o_e rfl rfl rfl (e_loada Tryz.isAgg134 Tryz.sizeOf134 rfl (by first | exact .inr (by assumption) | exact .inl (by repeat (first | exact List.Mem.head _ | refine List.Mem.tail _ ?_))) (by first | assumption | repeat constructor)) ?_
        refine o_e rfl rfl rfl (e_move rfl) ?_
        refine o_e rfl rfl rfl (e_move rfl) ?_
        refine o_e rfl rfl rfl (e_move rfl) ?_
        first | refine o_e rfl rfl rfl (e_addN rfl rfl (by omega)) ?_ | refine o_e rfl rfl rfl (e_addn rfl rfl (by simp only [inR]; omega)) ?_ | refine o_e rfl rfl rfl (e_add rfl rfl) ?_
        refine o_e rfl rfl rfl (e_move rfl) ?_
        refine o_l rfl (l_call Tryz.call228 (symM_is (rest := rest) hf h1 (2 * s) (l := l4) (a := a) (m := a + s) (b := a + 2 * s) hl4 (by omega) (by omega) (by omega) (by omega)) rfl rfl (.cons (.tail .head) (.cons (.tail .head) .nil))) ?_
        rintro ⟨r, H'⟩ ⟨rfl, rfl⟩
        simp only [SH, List.cons_append, List.nil_append]
        refine o_nil ?_
        refine n_code ?_
        refine c_seq ?_
        refine c_region ?_
        refine o_e rfl rfl rfl (e_move rfl) ?_
        refine o_e rfl rfl rfl (e_assign rfl) ?_
        refine o_nil ?_
        refine n_code ?_
        refine c_region ?_
        refine o_e rfl rfl rfl (e_move rfl) ?_
        refine o_e rfl rfl rfl (e_move rfl) ?_
        first | refine o_e rfl rfl rfl (e_muln rfl rfl (by simp only [inR]; omega)) ?_ | refine o_e rfl rfl rfl (e_mul rfl rfl) ?_
        first | refine o_e rfl rfl rfl (e_addN rfl rfl (by omega)) ?_ | refine o_e rfl rfl rfl (e_addn rfl rfl (by simp only [inR]; omega)) ?_ | refine o_e rfl rfl rfl (e_add rfl rfl) ?_
        refine o_e rfl rfl rfl (e_assign rfl) ?_
        refine o_nil ?_
        refine n_block ?_
        refine n_round' (y := (a, l4)) (a + 2 * s, symM (2 * s) l4 a (a + s) (a + 2 * s)) (by show n - (a + 2 * s) < n - a; omega) ?_ (sub_cons rfl (sub_cons rfl (sub_cons rfl (sub_cons rfl (sub_cons rfl sub_nil))))) _ (List.perm_append_comm (l₁ := [_, _])) (List.Sublist.refl _)
        refine ⟨by show a + 2 * s ≤ n; omega, by show (symM (2 * s) l4 a (a + s) (a + 2 * s)).length = n; rw [symM_length, hl4], ?_⟩
        rw [← hm]
        exact mgP_step hs0 c3' (by omega)
      · skip
        have c3' : ¬ a + 2 * s ≤ n := by omega
        have hend := mgP_end (n := n) (s := s) (f := n) (a := a) (l := l4) c3'
        rw [hm] at hend
        have hmn : (mgP n s n 0 l3).length = n := by rw [mgP_length, hl3]
        refine c_exit ?_; refine x_code ?_; refine x_upto ?_; refine x_here ?_
        refine n_code ?_
        refine c_seq ?_
        refine c_seq ?_
        refine c_region ?_
        refine o_e rfl rfl rfl (e_move rfl) ?_
        refine o_e rfl rfl rfl (e_move rfl) ?_
        first | refine o_e rfl rfl rfl (e_addN rfl rfl (by omega)) ?_ | refine o_e rfl rfl rfl (e_addn rfl rfl (by simp only [inR]; omega)) ?_ | refine o_e rfl rfl rfl (e_add rfl rfl) ?_
        refine o_e rfl rfl rfl (e_assign rfl) ?_
        refine o_nil ?_
        refine n_code ?_
        refine c_seq ?_
        refine c_region ?_
        refine o_e rfl rfl rfl (e_move rfl) ?_
        refine o_e rfl rfl rfl (e_move rfl) ?_
        refine o_e rfl rfl rfl (e_lss rfl rfl) ?_
        refine o_nil ?_
        refine n_code ?_
        refine c_ifp rfl (fun c4 => ?_) (fun c4 => ?_)
        · refine c_region ?_
          refine o_e rfl rfl rfl (e_loada Tryz.isAgg134 Tryz.sizeOf134 rfl (by first | exact .inr (by assumption) | exact .inl (by repeat (first | exact List.Mem.head _ | refine List.Mem.tail _ ?_))) (by first | assumption | repeat constructor)) ?_
          refine o_e rfl rfl rfl (e_move rfl) ?_
          refine o_e rfl rfl rfl (e_move rfl) ?_
          refine o_e rfl rfl rfl (e_move rfl) ?_
          refine o_l rfl (l_call Tryz.call228 (symM_is (rest := rest) hf h1 (n - a) (l := l4) (a := a) (m := a + s) (b := n) hl4 (by omega) (by omega) (by omega) (by omega)) rfl rfl (.cons (.tail .head) (.cons (.tail .head) .nil))) ?_
          rintro ⟨r, H'⟩ ⟨rfl, rfl⟩
          rw [if_pos (by omega)] at hend
          rw [← hend]
          simp only [SH, List.cons_append, List.nil_append]
          refine o_nil ?_
          refine n_code ?_
          refine c_region ?_
          refine o_e rfl rfl rfl (e_move rfl) ?_
          first | refine o_e rfl rfl rfl (e_muln rfl rfl (by simp only [inR]; omega)) ?_ | refine o_e rfl rfl rfl (e_mul rfl rfl) ?_
          refine o_e rfl rfl rfl (e_assign rfl) ?_
          refine o_nil ?_
          refine n_block ?_
          refine n_round' (y := (s, l3)) (s * 2, mgP n s n 0 l3) (by show n - s * 2 < n - s; omega) ?_ (sub_cons rfl (sub_cons rfl (sub_cons rfl sub_nil))) _ (List.perm_append_comm (l₁ := [_, _])) (List.Sublist.refl _)
          refine ⟨by show 0 < s * 2; omega, by show s * 2 ≤ 2000; omega, hmn, ?_⟩
          rw [← hq]
          show stM n n (s * 2) (mgP n s n 0 l3) = _
          rw [Nat.mul_comm]
          exact stM_step hs0 c2' (by omega)
        · skip
          rw [if_neg (by omega)] at hend
          refine c_skip ?_
          refine n_code ?_
          refine c_region ?_
          refine o_e rfl rfl rfl (e_move rfl) ?_
          first | refine o_e rfl rfl rfl (e_muln rfl rfl (by simp only [inR]; omega)) ?_ | refine o_e rfl rfl rfl (e_mul rfl rfl) ?_
          refine o_e rfl rfl rfl (e_assign rfl) ?_
          refine o_nil ?_
          refine n_block ?_
          refine n_round' (y := (s, l3)) (s * 2, mgP n s n 0 l3) (by show n - s * 2 < n - s; omega) ?_ (sub_cons rfl (sub_cons rfl (sub_cons rfl sub_nil))) _ (.refl _) (by rw [hend]; exact List.Sublist.refl _)
          refine ⟨by show 0 < s * 2; omega, by show s * 2 ≤ 2000; omega, hmn, ?_⟩
          rw [← hq]
          show stM n n (s * 2) (mgP n s n 0 l3) = _
          rw [Nat.mul_comm]
          exact stM_step hs0 c2' (by omega)
    · skip
      refine c_exit ?_; refine x_code ?_; refine x_upto ?_; refine x_here ?_
      refine WN.sel (.cons (.tail .head) (.cons (.tail .head) .nil)) ?_
      refine n_fn0 Tryz.results219 ?_
      exact ⟨rfl, by rw [← hq, stM_end (by omega)]⟩
end
end Go.Proofs
namespace Go.Proofs
open Go Go.Sl
set_option maxRecDepth 100000
set_option maxHeartbeats 1000000
section
variable {G : HP} {n : Nat} {u v : Value}
theorem isort01 (h1 : n ≤ 1) (hu : u.oneCell' = true) (hv : v.oneCell' = true) : Ctr Tryz.prog 124 [.agg #[u, v], .int .i64 (0 : Nat), .int .i64 (n : Nat)] G [] (fun r H' => r = .tuple #[] ∧ H' = []) := by
  refine fn_enter 35 Tryz.func124 rfl Tryz.ntmps124 rfl ?_
  intro w0
  refine c_seq ?_
  refine c_region ?_
  refine o_l rfl (l_box rfl rfl rfl) ?_; intro g3 _
  refine o_nil ?_
  refine n_code ?_
  refine c_seq ?_
  refine c_region ?_
  refine o_e rfl rfl rfl (e_move rfl) ?_
  first | refine o_e rfl rfl rfl (e_addN rfl rfl (by omega)) ?_ | refine o_e rfl rfl rfl (e_addn rfl rfl (by simp only [inR]; omega)) ?_ | refine o_e rfl rfl rfl (e_add rfl rfl) ?_
  refine o_e rfl rfl rfl (e_assign rfl) ?_
  refine o_nil ?_
  refine n_code ?_
  refine c_block ?_
  refine c_rounds 1 ?_
  refine c_seq ?_
  refine c_seq ?_
  refine c_region ?_
  refine o_e rfl rfl rfl (e_move rfl) ?_
  refine o_e rfl rfl rfl (e_move rfl) ?_
  refine o_e rfl rfl rfl (e_lss rfl rfl) ?_
  refine o_nil ?_
  refine n_code ?_
  refine c_ifp rfl (fun h2 => ?_) (fun h2 => ?_)
  · exact absurd h2 (by omega)
  · skip
    refine c_exit ?_; refine x_code ?_; refine x_upto ?_; refine x_here ?_
    refine WN.less (fun _ _ h => h) (List.nil_sublist _) ?_
    refine n_fn0 Tryz.results124 ?_
    exact ⟨rfl, rfl⟩
theorem stable01 (h1 : n ≤ 1) (hu : u.oneCell' = true) (hv : v.oneCell' = true) : Ctr Tryz.prog 219 [.agg #[u, v], .int .i64 (n : Nat)] G [] (fun r H' => r = .tuple #[] ∧ H' = []) := by
  refine fn_enter 57 Tryz.func219 rfl Tryz.ntmps219 rfl ?_
  intro w0
  refine c_seq ?_
  refine c_region ?_
  refine o_l rfl (l_box rfl rfl rfl) ?_; intro g2 _
  refine o_nil ?_
  refine n_code ?_
  refine c_seq ?_
  refine c_region ?_
  refine o_e rfl rfl rfl (e_assign rfl) ?_
  refine o_nil ?_
  refine n_code ?_
  refine c_seq ?_
  refine c_region ?_
  refine o_e rfl rfl rfl (e_move rfl) ?_
  refine o_e rfl rfl rfl (e_assign rfl) ?_
  refine o_e rfl rfl rfl (e_assign rfl) ?_
  refine o_nil ?_
  refine n_code ?_
  refine c_seq ?_
  refine c_block ?_
  refine c_rounds 1 ?_
  refine c_seq ?_
  refine c_seq ?_
  refine c_region ?_
  refine o_e rfl rfl rfl (e_move rfl) ?_
  refine o_e rfl rfl rfl (e_move rfl) ?_
  refine o_e rfl rfl rfl (e_leq rfl rfl) ?_
  refine o_nil ?_
  refine n_code ?_
  refine c_ifp rfl (fun h2 => ?_) (fun h2 => ?_)
  · exact absurd h2 (by omega)
  · skip
    refine c_exit ?_; refine x_code ?_; refine x_upto ?_; refine x_here ?_
    refine n_code ?_
    refine c_seq ?_
    refine c_region ?_
    refine o_e rfl rfl rfl (e_loada Tryz.isAgg134 Tryz.sizeOf134 rfl (by first | exact .inr (by assumption) | exact .inl (by repeat (first | exact List.Mem.head _ | refine List.Mem.tail _ ?_))) (by first | assumption | repeat constructor)) ?_
    refine o_e rfl rfl rfl (e_move rfl) ?_
    refine o_e rfl rfl rfl (e_move rfl) ?_
    refine o_l rfl (l_call Tryz.call124 (isort01 h1 hu hv) rfl rfl .nil) ?_
    rintro ⟨r, H'⟩ ⟨rfl, rfl⟩
    simp only [List.nil_append]
    refine o_nil ?_
    refine n_code ?_
    refine c_block ?_
    refine c_rounds 1 ?_
    refine c_seq ?_
    refine c_seq ?_
    refine c_region ?_
    refine o_e rfl rfl rfl (e_move rfl) ?_
    refine o_e rfl rfl rfl (e_move rfl) ?_
    refine o_e rfl rfl rfl (e_lss rfl rfl) ?_
    refine o_nil ?_
    refine n_code ?_
    refine c_ifp rfl (fun h3 => ?_) (fun h3 => ?_)
    · exact absurd h3 (by omega)
    · skip
      refine c_exit ?_; refine x_code ?_; refine x_upto ?_; refine x_here ?_
      refine WN.less (fun _ _ h => h) (List.nil_sublist _) ?_
      refine n_fn0 Tryz.results219 ?_
      exact ⟨rfl, rfl⟩
end
end Go.Proofs
namespace Go.Proofs
open Go Go.Sl
set_option maxRecDepth 100000
set_option maxHeartbeats 1000000
theorem stable_small {l : List En} (h : l.length ≤ 1) : stable l = l := by
  match l, h with
  | [], _ => rfl
  | [x], _ => rfl
theorem kind56 (w : World) : (Extern.Rtype.kind 56).run Tryz.prog w = .ok 25 w := by kernel_rfl
theorem k9 {n : Nat} (h : 2 ≤ n) : Lib.swapperK n Tryz.t56 25 = 9 := by
  have h0 : (n == 0) = false := by simp; omega
  have h1 : (n == 1) = false := by simp; omega
  simp only [Lib.swapperK, h0, h1, Bool.false_eq_true, if_false]
  rfl
theorem ext64_9 {n : Nat} (h : 2 ≤ n) (q : Option Addr) (c : Nat) (w : World) : (callFunc 64 #[.iface 22 (.slice q n c)]).run Tryz.prog w = .ok (.value (.func (.func 121) #[] #[.slice q n c, .pointer (some ⟨26, 56, none⟩)])) w :=
  ext64 Tryz.typeInfo22 rfl Tryz.typeInfo56 25 kind56 q n c 9 121 (k9 h) (by kernel_rfl) w
theorem ext64_1 (q : Option Addr) (c : Nat) (w : World) : (callFunc 64 #[.iface 22 (.slice q 1 c)]).run Tryz.prog w = .ok (.value (.func (.func 114) #[] #[])) w :=
  ext64 Tryz.typeInfo22 rfl Tryz.typeInfo56 25 kind56 q 1 c 2 114 rfl (by kernel_rfl) w
theorem ext64_0 (q : Option Addr) (c : Nat) (w : World) : (callFunc 64 #[.iface 22 (.slice q 0 c)]).run Tryz.prog w = .ok (.value (.func (.func 113) #[] #[])) w :=
  ext64 Tryz.typeInfo22 rfl Tryz.typeInfo56 25 kind56 q 0 c 1 113 rfl (by kernel_rfl) w
section
variable {G : HP} {gs g n cap lo hi : Nat} {rest : List Value}
theorem sliceStable_big {l : List En} (hn : l.length = n) (hf : n * 5 ≤ lo ∨ hi = 0) (h1 : n ≤ 1000) (h2 : 2 ≤ n) :
    Ctr Tryz.prog 192 [.iface 22 (.slice (some ⟨g, 0, none⟩) n cap), .func (.func 193) #[] #[.pointer (some ⟨gs, 0, none⟩)]] G (SH gs g n cap rest lo hi l) (fun r H' => r = .tuple #[] ∧ H' = SH gs g n cap rest lo hi (stable l)) := by
  simp only [SH]
  refine fn_enter 16 Tryz.func192 rfl Tryz.ntmps192 rfl ?_
  intro w0
  refine c_seq ?_
  refine c_region ?_
  refine o_e rfl rfl rfl (e_move rfl) ?_
  refine o_l rfl (l_extn (V := fun g => Value.agg #[Value.pointer (some ⟨26, 22, none⟩), Value.pointer (some ⟨g, 0, none⟩), Value.int .u64 151]) (ob := C [.slice (some ⟨g, 0, none⟩) n cap] 22) rfl rfl (fun w => ext63 Tryz.typeInfo22 rfl _ _ _ w)) ?_
  intro g7 _
  refine o_l rfl (l_alloc Tryz.zeroValue126 rfl rfl) ?_; intro g4 _
  refine o_l rfl (l_storea Tryz.sizeOf126 rfl rfl rfl (by simp [Value.oneCell']) .head (.take (.take (.take .done))) nofrs0) ?_
  intro _ _
  refine o_nil ?_
  refine n_code ?_
  refine c_seq ?_
  refine c_region ?_
  refine o_e rfl rfl rfl (e_move rfl) ?_
  refine o_e rfl rfl rfl (e_ext rfl (fun w => ext64_9 h2 _ _ w)) ?_
  refine o_e rfl rfl rfl (e_assign rfl) ?_
  refine o_nil ?_
  refine n_code ?_
  refine c_region ?_
  refine o_e rfl rfl rfl (e_move rfl) ?_
  refine o_e rfl rfl rfl (e_move rfl) ?_
  refine o_e rfl rfl rfl (e_build (vs := [.func (.func 193) #[] #[.pointer (some ⟨gs, 0, none⟩)], .func (.func 121) #[] #[.slice (some ⟨g, 0, none⟩) n cap, .pointer (some ⟨26, 56, none⟩)]]) Tryz.runUnderlying134 Tryz.zeroValue134 (.cons Tryz.sizeOf71 (.cons Tryz.sizeOf128 .nil)) rfl (by kernel_rfl)) ?_
  refine o_e rfl rfl rfl (e_loada Tryz.isAgg126 Tryz.sizeOf126 rfl (by first | exact .inr (by assumption) | exact .inl (by repeat (first | exact List.Mem.head _ | refine List.Mem.tail _ ?_))) (by first | assumption | repeat constructor)) ?_
  refine o_e rfl rfl rfl (e_vlen rfl Tryz.typeInfo22 rfl (by kernel_rfl) rfl (.inl (.tail _ (.head _))) rfl) ?_
  refine o_l rfl (l_call Tryz.call219 (stable_is (rest := rest) (l := l) hn hf h1) rfl rfl (.cons (.tail (.tail .head)) (.cons (.tail (.tail .head)) .nil))) ?_
  rintro ⟨r, H'⟩ ⟨rfl, rfl⟩
  simp only [SH, List.cons_append, List.nil_append]
  refine o_nil ?_
  refine WN.sel (.cons .head (.cons .head .nil)) ?_
  refine n_fn0 Tryz.results192 ?_
  exact ⟨rfl, rfl⟩
theorem sliceStable_0 {A : Option Addr} {fn : Fn} {ua uc : Array Value} :
    Ctr Tryz.prog 192 [.iface 22 (.slice A 0 cap), .func fn ua uc] G [] (fun r H' => r = .tuple #[] ∧ H' = []) := by
  refine fn_enter 16 Tryz.func192 rfl Tryz.ntmps192 rfl ?_
  intro w0
  refine c_seq ?_
  refine c_region ?_
  refine o_e rfl rfl rfl (e_move rfl) ?_
  refine o_l rfl (l_extn (V := fun g => Value.agg #[Value.pointer (some ⟨26, 22, none⟩), Value.pointer (some ⟨g, 0, none⟩), Value.int .u64 151]) (ob := C [.slice A 0 cap] 22) rfl rfl (fun w => ext63 Tryz.typeInfo22 rfl _ _ _ w)) ?_
  intro g7 _
  refine o_l rfl (l_alloc Tryz.zeroValue126 rfl rfl) ?_; intro g4 _
  refine o_l rfl (l_storea Tryz.sizeOf126 rfl rfl rfl (by simp [Value.oneCell']) .head (.take (.take (.take .done))) nofrs0) ?_
  intro _ _
  refine o_nil ?_
  refine n_code ?_
  refine c_seq ?_
  refine c_region ?_
  refine o_e rfl rfl rfl (e_move rfl) ?_
  refine o_e rfl rfl rfl (e_ext rfl (fun w => ext64_0 _ _ w)) ?_
  refine o_e rfl rfl rfl (e_assign rfl) ?_
  refine o_nil ?_
  refine n_code ?_
  refine c_region ?_
  refine o_e rfl rfl rfl (e_move rfl) ?_
  refine o_e rfl rfl rfl (e_move rfl) ?_
  refine o_e rfl rfl rfl (e_build (vs := [.func fn ua uc, .func (.func 113) #[] #[]]) Tryz.runUnderlying134 Tryz.zeroValue134 (.cons Tryz.sizeOf71 (.cons Tryz.sizeOf128 .nil)) rfl (by kernel_rfl)) ?_
  refine o_e rfl rfl rfl (e_loada Tryz.isAgg126 Tryz.sizeOf126 rfl (by first | exact .inr (by assumption) | exact .inl (by repeat (first | exact List.Mem.head _ | refine List.Mem.tail _ ?_))) (by first | assumption | repeat constructor)) ?_
  refine o_e rfl rfl rfl (e_vlen rfl Tryz.typeInfo22 rfl (by kernel_rfl) rfl (.inl (.tail _ (.head _))) rfl) ?_
  refine o_l rfl (l_call Tryz.call219 (stable01 (n := 0) (by decide) rfl rfl) rfl rfl .nil) ?_
  rintro ⟨r, H'⟩ ⟨rfl, rfl⟩
  simp only [List.nil_append]
  refine o_nil ?_
  refine WN.less (fun _ _ h => h) (List.nil_sublist _) ?_
  refine n_fn0 Tryz.results192 ?_
  exact ⟨rfl, rfl⟩
theorem sliceStable_1 {A : Option Addr} {fn : Fn} {ua uc : Array Value} :
    Ctr Tryz.prog 192 [.iface 22 (.slice A 1 cap), .func fn ua uc] G [] (fun r H' => r = .tuple #[] ∧ H' = []) := by
  refine fn_enter 16 Tryz.func192 rfl Tryz.ntmps192 rfl ?_
  intro w0
  refine c_seq ?_
  refine c_region ?_
  refine o_e rfl rfl rfl (e_move rfl) ?_
  refine o_l rfl (l_extn (V := fun g => Value.agg #[Value.pointer (some ⟨26, 22, none⟩), Value.pointer (some ⟨g, 0, none⟩), Value.int .u64 151]) (ob := C [.slice A 1 cap] 22) rfl rfl (fun w => ext63 Tryz.typeInfo22 rfl _ _ _ w)) ?_
  intro g7 _
  refine o_l rfl (l_alloc Tryz.zeroValue126 rfl rfl) ?_; intro g4 _
  refine o_l rfl (l_storea Tryz.sizeOf126 rfl rfl rfl (by simp [Value.oneCell']) .head (.take (.take (.take .done))) nofrs0) ?_
  intro _ _
  refine o_nil ?_
  refine n_code ?_
  refine c_seq ?_
  refine c_region ?_
  refine o_e rfl rfl rfl (e_move rfl) ?_
  refine o_e rfl rfl rfl (e_ext rfl (fun w => ext64_1 _ _ w)) ?_
  refine o_e rfl rfl rfl (e_assign rfl) ?_
  refine o_nil ?_
  refine n_code ?_
  refine c_region ?_
  refine o_e rfl rfl rfl (e_move rfl) ?_
  refine o_e rfl rfl rfl (e_move rfl) ?_
  refine o_e rfl rfl rfl (e_build (vs := [.func fn ua uc, .func (.func 114) #[] #[]]) Tryz.runUnderlying134 Tryz.zeroValue134 (.cons Tryz.sizeOf71 (.cons Tryz.sizeOf128 .nil)) rfl (by kernel_rfl)) ?_
  refine o_e rfl rfl rfl (e_loada Tryz.isAgg126 Tryz.sizeOf126 rfl (by first | exact .inr (by assumption) | exact .inl (by repeat (first | exact List.Mem.head _ | refine List.Mem.tail _ ?_))) (by first | assumption | repeat constructor)) ?_
  refine o_e rfl rfl rfl (e_vlen rfl Tryz.typeInfo22 rfl (by kernel_rfl) rfl (.inl (.tail _ (.head _))) rfl) ?_
  refine o_l rfl (l_call Tryz.call219 (stable01 (n := 1) (by decide) rfl rfl) rfl rfl .nil) ?_
  rintro ⟨r, H'⟩ ⟨rfl, rfl⟩
  simp only [List.nil_append]
  refine o_nil ?_
  refine WN.less (fun _ _ h => h) (List.nil_sublist _) ?_
  refine n_fn0 Tryz.results192 ?_
  exact ⟨rfl, rfl⟩
end
end Go.Proofs
namespace Go.Proofs
open Go Go.Sl
set_option maxRecDepth 100000
set_option maxHeartbeats 1000000
theorem cut_app {l a b : List Value} {i n m : Nat} (h1 : CutL l i n a) (h2 : CutL l (i + n) m b) : CutL l i (n + m) (a ++ b) := by
  have e1 := h1.eq
  have e2 := h2.eq
  have l1 := h1.le
  have l2 := h2.le
  have : a ++ b = (l.drop i).take (n + m) := by
    rw [e1, e2, ← List.drop_drop, List.take_add]
  rw [this]
  exact CutL.of (by omega)
theorem cut_all {L : List Value} {off : Nat} : ∀ {l : List En}, (∀ i (h : i < l.length), CutL L (off + i * 5) 5 (cE l[i])) → off ≤ L.length → CutL L off (l.length * 5) (cells5 l) := by
  intro l
  induction l generalizing off with
  | nil => intro _ h; simpa [cells5] using CutL.of (l := L) (i := off) (n := 0) (by omega)
  | cons x l ih =>
    intro h _
    have h0 : CutL L off 5 (cE x) := by
      have := h 0 (by simp)
      rw [Nat.zero_mul, Nat.add_zero] at this
      exact this
    have h1 := ih (off := off + 5) (fun i hi => by
      have := h (i + 1) (by simpa using hi)
      rw [show off + 5 + i * 5 = off + (i + 1) * 5 by omega]
      exact this) (by have := h0.le; omega)
    have := cut_app h0 h1
    rw [show (x :: l).length * 5 = 5 + l.length * 5 by simp; omega]
    simpa [cells5] using this
end Go.Proofs
namespace Go.Proofs
open Go Go.Sl
set_option maxRecDepth 100000
set_option maxHeartbeats 1000000
theorem EnS.src {x : Cx} {H : HP} {v : Value} {l : List En} (h : EnS x.G v l) (hU : x.P.underlying 22 = some (.slice 56)) : Sv x H 5 22 v l.length (cells5 l) := by
  cases h with
  | @none A cap =>
    cases A with
    | none => exact .nil hU
    | some a => exact .zero hU
  | @blk _ L g off n cap e fr hm hn hc =>
    by_cases h0 : l = []
    · subst h0; simp at hn; subst hn; exact .zero hU
    · have hpos : 0 < l.length := List.length_pos_iff.2 h0
      have hle := (hc 0 hpos).le
      have := cut_all hc (by omega)
      subst hn
      exact .blk hU (.inr hm) this (by
        intro v hv
        simp only [cells5, List.mem_flatMap] at hv
        obtain ⟨x, _, hx⟩ := hv
        exact cE_one x v hx)
theorem stM_length (n : Nat) : ∀ (f s : Nat) (l : List En), (stM n f s l).length = l.length := by
  intro f
  induction f with
  | zero => intro s l; rfl
  | succ f ih => intro s l; simp only [stM]; split <;> simp [ih, mgP_length]
theorem stable_length (l : List En) : (stable l).length = l.length := by rw [stable, stM_length, isP_length]
theorem byDigest_is {G : HP} {v : Value} {l : List En} (h : EnS G v l) (hl : l.length ≤ 1000) :
    Ctr Tryz.prog 137 [v] G [] (fun r H' => Osl 56 5 r l.length (cells5 (stable l)) H') := by
  refine fn_enter 12 Tryz.func137 rfl Tryz.ntmps137 rfl ?_
  intro w0
  refine c_seq ?_
  refine c_region ?_
  refine o_e rfl rfl rfl (e_assign rfl) ?_
  refine o_nil ?_
  refine n_code ?_
  refine c_seq ?_
  refine c_region ?_
  refine o_l rfl (l_bs0 Tryz.runUnderlying22 Tryz.sizeOf56 rfl) ?_
  intro g4 _
  refine o_e rfl rfl rfl (e_move rfl) ?_
  refine o_l rfl (l_append (sz := 5) (n := 0) (xs := []) (HB := [(g4, C [] 56)]) Tryz.underlying22 (info_of Tryz.typeInfo56) rfl rfl rfl rfl rfl rfl (.own (rest := []) (lo := 0) (hi := 0) rfl rfl (Nat.le_refl _) (by decide) (.inr rfl)) (.refl _) (h.src Tryz.underlying22) (by show _ * 48 ≤ _; omega) (by omega)) ?_
  rintro ⟨v2, HB2⟩ ho
  simp only [Nat.zero_add, List.nil_append] at ho
  have hno : ∀ u w, Osl 56 5 u l.length (cells5 l) w → (u = .slice none 0 0 ∧ w = [] ∧ l = []) ∨ ∃ g cap rest lo hi, u = .slice (some ⟨g, 0, none⟩) l.length cap ∧ w = [(g, .cells (cells5 l ++ rest).toArray 56 (lo, hi))] ∧ rest.length = (cap - l.length) * 5 ∧ l.length ≤ cap ∧ cap < 9223372036854775808 ∧ (cap * 5 ≤ lo ∨ hi = 0) := by
    intro u w hu
    generalize hN : l.length = N at hu
    generalize hX : cells5 l = X at hu
    cases hu with
    | nil => exact .inl ⟨rfl, rfl, List.length_eq_zero_iff.1 hN⟩
    | own a1 a2 a3 a4 a5 => exact .inr ⟨_, _, _, _, _, rfl, rfl, a2, a3, a4, a5⟩
  rcases hno v2 HB2 ho with ⟨rfl, rfl, rfl⟩ | ⟨gb, cap, rest, lo, hi, rfl, rfl, a2, a3, a4, a5⟩
  · refine o_l rfl (l_alloc Tryz.zeroValue22 rfl rfl) ?_; intro g3 _
    refine o_l rfl (l_store Tryz.sizeOf22 rfl rfl rfl (by repeat (first | exact UpB.head | refine UpB.tail ?_)) (by repeat (first | exact SetAt.head | refine SetAt.tail ?_)) (by omega)) ?_; intro _ _
    refine o_nil ?_
    refine n_code ?_
    refine c_seq ?_
    refine c_region ?_
    refine o_e rfl rfl rfl (e_load Tryz.isAgg22 rfl (by first | exact .inr (by assumption) | exact .inl (by repeat (first | exact List.Mem.head _ | refine List.Mem.tail _ ?_))) (by first | rfl | assumption)) ?_
    refine o_e rfl rfl rfl (e_mkif Tryz.runUnderlying22 rfl rfl) ?_
    refine o_e rfl rfl rfl (e_func rfl rfl) ?_
    refine o_l rfl (l_call Tryz.call192 (sliceStable_0 (A := none) (cap := 0)) rfl rfl .nil) ?_
    rintro ⟨r, H'⟩ ⟨rfl, rfl⟩
    simp only [List.nil_append]
    refine o_nil ?_
    refine n_code ?_
    refine c_seq ?_
    refine c_region ?_
    refine o_e rfl rfl rfl (e_load Tryz.isAgg22 rfl (by first | exact .inr (by assumption) | exact .inl (by repeat (first | exact List.Mem.head _ | refine List.Mem.tail _ ?_))) (by first | rfl | assumption)) ?_
    refine o_e rfl rfl rfl (e_assign rfl) ?_
    refine o_nil ?_
    refine n_code ?_
    refine c_ret ?_
    refine WR.less (fun _ _ h => h) (List.nil_sublist _) ?_
    refine r_fn1 Tryz.results137 rfl ?_
    exact .nil
  · skip
    refine o_l rfl (l_alloc Tryz.zeroValue22 rfl rfl) ?_; intro g3 _
    refine o_l rfl (l_store Tryz.sizeOf22 rfl rfl rfl (by repeat (first | exact UpB.head | refine UpB.tail ?_)) (by repeat (first | exact SetAt.head | refine SetAt.tail ?_)) (by omega)) ?_; intro _ _
    refine o_nil ?_
    refine n_code ?_
    refine c_seq ?_
    refine c_region ?_
    refine o_e rfl rfl rfl (e_load Tryz.isAgg22 rfl (by first | exact .inr (by assumption) | exact .inl (by repeat (first | exact List.Mem.head _ | refine List.Mem.tail _ ?_))) (by first | rfl | assumption)) ?_
    refine o_e rfl rfl rfl (e_mkif Tryz.runUnderlying22 rfl rfl) ?_
    refine o_e rfl rfl rfl (e_func rfl rfl) ?_
    have hsm : l.length ≤ 1 ∨ 2 ≤ l.length := by omega
    rcases hsm with h01 | h2
    · have hst := stable_small h01
      have hk : l.length = 0 ∨ l.length = 1 := by omega
      rcases hk with hk | hk
      · rw [hk] at a2 a3 ⊢
        refine o_l rfl (l_call Tryz.call192 (sliceStable_0 (A := some ⟨gb, 0, none⟩) (cap := cap)) rfl rfl .nil) ?_
        rintro ⟨r, H'⟩ ⟨rfl, rfl⟩
        simp only [List.nil_append]
        refine o_nil ?_
        refine n_code ?_
        refine c_seq ?_
        refine c_region ?_
        refine o_e rfl rfl rfl (e_load Tryz.isAgg22 rfl (by first | exact .inr (by assumption) | exact .inl (by repeat (first | exact List.Mem.head _ | refine List.Mem.tail _ ?_))) (by first | rfl | assumption)) ?_
        refine o_e rfl rfl rfl (e_assign rfl) ?_
        refine o_nil ?_
        refine n_code ?_
        refine c_ret ?_
        refine WR.sel (.cons (.tail .head) .nil) ?_
        refine r_fn1 Tryz.results137 rfl ?_
        rw [hst]
        exact .own (by rw [cells5_length, hk]) a2 a3 a4 a5
      · skip
        rw [hk] at a2 a3 ⊢
        refine o_l rfl (l_call Tryz.call192 (sliceStable_1 (A := some ⟨gb, 0, none⟩) (cap := cap)) rfl rfl .nil) ?_
        rintro ⟨r, H'⟩ ⟨rfl, rfl⟩
        simp only [List.nil_append]
        refine o_nil ?_
        refine n_code ?_
        refine c_seq ?_
        refine c_region ?_
        refine o_e rfl rfl rfl (e_load Tryz.isAgg22 rfl (by first | exact .inr (by assumption) | exact .inl (by repeat (first | exact List.Mem.head _ | refine List.Mem.tail _ ?_))) (by first | rfl | assumption)) ?_
        refine o_e rfl rfl rfl (e_assign rfl) ?_
        refine o_nil ?_
        refine n_code ?_
        refine c_ret ?_
        refine WR.sel (.cons (.tail .head) .nil) ?_
        refine r_fn1 Tryz.results137 rfl ?_
        rw [hst]
        exact .own (by rw [cells5_length, hk]) a2 a3 a4 a5
    · skip
      refine o_l rfl (l_call Tryz.call192 (sliceStable_big (rest := rest) (l := l) (cap := cap) (lo := lo) (hi := hi) rfl (by omega) hl h2) rfl rfl (.cons .head (.cons .head .nil))) ?_
      rintro ⟨r, H'⟩ ⟨rfl, rfl⟩
      simp only [SH, List.cons_append, List.nil_append]
      refine o_nil ?_
      refine n_code ?_
      refine c_seq ?_
      refine c_region ?_
      refine o_e rfl rfl rfl (e_load Tryz.isAgg22 rfl (by first | exact .inr (by assumption) | exact .inl (by repeat (first | exact List.Mem.head _ | refine List.Mem.tail _ ?_))) (by first | rfl | assumption)) ?_
      refine o_e rfl rfl rfl (e_assign rfl) ?_
      refine o_nil ?_
      refine n_code ?_
      refine c_ret ?_
      refine WR.sel (.cons (.tail .head) .nil) ?_
      refine r_fn1 Tryz.results137 rfl ?_
      exact .own (by rw [cells5_length, stable_length]) a2 a3 a4 a5
end Go.Proofs
namespace Go.Proofs
open Go Go.Sl
theorem sw_perm (l : List En) (i j : Nat) : (sw l i j).Perm l := by
  unfold sw
  split
  · rename_i h
    have h2 := Array.swap_perm (xs := l.toArray) (i := i) (j := j) (by simpa using h.1) (by simpa using h.2)
    rw [Array.perm_iff_toList_perm] at h2
    simpa [swapL] using h2
  · exact .refl _
theorem swR_perm (l : List En) (a b m : Nat) : (swR l a b m).Perm l := by
  induction m with
  | zero => exact .refl _
  | succ m ih => rw [swR]; exact (sw_perm ..).trans ih
theorem rotL_perm (m f : Nat) (l : List En) (i j : Nat) : (rotL m f l i j).Perm l := by
  induction f generalizing l i j with
  | zero => exact .refl _
  | succ f ih =>
    simp only [rotL]
    split
    · exact swR_perm ..
    · split
      · exact (ih ..).trans (swR_perm ..)
      · exact (ih ..).trans (swR_perm ..)
theorem insJ_perm (a j : Nat) (l : List En) : (insJ a j l).Perm l := by
  induction j generalizing l with
  | zero => exact .refl _
  | succ j ih =>
    simp only [insJ]
    split
    · exact (ih _).trans (sw_perm ..)
    · exact .refl _
theorem isortN_perm (a k : Nat) (l : List En) : (isortN a k l).Perm l := by
  induction k with
  | zero => exact .refl _
  | succ k ih => rw [isortN]; exact (insJ_perm ..).trans ih
theorem upS_perm (l : List En) (k c : Nat) : (upS l k c).Perm l := by
  induction c with
  | zero => exact .refl _
  | succ c ih => rw [upS]; exact (sw_perm ..).trans ih
theorem dnS_perm (l : List En) (k c : Nat) : (dnS l k c).Perm l := by
  induction c with
  | zero => exact .refl _
  | succ c ih => rw [dnS]; exact (sw_perm ..).trans ih
theorem symM_perm : ∀ (f : Nat) (l : List En) (a m b : Nat), (symM f l a m b).Perm l := by
  intro f
  induction f with
  | zero => intros; exact .refl _
  | succ f ih =>
    intro l a m b
    simp only [symM]
    split
    · exact upS_perm ..
    · split
      · exact dnS_perm ..
      · split <;> (repeat (first | exact .refl _ | exact rotL_perm .. | refine (ih ..).trans ?_ | split))
theorem isP_perm (n : Nat) : ∀ (f a : Nat) (l : List En), (isP n f a l).Perm l := by
  intro f
  induction f with
  | zero => intro a l; exact isortN_perm ..
  | succ f ih =>
    intro a l; simp only [isP]
    split
    · exact (ih ..).trans (isortN_perm ..)
    · exact isortN_perm ..
theorem mgP_perm (n s : Nat) : ∀ (f a : Nat) (l : List En), (mgP n s f a l).Perm l := by
  intro f
  induction f with
  | zero =>
    intro a l; simp only [mgP]
    split
    · exact symM_perm ..
    · exact .refl _
  | succ f ih =>
    intro a l; simp only [mgP]
    split
    · exact (ih ..).trans (symM_perm ..)
    · split
      · exact symM_perm ..
      · exact .refl _
theorem stM_perm (n : Nat) : ∀ (f s : Nat) (l : List En), (stM n f s l).Perm l := by
  intro f
  induction f with
  | zero => intros; exact .refl _
  | succ f ih =>
    intro s l; simp only [stM]
    split
    · exact (ih ..).trans (mgP_perm ..)
    · exact .refl _
theorem stable_perm (l : List En) : (stable l).Perm l := by rw [stable]; exact (stM_perm ..).trans (isP_perm ..)
end Go.Proofs

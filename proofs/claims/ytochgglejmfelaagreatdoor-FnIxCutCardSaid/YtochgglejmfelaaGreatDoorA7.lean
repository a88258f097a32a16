/- The stable sort of entries: merging. -/
import Derived.Test.YtochgglejmfelaaGreatDoorA6
namespace Go.Proofs
open Go Go.Sl
set_option maxRecDepth 100000
set_option maxHeartbeats 1000000

section
variable {G : HP} {gs g n cap lo hi : Nat} {rest : List Value}
theorem symM_is (hf : n * 5 ≤ lo ∨ hi = 0) (h1 : n ≤ 1000) : ∀ (f : Nat) {l : List En} {a m b : Nat}, l.length = n → a < m → m < b → b ≤ n → b - a ≤ f →
    Ctr Tryz.prog 228 [.agg (Dv gs g n cap).toArray, .int .i64 (a : Nat), .int .i64 (m : Nat), .int .i64 (b : Nat)] G (SH gs g n cap rest lo hi l) (fun r H' => r = .tuple #[] ∧ H' = SH gs g n cap rest lo hi (symM f l a m b)) := by
  intro f
  induction f with
  | zero => intro l a m b _ _ _ _ _; omega
  | succ f ih =>
  intro l a m b hn ham hmb hbn hba
  simp only [Dv, SH] at ih ⊢
  refine fn_enter 177 Tryz.func228 rfl Tryz.ntmps228 rfl ?_
  intro w0
  refine c_seq ?_
  refine c_region ?_
  refine o_l rfl (l_box rfl rfl rfl) ?_; intro g4 _
  refine o_nil ?_
  refine n_code ?_
  refine c_seq ?_
  refine c_seq ?_
  refine c_region ?_
  refine o_e rfl rfl rfl (e_move rfl) ?_
  refine o_e rfl rfl rfl (e_move rfl) ?_
  first | refine o_e rfl rfl rfl (e_subN rfl rfl (by omega)) ?_ | refine o_e rfl rfl rfl (e_subn rfl rfl (by simp only [inR]; omega)) ?_ | refine o_e rfl rfl rfl (e_sub rfl rfl) ?_
  refine o_e rfl rfl rfl (e_eql rfl rfl) ?_
  refine o_nil ?_
  refine n_code ?_
  refine c_ifp rfl (fun c1 => ?_) (fun c1 => ?_)
  · refine c_seq ?_
    refine c_region ?_
    refine o_e rfl rfl rfl (e_move rfl) ?_
    refine o_e rfl rfl rfl (e_assign rfl) ?_
    refine o_nil ?_
    refine n_code ?_
    refine c_seq ?_
    refine c_region ?_
    refine o_e rfl rfl rfl (e_move rfl) ?_
    refine o_e rfl rfl rfl (e_assign rfl) ?_
    refine o_nil ?_
    refine n_code ?_
    refine c_seq ?_
    refine c_block ?_
    have hma : m = a + 1 := by omega
    refine c_loop (X := Nat × Nat) (fun y => [(1, .int .i64 a), (2, .int .i64 m), (3, .int .i64 b), (4, .pointer (some ⟨g4, 0, none⟩)), (8, .int .i64 y.1), (9, .int .i64 y.2)]) (fun _ => (g4, C [.func (.func 193) #[] #[.pointer (some ⟨gs, 0, none⟩)], .func (.func 121) #[] #[.slice (some ⟨g, 0, none⟩) n cap, .pointer (some ⟨26, 56, none⟩)]] 134) :: SH gs g n cap rest lo hi l)
      (fun y => m ≤ y.1 ∧ y.1 ≤ y.2 ∧ y.2 ≤ b ∧ bsch (fun h => ltAt l h a) (b - m) y.1 y.2 = bsch (fun h => ltAt l h a) (b - m) m b) (fun y => y.2 - y.1) (m, b) ⟨Nat.le_refl _, Nat.le_of_lt hmb, Nat.le_refl _, rfl⟩ (sub_cons rfl (sub_cons rfl (sub_cons rfl (sub_cons rfl (sub_cons rfl (sub_cons rfl sub_nil)))))) (.refl _) ?_
    rintro ⟨i, j⟩ ⟨hmi, hij, hjb, hbs⟩
    simp only at hmi hij hjb hbs
    simp only [SH]
    refine c_seq ?_
    refine c_seq ?_
    refine c_region ?_
    refine o_e rfl rfl rfl (e_move rfl) ?_
    refine o_e rfl rfl rfl (e_move rfl) ?_
    refine o_e rfl rfl rfl (e_lss rfl rfl) ?_
    refine o_nil ?_
    refine n_code ?_
    refine c_ifp rfl (fun c2 => ?_) (fun c2 => ?_)
    · refine c_skip ?_
      refine n_code ?_
      refine c_block ?_
      refine c_seq ?_
      refine c_region ?_
      refine o_e rfl rfl rfl (e_move rfl) ?_
      refine o_e rfl rfl rfl (e_move rfl) ?_
      first | refine o_e rfl rfl rfl (e_addN rfl rfl (by omega)) ?_ | refine o_e rfl rfl rfl (e_addn rfl rfl (by simp only [inR]; omega)) ?_ | refine o_e rfl rfl rfl (e_add rfl rfl) ?_
      first | refine o_e rfl rfl rfl (e_convn Tryz.runUnderlying3 Tryz.runUnderlying131 rfl (by simp only [inR]; omega)) ?_ | refine o_e rfl rfl rfl (e_conv Tryz.runUnderlying3 Tryz.runUnderlying131 rfl) ?_
      first | refine o_e rfl rfl rfl (e_half rfl rfl) ?_ | refine o_e rfl rfl rfl (e_shr rfl rfl (by omega)) ?_
      first | refine o_e rfl rfl rfl (e_convn Tryz.runUnderlying131 Tryz.runUnderlying3 rfl (by simp only [inR]; omega)) ?_ | refine o_e rfl rfl rfl (e_conv Tryz.runUnderlying131 Tryz.runUnderlying3 rfl) ?_
      refine o_e rfl rfl rfl (e_assign rfl) ?_
      refine o_nil ?_
      refine n_code ?_
      refine c_seq ?_
      refine c_region ?_
      refine o_e rfl rfl rfl (e_fa Tryz.runUnderlying134 rfl Tryz.sizeOf71 rfl rfl) ?_
      refine o_e rfl rfl rfl (e_load Tryz.isAgg71 rfl (by first | exact .inr (by assumption) | exact .inl (by repeat (first | exact List.Mem.head _ | refine List.Mem.tail _ ?_))) (by first | rfl | assumption)) ?_
      refine o_e rfl rfl rfl (e_move rfl) ?_
      refine o_e rfl rfl rfl (e_move rfl) ?_
      refine o_l rfl (l_callcq (HI := []) (HJ := SH gs g n cap rest lo hi l) Tryz.call193 (less_is (g3 := gs) (g := g) (l := l) (rest := rest) (lo := lo) (hi := hi) (n := n) (cap := cap) (i := (i + j) / 2) (j := a) (by simp) (by simp) hn (by omega) (by omega)) rfl rfl rfl rfl .nil (by simp)) ?_
      rintro ⟨r, H'⟩ rfl
      rw [ltAt_of]
      refine o_less (fun _ _ h => h) (List.sublist_append_right _ _) ?_
      refine o_nil ?_
      refine n_code ?_
      refine c_if rfl (fun c3 => ?_) (fun c3 => ?_)
      · refine c_region ?_
        refine o_e rfl rfl rfl (e_move rfl) ?_
        first | refine o_e rfl rfl rfl (e_addN rfl rfl (by omega)) ?_ | refine o_e rfl rfl rfl (e_addn rfl rfl (by simp only [inR]; omega)) ?_ | refine o_e rfl rfl rfl (e_add rfl rfl) ?_
        refine o_e rfl rfl rfl (e_assign rfl) ?_
        refine o_nil ?_
        refine n_block ?_
        refine n_round (y := (i, j)) ((i + j) / 2 + 1, j) (by show j - ((i + j) / 2 + 1) < j - i; omega) ?_ (sub_cons rfl (sub_cons rfl (sub_cons rfl (sub_cons rfl (sub_cons rfl (sub_cons rfl sub_nil)))))) (.refl _)
        refine ⟨by show m ≤ (i + j) / 2 + 1; omega, by show (i + j) / 2 + 1 ≤ j; omega, hjb, ?_⟩
        rw [← hbs, bsch_fuel _ (b - m) (b - m - 1) _ _ (by show j - ((i + j) / 2 + 1) ≤ b - m; omega) (by show j - ((i + j) / 2 + 1) ≤ b - m - 1; omega)]
        obtain ⟨q, hq⟩ : ∃ q, b - m = q + 1 := ⟨b - m - 1, by omega⟩
        rw [hq]
        simp only [bsch, Nat.add_sub_cancel]
        rw [if_pos (show i < j by omega), if_pos c3]
      · skip
        refine c_region ?_
        refine o_e rfl rfl rfl (e_move rfl) ?_
        refine o_e rfl rfl rfl (e_assign rfl) ?_
        refine o_nil ?_
        refine n_block ?_
        refine n_round (y := (i, j)) (i, (i + j) / 2) (by show (i + j) / 2 - i < j - i; omega) ?_ (sub_cons rfl (sub_cons rfl (sub_cons rfl (sub_cons rfl (sub_cons rfl (sub_cons rfl sub_nil)))))) (.refl _)
        refine ⟨hmi, by show i ≤ (i + j) / 2; omega, by show (i + j) / 2 ≤ b; omega, ?_⟩
        rw [← hbs, bsch_fuel _ (b - m) (b - m - 1) _ _ (by show (i + j) / 2 - i ≤ b - m; omega) (by show (i + j) / 2 - i ≤ b - m - 1; omega)]
        obtain ⟨q, hq⟩ : ∃ q, b - m = q + 1 := ⟨b - m - 1, by omega⟩
        rw [hq]
        simp only [bsch, Nat.add_sub_cancel]
        rw [if_pos (show i < j by omega), if_neg (by rw [c3]; simp)]
    · skip
      have hfin : bsch (fun h => ltAt l h a) (b - m) m b = i := by
        rw [← hbs]
        obtain ⟨q, hq⟩ : ∃ q, b - m = q + 1 := ⟨b - m - 1, by omega⟩
        rw [hq]
        simp only [bsch]
        rw [if_neg (by omega)]
      refine c_exit ?_; refine x_code ?_; refine x_upto ?_; refine x_here ?_
      refine n_code ?_
      refine c_seq ?_
      refine c_seq ?_
      refine c_region ?_
      refine o_e rfl rfl rfl (e_move rfl) ?_
      refine o_e rfl rfl rfl (e_assign rfl) ?_
      refine o_nil ?_
      refine n_code ?_
      refine c_block ?_
      refine c_loop (X := Nat) (fun c => [(4, .pointer (some ⟨g4, 0, none⟩)), (8, .int .i64 i), (11, .int .i64 (a + c : Nat))]) (fun c => (g4, C [.func (.func 193) #[] #[.pointer (some ⟨gs, 0, none⟩)], .func (.func 121) #[] #[.slice (some ⟨g, 0, none⟩) n cap, .pointer (some ⟨26, 56, none⟩)]] 134) :: SH gs g n cap rest lo hi (upS l a c)) (fun c => c ≤ i - 1 - a) (fun c => i - 1 - a - c) 0 (Nat.zero_le _) (sub_cons rfl (sub_cons rfl (sub_cons rfl sub_nil))) (.refl _) ?_
      intro c hc
      simp only [SH]
      have hl := (upS_length l a c).trans hn
      generalize hgen : upS l a c = l' at hl ⊢
      refine c_seq ?_
      refine c_seq ?_
      refine c_region ?_
      refine o_e rfl rfl rfl (e_move rfl) ?_
      refine o_e rfl rfl rfl (e_move rfl) ?_
      first | refine o_e rfl rfl rfl (e_pred rfl rfl (by omega)) ?_ | refine o_e rfl rfl rfl (e_sub1 rfl rfl (by omega)) ?_ | refine o_e rfl rfl rfl (e_subn rfl rfl (by simp only [inR]; omega)) ?_ | refine o_e rfl rfl rfl (e_sub rfl rfl) ?_
      refine o_e rfl rfl rfl (e_lss rfl rfl) ?_
      refine o_nil ?_
      refine n_code ?_
      refine c_ifp rfl (fun c4 => ?_) (fun c4 => ?_)
      · refine c_skip ?_
        refine n_code ?_
        refine c_seq ?_
        refine c_block ?_
        refine c_region ?_
        refine o_e rfl rfl rfl (e_fa Tryz.runUnderlying134 rfl Tryz.sizeOf128 rfl rfl) ?_
        refine o_e rfl rfl rfl (e_load Tryz.isAgg128 rfl (by first | exact .inr (by assumption) | exact .inl (by repeat (first | exact List.Mem.head _ | refine List.Mem.tail _ ?_))) (by first | rfl | assumption)) ?_
        refine o_e rfl rfl rfl (e_move rfl) ?_
        refine o_e rfl rfl rfl (e_move rfl) ?_
        first | refine o_e rfl rfl rfl (e_addN rfl rfl (by omega)) ?_ | refine o_e rfl rfl rfl (e_addn rfl rfl (by simp only [inR]; omega)) ?_ | refine o_e rfl rfl rfl (e_add rfl rfl) ?_
        refine o_l rfl (l_swapE rfl rfl rfl (i := a + c) (j := a + c + 1) rfl rfl hl (by omega) (by omega) (by rw [hl]; exact hf) (.tail (.tail .head))) ?_
        intro _ _
        rw [sw_of]
        refine o_nil ?_
        refine n_block ?_
        refine n_code ?_
        refine c_region ?_
        refine o_e rfl rfl rfl (e_move rfl) ?_
        first | refine o_e rfl rfl rfl (e_addN rfl rfl (by omega)) ?_ | refine o_e rfl rfl rfl (e_addn rfl rfl (by simp only [inR]; omega)) ?_ | refine o_e rfl rfl rfl (e_add rfl rfl) ?_
        refine o_e rfl rfl rfl (e_assign rfl) ?_
        refine o_nil ?_
        refine n_round (c + 1) (by omega) (by omega) (sub_cons rfl (sub_cons rfl (sub_cons rfl sub_nil))) ?_
        simp only [upS, hgen]
        exact .refl _
      · skip
        refine c_exit ?_; refine x_code ?_; refine x_upto ?_; refine x_here ?_
        refine n_code ?_
        refine c_ret ?_
        refine WR.sel (.cons (.tail .head) (.cons (.tail .head) .nil)) ?_
        refine r_fn0 Tryz.results228 ?_
        have : c = i - 1 - a := by omega
        subst this
        refine ⟨rfl, ?_⟩
        simp only [symM]
        rw [if_pos (by omega), hfin, hgen]
  · skip
    have c1 : ¬ (m - a = 1) := by omega
    refine c_skip ?_
    refine n_code ?_
    refine c_seq ?_
    refine c_seq ?_
    refine c_region ?_
    refine o_e rfl rfl rfl (e_move rfl) ?_
    refine o_e rfl rfl rfl (e_move rfl) ?_
    first | refine o_e rfl rfl rfl (e_subN rfl rfl (by omega)) ?_ | refine o_e rfl rfl rfl (e_subn rfl rfl (by simp only [inR]; omega)) ?_ | refine o_e rfl rfl rfl (e_sub rfl rfl) ?_
    refine o_e rfl rfl rfl (e_eql rfl rfl) ?_
    refine o_nil ?_
    refine n_code ?_
    refine c_ifp rfl (fun d1 => ?_) (fun d1 => ?_)
    · refine c_seq ?_
      refine c_region ?_
      refine o_e rfl rfl rfl (e_move rfl) ?_
      refine o_e rfl rfl rfl (e_assign rfl) ?_
      refine o_nil ?_
      refine n_code ?_
      refine c_seq ?_
      refine c_region ?_
      refine o_e rfl rfl rfl (e_move rfl) ?_
      refine o_e rfl rfl rfl (e_assign rfl) ?_
      refine o_nil ?_
      refine n_code ?_
      refine c_seq ?_
      refine c_block ?_
      have hbm : b = m + 1 := by omega
      refine c_loop (X := Nat × Nat) (fun y => [(1, .int .i64 a), (2, .int .i64 m), (3, .int .i64 b), (4, .pointer (some ⟨g4, 0, none⟩)), (12, .int .i64 y.1), (13, .int .i64 y.2)]) (fun _ => (g4, C [.func (.func 193) #[] #[.pointer (some ⟨gs, 0, none⟩)], .func (.func 121) #[] #[.slice (some ⟨g, 0, none⟩) n cap, .pointer (some ⟨26, 56, none⟩)]] 134) :: SH gs g n cap rest lo hi l)
        (fun y => a ≤ y.1 ∧ y.1 ≤ y.2 ∧ y.2 ≤ m ∧ bsch (fun h => !ltAt l m h) (m - a) y.1 y.2 = bsch (fun h => !ltAt l m h) (m - a) a m) (fun y => y.2 - y.1) (a, m) ⟨Nat.le_refl _, Nat.le_of_lt ham, Nat.le_refl _, rfl⟩ (sub_cons rfl (sub_cons rfl (sub_cons rfl (sub_cons rfl (sub_cons rfl (sub_cons rfl sub_nil)))))) (.refl _) ?_
      rintro ⟨i, j⟩ ⟨hmi, hij, hjb, hbs⟩
      simp only at hmi hij hjb hbs
      simp only [SH]
      refine c_seq ?_
      refine c_seq ?_
      refine c_region ?_
      refine o_e rfl rfl rfl (e_move rfl) ?_
      refine o_e rfl rfl rfl (e_move rfl) ?_
      refine o_e rfl rfl rfl (e_lss rfl rfl) ?_
      refine o_nil ?_
      refine n_code ?_
      refine c_ifp rfl (fun c2 => ?_) (fun c2 => ?_)
      · refine c_skip ?_
        refine n_code ?_
        refine c_block ?_
        refine c_seq ?_
        refine c_region ?_
        refine o_e rfl rfl rfl (e_move rfl) ?_
        refine o_e rfl rfl rfl (e_move rfl) ?_
        first | refine o_e rfl rfl rfl (e_addN rfl rfl (by omega)) ?_ | refine o_e rfl rfl rfl (e_addn rfl rfl (by simp only [inR]; omega)) ?_ | refine o_e rfl rfl rfl (e_add rfl rfl) ?_
        first | refine o_e rfl rfl rfl (e_convn Tryz.runUnderlying3 Tryz.runUnderlying131 rfl (by simp only [inR]; omega)) ?_ | refine o_e rfl rfl rfl (e_conv Tryz.runUnderlying3 Tryz.runUnderlying131 rfl) ?_
        first | refine o_e rfl rfl rfl (e_half rfl rfl) ?_ | refine o_e rfl rfl rfl (e_shr rfl rfl (by omega)) ?_
        first | refine o_e rfl rfl rfl (e_convn Tryz.runUnderlying131 Tryz.runUnderlying3 rfl (by simp only [inR]; omega)) ?_ | refine o_e rfl rfl rfl (e_conv Tryz.runUnderlying131 Tryz.runUnderlying3 rfl) ?_
        refine o_e rfl rfl rfl (e_assign rfl) ?_
        refine o_nil ?_
        refine n_code ?_
        refine c_seq ?_
        refine c_region ?_
        refine o_e rfl rfl rfl (e_fa Tryz.runUnderlying134 rfl Tryz.sizeOf71 rfl rfl) ?_
        refine o_e rfl rfl rfl (e_load Tryz.isAgg71 rfl (by first | exact .inr (by assumption) | exact .inl (by repeat (first | exact List.Mem.head _ | refine List.Mem.tail _ ?_))) (by first | rfl | assumption)) ?_
        refine o_e rfl rfl rfl (e_move rfl) ?_
        refine o_e rfl rfl rfl (e_move rfl) ?_
        refine o_l rfl (l_callcq (HI := []) (HJ := SH gs g n cap rest lo hi l) Tryz.call193 (less_is (g3 := gs) (g := g) (l := l) (rest := rest) (lo := lo) (hi := hi) (n := n) (cap := cap) (i := m) (j := (i + j) / 2) (by simp) (by simp) hn (by omega) (by omega)) rfl rfl rfl rfl .nil (by simp)) ?_
        rintro ⟨r, H'⟩ rfl
        rw [ltAt_of]
        refine o_less (fun _ _ h => h) (List.sublist_append_right _ _) ?_
        refine o_e rfl rfl rfl (e_not rfl) ?_
        refine o_nil ?_
        refine n_code ?_
        refine c_if rfl (fun c3 => ?_) (fun c3 => ?_)
        · refine c_region ?_
          refine o_e rfl rfl rfl (e_move rfl) ?_
          first | refine o_e rfl rfl rfl (e_addN rfl rfl (by omega)) ?_ | refine o_e rfl rfl rfl (e_addn rfl rfl (by simp only [inR]; omega)) ?_ | refine o_e rfl rfl rfl (e_add rfl rfl) ?_
          refine o_e rfl rfl rfl (e_assign rfl) ?_
          refine o_nil ?_
          refine n_block ?_
          refine n_round (y := (i, j)) ((i + j) / 2 + 1, j) (by show j - ((i + j) / 2 + 1) < j - i; omega) ?_ (sub_cons rfl (sub_cons rfl (sub_cons rfl (sub_cons rfl (sub_cons rfl (sub_cons rfl sub_nil)))))) (.refl _)
          refine ⟨by show a ≤ (i + j) / 2 + 1; omega, by show (i + j) / 2 + 1 ≤ j; omega, hjb, ?_⟩
          rw [← hbs, bsch_fuel _ (m - a) (m - a - 1) _ _ (by show j - ((i + j) / 2 + 1) ≤ m - a; omega) (by show j - ((i + j) / 2 + 1) ≤ m - a - 1; omega)]
          obtain ⟨q, hq⟩ : ∃ q, m - a = q + 1 := ⟨m - a - 1, by omega⟩
          rw [hq]
          simp only [bsch, Nat.add_sub_cancel]
          rw [if_pos (show i < j by omega), if_pos c3]
        · skip
          refine c_region ?_
          refine o_e rfl rfl rfl (e_move rfl) ?_
          refine o_e rfl rfl rfl (e_assign rfl) ?_
          refine o_nil ?_
          refine n_block ?_
          refine n_round (y := (i, j)) (i, (i + j) / 2) (by show (i + j) / 2 - i < j - i; omega) ?_ (sub_cons rfl (sub_cons rfl (sub_cons rfl (sub_cons rfl (sub_cons rfl (sub_cons rfl sub_nil)))))) (.refl _)
          refine ⟨hmi, by show i ≤ (i + j) / 2; omega, by show (i + j) / 2 ≤ m; omega, ?_⟩
          rw [← hbs, bsch_fuel _ (m - a) (m - a - 1) _ _ (by show (i + j) / 2 - i ≤ m - a; omega) (by show (i + j) / 2 - i ≤ m - a - 1; omega)]
          obtain ⟨q, hq⟩ : ∃ q, m - a = q + 1 := ⟨m - a - 1, by omega⟩
          rw [hq]
          simp only [bsch, Nat.add_sub_cancel]
          rw [if_pos (show i < j by omega), if_neg (by rw [c3]; simp)]
      · skip
        have hfin : bsch (fun h => !ltAt l m h) (m - a) a m = i := by
          rw [← hbs]
          obtain ⟨q, hq⟩ : ∃ q, m - a = q + 1 := ⟨m - a - 1, by omega⟩
          rw [hq]
          simp only [bsch]
          rw [if_neg (by omega)]
        refine c_exit ?_; refine x_code ?_; refine x_upto ?_; refine x_here ?_
        refine n_code ?_
        refine c_seq ?_
        refine c_seq ?_
        refine c_region ?_
        refine o_e rfl rfl rfl (e_move rfl) ?_
        refine o_e rfl rfl rfl (e_assign rfl) ?_
        refine o_nil ?_
        refine n_code ?_
        refine c_block ?_
        refine c_loop (X := Nat) (fun c => [(4, .pointer (some ⟨g4, 0, none⟩)), (12, .int .i64 i), (15, .int .i64 (m - c : Nat))]) (fun c => (g4, C [.func (.func 193) #[] #[.pointer (some ⟨gs, 0, none⟩)], .func (.func 121) #[] #[.slice (some ⟨g, 0, none⟩) n cap, .pointer (some ⟨26, 56, none⟩)]] 134) :: SH gs g n cap rest lo hi (dnS l m c)) (fun c => c ≤ m - i) (fun c => m - i - c) 0 (Nat.zero_le _) (sub_cons rfl (sub_cons rfl (sub_cons rfl sub_nil))) (.refl _) ?_
        intro c hc
        simp only [SH]
        have hl := (dnS_length l m c).trans hn
        generalize hgen : dnS l m c = l' at hl ⊢
        refine c_seq ?_
        refine c_seq ?_
        refine c_region ?_
        refine o_e rfl rfl rfl (e_move rfl) ?_
        refine o_e rfl rfl rfl (e_move rfl) ?_
        refine o_e rfl rfl rfl (e_gtr rfl rfl) ?_
        refine o_nil ?_
        refine n_code ?_
        refine c_ifp rfl (fun c4 => ?_) (fun c4 => ?_)
        · obtain ⟨k, hk⟩ : ∃ k, m - c = k + 1 := ⟨m - c - 1, by omega⟩
          rw [hk]
          refine c_skip ?_
          refine n_code ?_
          refine c_seq ?_
          refine c_block ?_
          refine c_region ?_
          refine o_e rfl rfl rfl (e_fa Tryz.runUnderlying134 rfl Tryz.sizeOf128 rfl rfl) ?_
          refine o_e rfl rfl rfl (e_load Tryz.isAgg128 rfl (by first | exact .inr (by assumption) | exact .inl (by repeat (first | exact List.Mem.head _ | refine List.Mem.tail _ ?_))) (by first | rfl | assumption)) ?_
          refine o_e rfl rfl rfl (e_move rfl) ?_
          refine o_e rfl rfl rfl (e_move rfl) ?_
          first | refine o_e rfl rfl rfl (e_pred rfl rfl (by omega)) ?_ | refine o_e rfl rfl rfl (e_sub1 rfl rfl (by omega)) ?_ | refine o_e rfl rfl rfl (e_subn rfl rfl (by simp only [inR]; omega)) ?_ | refine o_e rfl rfl rfl (e_sub rfl rfl) ?_
          refine o_l rfl (l_swapE rfl rfl rfl (i := k + 1) (j := k) rfl rfl hl (by omega) (by omega) (by rw [hl]; exact hf) (.tail (.tail .head))) ?_
          intro _ _
          rw [sw_of]
          refine o_nil ?_
          refine n_block ?_
          refine n_code ?_
          refine c_region ?_
          refine o_e rfl rfl rfl (e_move rfl) ?_
          first | refine o_e rfl rfl rfl (e_pred rfl rfl (by omega)) ?_ | refine o_e rfl rfl rfl (e_sub1 rfl rfl (by omega)) ?_ | refine o_e rfl rfl rfl (e_subn rfl rfl (by simp only [inR]; omega)) ?_ | refine o_e rfl rfl rfl (e_sub rfl rfl) ?_
          refine o_e rfl rfl rfl (e_assign rfl) ?_
          refine o_nil ?_
          have hk2 : m - (c + 1) = k := by omega
          refine n_round (y := c) (c + 1) (by show m - i - (c + 1) < m - i - c; omega) (by show c + 1 ≤ m - i; omega) ?_ ?_
          · simp only [hk2]
            exact sub_cons rfl (sub_cons rfl (sub_cons rfl sub_nil))
          · simp only [dnS, hgen, hk, Nat.add_sub_cancel]
            exact .refl _
        · skip
          refine c_exit ?_; refine x_code ?_; refine x_upto ?_; refine x_here ?_
          refine n_code ?_
          refine c_ret ?_
          refine WR.sel (.cons (.tail .head) (.cons (.tail .head) .nil)) ?_
          refine r_fn0 Tryz.results228 ?_
          have : c = m - i := by omega
          subst this
          refine ⟨rfl, ?_⟩
          simp only [symM]
          rw [if_neg c1, if_pos (by omega), hfin, hgen]
    · skip
      have d1 : ¬ (b - m = 1) := by omega
      refine c_skip ?_
      refine n_code ?_
      refine c_seq ?_
      refine c_region ?_
      refine o_e rfl rfl rfl (e_move rfl) ?_
      refine o_e rfl rfl rfl (e_move rfl) ?_
      first | refine o_e rfl rfl rfl (e_addN rfl rfl (by omega)) ?_ | refine o_e rfl rfl rfl (e_addn rfl rfl (by simp only [inR]; omega)) ?_ | refine o_e rfl rfl rfl (e_add rfl rfl) ?_
      first | refine o_e rfl rfl rfl (e_convn Tryz.runUnderlying3 Tryz.runUnderlying131 rfl (by simp only [inR]; omega)) ?_ | refine o_e rfl rfl rfl (e_conv Tryz.runUnderlying3 Tryz.runUnderlying131 rfl) ?_
      first | refine o_e rfl rfl rfl (e_half rfl rfl) ?_ | refine o_e rfl rfl rfl (e_shr rfl rfl (by omega)) ?_
      first | refine o_e rfl rfl rfl (e_convn Tryz.runUnderlying131 Tryz.runUnderlying3 rfl (by simp only [inR]; omega)) ?_ | refine o_e rfl rfl rfl (e_conv Tryz.runUnderlying131 Tryz.runUnderlying3 rfl) ?_
      refine o_e rfl rfl rfl (e_assign rfl) ?_
      refine o_nil ?_
      refine n_code ?_
      refine c_seq ?_
      refine c_region ?_
      refine o_e rfl rfl rfl (e_move rfl) ?_
      refine o_e rfl rfl rfl (e_move rfl) ?_
      first | refine o_e rfl rfl rfl (e_addN rfl rfl (by omega)) ?_ | refine o_e rfl rfl rfl (e_addn rfl rfl (by simp only [inR]; omega)) ?_ | refine o_e rfl rfl rfl (e_add rfl rfl) ?_
      refine o_e rfl rfl rfl (e_assign rfl) ?_
      refine o_nil ?_
      refine n_code ?_
      refine c_seq ?_
      refine c_region ?_
      refine o_e rfl rfl rfl (e_assign rfl) ?_
      refine o_e rfl rfl rfl (e_assign rfl) ?_
      refine o_nil ?_
      refine n_code ?_
      refine c_seq ?_
      refine c_seq ?_
      refine c_region ?_
      refine o_e rfl rfl rfl (e_move rfl) ?_
      refine o_e rfl rfl rfl (e_move rfl) ?_
      refine o_e rfl rfl rfl (e_gtr rfl rfl) ?_
      refine o_nil ?_
      refine n_code ?_
      refine c_cut (X := Nat × Nat) (fun y => [(1, .int .i64 a), (2, .int .i64 m), (3, .int .i64 b), (4, .pointer (some ⟨g4, 0, none⟩)), (16, .int .i64 ((a + b) / 2 : Nat)), (17, .int .i64 ((a + b) / 2 + m : Nat)), (18, .int .i64 y.1), (19, .int .i64 y.2)]) (fun _ => (g4, C [.func (.func 193) #[] #[.pointer (some ⟨gs, 0, none⟩)], .func (.func 121) #[] #[.slice (some ⟨g, 0, none⟩) n cap, .pointer (some ⟨26, 56, none⟩)]] 134) :: SH gs g n cap rest lo hi l) (fun y => ((a + b) / 2 < m ∧ y = ((a + b) / 2 + m - b, (a + b) / 2)) ∨ (¬ (a + b) / 2 < m ∧ y = (a, m))) ?_ ?_
      · skip
        refine c_ifp rfl (fun e1 => ?_) (fun e1 => ?_)
        · refine c_seq ?_
          refine c_region ?_
          refine o_e rfl rfl rfl (e_move rfl) ?_
          refine o_e rfl rfl rfl (e_move rfl) ?_
          first | refine o_e rfl rfl rfl (e_subN rfl rfl (by omega)) ?_ | refine o_e rfl rfl rfl (e_subn rfl rfl (by simp only [inR]; omega)) ?_ | refine o_e rfl rfl rfl (e_sub rfl rfl) ?_
          refine o_e rfl rfl rfl (e_assign rfl) ?_
          refine o_nil ?_
          refine n_code ?_
          refine c_region ?_
          refine o_e rfl rfl rfl (e_move rfl) ?_
          refine o_e rfl rfl rfl (e_assign rfl) ?_
          refine o_nil ?_
          exact n_cut ((a + b) / 2 + m - b, (a + b) / 2) (.inl ⟨by omega, rfl⟩) (sub_cons rfl (sub_cons rfl (sub_cons rfl (sub_cons rfl (sub_cons rfl (sub_cons rfl (sub_cons rfl (sub_cons rfl sub_nil)))))))) (.refl _)
        · skip
          refine c_seq ?_
          refine c_region ?_
          refine o_e rfl rfl rfl (e_move rfl) ?_
          refine o_e rfl rfl rfl (e_assign rfl) ?_
          refine o_nil ?_
          refine n_code ?_
          refine c_region ?_
          refine o_e rfl rfl rfl (e_move rfl) ?_
          refine o_e rfl rfl rfl (e_assign rfl) ?_
          refine o_nil ?_
          exact n_cut (a, m) (.inr ⟨by omega, rfl⟩) (sub_cons rfl (sub_cons rfl (sub_cons rfl (sub_cons rfl (sub_cons rfl (sub_cons rfl (sub_cons rfl (sub_cons rfl sub_nil)))))))) (.refl _)
      rintro ⟨s0, r0⟩ hs0
      simp only [Prod.mk.injEq] at hs0
      simp only [SH]
      refine n_code ?_
      refine c_seq ?_
      refine c_region ?_
      refine o_e rfl rfl rfl (e_move rfl) ?_
      first | refine o_e rfl rfl rfl (e_pred rfl rfl (by omega)) ?_ | refine o_e rfl rfl rfl (e_sub1 rfl rfl (by omega)) ?_ | refine o_e rfl rfl rfl (e_subn rfl rfl (by simp only [inR]; omega)) ?_ | refine o_e rfl rfl rfl (e_sub rfl rfl) ?_
      refine o_e rfl rfl rfl (e_assign rfl) ?_
      refine o_nil ?_
      refine n_code ?_
      refine c_seq ?_
      refine c_block ?_
      generalize hmid : (a + b) / 2 = mid at *
      refine c_loop (X := Nat × Nat) (fun y => [(1, .int .i64 a), (2, .int .i64 m), (3, .int .i64 b), (4, .pointer (some ⟨g4, 0, none⟩)), (16, .int .i64 mid), (17, .int .i64 (mid + m : Nat)), (18, .int .i64 y.1), (19, .int .i64 y.2), (20, .int .i64 (mid + m - 1 : Nat))]) (fun _ => (g4, C [.func (.func 193) #[] #[.pointer (some ⟨gs, 0, none⟩)], .func (.func 121) #[] #[.slice (some ⟨g, 0, none⟩) n cap, .pointer (some ⟨26, 56, none⟩)]] 134) :: SH gs g n cap rest lo hi l)
        (fun y => s0 ≤ y.1 ∧ y.1 ≤ y.2 ∧ y.2 ≤ r0 ∧ bsch (fun c => !ltAt l (mid + m - 1 - c) c) (b - a) y.1 y.2 = bsch (fun c => !ltAt l (mid + m - 1 - c) c) (b - a) s0 r0) (fun y => y.2 - y.1) (s0, r0) ⟨Nat.le_refl _, by show s0 ≤ r0; omega, Nat.le_refl _, rfl⟩ (sub_cons rfl (sub_cons rfl (sub_cons rfl (sub_cons rfl (sub_cons rfl (sub_cons rfl (sub_cons rfl (sub_cons rfl (sub_cons rfl sub_nil))))))))) (.refl _) ?_
      rintro ⟨i, j⟩ ⟨hmi, hij, hjb, hbs⟩
      simp only at hmi hij hjb hbs
      simp only [SH]
      refine c_seq ?_
      refine c_seq ?_
      refine c_region ?_
      refine o_e rfl rfl rfl (e_move rfl) ?_
      refine o_e rfl rfl rfl (e_move rfl) ?_
      refine o_e rfl rfl rfl (e_lss rfl rfl) ?_
      refine o_nil ?_
      refine n_code ?_
      refine c_ifp rfl (fun c2 => ?_) (fun c2 => ?_)
      · refine c_skip ?_
        refine n_code ?_
        refine c_block ?_
        refine c_seq ?_
        refine c_region ?_
        refine o_e rfl rfl rfl (e_move rfl) ?_
        refine o_e rfl rfl rfl (e_move rfl) ?_
        first | refine o_e rfl rfl rfl (e_addN rfl rfl (by omega)) ?_ | refine o_e rfl rfl rfl (e_addn rfl rfl (by simp only [inR]; omega)) ?_ | refine o_e rfl rfl rfl (e_add rfl rfl) ?_
        first | refine o_e rfl rfl rfl (e_convn Tryz.runUnderlying3 Tryz.runUnderlying131 rfl (by simp only [inR]; omega)) ?_ | refine o_e rfl rfl rfl (e_conv Tryz.runUnderlying3 Tryz.runUnderlying131 rfl) ?_
        first | refine o_e rfl rfl rfl (e_half rfl rfl) ?_ | refine o_e rfl rfl rfl (e_shr rfl rfl (by omega)) ?_
        first | refine o_e rfl rfl rfl (e_convn Tryz.runUnderlying131 Tryz.runUnderlying3 rfl (by simp only [inR]; omega)) ?_ | refine o_e rfl rfl rfl (e_conv Tryz.runUnderlying131 Tryz.runUnderlying3 rfl) ?_
        refine o_e rfl rfl rfl (e_assign rfl) ?_
        refine o_nil ?_
        refine n_code ?_
        refine c_seq ?_
        refine c_region ?_
        refine o_e rfl rfl rfl (e_fa Tryz.runUnderlying134 rfl Tryz.sizeOf71 rfl rfl) ?_
        refine o_e rfl rfl rfl (e_load Tryz.isAgg71 rfl (by first | exact .inr (by assumption) | exact .inl (by repeat (first | exact List.Mem.head _ | refine List.Mem.tail _ ?_))) (by first | rfl | assumption)) ?_
        refine o_e rfl rfl rfl (e_move rfl) ?_
        refine o_e rfl rfl rfl (e_move rfl) ?_
        first | refine o_e rfl rfl rfl (e_subN rfl rfl (by omega)) ?_ | refine o_e rfl rfl rfl (e_subn rfl rfl (by simp only [inR]; omega)) ?_ | refine o_e rfl rfl rfl (e_sub rfl rfl) ?_
        refine o_e rfl rfl rfl (e_move rfl) ?_
        refine o_l rfl (l_callcq (HI := []) (HJ := SH gs g n cap rest lo hi l) Tryz.call193 (less_is (g3 := gs) (g := g) (l := l) (rest := rest) (lo := lo) (hi := hi) (n := n) (cap := cap) (i := mid + m - 1 - (i + j) / 2) (j := (i + j) / 2) (by simp) (by simp) hn (by omega) (by omega)) rfl rfl rfl rfl .nil (by simp)) ?_
        rintro ⟨r, H'⟩ rfl
        rw [ltAt_of]
        refine o_less (fun _ _ h => h) (List.sublist_append_right _ _) ?_
        refine o_e rfl rfl rfl (e_not rfl) ?_
        refine o_nil ?_
        refine n_code ?_
        refine c_if rfl (fun c3 => ?_) (fun c3 => ?_)
        · refine c_region ?_
          refine o_e rfl rfl rfl (e_move rfl) ?_
          first | refine o_e rfl rfl rfl (e_addN rfl rfl (by omega)) ?_ | refine o_e rfl rfl rfl (e_addn rfl rfl (by simp only [inR]; omega)) ?_ | refine o_e rfl rfl rfl (e_add rfl rfl) ?_
          refine o_e rfl rfl rfl (e_assign rfl) ?_
          refine o_nil ?_
          refine n_block ?_
          refine n_round (y := (i, j)) ((i + j) / 2 + 1, j) (by show j - ((i + j) / 2 + 1) < j - i; omega) ?_ (sub_cons rfl (sub_cons rfl (sub_cons rfl (sub_cons rfl (sub_cons rfl (sub_cons rfl (sub_cons rfl (sub_cons rfl (sub_cons rfl sub_nil))))))))) (.refl _)
          refine ⟨by show s0 ≤ (i + j) / 2 + 1; omega, by show (i + j) / 2 + 1 ≤ j; omega, hjb, ?_⟩
          rw [← hbs, bsch_fuel _ (b - a) (b - a - 1) _ _ (by show j - ((i + j) / 2 + 1) ≤ b - a; omega) (by show j - ((i + j) / 2 + 1) ≤ b - a - 1; omega)]
          obtain ⟨q, hq⟩ : ∃ q, b - a = q + 1 := ⟨b - a - 1, by omega⟩
          rw [hq]
          simp only [bsch, Nat.add_sub_cancel]
          rw [if_pos (show i < j by omega), if_pos c3]
        · skip
          refine c_region ?_
          refine o_e rfl rfl rfl (e_move rfl) ?_
          refine o_e rfl rfl rfl (e_assign rfl) ?_
          refine o_nil ?_
          refine n_block ?_
          refine n_round (y := (i, j)) (i, (i + j) / 2) (by show (i + j) / 2 - i < j - i; omega) ?_ (sub_cons rfl (sub_cons rfl (sub_cons rfl (sub_cons rfl (sub_cons rfl (sub_cons rfl (sub_cons rfl (sub_cons rfl (sub_cons rfl sub_nil))))))))) (.refl _)
          refine ⟨hmi, by show i ≤ (i + j) / 2; omega, by show (i + j) / 2 ≤ r0; omega, ?_⟩
          rw [← hbs, bsch_fuel _ (b - a) (b - a - 1) _ _ (by show (i + j) / 2 - i ≤ b - a; omega) (by show (i + j) / 2 - i ≤ b - a - 1; omega)]
          obtain ⟨q, hq⟩ : ∃ q, b - a = q + 1 := ⟨b - a - 1, by omega⟩
          rw [hq]
          simp only [bsch, Nat.add_sub_cancel]
          rw [if_pos (show i < j by omega), if_neg (by rw [c3]; simp)]
      · skip
        have hfin : bsch (fun c => !ltAt l (mid + m - 1 - c) c) (b - a) s0 r0 = i := by
          rw [← hbs]
          obtain ⟨q, hq⟩ : ∃ q, b - a = q + 1 := ⟨b - a - 1, by omega⟩
          rw [hq]
          simp only [bsch]
          rw [if_neg (by omega)]
        have hst : (if mid < m then bsch (fun c => !ltAt l (mid + m - 1 - c) c) (b - a) (mid + m - b) mid else bsch (fun c => !ltAt l (mid + m - 1 - c) c) (b - a) a m) = i := by
          rcases hs0 with ⟨h, rfl, rfl⟩ | ⟨h, rfl, rfl⟩
          · rw [if_pos h]; exact hfin
          · rw [if_neg h]; exact hfin
        refine c_exit ?_; refine x_code ?_; refine x_upto ?_; refine x_here ?_
        refine n_code ?_
        refine c_seq ?_
        refine c_region ?_
        refine o_e rfl rfl rfl (e_move rfl) ?_
        refine o_e rfl rfl rfl (e_move rfl) ?_
        first | refine o_e rfl rfl rfl (e_subN rfl rfl (by omega)) ?_ | refine o_e rfl rfl rfl (e_subn rfl rfl (by simp only [inR]; omega)) ?_ | refine o_e rfl rfl rfl (e_sub rfl rfl) ?_
        refine o_e rfl rfl rfl (e_assign rfl) ?_
        refine o_nil ?_
        refine n_code ?_
        refine c_seq ?_
        refine c_cut (X := List En) (fun _ => [(1, .int .i64 a), (3, .int .i64 b), (4, .pointer (some ⟨g4, 0, none⟩)), (16, .int .i64 mid), (18, .int .i64 i), (22, .int .i64 (mid + m - i : Nat))]) (fun y => (g4, C [.func (.func 193) #[] #[.pointer (some ⟨gs, 0, none⟩)], .func (.func 121) #[] #[.slice (some ⟨g, 0, none⟩) n cap, .pointer (some ⟨26, 56, none⟩)]] 134) :: SH gs g n cap rest lo hi y) (fun y => y = if i < m ∧ m < mid + m - i then rotL m (mid + m - i - i) l (m - i) (mid + m - i - m) else l) ?_ ?_
        · skip
          refine c_seq ?_
          refine c_region ?_
          refine o_e rfl rfl rfl (e_move rfl) ?_
          refine o_e rfl rfl rfl (e_move rfl) ?_
          refine o_e rfl rfl rfl (e_lss rfl rfl) ?_
          refine o_e rfl rfl rfl (e_move rfl) ?_
          refine o_splitp 141 rfl (fun f1 => ?_) (fun f1 => ?_)
          · refine o_e rfl rfl rfl (e_move rfl) ?_
            refine o_e rfl rfl rfl (e_move rfl) ?_
            refine o_e rfl rfl rfl (e_lss rfl rfl) ?_
            refine o_e rfl rfl rfl (e_pick_t rfl rfl) ?_
            refine o_nil ?_
            refine n_code ?_
            refine c_ifp rfl (fun f2 => ?_) (fun f2 => ?_)
            · refine c_region ?_
              refine o_e rfl rfl rfl (e_loada Tryz.isAgg134 Tryz.sizeOf134 rfl (by first | exact .inr (by assumption) | exact .inl (by repeat (first | exact List.Mem.head _ | refine List.Mem.tail _ ?_))) (by first | assumption | repeat constructor)) ?_
              refine o_e rfl rfl rfl (e_move rfl) ?_
              refine o_e rfl rfl rfl (e_move rfl) ?_
              refine o_e rfl rfl rfl (e_move rfl) ?_
              refine o_l rfl (l_call Tryz.call250 (rotate_is (rest := rest) (l := l) (a := i) (m := m) (b := mid + m - i) hn hf h1 (by omega) (by omega) (by omega)) rfl rfl (.cons (.tail .head) (.cons (.tail .head) .nil))) ?_
              rintro ⟨r, H'⟩ ⟨rfl, rfl⟩
              simp only [SH, List.cons_append, List.nil_append]
              refine o_nil ?_
              exact n_cut (rotL m (mid + m - i - i) l (m - i) (mid + m - i - m)) (by rw [if_pos ⟨by omega, by omega⟩]) (sub_cons rfl (sub_cons rfl (sub_cons rfl (sub_cons rfl (sub_cons rfl (sub_cons rfl sub_nil)))))) (List.perm_append_comm (l₁ := [_, _]))
            · skip
              refine c_skip ?_
              exact n_cut l (by rw [if_neg (by omega)]) (sub_cons rfl (sub_cons rfl (sub_cons rfl (sub_cons rfl (sub_cons rfl (sub_cons rfl sub_nil)))))) (.refl _)
          · skip
            refine o_skip rfl rfl rfl ?_
            refine o_skip rfl rfl rfl ?_
            refine o_skip rfl rfl rfl ?_
            refine o_e rfl rfl rfl (e_pick_f rfl rfl) ?_
            refine o_nil ?_
            refine n_code ?_
            refine c_else rfl ?_
            refine c_skip ?_
            exact n_cut l (by rw [if_neg (by omega)]) (sub_cons rfl (sub_cons rfl (sub_cons rfl (sub_cons rfl (sub_cons rfl (sub_cons rfl sub_nil)))))) (.refl _)
        intro l1 hl1
        have hn1 : l1.length = n := by rw [hl1]; split <;> simp [rotL_length, hn]
        simp only [SH]
        refine n_code ?_
        refine c_seq ?_
        refine c_cut (X := List En) (fun _ => [(1, .int .i64 a), (3, .int .i64 b), (4, .pointer (some ⟨g4, 0, none⟩)), (16, .int .i64 mid), (18, .int .i64 i), (22, .int .i64 (mid + m - i : Nat))]) (fun y => (g4, C [.func (.func 193) #[] #[.pointer (some ⟨gs, 0, none⟩)], .func (.func 121) #[] #[.slice (some ⟨g, 0, none⟩) n cap, .pointer (some ⟨26, 56, none⟩)]] 134) :: SH gs g n cap rest lo hi y) (fun y => y = if a < i ∧ i < mid then symM f l1 a i mid else l1) ?_ ?_
        · skip
          refine c_seq ?_
          refine c_region ?_
          refine o_e rfl rfl rfl (e_move rfl) ?_
          refine o_e rfl rfl rfl (e_move rfl) ?_
          refine o_e rfl rfl rfl (e_lss rfl rfl) ?_
          refine o_e rfl rfl rfl (e_move rfl) ?_
          refine o_splitp 154 rfl (fun f1 => ?_) (fun f1 => ?_)
          · refine o_e rfl rfl rfl (e_move rfl) ?_
            refine o_e rfl rfl rfl (e_move rfl) ?_
            refine o_e rfl rfl rfl (e_lss rfl rfl) ?_
            refine o_e rfl rfl rfl (e_pick_t rfl rfl) ?_
            refine o_nil ?_
            refine n_code ?_
            refine c_ifp rfl (fun f2 => ?_) (fun f2 => ?_)
            · refine c_region ?_
              refine o_e rfl rfl rfl (e_loada Tryz.isAgg134 Tryz.sizeOf134 rfl (by first | exact .inr (by assumption) | exact .inl (by repeat (first | exact List.Mem.head _ | refine List.Mem.tail _ ?_))) (by first | assumption | repeat constructor)) ?_
              refine o_e rfl rfl rfl (e_move rfl) ?_
              refine o_e rfl rfl rfl (e_move rfl) ?_
              refine o_e rfl rfl rfl (e_move rfl) ?_
              refine o_l rfl (l_call Tryz.call228 (ih (l := l1) (a := a) (m := i) (b := mid) hn1 (by omega) (by omega) (by omega) (by omega)) rfl rfl (.cons (.tail .head) (.cons (.tail .head) .nil))) ?_
              rintro ⟨r, H'⟩ ⟨rfl, rfl⟩
              simp only [SH, List.cons_append, List.nil_append]
              refine o_nil ?_
              exact n_cut (symM f l1 a i mid) (by rw [if_pos ⟨by omega, by omega⟩]) (sub_cons rfl (sub_cons rfl (sub_cons rfl (sub_cons rfl (sub_cons rfl (sub_cons rfl sub_nil)))))) (List.perm_append_comm (l₁ := [_, _]))
            · skip
              refine c_skip ?_
              exact n_cut l1 (by rw [if_neg (by omega)]) (sub_cons rfl (sub_cons rfl (sub_cons rfl (sub_cons rfl (sub_cons rfl (sub_cons rfl sub_nil)))))) (.refl _)
          · skip
            refine o_skip rfl rfl rfl ?_
            refine o_skip rfl rfl rfl ?_
            refine o_skip rfl rfl rfl ?_
            refine o_e rfl rfl rfl (e_pick_f rfl rfl) ?_
            refine o_nil ?_
            refine n_code ?_
            refine c_else rfl ?_
            refine c_skip ?_
            exact n_cut l1 (by rw [if_neg (by omega)]) (sub_cons rfl (sub_cons rfl (sub_cons rfl (sub_cons rfl (sub_cons rfl (sub_cons rfl sub_nil)))))) (.refl _)
        intro l2 hl2
        have hn2 : l2.length = n := by rw [hl2]; split <;> simp [symM_length, hn1]
        simp only [SH]
        have hall : symM (f + 1) l a m b = if mid < mid + m - i ∧ mid + m - i < b then symM f l2 mid (mid + m - i) b else l2 := by
          rw [hl2, hl1]
          simp only [symM, hmid]
          rw [if_neg c1, if_neg d1, hst]
        refine n_code ?_
        refine c_seq ?_
        refine c_region ?_
        refine o_e rfl rfl rfl (e_move rfl) ?_
        refine o_e rfl rfl rfl (e_move rfl) ?_
        refine o_e rfl rfl rfl (e_lss rfl rfl) ?_
        refine o_e rfl rfl rfl (e_move rfl) ?_
        refine o_splitp 167 rfl (fun f1 => ?_) (fun f1 => ?_)
        · refine o_e rfl rfl rfl (e_move rfl) ?_
          refine o_e rfl rfl rfl (e_move rfl) ?_
          refine o_e rfl rfl rfl (e_lss rfl rfl) ?_
          refine o_e rfl rfl rfl (e_pick_t rfl rfl) ?_
          refine o_nil ?_
          refine n_code ?_
          refine c_ifp rfl (fun f2 => ?_) (fun f2 => ?_)
          · refine c_region ?_
            refine o_e rfl rfl rfl (e_loada Tryz.isAgg134 Tryz.sizeOf134 rfl (by first | exact .inr (by assumption) | exact .inl (by repeat (first | exact List.Mem.head _ | refine List.Mem.tail _ ?_))) (by first | assumption | repeat constructor)) ?_
            refine o_e rfl rfl rfl (e_move rfl) ?_
            refine o_e rfl rfl rfl (e_move rfl) ?_
            refine o_e rfl rfl rfl (e_move rfl) ?_
            refine o_l rfl (l_call Tryz.call228 (ih (l := l2) (a := mid) (m := mid + m - i) (b := b) hn2 (by omega) (by omega) (by omega) (by omega)) rfl rfl (.cons (.tail .head) (.cons (.tail .head) .nil))) ?_
            rintro ⟨r, H'⟩ ⟨rfl, rfl⟩
            simp only [SH, List.cons_append, List.nil_append]
            refine o_nil ?_
            refine WN.sel (.cons .head (.cons .head .nil)) ?_
            refine n_fn0 Tryz.results228 ?_
            exact ⟨rfl, by rw [hall, if_pos ⟨by omega, by omega⟩]⟩
          · skip
            refine c_skip ?_
            refine WN.sel (.cons (.tail .head) (.cons (.tail .head) .nil)) ?_
            refine n_fn0 Tryz.results228 ?_
            exact ⟨rfl, by rw [hall, if_neg (by omega)]⟩
        · skip
          refine o_skip rfl rfl rfl ?_
          refine o_skip rfl rfl rfl ?_
          refine o_skip rfl rfl rfl ?_
          refine o_e rfl rfl rfl (e_pick_f rfl rfl) ?_
          refine o_nil ?_
          refine n_code ?_
          refine c_else rfl ?_
          refine c_skip ?_
          refine WN.sel (.cons (.tail .head) (.cons (.tail .head) .nil)) ?_
          refine n_fn0 Tryz.results228 ?_
          exact ⟨rfl, by rw [hall, if_neg (by omega)]⟩
end
end Go.Proofs

/- What sort.SliceStable does with entries, step by step; Insertion sort of entries; Merging of sorted parts, as it is done; symMerge, walked; The stable sort, walked; The stable sort of at most one entry; sort.SliceStable of entries; Entries sorted by digests. (A part of the proof of this: for every input laws.FnIxRead returns true and its arguments read as they did, the listed package variables being what the program lays.) -/
import Derived.Test.YtochgglejmfelaaGreatDoorG02
import Derived.Test.YtochgglejmfelaaGreatDoorG05
namespace Go.Proofs
open Go Go.Sl Tryz
set_option maxRecDepth 100000

def sw (l : List En) (i j : Nat) : List En := if h : i < l.length ∧ j < l.length then swapL l i j h.1 h.2 else l
theorem sw_of {l : List En} {i j : Nat} (hi : i < l.length) (hj : j < l.length) : swapL l i j hi hj = sw l i j := by simp [sw, hi, hj]
theorem sw_length (l : List En) (i j : Nat) : (sw l i j).length = l.length := by
  unfold sw; split
  · simp [swapL]
  · rfl
/-- m swaps, of what begins at a and at b. -/
def swR (l : List En) (a b : Nat) : Nat → List En
  | 0 => l
  | i + 1 => sw (swR l a b i) (a + i) (b + i)
theorem swR_length (l : List En) (a b m : Nat) : (swR l a b m).length = l.length := by
  induction m with
  | zero => rfl
  | succ m ih => rw [swR, sw_length, ih]

/-- The memory that is sorted, and what says so. -/
abbrev SH (gs g n cap : Nat) (rest : List Value) (lo hi : Nat) (l : List En) : HP := [(gs, C [.slice (some ⟨g, 0, none⟩) n cap] 22), (g, .cells (cells5 l ++ rest).toArray 56 (lo, hi))]
abbrev Dv (gs g n cap : Nat) : List Value := [.func (.func 193) #[] #[.pointer (some ⟨gs, 0, none⟩)], .func (.func 121) #[] #[.slice (some ⟨g, 0, none⟩) n cap, .pointer (some ⟨26, 56, none⟩)]]

section
variable {G : HP} {gs g n cap lo hi : Nat} {rest : List Value}
theorem swapRange_is {l : List En} {a b m : Nat} (hn : l.length = n) (hf : n * 5 ≤ lo ∨ hi = 0) (h1 : n ≤ 1000) (ha : a + m ≤ n) (hb : b + m ≤ n) :
    Ctr Tryz.prog 267 [.agg (Dv gs g n cap).toArray, .int .i64 (a : Nat), .int .i64 (b : Nat), .int .i64 (m : Nat)] G (SH gs g n cap rest lo hi l) (fun r H' => r = .tuple #[] ∧ H' = SH gs g n cap rest lo hi (swR l a b m)) := by
  simp only [Dv, SH]
  refine fn_enter 23 func267 rfl ntmps267 rfl ?_
  intro w0
  refine cR ?_
  refine o_l rfl (l_box rfl rfl rfl) ?_; intro g4 _
  refine oN <| cR <| oA rfl <| oN <| c_block ?_
  refine c_loop (X := Nat) (fun i => [(1, .int .i64 a), (2, .int .i64 b), (3, .int .i64 m), (4, .pointer (some ⟨g4, 0, none⟩)), (8, .int .i64 i)]) (fun i => (g4, C [.func (.func 193) #[] #[.pointer (some ⟨gs, 0, none⟩)], .func (.func 121) #[] #[.slice (some ⟨g, 0, none⟩) n cap, .pointer (some ⟨26, 56, none⟩)]] 134) :: SH gs g n cap rest lo hi (swR l a b i)) (fun i => i ≤ m) (fun i => m - i) 0 (Nat.zero_le _) (sub_cons rfl (sub_cons rfl (sub_cons rfl (sub_cons rfl (sub_cons rfl sub_nil))))) (.refl _) ?_
  intro i hi2
  simp only [SH]
  have hl := (swR_length l a b i).trans hn
  generalize hgen : swR l a b i = l' at hl ⊢
  refine c_seq <| cR <| oM rfl <| oM rfl <| oX (e_lss rfl rfl) <| oN ?_
  refine c_ifp rfl (fun h2 => ?_) (fun h2 => ?_)
  · refine c_skip <| n_code <| c_seq <| c_block <| c_region <| oX (e_fa runUnderlying134 rfl sizeOf128 rfl rfl) <| oX (e_load isAgg128 rfl (.inl M0) rfl) <| oM rfl <| oM rfl <| oX (e_addN rfl rfl (by omega)) <| oM rfl <| oM rfl <| oX (e_addN rfl rfl (by omega)) ?_
    refine o_l rfl (l_swapE rfl rfl rfl (i := a + i) (j := b + i) rfl rfl hl (by omega) (by omega) (by rw [hl]; exact hf) (.tail (.tail .head))) ?_
    intro _ _
    rw [sw_of]
    refine o_nil <| n_block <| n_code <| c_region <| oM rfl <| oX (e_addn rfl rfl (by simp only [inR]; omega)) <| oA rfl <| o_nil ?_
    refine n_round (i + 1) (by omega) (by omega) (sub_cons rfl (sub_cons rfl (sub_cons rfl (sub_cons rfl (sub_cons rfl sub_nil))))) ?_
    simp only [swR, hgen]
    exact .refl _
  · skip
    refine c_exit ?_; refine x_code ?_; refine x_upto ?_; refine x_here ?_
    refine WN.less (fun _ _ h => h) (List.sublist_cons_self _ _) ?_
    refine n_fn0 results267 ?_
    have : i = m := by omega
    subst this
    exact ⟨rfl, by rw [hgen]⟩

/-- Two neighbouring parts exchanged: the left one i long, the right one j. -/
def rotL (m : Nat) : Nat → List En → Nat → Nat → List En
  | 0, l, _, _ => l
  | f + 1, l, i, j => if i = j then swR l (m - i) m i else if j < i then rotL m f (swR l (m - i) m j) (i - j) j else rotL m f (swR l (m - i) (m + j - i) i) i (j - i)
theorem rotL_length (m f : Nat) (l : List En) (i j : Nat) : (rotL m f l i j).length = l.length := by
  induction f generalizing l i j with
  | zero => rfl
  | succ f ih =>
    simp only [rotL]
    split
    · exact swR_length ..
    · split <;> rw [ih, swR_length]
/-- As many rounds as it likes. -/
theorem rotL_fuel (m : Nat) : ∀ (f f' : Nat) (l : List En) (i j : Nat), 0 < i → 0 < j → i + j ≤ f → i + j ≤ f' → rotL m f l i j = rotL m f' l i j := by
  intro f
  induction f with
  | zero => intro f' l i j h1 h2 h3; omega
  | succ f ih =>
    intro f' l i j h1 h2 h3 h4
    cases f' with
    | zero => omega
    | succ f' =>
      simp only [rotL]
      split
      · rfl
      · split
        · exact ih _ _ _ _ (by omega) h2 (by omega) (by omega)
        · exact ih _ _ _ _ h1 (by omega) (by omega) (by omega)
theorem rotate_is {l : List En} {a m b : Nat} (hn : l.length = n) (hf : n * 5 ≤ lo ∨ hi = 0) (h1 : n ≤ 1000) (ha : a < m) (hb : m < b) (hbn : b ≤ n) :
    Ctr Tryz.prog 250 [.agg (Dv gs g n cap).toArray, .int .i64 (a : Nat), .int .i64 (m : Nat), .int .i64 (b : Nat)] G (SH gs g n cap rest lo hi l) (fun r H' => r = .tuple #[] ∧ H' = SH gs g n cap rest lo hi (rotL m (b - a) l (m - a) (b - m))) := by
  simp only [Dv, SH]
  refine fn_enter 53 func250 rfl ntmps250 rfl ?_
  intro w0
  refine cR ?_
  refine o_l rfl (l_box rfl rfl rfl) ?_; intro g4 _
  refine oN <| cR <| oM rfl <| oM rfl <| oX (e_subN rfl rfl (by omega)) <| oA rfl <| oN <| cR <| oM rfl <| oM rfl <| oX (e_subN rfl rfl (by omega)) <| oA rfl <| oN <| c_seq <| c_block ?_
  refine c_loop (X := List En × Nat × Nat) (fun y => [(2, .int .i64 m), (4, .pointer (some ⟨g4, 0, none⟩)), (8, .int .i64 y.2.1), (9, .int .i64 y.2.2)]) (fun y => (g4, C [.func (.func 193) #[] #[.pointer (some ⟨gs, 0, none⟩)], .func (.func 121) #[] #[.slice (some ⟨g, 0, none⟩) n cap, .pointer (some ⟨26, 56, none⟩)]] 134) :: SH gs g n cap rest lo hi y.1)
    (fun y => y.1.length = n ∧ 0 < y.2.1 ∧ 0 < y.2.2 ∧ y.2.1 + y.2.2 ≤ b - a ∧ y.2.1 ≤ m ∧ m + y.2.2 ≤ n ∧ rotL m (b - a) y.1 y.2.1 y.2.2 = rotL m (b - a) l (m - a) (b - m)) (fun y => y.2.1 + y.2.2) (l, m - a, b - m) ⟨hn, by show 0 < m - a; omega, by show 0 < b - m; omega, by show m - a + (b - m) ≤ b - a; omega, by show m - a ≤ m; omega, by show m + (b - m) ≤ n; omega, rfl⟩ (sub_cons rfl (sub_cons rfl (sub_cons rfl (sub_cons rfl sub_nil)))) (.refl _) ?_
  rintro ⟨l', i, j⟩ ⟨hl, hi0, hj0, hs, him, hjn, hr⟩
  simp only at hl hi0 hj0 hs him hjn hr
  simp only [SH]
  refine c_seq <| cR <| oM rfl <| oM rfl <| oX (e_neq rfl rfl) <| oN ?_
  refine c_ifp rfl (fun h2 => ?_) (fun h2 => ?_)
  · refine c_skip <| n_code <| c_block <| cR <| oM rfl <| oM rfl <| oX (e_gtr rfl rfl) <| oN ?_
    refine c_ifp rfl (fun h3 => ?_) (fun h3 => ?_)
    · refine cR ?_
      refine oX (e_loada isAgg134 sizeOf134 rfl (.inl M0) (by first | assumption | repeat constructor)) ?_
      refine oM rfl <| oM rfl <| oX (e_subN rfl rfl (by omega)) <| oM rfl <| oM rfl ?_
      refine o_l rfl (l_call call267 (swapRange_is (rest := rest) (l := l') (a := m - i) (b := m) (m := j) hl hf h1 (by omega) (by omega)) rfl rfl (.cons (.tail .head) (.cons (.tail .head) .nil))) ?_
      rintro ⟨r, H'⟩ ⟨rfl, rfl⟩
      simp only [SH, List.cons_append, List.nil_append]
      refine oN <| c_region <| oM rfl <| oM rfl <| oX (e_subN rfl rfl (by omega)) <| oA rfl <| o_nil <| n_block ?_
      refine n_round' (y := (l', i, j)) (swR l' (m - i) m j, i - j, j) (by show i - j + j < i + j; omega) ?_ (sub_cons rfl (sub_cons rfl (sub_cons rfl (sub_cons rfl sub_nil)))) _ (List.perm_append_comm (l₁ := [_, _])) (List.Sublist.refl _)
      refine ⟨by show (swR l' (m - i) m j).length = n; rw [swR_length, hl], by show 0 < i - j; omega, hj0, by show i - j + j ≤ b - a; omega, by show i - j ≤ m; omega, hjn, ?_⟩
      rw [← hr]
      obtain ⟨f, hfu⟩ : ∃ f, b - a = f + 1 := ⟨b - a - 1, by omega⟩
      show rotL m (b - a) _ (i - j) j = rotL m (b - a) l' i j
      rw [rotL_fuel m (b - a) f _ _ _ (by omega) hj0 (by omega) (by omega), hfu]
      simp only [rotL]
      rw [if_neg (by omega), if_pos (by omega)]
    · skip
      refine cR ?_
      refine oX (e_loada isAgg134 sizeOf134 rfl (.inl M0) (by first | assumption | repeat constructor)) ?_
      refine oM rfl <| oM rfl <| oX (e_subN rfl rfl (by omega)) <| oM rfl <| oM rfl <| oX (e_addN rfl rfl (by omega)) <| oM rfl <| oX (e_subN rfl rfl (by omega)) <| oM rfl ?_
      refine o_l rfl (l_call call267 (swapRange_is (rest := rest) (l := l') (a := m - i) (b := m + j - i) (m := i) hl hf h1 (by omega) (by omega)) rfl rfl (.cons (.tail .head) (.cons (.tail .head) .nil))) ?_
      rintro ⟨r, H'⟩ ⟨rfl, rfl⟩
      simp only [SH, List.cons_append, List.nil_append]
      refine oN <| c_region <| oM rfl <| oM rfl <| oX (e_subN rfl rfl (by omega)) <| oA rfl <| o_nil <| n_block ?_
      refine n_round' (y := (l', i, j)) (swR l' (m - i) (m + j - i) i, i, j - i) (by show i + (j - i) < i + j; omega) ?_ (sub_cons rfl (sub_cons rfl (sub_cons rfl (sub_cons rfl sub_nil)))) _ (List.perm_append_comm (l₁ := [_, _])) (List.Sublist.refl _)
      refine ⟨by show (swR l' (m - i) (m + j - i) i).length = n; rw [swR_length, hl], hi0, by show 0 < j - i; omega, by show i + (j - i) ≤ b - a; omega, him, by show m + (j - i) ≤ n; omega, ?_⟩
      rw [← hr]
      obtain ⟨f, hfu⟩ : ∃ f, b - a = f + 1 := ⟨b - a - 1, by omega⟩
      show rotL m (b - a) _ i (j - i) = rotL m (b - a) l' i j
      rw [rotL_fuel m (b - a) f _ _ _ hi0 (by omega) (by omega) (by omega), hfu]
      simp only [rotL]
      rw [if_neg (by omega), if_neg (by omega)]
  · skip
    have hij : i = j := by omega
    refine c_exit ?_; refine x_code ?_; refine x_upto ?_; refine x_here ?_
    refine n_code <| c_region ?_
    refine oX (e_loada isAgg134 sizeOf134 rfl (.inl M0) (by first | assumption | repeat constructor)) ?_
    refine oM rfl <| oM rfl <| oX (e_subN rfl rfl (by omega)) <| oM rfl <| oM rfl ?_
    refine o_l rfl (l_call call267 (swapRange_is (rest := rest) (l := l') (a := m - i) (b := m) (m := i) hl hf h1 (by omega) (by omega)) rfl rfl (.cons (.tail .head) (.cons (.tail .head) .nil))) ?_
    rintro ⟨r, H'⟩ ⟨rfl, rfl⟩
    simp only [SH, List.cons_append, List.nil_append]
    refine o_nil <| WN.sel (.cons .head (.cons .head .nil)) ?_
    refine n_fn0 results250 ?_
    refine ⟨rfl, ?_⟩
    rw [← hr]
    obtain ⟨f, hfu⟩ : ∃ f, b - a = f + 1 := ⟨b - a - 1, by omega⟩
    rw [hfu]
    simp only [rotL, hij, if_true]
end
end Go.Proofs
namespace Go.Proofs
open Go Go.Sl Tryz
set_option maxRecDepth 100000

def ltAt (l : List En) (i j : Nat) : Bool := match l[i]?, l[j]? with
  | some x, some y => ltE x y
  | _, _ => false
theorem ltAt_of {l : List En} {i j : Nat} (hi : i < l.length) (hj : j < l.length) : ltE l[i] l[j] = ltAt l i j := by simp [ltAt, hi, hj]
def insJ (a : Nat) : Nat → List En → List En
  | 0, l => l
  | j + 1, l => if a < j + 1 ∧ ltAt l (j + 1) j = true then insJ a j (sw l (j + 1) j) else l
theorem insJ_length (a j : Nat) (l : List En) : (insJ a j l).length = l.length := by
  induction j generalizing l with
  | zero => rfl
  | succ j ih => simp only [insJ]; split <;> simp [ih, sw_length]
def isortN (a : Nat) : Nat → List En → List En
  | 0, l => l
  | k + 1, l => insJ a (a + 1 + k) (isortN a k l)
theorem isortN_length (a k : Nat) (l : List En) : (isortN a k l).length = l.length := by
  induction k with
  | zero => rfl
  | succ k ih => rw [isortN, insJ_length, ih]
section
variable {G : HP} {gs g n cap lo hi : Nat} {rest : List Value}
theorem isort_is {l : List En} {a b : Nat} (hn : l.length = n) (hf : n * 5 ≤ lo ∨ hi = 0) (h1 : n ≤ 1000) (hb : b ≤ n) (ha : a ≤ 1000) :
    Ctr Tryz.prog 124 [.agg (Dv gs g n cap).toArray, .int .i64 (a : Nat), .int .i64 (b : Nat)] G (SH gs g n cap rest lo hi l) (fun r H' => r = .tuple #[] ∧ H' = SH gs g n cap rest lo hi (isortN a (b - (a + 1)) l)) := by
  simp only [Dv, SH]
  refine fn_enter 35 func124 rfl ntmps124 rfl ?_
  intro w0
  refine cR ?_
  refine o_l rfl (l_box rfl rfl rfl) ?_; intro g3 _
  refine oN <| cR <| oM rfl <| oX (e_addn rfl rfl (by simp only [inR]; omega)) <| oA rfl <| oN <| c_block ?_
  refine c_loop (X := Nat) (fun i => [(1, .int .i64 a), (2, .int .i64 b), (3, .pointer (some ⟨g3, 0, none⟩)), (6, .int .i64 (a + 1 + i : Nat))]) (fun i => (g3, C [.func (.func 193) #[] #[.pointer (some ⟨gs, 0, none⟩)], .func (.func 121) #[] #[.slice (some ⟨g, 0, none⟩) n cap, .pointer (some ⟨26, 56, none⟩)]] 134) :: SH gs g n cap rest lo hi (isortN a i l)) (fun i => i ≤ b - (a + 1)) (fun i => b - (a + 1) - i) 0 (Nat.zero_le _) (sub_cons rfl (sub_cons rfl (sub_cons rfl (sub_cons rfl sub_nil)))) (.refl _) ?_
  intro i hi2
  simp only [SH]
  have hl := (isortN_length a i l).trans hn
  generalize hgen : isortN a i l = l' at hl ⊢
  refine c_seq <| cR <| oM rfl <| oM rfl <| oX (e_lss rfl rfl) <| oN ?_
  refine c_ifp rfl (fun h2 => ?_) (fun h2 => ?_)
  · refine c_skip <| n_code <| c_seq <| c_block <| cR <| oM rfl <| oA rfl <| oN <| c_block ?_
    refine c_loop (X := Nat × List En) (fun y => [(1, .int .i64 a), (2, .int .i64 b), (3, .pointer (some ⟨g3, 0, none⟩)), (6, .int .i64 (a + 1 + i : Nat)), (7, .int .i64 y.1)]) (fun y => (g3, C [.func (.func 193) #[] #[.pointer (some ⟨gs, 0, none⟩)], .func (.func 121) #[] #[.slice (some ⟨g, 0, none⟩) n cap, .pointer (some ⟨26, 56, none⟩)]] 134) :: SH gs g n cap rest lo hi y.2) (fun y => y.1 ≤ a + 1 + i ∧ y.2.length = n ∧ insJ a y.1 y.2 = insJ a (a + 1 + i) l') (fun y => y.1) (a + 1 + i, l') ⟨Nat.le_refl _, hl, rfl⟩ (sub_cons rfl (sub_cons rfl (sub_cons rfl (sub_cons rfl (sub_cons rfl sub_nil))))) (.refl _) ?_
    rintro ⟨j, m⟩ ⟨hj, hm, hins⟩
    simp only at hj hm hins
    simp only [SH]
    refine c_seq <| cR <| oM rfl <| oM rfl <| oX (e_gtr rfl rfl) <| oM rfl ?_
    refine o_splitp 19 rfl (fun h3 => ?_) (fun h3 => ?_)
    · obtain ⟨j, rfl⟩ : ∃ j', j = j' + 1 := ⟨j - 1, by omega⟩
      refine oX (e_fa runUnderlying134 rfl sizeOf71 rfl rfl) <| oX (e_load isAgg71 rfl (.inl M0) rfl) <| oM rfl <| oM rfl <| oX (e_pred rfl rfl (by omega)) ?_
      refine o_l rfl (l_callcq (HI := []) (HJ := SH gs g n cap rest lo hi m) call193 (less_is (g3 := gs) (g := g) (l := m) (rest := rest) (lo := lo) (hi := hi) (n := n) (cap := cap) (i := j + 1) (j := j) (by simp) (by simp) hm (by omega) (by omega)) rfl rfl rfl rfl .nil (by simp)) ?_
      rintro ⟨r, H'⟩ rfl
      rw [ltAt_of]
      refine o_less (fun _ _ h => h) (List.sublist_append_right _ _) ?_
      refine oX (e_pick_t rfl rfl) <| oN ?_
      refine c_if rfl (fun h4 => ?_) (fun h4 => ?_)
      · refine c_skip <| n_code <| c_seq <| c_block <| c_region <| oX (e_fa runUnderlying134 rfl sizeOf128 rfl rfl) <| oX (e_load isAgg128 rfl (.inl M0) rfl) <| oM rfl <| oM rfl <| oX (e_pred rfl rfl (by omega)) ?_
        refine o_l rfl (l_swapE rfl rfl rfl (i := j + 1) (j := j) rfl rfl hm (by omega) (by omega) (by rw [hm]; exact hf) (.tail (.tail .head))) ?_
        intro _ _
        rw [sw_of]
        refine o_nil <| n_block <| n_code <| c_region <| oM rfl <| oX (e_pred rfl rfl (by omega)) <| oA rfl <| o_nil ?_
        refine n_round (y := (j + 1, m)) (j, sw m (j + 1) j) (by show j < j + 1; omega) ?_ (sub_cons rfl (sub_cons rfl (sub_cons rfl (sub_cons rfl (sub_cons rfl sub_nil))))) (.refl _)
        refine ⟨by show j ≤ a + 1 + i; omega, by show (sw m (j + 1) j).length = n; rw [sw_length, hm], ?_⟩
        rw [← hins]
        simp only [insJ]
        rw [if_pos ⟨by omega, h4⟩]
      · skip
        refine c_exit ?_; refine x_code ?_; refine x_upto ?_; refine x_here ?_
        refine n_block <| n_code <| c_region <| oM rfl <| oX (e_addn rfl rfl (by simp only [inR]; omega)) <| oA rfl <| o_nil ?_
        refine n_round (i + 1) (by omega) (by omega) (sub_cons rfl (sub_cons rfl (sub_cons rfl (sub_cons rfl sub_nil)))) ?_
        have : isortN a (i + 1) l = m := by
          rw [isortN, hgen, ← hins]
          simp only [insJ]
          rw [if_neg (by rintro ⟨_, h⟩; rw [h4] at h; cases h)]
        rw [this]
    · skip
      refine oS <| oS <| oS <| oS <| oS <| oS <| oX (e_pick_f rfl rfl) <| oN <| c_else rfl ?_
      refine c_exit ?_; refine x_code ?_; refine x_upto ?_; refine x_here ?_
      refine n_block <| n_code <| c_region <| oM rfl <| oX (e_addn rfl rfl (by simp only [inR]; omega)) <| oA rfl <| o_nil ?_
      refine n_round (i + 1) (by omega) (by omega) (sub_cons rfl (sub_cons rfl (sub_cons rfl (sub_cons rfl sub_nil)))) ?_
      have : isortN a (i + 1) l = m := by
        rw [isortN, hgen, ← hins]
        cases j with
        | zero => rfl
        | succ j =>
          simp only [insJ]
          rw [if_neg (by rintro ⟨h, _⟩; omega)]
      rw [this]
  · skip
    refine c_exit ?_; refine x_code ?_; refine x_upto ?_; refine x_here ?_
    refine WN.less (fun _ _ h => h) (List.sublist_cons_self _ _) ?_
    refine n_fn0 results124 ?_
    have : i = b - (a + 1) := by omega
    subst this
    exact ⟨rfl, by rw [hgen]⟩
end
end Go.Proofs
namespace Go.Proofs
open Go Go.Sl Tryz
set_option maxRecDepth 100000

def bsch (p : Nat → Bool) : Nat → Nat → Nat → Nat
  | 0, i, _ => i
  | f + 1, i, j => if i < j then (if p ((i + j) / 2) then bsch p f ((i + j) / 2 + 1) j else bsch p f i ((i + j) / 2)) else i
theorem bsch_bounds (p : Nat → Bool) : ∀ (f i j : Nat), i ≤ j → i ≤ bsch p f i j ∧ bsch p f i j ≤ j := by
  intro f
  induction f with
  | zero => intro i j h; simp [bsch, h]
  | succ f ih =>
    intro i j h
    simp only [bsch]
    split
    · split
      · have := ih ((i + j) / 2 + 1) j (by omega); omega
      · have := ih i ((i + j) / 2) (by omega); omega
    · omega
theorem bsch_fuel (p : Nat → Bool) : ∀ (f f' i j : Nat), j - i ≤ f → j - i ≤ f' → bsch p f i j = bsch p f' i j := by
  intro f
  induction f with
  | zero =>
    intro f' i j h h'
    cases f' with
    | zero => rfl
    | succ f' => simp only [bsch]; rw [if_neg (by omega)]
  | succ f ih =>
    intro f' i j h h'
    cases f' with
    | zero => simp only [bsch]; rw [if_neg (by omega)]
    | succ f' =>
      simp only [bsch]
      split
      · split
        · exact ih _ _ _ (by omega) (by omega)
        · exact ih _ _ _ (by omega) (by omega)
      · rfl
def upS (l : List En) (k : Nat) : Nat → List En
  | 0 => l
  | c + 1 => sw (upS l k c) (k + c) (k + c + 1)
def dnS (l : List En) (k : Nat) : Nat → List En
  | 0 => l
  | c + 1 => sw (dnS l k c) (k - c) (k - c - 1)
theorem upS_length (l : List En) (k c : Nat) : (upS l k c).length = l.length := by
  induction c with
  | zero => rfl
  | succ c ih => rw [upS, sw_length, ih]
theorem dnS_length (l : List En) (k c : Nat) : (dnS l k c).length = l.length := by
  induction c with
  | zero => rfl
  | succ c ih => rw [dnS, sw_length, ih]
def symM : Nat → List En → Nat → Nat → Nat → List En
  | 0, l, _, _, _ => l
  | f + 1, l, a, m, b =>
    if m - a = 1 then upS l a (bsch (fun h => ltAt l h a) (b - m) m b - 1 - a)
    else if b - m = 1 then dnS l m (m - bsch (fun h => !ltAt l m h) (m - a) a m)
    else
      let mid := (a + b) / 2
      let st := if mid < m then bsch (fun c => !ltAt l (mid + m - 1 - c) c) (b - a) (mid + m - b) mid else bsch (fun c => !ltAt l (mid + m - 1 - c) c) (b - a) a m
      let en := mid + m - st
      let l1 := if st < m ∧ m < en then rotL m (en - st) l (m - st) (en - m) else l
      let l2 := if a < st ∧ st < mid then symM f l1 a st mid else l1
      if mid < en ∧ en < b then symM f l2 mid en b else l2
theorem symM_length : ∀ (f : Nat) (l : List En) (a m b : Nat), (symM f l a m b).length = l.length := by
  intro f
  induction f with
  | zero => intros; rfl
  | succ f ih =>
    intro l a m b
    simp only [symM]
    split
    · exact upS_length ..
    · split
      · exact dnS_length ..
      · split <;> (repeat (first | rfl | rw [ih] | rw [rotL_length] | split))
end Go.Proofs
namespace Go.Proofs
open Go Go.Sl Tryz
set_option maxRecDepth 100000
set_option maxHeartbeats 1000000

section
variable {G : HP} {gs g n cap lo hi : Nat} {rest : List Value}
theorem symM_is (hf : n * 5 ≤ lo ∨ hi = 0) (h1 : n ≤ 1000) : ∀ (f : Nat) {l : List En} {a m b : Nat}, l.length = n → a < m → m < b → b ≤ n → b - a ≤ f →
    Ctr Tryz.prog 228 [.agg (Dv gs g n cap).toArray, .int .i64 (a : Nat), .int .i64 (m : Nat), .int .i64 (b : Nat)] G (SH gs g n cap rest lo hi l) (fun r H' => r = .tuple #[] ∧ H' = SH gs g n cap rest lo hi (symM f l a m b)) := by
  intro f
  induction f with
  | zero => intro l a m b _ _ _ _ _; omega
  | succ f ih =>
  intro l a m b hn ham hmb hbn hba
  simp only [Dv, SH] at ih ⊢
  refine fn_enter 177 func228 rfl ntmps228 rfl ?_
  intro w0
  refine cR ?_
  refine o_l rfl (l_box rfl rfl rfl) ?_; intro g4 _
  refine oN <| c_seq <| cR <| oM rfl <| oM rfl <| oX (e_subN rfl rfl (by omega)) <| oX (e_eql rfl rfl) <| oN ?_
  refine c_ifp rfl (fun c1 => ?_) (fun c1 => ?_)
  · refine cR <| oM rfl <| oA rfl <| oN <| cR <| oM rfl <| oA rfl <| oN <| c_seq <| c_block ?_
    have hma : m = a + 1 := by omega
    refine c_loop (X := Nat × Nat) (fun y => [(1, .int .i64 a), (2, .int .i64 m), (3, .int .i64 b), (4, .pointer (some ⟨g4, 0, none⟩)), (8, .int .i64 y.1), (9, .int .i64 y.2)]) (fun _ => (g4, C [.func (.func 193) #[] #[.pointer (some ⟨gs, 0, none⟩)], .func (.func 121) #[] #[.slice (some ⟨g, 0, none⟩) n cap, .pointer (some ⟨26, 56, none⟩)]] 134) :: SH gs g n cap rest lo hi l)
      (fun y => m ≤ y.1 ∧ y.1 ≤ y.2 ∧ y.2 ≤ b ∧ bsch (fun h => ltAt l h a) (b - m) y.1 y.2 = bsch (fun h => ltAt l h a) (b - m) m b) (fun y => y.2 - y.1) (m, b) ⟨Nat.le_refl _, Nat.le_of_lt hmb, Nat.le_refl _, rfl⟩ (sub_cons rfl (sub_cons rfl (sub_cons rfl (sub_cons rfl (sub_cons rfl (sub_cons rfl sub_nil)))))) (.refl _) ?_
    rintro ⟨i, j⟩ ⟨hmi, hij, hjb, hbs⟩
    simp only at hmi hij hjb hbs
    simp only [SH]
    refine c_seq <| cR <| oM rfl <| oM rfl <| oX (e_lss rfl rfl) <| oN ?_
    refine c_ifp rfl (fun c2 => ?_) (fun c2 => ?_)
    · refine c_skip <| n_code <| c_block <| cR <| oM rfl <| oM rfl <| oX (e_addN rfl rfl (by omega)) <| oX (e_convn runUnderlying3 runUnderlying131 rfl (by simp only [inR]; omega)) <| oX (e_half rfl rfl) <| oX (e_convn runUnderlying131 runUnderlying3 rfl (by simp only [inR]; omega)) <| oA rfl <| oN <| cR <| oX (e_fa runUnderlying134 rfl sizeOf71 rfl rfl) <| oX (e_load isAgg71 rfl (.inl M0) rfl) <| oM rfl <| oM rfl ?_
      refine o_l rfl (l_callcq (HI := []) (HJ := SH gs g n cap rest lo hi l) call193 (less_is (g3 := gs) (g := g) (l := l) (rest := rest) (lo := lo) (hi := hi) (n := n) (cap := cap) (i := (i + j) / 2) (j := a) (by simp) (by simp) hn (by omega) (by omega)) rfl rfl rfl rfl .nil (by simp)) ?_
      rintro ⟨r, H'⟩ rfl
      rw [ltAt_of]
      refine o_less (fun _ _ h => h) (List.sublist_append_right _ _) ?_
      refine oN ?_
      refine c_if rfl (fun c3 => ?_) (fun c3 => ?_)
      · refine c_region <| oM rfl <| oX (e_addn rfl rfl (by simp only [inR]; omega)) <| oA rfl <| o_nil <| n_block ?_
        refine n_round (y := (i, j)) ((i + j) / 2 + 1, j) (by show j - ((i + j) / 2 + 1) < j - i; omega) ?_ (sub_cons rfl (sub_cons rfl (sub_cons rfl (sub_cons rfl (sub_cons rfl (sub_cons rfl sub_nil)))))) (.refl _)
        refine ⟨by show m ≤ (i + j) / 2 + 1; omega, by show (i + j) / 2 + 1 ≤ j; omega, hjb, ?_⟩
        rw [← hbs, bsch_fuel _ (b - m) (b - m - 1) _ _ (by show j - ((i + j) / 2 + 1) ≤ b - m; omega) (by show j - ((i + j) / 2 + 1) ≤ b - m - 1; omega)]
        obtain ⟨q, hq⟩ : ∃ q, b - m = q + 1 := ⟨b - m - 1, by omega⟩
        rw [hq]
        simp only [bsch, Nat.add_sub_cancel]
        rw [if_pos (show i < j by omega), if_pos c3]
      · skip
        refine c_region <| oM rfl <| oA rfl <| o_nil <| n_block ?_
        refine n_round (y := (i, j)) (i, (i + j) / 2) (by show (i + j) / 2 - i < j - i; omega) ?_ (sub_cons rfl (sub_cons rfl (sub_cons rfl (sub_cons rfl (sub_cons rfl (sub_cons rfl sub_nil)))))) (.refl _)
        refine ⟨hmi, by show i ≤ (i + j) / 2; omega, by show (i + j) / 2 ≤ b; omega, ?_⟩
        rw [← hbs, bsch_fuel _ (b - m) (b - m - 1) _ _ (by show (i + j) / 2 - i ≤ b - m; omega) (by show (i + j) / 2 - i ≤ b - m - 1; omega)]
        obtain ⟨q, hq⟩ : ∃ q, b - m = q + 1 := ⟨b - m - 1, by omega⟩
        rw [hq]
        simp only [bsch, Nat.add_sub_cancel]
        rw [if_pos (show i < j by omega), if_neg (by rw [c3]; simp)]
    · skip
      have hfin : bsch (fun h => ltAt l h a) (b - m) m b = i := by
        rw [← hbs]
        obtain ⟨q, hq⟩ : ∃ q, b - m = q + 1 := ⟨b - m - 1, by omega⟩
        rw [hq]
        simp only [bsch]
        rw [if_neg (by omega)]
      refine c_exit ?_; refine x_code ?_; refine x_upto ?_; refine x_here ?_
      refine n_code <| c_seq <| cR <| oM rfl <| oA rfl <| oN <| c_block ?_
      refine c_loop (X := Nat) (fun c => [(4, .pointer (some ⟨g4, 0, none⟩)), (8, .int .i64 i), (11, .int .i64 (a + c : Nat))]) (fun c => (g4, C [.func (.func 193) #[] #[.pointer (some ⟨gs, 0, none⟩)], .func (.func 121) #[] #[.slice (some ⟨g, 0, none⟩) n cap, .pointer (some ⟨26, 56, none⟩)]] 134) :: SH gs g n cap rest lo hi (upS l a c)) (fun c => c ≤ i - 1 - a) (fun c => i - 1 - a - c) 0 (Nat.zero_le _) (sub_cons rfl (sub_cons rfl (sub_cons rfl sub_nil))) (.refl _) ?_
      intro c hc
      simp only [SH]
      have hl := (upS_length l a c).trans hn
      generalize hgen : upS l a c = l' at hl ⊢
      refine c_seq <| cR <| oM rfl <| oM rfl <| oX (e_sub1 rfl rfl (by omega)) <| oX (e_lss rfl rfl) <| oN ?_
      refine c_ifp rfl (fun c4 => ?_) (fun c4 => ?_)
      · refine c_skip <| n_code <| c_seq <| c_block <| c_region <| oX (e_fa runUnderlying134 rfl sizeOf128 rfl rfl) <| oX (e_load isAgg128 rfl (.inl M0) rfl) <| oM rfl <| oM rfl <| oX (e_addn rfl rfl (by simp only [inR]; omega)) ?_
        refine o_l rfl (l_swapE rfl rfl rfl (i := a + c) (j := a + c + 1) rfl rfl hl (by omega) (by omega) (by rw [hl]; exact hf) (.tail (.tail .head))) ?_
        intro _ _
        rw [sw_of]
        refine o_nil <| n_block <| n_code <| c_region <| oM rfl <| oX (e_addn rfl rfl (by simp only [inR]; omega)) <| oA rfl <| o_nil ?_
        refine n_round (c + 1) (by omega) (by omega) (sub_cons rfl (sub_cons rfl (sub_cons rfl sub_nil))) ?_
        simp only [upS, hgen]
        exact .refl _
      · skip
        refine c_exit ?_; refine x_code ?_; refine x_upto ?_; refine x_here ?_
        refine n_code <| c_ret ?_
        refine WR.sel (.cons (.tail .head) (.cons (.tail .head) .nil)) ?_
        refine r_fn0 results228 ?_
        have : c = i - 1 - a := by omega
        subst this
        refine ⟨rfl, ?_⟩
        simp only [symM]
        rw [if_pos (by omega), hfin, hgen]
  · skip
    have c1 : ¬ (m - a = 1) := by omega
    refine c_skip <| n_code <| c_seq <| cR <| oM rfl <| oM rfl <| oX (e_subN rfl rfl (by omega)) <| oX (e_eql rfl rfl) <| oN ?_
    refine c_ifp rfl (fun d1 => ?_) (fun d1 => ?_)
    · refine cR <| oM rfl <| oA rfl <| oN <| cR <| oM rfl <| oA rfl <| oN <| c_seq <| c_block ?_
      have hbm : b = m + 1 := by omega
      refine c_loop (X := Nat × Nat) (fun y => [(1, .int .i64 a), (2, .int .i64 m), (3, .int .i64 b), (4, .pointer (some ⟨g4, 0, none⟩)), (12, .int .i64 y.1), (13, .int .i64 y.2)]) (fun _ => (g4, C [.func (.func 193) #[] #[.pointer (some ⟨gs, 0, none⟩)], .func (.func 121) #[] #[.slice (some ⟨g, 0, none⟩) n cap, .pointer (some ⟨26, 56, none⟩)]] 134) :: SH gs g n cap rest lo hi l)
        (fun y => a ≤ y.1 ∧ y.1 ≤ y.2 ∧ y.2 ≤ m ∧ bsch (fun h => !ltAt l m h) (m - a) y.1 y.2 = bsch (fun h => !ltAt l m h) (m - a) a m) (fun y => y.2 - y.1) (a, m) ⟨Nat.le_refl _, Nat.le_of_lt ham, Nat.le_refl _, rfl⟩ (sub_cons rfl (sub_cons rfl (sub_cons rfl (sub_cons rfl (sub_cons rfl (sub_cons rfl sub_nil)))))) (.refl _) ?_
      rintro ⟨i, j⟩ ⟨hmi, hij, hjb, hbs⟩
      simp only at hmi hij hjb hbs
      simp only [SH]
      refine c_seq <| cR <| oM rfl <| oM rfl <| oX (e_lss rfl rfl) <| oN ?_
      refine c_ifp rfl (fun c2 => ?_) (fun c2 => ?_)
      · refine c_skip <| n_code <| c_block <| cR <| oM rfl <| oM rfl <| oX (e_addN rfl rfl (by omega)) <| oX (e_convn runUnderlying3 runUnderlying131 rfl (by simp only [inR]; omega)) <| oX (e_half rfl rfl) <| oX (e_convn runUnderlying131 runUnderlying3 rfl (by simp only [inR]; omega)) <| oA rfl <| oN <| cR <| oX (e_fa runUnderlying134 rfl sizeOf71 rfl rfl) <| oX (e_load isAgg71 rfl (.inl M0) rfl) <| oM rfl <| oM rfl ?_
        refine o_l rfl (l_callcq (HI := []) (HJ := SH gs g n cap rest lo hi l) call193 (less_is (g3 := gs) (g := g) (l := l) (rest := rest) (lo := lo) (hi := hi) (n := n) (cap := cap) (i := m) (j := (i + j) / 2) (by simp) (by simp) hn (by omega) (by omega)) rfl rfl rfl rfl .nil (by simp)) ?_
        rintro ⟨r, H'⟩ rfl
        rw [ltAt_of]
        refine o_less (fun _ _ h => h) (List.sublist_append_right _ _) ?_
        refine oX (e_not rfl) <| oN ?_
        refine c_if rfl (fun c3 => ?_) (fun c3 => ?_)
        · refine c_region <| oM rfl <| oX (e_addn rfl rfl (by simp only [inR]; omega)) <| oA rfl <| o_nil <| n_block ?_
          refine n_round (y := (i, j)) ((i + j) / 2 + 1, j) (by show j - ((i + j) / 2 + 1) < j - i; omega) ?_ (sub_cons rfl (sub_cons rfl (sub_cons rfl (sub_cons rfl (sub_cons rfl (sub_cons rfl sub_nil)))))) (.refl _)
          refine ⟨by show a ≤ (i + j) / 2 + 1; omega, by show (i + j) / 2 + 1 ≤ j; omega, hjb, ?_⟩
          rw [← hbs, bsch_fuel _ (m - a) (m - a - 1) _ _ (by show j - ((i + j) / 2 + 1) ≤ m - a; omega) (by show j - ((i + j) / 2 + 1) ≤ m - a - 1; omega)]
          obtain ⟨q, hq⟩ : ∃ q, m - a = q + 1 := ⟨m - a - 1, by omega⟩
          rw [hq]
          simp only [bsch, Nat.add_sub_cancel]
          rw [if_pos (show i < j by omega), if_pos c3]
        · skip
          refine c_region <| oM rfl <| oA rfl <| o_nil <| n_block ?_
          refine n_round (y := (i, j)) (i, (i + j) / 2) (by show (i + j) / 2 - i < j - i; omega) ?_ (sub_cons rfl (sub_cons rfl (sub_cons rfl (sub_cons rfl (sub_cons rfl (sub_cons rfl sub_nil)))))) (.refl _)
          refine ⟨hmi, by show i ≤ (i + j) / 2; omega, by show (i + j) / 2 ≤ m; omega, ?_⟩
          rw [← hbs, bsch_fuel _ (m - a) (m - a - 1) _ _ (by show (i + j) / 2 - i ≤ m - a; omega) (by show (i + j) / 2 - i ≤ m - a - 1; omega)]
          obtain ⟨q, hq⟩ : ∃ q, m - a = q + 1 := ⟨m - a - 1, by omega⟩
          rw [hq]
          simp only [bsch, Nat.add_sub_cancel]
          rw [if_pos (show i < j by omega), if_neg (by rw [c3]; simp)]
      · skip
        have hfin : bsch (fun h => !ltAt l m h) (m - a) a m = i := by
          rw [← hbs]
          obtain ⟨q, hq⟩ : ∃ q, m - a = q + 1 := ⟨m - a - 1, by omega⟩
          rw [hq]
          simp only [bsch]
          rw [if_neg (by omega)]
        refine c_exit ?_; refine x_code ?_; refine x_upto ?_; refine x_here ?_
        refine n_code <| c_seq <| cR <| oM rfl <| oA rfl <| oN <| c_block ?_
        refine c_loop (X := Nat) (fun c => [(4, .pointer (some ⟨g4, 0, none⟩)), (12, .int .i64 i), (15, .int .i64 (m - c : Nat))]) (fun c => (g4, C [.func (.func 193) #[] #[.pointer (some ⟨gs, 0, none⟩)], .func (.func 121) #[] #[.slice (some ⟨g, 0, none⟩) n cap, .pointer (some ⟨26, 56, none⟩)]] 134) :: SH gs g n cap rest lo hi (dnS l m c)) (fun c => c ≤ m - i) (fun c => m - i - c) 0 (Nat.zero_le _) (sub_cons rfl (sub_cons rfl (sub_cons rfl sub_nil))) (.refl _) ?_
        intro c hc
        simp only [SH]
        have hl := (dnS_length l m c).trans hn
        generalize hgen : dnS l m c = l' at hl ⊢
        refine c_seq <| cR <| oM rfl <| oM rfl <| oX (e_gtr rfl rfl) <| oN ?_
        refine c_ifp rfl (fun c4 => ?_) (fun c4 => ?_)
        · obtain ⟨k, hk⟩ : ∃ k, m - c = k + 1 := ⟨m - c - 1, by omega⟩
          rw [hk]
          refine c_skip <| n_code <| c_seq <| c_block <| c_region <| oX (e_fa runUnderlying134 rfl sizeOf128 rfl rfl) <| oX (e_load isAgg128 rfl (.inl M0) rfl) <| oM rfl <| oM rfl <| oX (e_pred rfl rfl (by omega)) ?_
          refine o_l rfl (l_swapE rfl rfl rfl (i := k + 1) (j := k) rfl rfl hl (by omega) (by omega) (by rw [hl]; exact hf) (.tail (.tail .head))) ?_
          intro _ _
          rw [sw_of]
          refine o_nil <| n_block <| n_code <| c_region <| oM rfl <| oX (e_pred rfl rfl (by omega)) <| oA rfl <| o_nil ?_
          have hk2 : m - (c + 1) = k := by omega
          refine n_round (y := c) (c + 1) (by show m - i - (c + 1) < m - i - c; omega) (by show c + 1 ≤ m - i; omega) ?_ ?_
          · simp only [hk2]
            exact sub_cons rfl (sub_cons rfl (sub_cons rfl sub_nil))
          · simp only [dnS, hgen, hk, Nat.add_sub_cancel]
            exact .refl _
        · skip
          refine c_exit ?_; refine x_code ?_; refine x_upto ?_; refine x_here ?_
          refine n_code <| c_ret ?_
          refine WR.sel (.cons (.tail .head) (.cons (.tail .head) .nil)) ?_
          refine r_fn0 results228 ?_
          have : c = m - i := by omega
          subst this
          refine ⟨rfl, ?_⟩
          simp only [symM]
          rw [if_neg c1, if_pos (by omega), hfin, hgen]
    · skip
      have d1 : ¬ (b - m = 1) := by omega
      refine c_skip <| n_code <| cR <| oM rfl <| oM rfl <| oX (e_addN rfl rfl (by omega)) <| oX (e_convn runUnderlying3 runUnderlying131 rfl (by simp only [inR]; omega)) <| oX (e_half rfl rfl) <| oX (e_convn runUnderlying131 runUnderlying3 rfl (by simp only [inR]; omega)) <| oA rfl <| oN <| cR <| oM rfl <| oM rfl <| oX (e_addN rfl rfl (by omega)) <| oA rfl <| oN <| cR <| oA rfl <| oA rfl <| oN <| c_seq <| cR <| oM rfl <| oM rfl <| oX (e_gtr rfl rfl) <| oN ?_
      refine c_cut (X := Nat × Nat) (fun y => [(1, .int .i64 a), (2, .int .i64 m), (3, .int .i64 b), (4, .pointer (some ⟨g4, 0, none⟩)), (16, .int .i64 ((a + b) / 2 : Nat)), (17, .int .i64 ((a + b) / 2 + m : Nat)), (18, .int .i64 y.1), (19, .int .i64 y.2)]) (fun _ => (g4, C [.func (.func 193) #[] #[.pointer (some ⟨gs, 0, none⟩)], .func (.func 121) #[] #[.slice (some ⟨g, 0, none⟩) n cap, .pointer (some ⟨26, 56, none⟩)]] 134) :: SH gs g n cap rest lo hi l) (fun y => ((a + b) / 2 < m ∧ y = ((a + b) / 2 + m - b, (a + b) / 2)) ∨ (¬ (a + b) / 2 < m ∧ y = (a, m))) ?_ ?_
      · skip
        refine c_ifp rfl (fun e1 => ?_) (fun e1 => ?_)
        · refine cR <| oM rfl <| oM rfl <| oX (e_subN rfl rfl (by omega)) <| oA rfl <| oN <| c_region <| oM rfl <| oA rfl <| o_nil ?_
          exact n_cut ((a + b) / 2 + m - b, (a + b) / 2) (.inl ⟨by omega, rfl⟩) (sub_cons rfl (sub_cons rfl (sub_cons rfl (sub_cons rfl (sub_cons rfl (sub_cons rfl (sub_cons rfl (sub_cons rfl sub_nil)))))))) (.refl _)
        · skip
          refine cR <| oM rfl <| oA rfl <| oN <| c_region <| oM rfl <| oA rfl <| o_nil ?_
          exact n_cut (a, m) (.inr ⟨by omega, rfl⟩) (sub_cons rfl (sub_cons rfl (sub_cons rfl (sub_cons rfl (sub_cons rfl (sub_cons rfl (sub_cons rfl (sub_cons rfl sub_nil)))))))) (.refl _)
      rintro ⟨s0, r0⟩ hs0
      simp only [Prod.mk.injEq] at hs0
      simp only [SH]
      refine n_code <| cR <| oM rfl <| oX (e_sub1 rfl rfl (by omega)) <| oA rfl <| oN <| c_seq <| c_block ?_
      generalize hmid : (a + b) / 2 = mid at *
      refine c_loop (X := Nat × Nat) (fun y => [(1, .int .i64 a), (2, .int .i64 m), (3, .int .i64 b), (4, .pointer (some ⟨g4, 0, none⟩)), (16, .int .i64 mid), (17, .int .i64 (mid + m : Nat)), (18, .int .i64 y.1), (19, .int .i64 y.2), (20, .int .i64 (mid + m - 1 : Nat))]) (fun _ => (g4, C [.func (.func 193) #[] #[.pointer (some ⟨gs, 0, none⟩)], .func (.func 121) #[] #[.slice (some ⟨g, 0, none⟩) n cap, .pointer (some ⟨26, 56, none⟩)]] 134) :: SH gs g n cap rest lo hi l)
        (fun y => s0 ≤ y.1 ∧ y.1 ≤ y.2 ∧ y.2 ≤ r0 ∧ bsch (fun c => !ltAt l (mid + m - 1 - c) c) (b - a) y.1 y.2 = bsch (fun c => !ltAt l (mid + m - 1 - c) c) (b - a) s0 r0) (fun y => y.2 - y.1) (s0, r0) ⟨Nat.le_refl _, by show s0 ≤ r0; omega, Nat.le_refl _, rfl⟩ (sub_cons rfl (sub_cons rfl (sub_cons rfl (sub_cons rfl (sub_cons rfl (sub_cons rfl (sub_cons rfl (sub_cons rfl (sub_cons rfl sub_nil))))))))) (.refl _) ?_
      rintro ⟨i, j⟩ ⟨hmi, hij, hjb, hbs⟩
      simp only at hmi hij hjb hbs
      simp only [SH]
      refine c_seq <| cR <| oM rfl <| oM rfl <| oX (e_lss rfl rfl) <| oN ?_
      refine c_ifp rfl (fun c2 => ?_) (fun c2 => ?_)
      · refine c_skip <| n_code <| c_block <| cR <| oM rfl <| oM rfl <| oX (e_addN rfl rfl (by omega)) <| oX (e_convn runUnderlying3 runUnderlying131 rfl (by simp only [inR]; omega)) <| oX (e_half rfl rfl) <| oX (e_convn runUnderlying131 runUnderlying3 rfl (by simp only [inR]; omega)) <| oA rfl <| oN <| cR <| oX (e_fa runUnderlying134 rfl sizeOf71 rfl rfl) <| oX (e_load isAgg71 rfl (.inl M0) rfl) <| oM rfl <| oM rfl <| oX (e_subN rfl rfl (by omega)) <| oM rfl ?_
        refine o_l rfl (l_callcq (HI := []) (HJ := SH gs g n cap rest lo hi l) call193 (less_is (g3 := gs) (g := g) (l := l) (rest := rest) (lo := lo) (hi := hi) (n := n) (cap := cap) (i := mid + m - 1 - (i + j) / 2) (j := (i + j) / 2) (by simp) (by simp) hn (by omega) (by omega)) rfl rfl rfl rfl .nil (by simp)) ?_
        rintro ⟨r, H'⟩ rfl
        rw [ltAt_of]
        refine o_less (fun _ _ h => h) (List.sublist_append_right _ _) ?_
        refine oX (e_not rfl) <| oN ?_
        refine c_if rfl (fun c3 => ?_) (fun c3 => ?_)
        · refine c_region <| oM rfl <| oX (e_addn rfl rfl (by simp only [inR]; omega)) <| oA rfl <| o_nil <| n_block ?_
          refine n_round (y := (i, j)) ((i + j) / 2 + 1, j) (by show j - ((i + j) / 2 + 1) < j - i; omega) ?_ (sub_cons rfl (sub_cons rfl (sub_cons rfl (sub_cons rfl (sub_cons rfl (sub_cons rfl (sub_cons rfl (sub_cons rfl (sub_cons rfl sub_nil))))))))) (.refl _)
          refine ⟨by show s0 ≤ (i + j) / 2 + 1; omega, by show (i + j) / 2 + 1 ≤ j; omega, hjb, ?_⟩
          rw [← hbs, bsch_fuel _ (b - a) (b - a - 1) _ _ (by show j - ((i + j) / 2 + 1) ≤ b - a; omega) (by show j - ((i + j) / 2 + 1) ≤ b - a - 1; omega)]
          obtain ⟨q, hq⟩ : ∃ q, b - a = q + 1 := ⟨b - a - 1, by omega⟩
          rw [hq]
          simp only [bsch, Nat.add_sub_cancel]
          rw [if_pos (show i < j by omega), if_pos c3]
        · skip
          refine c_region <| oM rfl <| oA rfl <| o_nil <| n_block ?_
          refine n_round (y := (i, j)) (i, (i + j) / 2) (by show (i + j) / 2 - i < j - i; omega) ?_ (sub_cons rfl (sub_cons rfl (sub_cons rfl (sub_cons rfl (sub_cons rfl (sub_cons rfl (sub_cons rfl (sub_cons rfl (sub_cons rfl sub_nil))))))))) (.refl _)
          refine ⟨hmi, by show i ≤ (i + j) / 2; omega, by show (i + j) / 2 ≤ r0; omega, ?_⟩
          rw [← hbs, bsch_fuel _ (b - a) (b - a - 1) _ _ (by show (i + j) / 2 - i ≤ b - a; omega) (by show (i + j) / 2 - i ≤ b - a - 1; omega)]
          obtain ⟨q, hq⟩ : ∃ q, b - a = q + 1 := ⟨b - a - 1, by omega⟩
          rw [hq]
          simp only [bsch, Nat.add_sub_cancel]
          rw [if_pos (show i < j by omega), if_neg (by rw [c3]; simp)]
      · skip
        have hfin : bsch (fun c => !ltAt l (mid + m - 1 - c) c) (b - a) s0 r0 = i := by
          rw [← hbs]
          obtain ⟨q, hq⟩ : ∃ q, b - a = q + 1 := ⟨b - a - 1, by omega⟩
          rw [hq]
          simp only [bsch]
          rw [if_neg (by omega)]
        have hst : (if mid < m then bsch (fun c => !ltAt l (mid + m - 1 - c) c) (b - a) (mid + m - b) mid else bsch (fun c => !ltAt l (mid + m - 1 - c) c) (b - a) a m) = i := by
          rcases hs0 with ⟨h, rfl, rfl⟩ | ⟨h, rfl, rfl⟩
          · rw [if_pos h]; exact hfin
          · rw [if_neg h]; exact hfin
        refine c_exit ?_; refine x_code ?_; refine x_upto ?_; refine x_here ?_
        refine n_code <| cR <| oM rfl <| oM rfl <| oX (e_subN rfl rfl (by omega)) <| oA rfl <| oN <| c_seq ?_
        refine c_cut (X := List En) (fun _ => [(1, .int .i64 a), (3, .int .i64 b), (4, .pointer (some ⟨g4, 0, none⟩)), (16, .int .i64 mid), (18, .int .i64 i), (22, .int .i64 (mid + m - i : Nat))]) (fun y => (g4, C [.func (.func 193) #[] #[.pointer (some ⟨gs, 0, none⟩)], .func (.func 121) #[] #[.slice (some ⟨g, 0, none⟩) n cap, .pointer (some ⟨26, 56, none⟩)]] 134) :: SH gs g n cap rest lo hi y) (fun y => y = if i < m ∧ m < mid + m - i then rotL m (mid + m - i - i) l (m - i) (mid + m - i - m) else l) ?_ ?_
        · skip
          refine cR <| oM rfl <| oM rfl <| oX (e_lss rfl rfl) <| oM rfl ?_
          refine o_splitp 141 rfl (fun f1 => ?_) (fun f1 => ?_)
          · refine oM rfl <| oM rfl <| oX (e_lss rfl rfl) <| oX (e_pick_t rfl rfl) <| oN ?_
            refine c_ifp rfl (fun f2 => ?_) (fun f2 => ?_)
            · refine c_region ?_
              refine oX (e_loada isAgg134 sizeOf134 rfl (.inl M0) (by first | assumption | repeat constructor)) ?_
              refine oM rfl <| oM rfl <| oM rfl ?_
              refine o_l rfl (l_call call250 (rotate_is (rest := rest) (l := l) (a := i) (m := m) (b := mid + m - i) hn hf h1 (by omega) (by omega) (by omega)) rfl rfl (.cons (.tail .head) (.cons (.tail .head) .nil))) ?_
              rintro ⟨r, H'⟩ ⟨rfl, rfl⟩
              simp only [SH, List.cons_append, List.nil_append]
              refine o_nil ?_
              exact n_cut (rotL m (mid + m - i - i) l (m - i) (mid + m - i - m)) (by rw [if_pos ⟨by omega, by omega⟩]) (sub_cons rfl (sub_cons rfl (sub_cons rfl (sub_cons rfl (sub_cons rfl (sub_cons rfl sub_nil)))))) (List.perm_append_comm (l₁ := [_, _]))
            · skip
              refine c_skip ?_
              exact n_cut l (by rw [if_neg (by omega)]) (sub_cons rfl (sub_cons rfl (sub_cons rfl (sub_cons rfl (sub_cons rfl (sub_cons rfl sub_nil)))))) (.refl _)
          · skip
            refine oS <| oS <| oS <| oX (e_pick_f rfl rfl) <| oN <| c_else rfl <| c_skip ?_
            exact n_cut l (by rw [if_neg (by omega)]) (sub_cons rfl (sub_cons rfl (sub_cons rfl (sub_cons rfl (sub_cons rfl (sub_cons rfl sub_nil)))))) (.refl _)
        intro l1 hl1
        have hn1 : l1.length = n := by rw [hl1]; split <;> simp [rotL_length, hn]
        simp only [SH]
        refine n_code <| c_seq ?_
        refine c_cut (X := List En) (fun _ => [(1, .int .i64 a), (3, .int .i64 b), (4, .pointer (some ⟨g4, 0, none⟩)), (16, .int .i64 mid), (18, .int .i64 i), (22, .int .i64 (mid + m - i : Nat))]) (fun y => (g4, C [.func (.func 193) #[] #[.pointer (some ⟨gs, 0, none⟩)], .func (.func 121) #[] #[.slice (some ⟨g, 0, none⟩) n cap, .pointer (some ⟨26, 56, none⟩)]] 134) :: SH gs g n cap rest lo hi y) (fun y => y = if a < i ∧ i < mid then symM f l1 a i mid else l1) ?_ ?_
        · skip
          refine cR <| oM rfl <| oM rfl <| oX (e_lss rfl rfl) <| oM rfl ?_
          refine o_splitp 154 rfl (fun f1 => ?_) (fun f1 => ?_)
          · refine oM rfl <| oM rfl <| oX (e_lss rfl rfl) <| oX (e_pick_t rfl rfl) <| oN ?_
            refine c_ifp rfl (fun f2 => ?_) (fun f2 => ?_)
            · refine c_region ?_
              refine oX (e_loada isAgg134 sizeOf134 rfl (.inl M0) (by first | assumption | repeat constructor)) ?_
              refine oM rfl <| oM rfl <| oM rfl ?_
              refine o_l rfl (l_call call228 (ih (l := l1) (a := a) (m := i) (b := mid) hn1 (by omega) (by omega) (by omega) (by omega)) rfl rfl (.cons (.tail .head) (.cons (.tail .head) .nil))) ?_
              rintro ⟨r, H'⟩ ⟨rfl, rfl⟩
              simp only [SH, List.cons_append, List.nil_append]
              refine o_nil ?_
              exact n_cut (symM f l1 a i mid) (by rw [if_pos ⟨by omega, by omega⟩]) (sub_cons rfl (sub_cons rfl (sub_cons rfl (sub_cons rfl (sub_cons rfl (sub_cons rfl sub_nil)))))) (List.perm_append_comm (l₁ := [_, _]))
            · skip
              refine c_skip ?_
              exact n_cut l1 (by rw [if_neg (by omega)]) (sub_cons rfl (sub_cons rfl (sub_cons rfl (sub_cons rfl (sub_cons rfl (sub_cons rfl sub_nil)))))) (.refl _)
          · skip
            refine oS <| oS <| oS <| oX (e_pick_f rfl rfl) <| oN <| c_else rfl <| c_skip ?_
            exact n_cut l1 (by rw [if_neg (by omega)]) (sub_cons rfl (sub_cons rfl (sub_cons rfl (sub_cons rfl (sub_cons rfl (sub_cons rfl sub_nil)))))) (.refl _)
        intro l2 hl2
        have hn2 : l2.length = n := by rw [hl2]; split <;> simp [symM_length, hn1]
        simp only [SH]
        have hall : symM (f + 1) l a m b = if mid < mid + m - i ∧ mid + m - i < b then symM f l2 mid (mid + m - i) b else l2 := by
          rw [hl2, hl1]
          simp only [symM, hmid]
          rw [if_neg c1, if_neg d1, hst]
        refine n_code <| cR <| oM rfl <| oM rfl <| oX (e_lss rfl rfl) <| oM rfl ?_
        refine o_splitp 167 rfl (fun f1 => ?_) (fun f1 => ?_)
        · refine oM rfl <| oM rfl <| oX (e_lss rfl rfl) <| oX (e_pick_t rfl rfl) <| oN ?_
          refine c_ifp rfl (fun f2 => ?_) (fun f2 => ?_)
          · refine c_region ?_
            refine oX (e_loada isAgg134 sizeOf134 rfl (.inl M0) (by first | assumption | repeat constructor)) ?_
            refine oM rfl <| oM rfl <| oM rfl ?_
            refine o_l rfl (l_call call228 (ih (l := l2) (a := mid) (m := mid + m - i) (b := b) hn2 (by omega) (by omega) (by omega) (by omega)) rfl rfl (.cons (.tail .head) (.cons (.tail .head) .nil))) ?_
            rintro ⟨r, H'⟩ ⟨rfl, rfl⟩
            simp only [SH, List.cons_append, List.nil_append]
            refine o_nil <| WN.sel (.cons .head (.cons .head .nil)) ?_
            refine n_fn0 results228 ?_
            exact ⟨rfl, by rw [hall, if_pos ⟨by omega, by omega⟩]⟩
          · skip
            refine c_skip <| WN.sel (.cons (.tail .head) (.cons (.tail .head) .nil)) ?_
            refine n_fn0 results228 ?_
            exact ⟨rfl, by rw [hall, if_neg (by omega)]⟩
        · skip
          refine oS <| oS <| oS <| oX (e_pick_f rfl rfl) <| oN <| c_else rfl <| c_skip <| WN.sel (.cons (.tail .head) (.cons (.tail .head) .nil)) ?_
          refine n_fn0 results228 ?_
          exact ⟨rfl, by rw [hall, if_neg (by omega)]⟩
end
end Go.Proofs
namespace Go.Proofs
open Go Go.Sl Tryz
set_option maxRecDepth 100000
set_option maxHeartbeats 1000000

def isP (n : Nat) : Nat → Nat → List En → List En
  | 0, a, l => isortN a (n - (a + 1)) l
  | f + 1, a, l => if a + 20 ≤ n then isP n f (a + 20) (isortN a 19 l) else isortN a (n - (a + 1)) l
theorem isP_fuel (n : Nat) : ∀ (f f' a : Nat) (l : List En), n - a ≤ f → n - a ≤ f' → isP n f a l = isP n f' a l := by
  intro f
  induction f with
  | zero =>
    intro f' a l h h'
    cases f' with
    | zero => rfl
    | succ f' => simp only [isP]; rw [if_neg (by omega)]
  | succ f ih =>
    intro f' a l h h'
    cases f' with
    | zero => simp only [isP]; rw [if_neg (by omega)]
    | succ f' =>
      simp only [isP]
      split
      · exact ih _ _ _ (by omega) (by omega)
      · rfl
theorem isP_length (n : Nat) : ∀ (f a : Nat) (l : List En), (isP n f a l).length = l.length := by
  intro f
  induction f with
  | zero => intro a l; exact isortN_length ..
  | succ f ih => intro a l; simp only [isP]; split <;> simp [ih, isortN_length]
def mgP (n s : Nat) : Nat → Nat → List En → List En
  | 0, a, l => if a + s < n then symM (n - a) l a (a + s) n else l
  | f + 1, a, l => if a + 2 * s ≤ n then mgP n s f (a + 2 * s) (symM (2 * s) l a (a + s) (a + 2 * s)) else if a + s < n then symM (n - a) l a (a + s) n else l
theorem mgP_fuel (n s : Nat) (hs : 0 < s) : ∀ (f f' a : Nat) (l : List En), n - a ≤ f → n - a ≤ f' → mgP n s f a l = mgP n s f' a l := by
  intro f
  induction f with
  | zero =>
    intro f' a l h h'
    cases f' with
    | zero => rfl
    | succ f' => simp only [mgP]; rw [if_neg (show ¬ a + 2 * s ≤ n by omega)]
  | succ f ih =>
    intro f' a l h h'
    cases f' with
    | zero => simp only [mgP]; rw [if_neg (show ¬ a + 2 * s ≤ n by omega)]
    | succ f' =>
      simp only [mgP]
      split
      · exact ih _ _ _ (by omega) (by omega)
      · rfl
theorem mgP_length (n s : Nat) : ∀ (f a : Nat) (l : List En), (mgP n s f a l).length = l.length := by
  intro f
  induction f with
  | zero => intro a l; simp only [mgP]; split <;> simp [symM_length]
  | succ f ih => intro a l; simp only [mgP]; split <;> (try split) <;> simp [ih, symM_length]
def stM (n : Nat) : Nat → Nat → List En → List En
  | 0, _, l => l
  | f + 1, s, l => if s < n then stM n f (2 * s) (mgP n s n 0 l) else l
theorem stM_fuel (n : Nat) : ∀ (f f' s : Nat) (l : List En), 0 < s → n - s ≤ f → n - s ≤ f' → stM n f s l = stM n f' s l := by
  intro f
  induction f with
  | zero =>
    intro f' s l h0 h h'
    cases f' with
    | zero => rfl
    | succ f' => simp only [stM]; rw [if_neg (by omega)]
  | succ f ih =>
    intro f' s l h0 h h'
    cases f' with
    | zero => simp only [stM]; rw [if_neg (by omega)]
    | succ f' =>
      simp only [stM]
      split
      · exact ih _ _ _ (by omega) (by omega) (by omega)
      · rfl
theorem isP_step {n f a : Nat} {l : List En} (h : a + 20 ≤ n) (hf : n - a ≤ f) : isP n f (a + 20) (isortN a 19 l) = isP n f a l := by
  cases f with
  | zero => omega
  | succ f =>
    show isP n (f + 1) (a + 20) (isortN a 19 l) = if a + 20 ≤ n then isP n f (a + 20) (isortN a 19 l) else isortN a (n - (a + 1)) l
    rw [if_pos h]
    exact isP_fuel n (f + 1) f _ _ (by omega) (by omega)
theorem isP_end {n f a : Nat} {l : List En} (h : ¬ a + 20 ≤ n) : isP n f a l = isortN a (n - (a + 1)) l := by
  cases f <;> simp [isP, h]
theorem mgP_step {n s f a : Nat} {l : List En} (hs : 0 < s) (h : a + 2 * s ≤ n) (hf : n - a ≤ f) : mgP n s f (a + 2 * s) (symM (2 * s) l a (a + s) (a + 2 * s)) = mgP n s f a l := by
  cases f with
  | zero => omega
  | succ f =>
    show mgP n s (f + 1) (a + 2 * s) (symM (2 * s) l a (a + s) (a + 2 * s)) = if a + 2 * s ≤ n then mgP n s f (a + 2 * s) (symM (2 * s) l a (a + s) (a + 2 * s)) else _
    rw [if_pos h]
    exact mgP_fuel n s hs (f + 1) f _ _ (by omega) (by omega)
theorem mgP_end {n s f a : Nat} {l : List En} (h : ¬ a + 2 * s ≤ n) : mgP n s f a l = if a + s < n then symM (n - a) l a (a + s) n else l := by
  cases f <;> simp [mgP, h]
theorem stM_step {n f s : Nat} {l : List En} (h0 : 0 < s) (h : s < n) (hf : n - s ≤ f) : stM n f (2 * s) (mgP n s n 0 l) = stM n f s l := by
  cases f with
  | zero => omega
  | succ f =>
    show stM n (f + 1) (2 * s) (mgP n s n 0 l) = if s < n then stM n f (2 * s) (mgP n s n 0 l) else l
    rw [if_pos h]
    exact stM_fuel n (f + 1) f _ _ (by omega) (by omega) (by omega)
theorem stM_end {n f s : Nat} {l : List En} (h : ¬ s < n) : stM n f s l = l := by
  cases f <;> simp [stM, h]
def stable (l : List En) : List En := stM l.length l.length 20 (isP l.length l.length 0 l)
section
variable {G : HP} {gs g n cap lo hi : Nat} {rest : List Value}
theorem stable_is {l : List En} (hn : l.length = n) (hf : n * 5 ≤ lo ∨ hi = 0) (h1 : n ≤ 1000) :
    Ctr Tryz.prog 219 [.agg (Dv gs g n cap).toArray, .int .i64 (n : Nat)] G (SH gs g n cap rest lo hi l) (fun r H' => r = .tuple #[] ∧ H' = SH gs g n cap rest lo hi (stable l)) := by
  simp only [Dv, SH]
  refine fn_enter 57 func219 rfl ntmps219 rfl ?_
  intro w0
  refine cR ?_
  refine o_l rfl (l_box rfl rfl rfl) ?_; intro g2 _
  refine oN <| cR <| oA rfl <| oN <| cR <| oM rfl <| oA rfl <| oA rfl <| oN <| c_seq <| c_block ?_
  refine c_loop (X := Nat × List En) (fun y => [(1, .int .i64 n), (2, .pointer (some ⟨g2, 0, none⟩)), (4, .int .i64 20), (5, .int .i64 y.1), (6, .int .i64 (y.1 + 20 : Nat))]) (fun y => (g2, C [.func (.func 193) #[] #[.pointer (some ⟨gs, 0, none⟩)], .func (.func 121) #[] #[.slice (some ⟨g, 0, none⟩) n cap, .pointer (some ⟨26, 56, none⟩)]] 134) :: SH gs g n cap rest lo hi y.2) (fun y => y.1 ≤ n ∧ y.2.length = n ∧ isP n n y.1 y.2 = isP n n 0 l) (fun y => n - y.1) (0, l) ⟨Nat.zero_le _, hn, rfl⟩ (sub_cons rfl (sub_cons rfl (sub_cons rfl (sub_cons rfl (sub_cons rfl sub_nil))))) (.refl _) ?_
  rintro ⟨a, l1⟩ ⟨ha, hl1, hp⟩
  simp only at ha hl1 hp
  simp only [SH]
  refine c_seq <| cR <| oM rfl <| oM rfl <| oX (e_leq rfl rfl) <| oN ?_
  refine c_ifp rfl (fun c1 => ?_) (fun c1 => ?_)
  · have c1' : a + 20 ≤ n := by omega
    refine c_skip <| n_code <| c_block <| cR ?_
    refine oX (e_loada isAgg134 sizeOf134 rfl (.inl M0) (by first | assumption | repeat constructor)) ?_
    refine oM rfl <| oM rfl ?_
    refine o_l rfl (l_call call124 (isort_is (rest := rest) (l := l1) (a := a) (b := a + 20) hl1 hf h1 (by omega) (by omega)) rfl rfl (.cons (.tail .head) (.cons (.tail .head) .nil))) ?_
    rintro ⟨r, H'⟩ ⟨rfl, rfl⟩
    rw [show a + 20 - (a + 1) = 19 by omega]
    simp only [SH, List.cons_append, List.nil_append]
    refine oN <| cR <| oM rfl <| oA rfl <| oN <| c_region <| oM rfl <| oM rfl <| oX (e_addn rfl rfl (by simp only [inR]; omega)) <| oA rfl <| o_nil <| n_block ?_
    refine n_round' (y := (a, l1)) (a + 20, isortN a 19 l1) (by show n - (a + 20) < n - a; omega) ?_ (sub_cons rfl (sub_cons rfl (sub_cons rfl (sub_cons rfl (sub_cons rfl sub_nil))))) _ (List.perm_append_comm (l₁ := [_, _])) (List.Sublist.refl _)
    refine ⟨by show a + 20 ≤ n; omega, by show (isortN a 19 l1).length = n; rw [isortN_length, hl1], ?_⟩
    rw [← hp]
    exact isP_step c1' (by omega)
  · skip
    have c1' : ¬ a + 20 ≤ n := by omega
    refine c_exit ?_; refine x_code ?_; refine x_upto ?_; refine x_here ?_
    refine n_code <| cR ?_
    refine oX (e_loada isAgg134 sizeOf134 rfl (.inl M0) (by first | assumption | repeat constructor)) ?_
    refine oM rfl <| oM rfl ?_
    refine o_l rfl (l_call call124 (isort_is (rest := rest) (l := l1) (a := a) (b := n) hl1 hf h1 (by omega) (by omega)) rfl rfl (.cons (.tail .head) (.cons (.tail .head) .nil))) ?_
    rintro ⟨r, H'⟩ ⟨rfl, rfl⟩
    have hl2 : isortN a (n - (a + 1)) l1 = isP n n 0 l := by rw [← hp, isP_end c1']
    rw [hl2]
    have hn2 : (isP n n 0 l).length = n := by rw [isP_length, hn]
    have hst : stable l = stM n n 20 (isP n n 0 l) := by simp only [stable, hn]
    rw [hst]
    generalize isP n n 0 l = l2 at *
    simp only [SH, List.cons_append, List.nil_append]
    refine oN <| c_block ?_
    refine c_loop (X := Nat × List En) (fun y => [(1, .int .i64 n), (2, .pointer (some ⟨g2, 0, none⟩)), (4, .int .i64 y.1)]) (fun y => (g2, C [.func (.func 193) #[] #[.pointer (some ⟨gs, 0, none⟩)], .func (.func 121) #[] #[.slice (some ⟨g, 0, none⟩) n cap, .pointer (some ⟨26, 56, none⟩)]] 134) :: SH gs g n cap rest lo hi y.2) (fun y => 0 < y.1 ∧ y.1 ≤ 2000 ∧ y.2.length = n ∧ stM n n y.1 y.2 = stM n n 20 l2) (fun y => n - y.1) (20, l2) ⟨by show 0 < 20; decide, by show 20 ≤ 2000; decide, hn2, rfl⟩ (sub_cons rfl (sub_cons rfl (sub_cons rfl sub_nil))) (List.perm_append_comm (l₁ := [_, _])) ?_
    rintro ⟨s, l3⟩ ⟨hs0, hs1, hl3, hq⟩
    simp only at hs0 hs1 hl3 hq
    simp only [SH]
    refine c_seq <| cR <| oM rfl <| oM rfl <| oX (e_lss rfl rfl) <| oN ?_
    refine c_ifp rfl (fun c2 => ?_) (fun c2 => ?_)
    · have c2' : s < n := by omega
      refine c_skip <| n_code <| c_block <| cR <| oM rfl <| oX (e_muln rfl rfl (by simp only [inR]; omega)) <| oA rfl <| oA rfl <| oN <| c_seq <| c_block ?_
      refine c_loop (X := Nat × List En) (fun y => [(1, .int .i64 n), (2, .pointer (some ⟨g2, 0, none⟩)), (4, .int .i64 s), (5, .int .i64 y.1), (6, .int .i64 (y.1 + 2 * s : Nat))]) (fun y => (g2, C [.func (.func 193) #[] #[.pointer (some ⟨gs, 0, none⟩)], .func (.func 121) #[] #[.slice (some ⟨g, 0, none⟩) n cap, .pointer (some ⟨26, 56, none⟩)]] 134) :: SH gs g n cap rest lo hi y.2) (fun y => y.1 ≤ n ∧ y.2.length = n ∧ mgP n s n y.1 y.2 = mgP n s n 0 l3) (fun y => n - y.1) (0, l3) ⟨Nat.zero_le _, hl3, rfl⟩ (sub_cons rfl (sub_cons rfl (sub_cons rfl (sub_cons rfl (sub_cons ?_ sub_nil))))) (.refl _) ?_
      · show lk _ 6 = some (Value.int .i64 ((0 + 2 * s : Nat) : Int))
        rw [Nat.zero_add]
        rfl
      rintro ⟨a, l4⟩ ⟨ha4, hl4, hm⟩
      simp only at ha4 hl4 hm
      simp only [SH]
      refine c_seq <| cR <| oM rfl <| oM rfl <| oX (e_leq rfl rfl) <| oN ?_
      refine c_ifp rfl (fun c3 => ?_) (fun c3 => ?_)
      · have c3' : a + 2 * s ≤ n := by omega
        refine c_skip <| n_code <| c_block <| cR ?_
        refine oX (e_loada isAgg134 sizeOf134 rfl (.inl M0) (by first | assumption | repeat constructor)) ?_
        refine oM rfl <| oM rfl <| oM rfl <| oX (e_addN rfl rfl (by omega)) <| oM rfl ?_
        refine o_l rfl (l_call call228 (symM_is (rest := rest) hf h1 (2 * s) (l := l4) (a := a) (m := a + s) (b := a + 2 * s) hl4 (by omega) (by omega) (by omega) (by omega)) rfl rfl (.cons (.tail .head) (.cons (.tail .head) .nil))) ?_
        rintro ⟨r, H'⟩ ⟨rfl, rfl⟩
        simp only [SH, List.cons_append, List.nil_append]
        refine oN <| cR <| oM rfl <| oA rfl <| oN <| c_region <| oM rfl <| oM rfl <| oX (e_muln rfl rfl (by simp only [inR]; omega)) <| oX (e_addn rfl rfl (by simp only [inR]; omega)) <| oA rfl <| o_nil <| n_block ?_
        refine n_round' (y := (a, l4)) (a + 2 * s, symM (2 * s) l4 a (a + s) (a + 2 * s)) (by show n - (a + 2 * s) < n - a; omega) ?_ (sub_cons rfl (sub_cons rfl (sub_cons rfl (sub_cons rfl (sub_cons rfl sub_nil))))) _ (List.perm_append_comm (l₁ := [_, _])) (List.Sublist.refl _)
        refine ⟨by show a + 2 * s ≤ n; omega, by show (symM (2 * s) l4 a (a + s) (a + 2 * s)).length = n; rw [symM_length, hl4], ?_⟩
        rw [← hm]
        exact mgP_step hs0 c3' (by omega)
      · skip
        have c3' : ¬ a + 2 * s ≤ n := by omega
        have hend := mgP_end (n := n) (s := s) (f := n) (a := a) (l := l4) c3'
        rw [hm] at hend
        have hmn : (mgP n s n 0 l3).length = n := by rw [mgP_length, hl3]
        refine c_exit ?_; refine x_code ?_; refine x_upto ?_; refine x_here ?_
        refine n_code <| c_seq <| cR <| oM rfl <| oM rfl <| oX (e_addN rfl rfl (by omega)) <| oA rfl <| oN <| cR <| oM rfl <| oM rfl <| oX (e_lss rfl rfl) <| oN ?_
        refine c_ifp rfl (fun c4 => ?_) (fun c4 => ?_)
        · refine c_region ?_
          refine oX (e_loada isAgg134 sizeOf134 rfl (.inl M0) (by first | assumption | repeat constructor)) ?_
          refine oM rfl <| oM rfl <| oM rfl ?_
          refine o_l rfl (l_call call228 (symM_is (rest := rest) hf h1 (n - a) (l := l4) (a := a) (m := a + s) (b := n) hl4 (by omega) (by omega) (by omega) (by omega)) rfl rfl (.cons (.tail .head) (.cons (.tail .head) .nil))) ?_
          rintro ⟨r, H'⟩ ⟨rfl, rfl⟩
          rw [if_pos (by omega)] at hend
          rw [← hend]
          simp only [SH, List.cons_append, List.nil_append]
          refine oN <| c_region <| oM rfl <| oX (e_muln rfl rfl (by simp only [inR]; omega)) <| oA rfl <| o_nil <| n_block ?_
          refine n_round' (y := (s, l3)) (s * 2, mgP n s n 0 l3) (by show n - s * 2 < n - s; omega) ?_ (sub_cons rfl (sub_cons rfl (sub_cons rfl sub_nil))) _ (List.perm_append_comm (l₁ := [_, _])) (List.Sublist.refl _)
          refine ⟨by show 0 < s * 2; omega, by show s * 2 ≤ 2000; omega, hmn, ?_⟩
          rw [← hq]
          show stM n n (s * 2) (mgP n s n 0 l3) = _
          rw [Nat.mul_comm]
          exact stM_step hs0 c2' (by omega)
        · skip
          rw [if_neg (by omega)] at hend
          refine c_skip <| n_code <| c_region <| oM rfl <| oX (e_muln rfl rfl (by simp only [inR]; omega)) <| oA rfl <| o_nil <| n_block ?_
          refine n_round' (y := (s, l3)) (s * 2, mgP n s n 0 l3) (by show n - s * 2 < n - s; omega) ?_ (sub_cons rfl (sub_cons rfl (sub_cons rfl sub_nil))) _ (.refl _) (by rw [hend]; exact List.Sublist.refl _)
          refine ⟨by show 0 < s * 2; omega, by show s * 2 ≤ 2000; omega, hmn, ?_⟩
          rw [← hq]
          show stM n n (s * 2) (mgP n s n 0 l3) = _
          rw [Nat.mul_comm]
          exact stM_step hs0 c2' (by omega)
    · skip
      refine c_exit ?_; refine x_code ?_; refine x_upto ?_; refine x_here ?_
      refine WN.sel (.cons (.tail .head) (.cons (.tail .head) .nil)) ?_
      refine n_fn0 results219 ?_
      exact ⟨rfl, by rw [← hq, stM_end (by omega)]⟩
end
end Go.Proofs
namespace Go.Proofs
open Go Go.Sl Tryz
set_option maxRecDepth 100000
set_option maxHeartbeats 1000000
section
variable {G : HP} {n : Nat} {u v : Value}
theorem isort01 (h1 : n ≤ 1) (hu : u.oneCell' = true) (hv : v.oneCell' = true) : Ctr Tryz.prog 124 [.agg #[u, v], .int .i64 (0 : Nat), .int .i64 (n : Nat)] G [] (fun r H' => r = .tuple #[] ∧ H' = []) := by
  refine fn_enter 35 func124 rfl ntmps124 rfl ?_
  intro w0
  refine cR ?_
  refine o_l rfl (l_box rfl rfl rfl) ?_; intro g3 _
  refine oN <| cR <| oM rfl <| oX (e_addn rfl rfl (by simp only [inR]; omega)) <| oA rfl <| oN <| c_block ?_
  refine c_rounds 1 ?_
  refine c_seq <| cR <| oM rfl <| oM rfl <| oX (e_lss rfl rfl) <| oN ?_
  refine c_ifp rfl (fun h2 => ?_) (fun h2 => ?_)
  · exact absurd h2 (by omega)
  · skip
    refine c_exit ?_; refine x_code ?_; refine x_upto ?_; refine x_here ?_
    refine WN.less (fun _ _ h => h) (List.nil_sublist _) ?_
    refine n_fn0 results124 ?_
    exact ⟨rfl, rfl⟩
theorem stable01 (h1 : n ≤ 1) (hu : u.oneCell' = true) (hv : v.oneCell' = true) : Ctr Tryz.prog 219 [.agg #[u, v], .int .i64 (n : Nat)] G [] (fun r H' => r = .tuple #[] ∧ H' = []) := by
  refine fn_enter 57 func219 rfl ntmps219 rfl ?_
  intro w0
  refine cR ?_
  refine o_l rfl (l_box rfl rfl rfl) ?_; intro g2 _
  refine oN <| cR <| oA rfl <| oN <| cR <| oM rfl <| oA rfl <| oA rfl <| oN <| c_seq <| c_block ?_
  refine c_rounds 1 ?_
  refine c_seq <| cR <| oM rfl <| oM rfl <| oX (e_leq rfl rfl) <| oN ?_
  refine c_ifp rfl (fun h2 => ?_) (fun h2 => ?_)
  · exact absurd h2 (by omega)
  · skip
    refine c_exit ?_; refine x_code ?_; refine x_upto ?_; refine x_here ?_
    refine n_code <| cR ?_
    refine oX (e_loada isAgg134 sizeOf134 rfl (.inl M0) (by first | assumption | repeat constructor)) ?_
    refine oM rfl <| oM rfl ?_
    refine o_l rfl (l_call call124 (isort01 h1 hu hv) rfl rfl .nil) ?_
    rintro ⟨r, H'⟩ ⟨rfl, rfl⟩
    simp only [List.nil_append]
    refine oN <| c_block ?_
    refine c_rounds 1 ?_
    refine c_seq <| cR <| oM rfl <| oM rfl <| oX (e_lss rfl rfl) <| oN ?_
    refine c_ifp rfl (fun h3 => ?_) (fun h3 => ?_)
    · exact absurd h3 (by omega)
    · skip
      refine c_exit ?_; refine x_code ?_; refine x_upto ?_; refine x_here ?_
      refine WN.less (fun _ _ h => h) (List.nil_sublist _) ?_
      refine n_fn0 results219 ?_
      exact ⟨rfl, rfl⟩
end
end Go.Proofs
namespace Go.Proofs
open Go Go.Sl Tryz
set_option maxRecDepth 100000
set_option maxHeartbeats 1000000
theorem stable_small {l : List En} (h : l.length ≤ 1) : stable l = l := by
  match l, h with
  | [], _ => rfl
  | [x], _ => rfl
theorem kind56 (w : World) : (Extern.Rtype.kind 56).run Tryz.prog w = .ok 25 w := by kernel_rfl
theorem k9 {n : Nat} (h : 2 ≤ n) : Lib.swapperK n Tryz.t56 25 = 9 := by
  have h0 : (n == 0) = false := by simp; omega
  have h1 : (n == 1) = false := by simp; omega
  simp only [Lib.swapperK, h0, h1, Bool.false_eq_true, if_false]
  rfl
theorem ext64_9 {n : Nat} (h : 2 ≤ n) (q : Option Addr) (c : Nat) (w : World) : (callFunc 64 #[.iface 22 (.slice q n c)]).run Tryz.prog w = .ok (.value (.func (.func 121) #[] #[.slice q n c, .pointer (some ⟨26, 56, none⟩)])) w :=
  ext64 typeInfo22 rfl typeInfo56 25 kind56 q n c 9 121 (k9 h) (by kernel_rfl) w
theorem ext64_1 (q : Option Addr) (c : Nat) (w : World) : (callFunc 64 #[.iface 22 (.slice q 1 c)]).run Tryz.prog w = .ok (.value (.func (.func 114) #[] #[])) w :=
  ext64 typeInfo22 rfl typeInfo56 25 kind56 q 1 c 2 114 rfl (by kernel_rfl) w
theorem ext64_0 (q : Option Addr) (c : Nat) (w : World) : (callFunc 64 #[.iface 22 (.slice q 0 c)]).run Tryz.prog w = .ok (.value (.func (.func 113) #[] #[])) w :=
  ext64 typeInfo22 rfl typeInfo56 25 kind56 q 0 c 1 113 rfl (by kernel_rfl) w
section
variable {G : HP} {gs g n cap lo hi : Nat} {rest : List Value}
theorem sliceStable_big {l : List En} (hn : l.length = n) (hf : n * 5 ≤ lo ∨ hi = 0) (h1 : n ≤ 1000) (h2 : 2 ≤ n) :
    Ctr Tryz.prog 192 [.iface 22 (.slice (some ⟨g, 0, none⟩) n cap), .func (.func 193) #[] #[.pointer (some ⟨gs, 0, none⟩)]] G (SH gs g n cap rest lo hi l) (fun r H' => r = .tuple #[] ∧ H' = SH gs g n cap rest lo hi (stable l)) := by
  simp only [SH]
  refine fn_enter 16 func192 rfl ntmps192 rfl ?_
  intro w0
  refine cR <| oM rfl ?_
  refine o_l rfl (l_extn (V := fun g => Value.agg #[Value.pointer (some ⟨26, 22, none⟩), Value.pointer (some ⟨g, 0, none⟩), Value.int .u64 151]) (ob := C [.slice (some ⟨g, 0, none⟩) n cap] 22) rfl rfl (fun w => ext63 typeInfo22 rfl _ _ _ w)) ?_
  intro g7 _
  refine o_l rfl (l_alloc zeroValue126 rfl rfl) ?_; intro g4 _
  refine o_l rfl (l_storea sizeOf126 rfl rfl rfl (by simp [Value.oneCell']) .head (.take (.take (.take .done))) nofrs0) ?_
  intro _ _
  refine oN <| cR <| oM rfl ?_
  refine oX (e_ext rfl (fun w => ext64_9 h2 _ _ w)) ?_
  refine oA rfl <| oN <| c_region <| oM rfl <| oM rfl <| oX (e_build (vs := [.func (.func 193) #[] #[.pointer (some ⟨gs, 0, none⟩)], .func (.func 121) #[] #[.slice (some ⟨g, 0, none⟩) n cap, .pointer (some ⟨26, 56, none⟩)]]) runUnderlying134 zeroValue134 (.cons sizeOf71 (.cons sizeOf128 .nil)) rfl (by kernel_rfl)) ?_
  refine oX (e_loada isAgg126 sizeOf126 rfl (.inl M0) (by first | assumption | repeat constructor)) ?_
  refine oX (e_vlen rfl typeInfo22 rfl (by kernel_rfl) rfl (.inl M1) rfl) ?_
  refine o_l rfl (l_call call219 (stable_is (rest := rest) (l := l) hn hf h1) rfl rfl (.cons (.tail (.tail .head)) (.cons (.tail (.tail .head)) .nil))) ?_
  rintro ⟨r, H'⟩ ⟨rfl, rfl⟩
  simp only [SH, List.cons_append, List.nil_append]
  refine o_nil <| WN.sel (.cons .head (.cons .head .nil)) ?_
  refine n_fn0 results192 ?_
  exact ⟨rfl, rfl⟩
theorem sliceStable_0 {A : Option Addr} {fn : Fn} {ua uc : Array Value} :
    Ctr Tryz.prog 192 [.iface 22 (.slice A 0 cap), .func fn ua uc] G [] (fun r H' => r = .tuple #[] ∧ H' = []) := by
  refine fn_enter 16 func192 rfl ntmps192 rfl ?_
  intro w0
  refine cR <| oM rfl ?_
  refine o_l rfl (l_extn (V := fun g => Value.agg #[Value.pointer (some ⟨26, 22, none⟩), Value.pointer (some ⟨g, 0, none⟩), Value.int .u64 151]) (ob := C [.slice A 0 cap] 22) rfl rfl (fun w => ext63 typeInfo22 rfl _ _ _ w)) ?_
  intro g7 _
  refine o_l rfl (l_alloc zeroValue126 rfl rfl) ?_; intro g4 _
  refine o_l rfl (l_storea sizeOf126 rfl rfl rfl (by simp [Value.oneCell']) .head (.take (.take (.take .done))) nofrs0) ?_
  intro _ _
  refine oN <| cR <| oM rfl ?_
  refine oX (e_ext rfl (fun w => ext64_0 _ _ w)) ?_
  refine oA rfl <| oN <| c_region <| oM rfl <| oM rfl <| oX (e_build (vs := [.func fn ua uc, .func (.func 113) #[] #[]]) runUnderlying134 zeroValue134 (.cons sizeOf71 (.cons sizeOf128 .nil)) rfl (by kernel_rfl)) ?_
  refine oX (e_loada isAgg126 sizeOf126 rfl (.inl M0) (by first | assumption | repeat constructor)) ?_
  refine oX (e_vlen rfl typeInfo22 rfl (by kernel_rfl) rfl (.inl M1) rfl) ?_
  refine o_l rfl (l_call call219 (stable01 (n := 0) (by decide) rfl rfl) rfl rfl .nil) ?_
  rintro ⟨r, H'⟩ ⟨rfl, rfl⟩
  simp only [List.nil_append]
  refine o_nil ?_
  refine WN.less (fun _ _ h => h) (List.nil_sublist _) ?_
  refine n_fn0 results192 ?_
  exact ⟨rfl, rfl⟩
theorem sliceStable_1 {A : Option Addr} {fn : Fn} {ua uc : Array Value} :
    Ctr Tryz.prog 192 [.iface 22 (.slice A 1 cap), .func fn ua uc] G [] (fun r H' => r = .tuple #[] ∧ H' = []) := by
  refine fn_enter 16 func192 rfl ntmps192 rfl ?_
  intro w0
  refine cR <| oM rfl ?_
  refine o_l rfl (l_extn (V := fun g => Value.agg #[Value.pointer (some ⟨26, 22, none⟩), Value.pointer (some ⟨g, 0, none⟩), Value.int .u64 151]) (ob := C [.slice A 1 cap] 22) rfl rfl (fun w => ext63 typeInfo22 rfl _ _ _ w)) ?_
  intro g7 _
  refine o_l rfl (l_alloc zeroValue126 rfl rfl) ?_; intro g4 _
  refine o_l rfl (l_storea sizeOf126 rfl rfl rfl (by simp [Value.oneCell']) .head (.take (.take (.take .done))) nofrs0) ?_
  intro _ _
  refine oN <| cR <| oM rfl ?_
  refine oX (e_ext rfl (fun w => ext64_1 _ _ w)) ?_
  refine oA rfl <| oN <| c_region <| oM rfl <| oM rfl <| oX (e_build (vs := [.func fn ua uc, .func (.func 114) #[] #[]]) runUnderlying134 zeroValue134 (.cons sizeOf71 (.cons sizeOf128 .nil)) rfl (by kernel_rfl)) ?_
  refine oX (e_loada isAgg126 sizeOf126 rfl (.inl M0) (by first | assumption | repeat constructor)) ?_
  refine oX (e_vlen rfl typeInfo22 rfl (by kernel_rfl) rfl (.inl M1) rfl) ?_
  refine o_l rfl (l_call call219 (stable01 (n := 1) (by decide) rfl rfl) rfl rfl .nil) ?_
  rintro ⟨r, H'⟩ ⟨rfl, rfl⟩
  simp only [List.nil_append]
  refine o_nil ?_
  refine WN.less (fun _ _ h => h) (List.nil_sublist _) ?_
  refine n_fn0 results192 ?_
  exact ⟨rfl, rfl⟩
end
end Go.Proofs
namespace Go.Proofs
open Go Go.Sl Tryz
set_option maxRecDepth 100000
set_option maxHeartbeats 1000000
theorem cut_app {l a b : List Value} {i n m : Nat} (h1 : CutL l i n a) (h2 : CutL l (i + n) m b) : CutL l i (n + m) (a ++ b) := by
  have e1 := h1.eq
  have e2 := h2.eq
  have l1 := h1.le
  have l2 := h2.le
  have : a ++ b = (l.drop i).take (n + m) := by
    rw [e1, e2, ← List.drop_drop, List.take_add]
  rw [this]
  exact CutL.of (by omega)
theorem cut_all {L : List Value} {off : Nat} : ∀ {l : List En}, (∀ i (h : i < l.length), CutL L (off + i * 5) 5 (cE l[i])) → off ≤ L.length → CutL L off (l.length * 5) (cells5 l) := by
  intro l
  induction l generalizing off with
  | nil => intro _ h; simpa [cells5] using CutL.of (l := L) (i := off) (n := 0) (by omega)
  | cons x l ih =>
    intro h _
    have h0 : CutL L off 5 (cE x) := by
      have := h 0 (by simp)
      rw [Nat.zero_mul, Nat.add_zero] at this
      exact this
    have h1 := ih (off := off + 5) (fun i hi => by
      have := h (i + 1) (by simpa using hi)
      rw [show off + 5 + i * 5 = off + (i + 1) * 5 by omega]
      exact this) (by have := h0.le; omega)
    have := cut_app h0 h1
    rw [show (x :: l).length * 5 = 5 + l.length * 5 by simp; omega]
    simpa [cells5] using this
end Go.Proofs

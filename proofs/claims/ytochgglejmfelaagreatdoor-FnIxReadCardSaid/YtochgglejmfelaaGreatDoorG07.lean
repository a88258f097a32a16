/- ByDigest: a sorted copy; The stable sort gives the same entries in another order; The lengths of digests, each once, in order; The library's sort.Slice over numbers; The codes of hash functions, each once, in order; What an index has besides its codes: the entries sorted by digests, by lengths; spec.sortedBytes; spec.IndexBody; spec.IndexBytes; What is cut off of an index within its numbers. (A part of the proof of this: for every input laws.FnIxRead returns true and its arguments read as they did, the listed package variables being what the program lays.) -/
import Derived.Test.YtochgglejmfelaaGreatDoorG02
import Derived.Test.YtochgglejmfelaaGreatDoorG06
import Derived.Test.YtochgglejmfelaaGreatDoorG05
import Derived.Test.YtochgglejmfelaaGreatDoorG04
import Derived.Deep.QuietTactic
import Derived.Shelf.GgSortFunc.Tiny
import Derived.Sort.LotA
import Derived.WalkKit
namespace Go.Proofs
open Go Go.Sl Tryz
set_option maxRecDepth 100000
set_option maxHeartbeats 1000000
theorem EnS.src {x : Cx} {H : HP} {v : Value} {l : List En} (h : EnS x.G v l) (hU : x.P.underlying 22 = some (.slice 56)) : Sv x H 5 22 v l.length (cells5 l) := by
  cases h with
  | @none A cap =>
    cases A with
    | none => exact .nil hU
    | some a => exact .zero hU
  | @blk _ L g off n cap e fr hm hn hc =>
    by_cases h0 : l = []
    · subst h0; simp at hn; subst hn; exact .zero hU
    · have hpos : 0 < l.length := List.length_pos_iff.2 h0
      have hle := (hc 0 hpos).le
      have := cut_all hc (by omega)
      subst hn
      exact .blk hU (.inr hm) this (by
        intro v hv
        simp only [cells5, List.mem_flatMap] at hv
        obtain ⟨x, _, hx⟩ := hv
        exact cE_one x v hx)
theorem stM_length (n : Nat) : ∀ (f s : Nat) (l : List En), (stM n f s l).length = l.length := by
  intro f
  induction f with
  | zero => intro s l; rfl
  | succ f ih => intro s l; simp only [stM]; split <;> simp [ih, mgP_length]
theorem stable_length (l : List En) : (stable l).length = l.length := by rw [stable, stM_length, isP_length]
theorem byDigest_is {G : HP} {v : Value} {l : List En} (h : EnS G v l) (hl : l.length ≤ 1000) :
    Ctr Tryz.prog 137 [v] G [] (fun r H' => Osl 56 5 r l.length (cells5 (stable l)) H') := by
  refine fn_enter 12 func137 rfl ntmps137 rfl ?_
  intro w0
  refine cR <| oA rfl <| oN <| cR ?_
  refine o_l rfl (l_bs0 runUnderlying22 sizeOf56 rfl) ?_
  intro g4 _
  refine oM rfl ?_
  refine o_l rfl (l_append (sz := 5) (n := 0) (xs := []) (HB := [(g4, C [] 56)]) underlying22 (info_of typeInfo56) rfl rfl rfl rfl rfl rfl (.own (rest := []) (lo := 0) (hi := 0) rfl rfl (Nat.le_refl _) (by decide) (.inr rfl)) (.refl _) (h.src underlying22) (by show _ * 48 ≤ _; omega) (by omega)) ?_
  rintro ⟨v2, HB2⟩ ho
  simp only [Nat.zero_add, List.nil_append] at ho
  have hno : ∀ u w, Osl 56 5 u l.length (cells5 l) w → (u = .slice none 0 0 ∧ w = [] ∧ l = []) ∨ ∃ g cap rest lo hi, u = .slice (some ⟨g, 0, none⟩) l.length cap ∧ w = [(g, .cells (cells5 l ++ rest).toArray 56 (lo, hi))] ∧ rest.length = (cap - l.length) * 5 ∧ l.length ≤ cap ∧ cap < 9223372036854775808 ∧ (cap * 5 ≤ lo ∨ hi = 0) := by
    intro u w hu
    generalize hN : l.length = N at hu
    generalize hX : cells5 l = X at hu
    cases hu with
    | nil => exact .inl ⟨rfl, rfl, List.length_eq_zero_iff.1 hN⟩
    | own a1 a2 a3 a4 a5 => exact .inr ⟨_, _, _, _, _, rfl, rfl, a2, a3, a4, a5⟩
  rcases hno v2 HB2 ho with ⟨rfl, rfl, rfl⟩ | ⟨gb, cap, rest, lo, hi, rfl, rfl, a2, a3, a4, a5⟩
  · refine o_l rfl (l_alloc zeroValue22 rfl rfl) ?_; intro g3 _
    refine o_l rfl (l_store sizeOf22 rfl rfl rfl (by repeat (first | exact UpB.head | refine UpB.tail ?_)) (by repeat (first | exact SetAt.head | refine SetAt.tail ?_)) (by omega)) ?_; intro _ _
    refine oN <| cR <| oX (e_load isAgg22 rfl (.inl M0) rfl) <| oX (e_mkif runUnderlying22 rfl rfl) <| oX (e_func rfl rfl) ?_
    refine o_l rfl (l_call call192 (sliceStable_0 (A := none) (cap := 0)) rfl rfl .nil) ?_
    rintro ⟨r, H'⟩ ⟨rfl, rfl⟩
    simp only [List.nil_append]
    refine oN <| cR <| oX (e_load isAgg22 rfl (.inl M0) rfl) <| oA rfl <| oN <| c_ret ?_
    refine WR.less (fun _ _ h => h) (List.nil_sublist _) ?_
    refine r_fn1 results137 rfl ?_
    exact .nil
  · skip
    refine o_l rfl (l_alloc zeroValue22 rfl rfl) ?_; intro g3 _
    refine o_l rfl (l_store sizeOf22 rfl rfl rfl (by repeat (first | exact UpB.head | refine UpB.tail ?_)) (by repeat (first | exact SetAt.head | refine SetAt.tail ?_)) (by omega)) ?_; intro _ _
    refine oN <| cR <| oX (e_load isAgg22 rfl (.inl M0) rfl) <| oX (e_mkif runUnderlying22 rfl rfl) <| oX (e_func rfl rfl) ?_
    have hsm : l.length ≤ 1 ∨ 2 ≤ l.length := by omega
    rcases hsm with h01 | h2
    · have hst := stable_small h01
      have hk : l.length = 0 ∨ l.length = 1 := by omega
      rcases hk with hk | hk
      · rw [hk] at a2 a3 ⊢
        refine o_l rfl (l_call call192 (sliceStable_0 (A := some ⟨gb, 0, none⟩) (cap := cap)) rfl rfl .nil) ?_
        rintro ⟨r, H'⟩ ⟨rfl, rfl⟩
        simp only [List.nil_append]
        refine oN <| cR <| oX (e_load isAgg22 rfl (.inl M0) rfl) <| oA rfl <| oN <| c_ret ?_
        refine WR.sel (.cons (.tail .head) .nil) ?_
        refine r_fn1 results137 rfl ?_
        rw [hst]
        exact .own (by rw [cells5_length, hk]) a2 a3 a4 a5
      · skip
        rw [hk] at a2 a3 ⊢
        refine o_l rfl (l_call call192 (sliceStable_1 (A := some ⟨gb, 0, none⟩) (cap := cap)) rfl rfl .nil) ?_
        rintro ⟨r, H'⟩ ⟨rfl, rfl⟩
        simp only [List.nil_append]
        refine oN <| cR <| oX (e_load isAgg22 rfl (.inl M0) rfl) <| oA rfl <| oN <| c_ret ?_
        refine WR.sel (.cons (.tail .head) .nil) ?_
        refine r_fn1 results137 rfl ?_
        rw [hst]
        exact .own (by rw [cells5_length, hk]) a2 a3 a4 a5
    · skip
      refine o_l rfl (l_call call192 (sliceStable_big (rest := rest) (l := l) (cap := cap) (lo := lo) (hi := hi) rfl (by omega) hl h2) rfl rfl (.cons .head (.cons .head .nil))) ?_
      rintro ⟨r, H'⟩ ⟨rfl, rfl⟩
      simp only [SH, List.cons_append, List.nil_append]
      refine oN <| cR <| oX (e_load isAgg22 rfl (.inl M0) rfl) <| oA rfl <| oN <| c_ret ?_
      refine WR.sel (.cons (.tail .head) .nil) ?_
      refine r_fn1 results137 rfl ?_
      exact .own (by rw [cells5_length, stable_length]) a2 a3 a4 a5
end Go.Proofs
namespace Go.Proofs
open Go Go.Sl Tryz
theorem sw_perm (l : List En) (i j : Nat) : (sw l i j).Perm l := by
  unfold sw
  split
  · rename_i h
    have h2 := Array.swap_perm (xs := l.toArray) (i := i) (j := j) (by simpa using h.1) (by simpa using h.2)
    rw [Array.perm_iff_toList_perm] at h2
    simpa [swapL] using h2
  · exact .refl _
theorem swR_perm (l : List En) (a b m : Nat) : (swR l a b m).Perm l := by
  induction m with
  | zero => exact .refl _
  | succ m ih => rw [swR]; exact (sw_perm ..).trans ih
theorem rotL_perm (m f : Nat) (l : List En) (i j : Nat) : (rotL m f l i j).Perm l := by
  induction f generalizing l i j with
  | zero => exact .refl _
  | succ f ih =>
    simp only [rotL]
    split
    · exact swR_perm ..
    · split
      · exact (ih ..).trans (swR_perm ..)
      · exact (ih ..).trans (swR_perm ..)
theorem insJ_perm (a j : Nat) (l : List En) : (insJ a j l).Perm l := by
  induction j generalizing l with
  | zero => exact .refl _
  | succ j ih =>
    simp only [insJ]
    split
    · exact (ih _).trans (sw_perm ..)
    · exact .refl _
theorem isortN_perm (a k : Nat) (l : List En) : (isortN a k l).Perm l := by
  induction k with
  | zero => exact .refl _
  | succ k ih => rw [isortN]; exact (insJ_perm ..).trans ih
theorem upS_perm (l : List En) (k c : Nat) : (upS l k c).Perm l := by
  induction c with
  | zero => exact .refl _
  | succ c ih => rw [upS]; exact (sw_perm ..).trans ih
theorem dnS_perm (l : List En) (k c : Nat) : (dnS l k c).Perm l := by
  induction c with
  | zero => exact .refl _
  | succ c ih => rw [dnS]; exact (sw_perm ..).trans ih
theorem symM_perm : ∀ (f : Nat) (l : List En) (a m b : Nat), (symM f l a m b).Perm l := by
  intro f
  induction f with
  | zero => intros; exact .refl _
  | succ f ih =>
    intro l a m b
    simp only [symM]
    split
    · exact upS_perm ..
    · split
      · exact dnS_perm ..
      · split <;> (repeat (first | exact .refl _ | exact rotL_perm .. | refine (ih ..).trans ?_ | split))
theorem isP_perm (n : Nat) : ∀ (f a : Nat) (l : List En), (isP n f a l).Perm l := by
  intro f
  induction f with
  | zero => intro a l; exact isortN_perm ..
  | succ f ih =>
    intro a l; simp only [isP]
    split
    · exact (ih ..).trans (isortN_perm ..)
    · exact isortN_perm ..
theorem mgP_perm (n s : Nat) : ∀ (f a : Nat) (l : List En), (mgP n s f a l).Perm l := by
  intro f
  induction f with
  | zero =>
    intro a l; simp only [mgP]
    split
    · exact symM_perm ..
    · exact .refl _
  | succ f ih =>
    intro a l; simp only [mgP]
    split
    · exact (ih ..).trans (symM_perm ..)
    · split
      · exact symM_perm ..
      · exact .refl _
theorem stM_perm (n : Nat) : ∀ (f s : Nat) (l : List En), (stM n f s l).Perm l := by
  intro f
  induction f with
  | zero => intros; exact .refl _
  | succ f ih =>
    intro s l; simp only [stM]
    split
    · exact (ih ..).trans (mgP_perm ..)
    · exact .refl _
theorem stable_perm (l : List En) : (stable l).Perm l := by rw [stable]; exact (stM_perm ..).trans (isP_perm ..)
end Go.Proofs
namespace Go.Proofs
open Go Go.Sl Tryz
set_option maxRecDepth 100000
set_option maxHeartbeats 1000000
theorem ints_0 {G : HP} {A : Option Addr} {cap : Nat} : CtrP Tryz.prog 191 [.slice A 0 cap] G (.tuple #[]) := fun w _ _ _ _ => by
  have h := Any.sort_Ints_none Tryz.laysInts A cap w
  refine h.mono ?_
  rintro e w' ⟨rfl, rfl⟩
  exact ⟨_, [], rfl, ⟨rfl, rfl⟩, (fun _ h => by cases h), by simp [keys], Fr.refl _ _, by simp [keys]⟩
theorem ints_is {G : HP} {g n cap lo hi : Nat} {l : List Int} {rest : List Value} {e : TypeId} (hn : l.length = n) (hf : n ≤ lo ∨ hi = 0) (hl : n < 4611686018427387904) :
    Ctr Tryz.prog 191 [.slice (some ⟨g, 0, none⟩) n cap] G [(g, VB .i64 l rest e lo hi)] (fun r H' => r = .tuple #[] ∧ H' = [(g, VB .i64 (srt l) rest e lo hi)]) := fun w _ hH _ _ => by
  subst hn
  have hb := hH _ (.head _)
  have h := Any.sort_Ints Tryz.laysInts g 0 cap l w (holds_row hb hf) (Array.getElem?_eq_some_iff.1 hb).1 hl
  refine h.mono ?_
  rintro e' w' ⟨rfl, m, os, hw⟩
  obtain ⟨h1, h2⟩ := post_put (l' := srt l) hb (srt_length l) hw
  exact ⟨_, _, rfl, ⟨rfl, rfl⟩, h1, by simp [keys], h2, fun k hk => .inl hk⟩
def lens (l : List En) : List Int := l.map fun x => (x.d.length : Int)
def widths (l : List En) : List Int := srt (distI (lens l))
theorem lens_take {l : List En} {i : Nat} (h : i < l.length) : distI (lens (l.take (i + 1))) = addN (distI (lens (l.take i))) (l[i].d.length : Int) := by
  have := distI_take (l := lens l) (i := i) (by simpa [lens] using h)
  simpa [lens, List.map_take] using this
theorem widths_nil : widths [] = [] := by simp [widths, lens, distI, srt]
theorem widths_is {G : HP} {v : Value} {l : List En} (h : EnS G v l) (hl : l.length ≤ 1000) (hd : ∀ x ∈ l, x.d.length ≤ 1000000000) :
    Ctr Tryz.prog 136 [v] G [] (fun r H' => Osl 3 1 r (widths l).length (V .i64 (widths l)) H') := by
  cases h with
  | none =>
    refine fn_enter 33 func136 rfl ntmps136 rfl ?_
    intro w0
    refine cR <| oA rfl <| oN <| cR <| oA rfl <| oN <| cR ?_
    refine o_l rfl (l_mkmap rfl .i64) ?_
    intro gm _
    refine oA rfl <| oN <| c_seq <| cR <| oM rfl <| oX (e_lenl runUnderlying22 rfl) <| oM rfl <| oN <| c_block ?_
    refine c_rounds 1 ?_
    refine cR <| oX (e_lss rfl rfl) <| oN <| c_seq <| c_else rfl ?_
    refine c_exit ?_; refine x_code ?_; refine x_upto ?_; refine x_here ?_
    refine n_code <| cR <| oM rfl ?_
    refine o_l rfl (l_call call191 ints_0 rfl rfl .nil) ?_
    rintro ⟨r, H'⟩ ⟨rfl, rfl⟩
    simp only [List.nil_append]
    refine oN <| cR <| oM rfl <| oA rfl <| oN <| c_ret ?_
    refine WR.less (fun _ _ h => h) (List.nil_sublist _) ?_
    refine r_fn1 results136 rfl ?_
    rw [widths_nil]
    exact .nil
  | @blk l L g off n cap e fr hm hn hc =>
    refine fn_enter 33 func136 rfl ntmps136 rfl ?_
    intro w0
    refine cR <| oA rfl <| oN <| cR <| oA rfl <| oN <| cR ?_
    refine o_l rfl (l_mkmap rfl .i64) ?_
    intro gm _
    refine oA rfl <| oN <| c_seq <| cR <| oM rfl <| oX (e_lenl runUnderlying22 rfl) <| oM rfl <| oN <| c_block ?_
    refine c_loop (X := Nat × Value × HP) (fun y => [(3, y.2.1), (4, .map (some gm)), (9, .slice (some ⟨g, off, none⟩) n cap), (10, .int .i64 n), (11, .int .i64 y.1)]) (fun y => (gm, Mo .i64 (MT (distI (lens (l.take y.1))))) :: y.2.2) (fun y => y.1 ≤ n ∧ Osl 3 1 y.2.1 (distI (lens (l.take y.1))).length (V .i64 (distI (lens (l.take y.1)))) y.2.2) (fun y => n - y.1) (0, .slice none 0 0, []) ⟨Nat.zero_le _, .nil⟩ (sub_cons rfl (sub_cons rfl (sub_cons rfl (sub_cons rfl (sub_cons rfl sub_nil))))) (.refl _) ?_
    rintro ⟨i, v', HB'⟩ ⟨hi, ho⟩
    simp only at hi ho ⊢
    refine cR <| oX (e_lss rfl rfl) <| oN <| c_seq ?_
    refine c_ifp rfl (fun h2 => ?_) (fun h2 => ?_)
    · have hi2 : i < l.length := by omega
      have hci := hc i hi2
      have hnx := lens_take hi2
      have hdi := hd l[i] (List.getElem_mem hi2)
      have hlen : (distI (lens (l.take i))).length ≤ 1000 := Nat.le_trans (distI_length _) (by simp [lens]; omega)
      generalize l[i] = x at hci hnx hdi
      obtain ⟨xv, xc, xh, xd, xo⟩ := x
      simp only [cE] at hci hnx hdi
      generalize hacc : distI (lens (l.take i)) = acc at ho hnx hlen ⊢
      refine c_skip <| n_code <| c_seq <| c_block <| cR <| oX (e_ian runUnderlying22 sizeOf56 rfl rfl (by omega)) <| oX (e_loada isAgg56 sizeOf56 rfl (.inr hm) hci) ?_
      refine o_l rfl (l_alloc zeroValue56 rfl rfl) ?_; intro g6 _
      refine o_l rfl (l_storea sizeOf56 rfl rfl rfl (by simp [Value.oneCell']) .head (.take (.take (.take (.take (.take .done))))) nofrs0) ?_
      intro _ _
      refine oN <| cR <| oX (e_fak 0 runUnderlying56 rfl sizeOf25 rfl rfl rfl) <| oX (e_fak 3 runUnderlying25 rfl sizeOf9 rfl rfl rfl) <| oX (e_load isAgg9 rfl (.inl M0) rfl) <| oX (e_lens runUnderlying9 rfl) <| oA rfl <| oN <| cR <| oM rfl <| oM rfl <| oX (e_lookMT runUnderlying311 runUnderlying3 zeroValue4 rfl rfl (.inl M1)) <| oX (e_not rfl) <| oN ?_
      refine c_if rfl (fun h3 => ?_) (fun h3 => ?_)
      · have h3' : ¬ ((xd.length : Int) ∈ acc) := by simpa using h3
        rw [show addN acc (xd.length : Int) = acc ++ [(xd.length : Int)] by simp [addN, h3']] at hnx
        refine cR <| oM rfl <| oM rfl ?_
        refine o_l rfl (l_mapup runUnderlying311 runUnderlying3 rfl rfl rfl (.tail .head)) ?_
        intro _ _
        rw [mset_MT h3']
        refine oN <| c_region <| oM rfl <| oM rfl ?_
        refine o_l rfl (l_bs1 runUnderlying99 sizeOf3 zeroValue3 rfl rfl rfl) ?_; intro g27 _
        refine o_l rfl (l_append (sz := 1) underlying99 (info_of typeInfo3) rfl rfl rfl rfl rfl rfl ho (List.perm_append_comm (l₁ := [_, _, _])) (.blk underlying99 (.inl M0) (.take .done) (by simp [Value.oneCell'])) (by show _ * 8 ≤ _; omega) (by omega)) ?_
        rintro ⟨v2, HB2⟩ ho2
        refine oA rfl <| o_nil <| n_block <| n_code <| c_region <| oX (e_addn rfl rfl (by simp only [inR]; omega)) <| oM rfl <| o_nil ?_
        refine n_round' (y := (i, v', HB')) (i + 1, v2, HB2) (by show n - (i + 1) < n - i; omega) ?_ (sub_cons rfl (sub_cons rfl (sub_cons rfl (sub_cons rfl (sub_cons rfl sub_nil))))) _ (List.perm_append_comm (l₂ := [_, _, _])) ?_
        · refine ⟨by show i + 1 ≤ n; omega, ?_⟩
          simp only [hnx]
          simpa using ho2
        · simp only [hnx]
          exact .cons _ (.cons _ (.cons_cons _ (List.Sublist.refl _)))
      · have h3' : (xd.length : Int) ∈ acc := by simpa using h3
        rw [show addN acc (xd.length : Int) = acc by simp [addN, h3']] at hnx
        refine c_skip <| n_block <| n_code <| c_region <| oX (e_addn rfl rfl (by simp only [inR]; omega)) <| oM rfl <| o_nil ?_
        refine n_round' (y := (i, v', HB')) (i + 1, v', HB') (by show n - (i + 1) < n - i; omega) ?_ (sub_cons rfl (sub_cons rfl (sub_cons rfl (sub_cons rfl (sub_cons rfl sub_nil))))) _ (.refl _) ?_
        · refine ⟨by show i + 1 ≤ n; omega, ?_⟩
          simp only [hnx]
          exact ho
        · simp only [hnx]
          exact .cons _ (List.Sublist.refl _)
    · skip
      have : i = l.length := by omega
      subst this
      have hlen : (distI (lens l)).length ≤ 1000 := Nat.le_trans (distI_length _) (by simp [lens]; omega)
      rw [List.take_length] at ho ⊢
      refine c_exit ?_; refine x_code ?_; refine x_upto ?_; refine x_here ?_
      refine n_code <| cR <| oM rfl ?_
      rcases ho.openV with ⟨rfl, rfl, h0⟩ | ⟨g2, cap2, rest, lo, hi, rfl, rfl, a2, a3, a4, a5⟩
      · refine o_l rfl (l_call call191 ints_0 rfl rfl .nil) ?_
        rintro ⟨r, H'⟩ ⟨rfl, rfl⟩
        simp only [List.nil_append]
        refine oN <| cR <| oM rfl <| oA rfl <| oN <| c_ret ?_
        refine WR.less (fun _ _ h => h) (List.nil_sublist _) ?_
        refine r_fn1 results136 rfl ?_
        rw [widths, h0, srt, List.mergeSort_nil]
        exact .nil
      · skip
        refine o_l rfl (l_call call191 (ints_is rfl (by omega) (by omega)) rfl rfl (.cons (.tail .head) .nil)) ?_
        rintro ⟨r, H'⟩ ⟨rfl, rfl⟩
        simp only [List.cons_append, List.nil_append]
        refine oN <| cR <| oM rfl <| oA rfl <| oN <| c_ret ?_
        refine WR.sel (.cons .head .nil) ?_
        refine r_fn1 results136 rfl ?_
        rw [show (distI (lens l)).length = (widths l).length by rw [widths, srt_length]] at a2 a3 ⊢
        exact .own (by simp) a2 a3 a4 a5
end Go.Proofs
namespace Go.Proofs
open Go Go.Sl Tryz Go.RowKit
set_option maxRecDepth 100000
theorem kind23 (w : World) : (Extern.Rtype.kind 23).run Tryz.prog w = .ok 11 w := by kernel_rfl
theorem k5 {n : Nat} (h : 2 ≤ n) : Lib.swapperK n Tryz.t23 11 = 5 := by
  have h0 : (n == 0) = false := by simp; omega
  have h1 : (n == 1) = false := by simp; omega
  simp only [Lib.swapperK, h0, h1, Bool.false_eq_true, if_false]
  rfl
theorem srt_of_sorted {l : List Int} {d' : Array Int} (hp : Sort.PermIn 0 l.toArray.size l.toArray d') (hs : Sort.SortedIn Sort.ltInt 0 l.toArray.size d') : d' = (srt l).toArray := by
  have h := Sort.sorted_unique_holds (lt := Sort.ltInt) Sort.swo_ltInt (fun x y h1 h2 => by simp only [Sort.ltInt, decide_eq_false_iff_not] at h1 h2; omega) l.toArray d' hp hs
  have e : (fun x y : Int => !Sort.ltInt y x) = fun x y => decide (x ≤ y) := by
    funext x y
    simp only [Sort.ltInt]
    by_cases h : x ≤ y
    · first | (simp [h]; done) | (simp [h]; omega)
    · first | (simp [h]; done) | (simp [h]; omega)
  rw [e] at h
  rw [srt, ← h]
/-- A closure that compares two numbers of a row that a captured variable holds. -/
def LessU (f : FuncId) : Prop := ∀ (blk off c Bs size : Nat) (W : World) (G : Nat → Int), W.cell? ⟨Bs, 0, none⟩ = some (.slice (some ⟨blk, off, none⟩) size c) → (∀ t, t < size → W.cell? ⟨blk, off + t, none⟩ = some (.int .u64 (G t))) → ∀ i j : Nat, i < size → j < size →
    Calls Tryz.prog f #[.int .i64 i, .int .i64 j, .pointer (some ⟨Bs, 0, none⟩)] W fun e w' => e = .returned (.bool (decide (G i < G j))) ∧ ∃ q, w' = W.drewN q
set_option maxHeartbeats 2000000 in
theorem less138 : LessU 138 := by
  intro blk off c Bs size W G hs hc i j hi hj
  have ci := hc i hi
  have cj := hc j hj
  go_enter func138, ntmps138
  go_wp2
  go_quiet (fail)
  go_wp2
  go_ret
  exact ⟨rfl, nq, rfl⟩
theorem slice_is {G : HP} {f g gs n cap lo hi : Nat} {l : List Int} {rest : List Value} {e : TypeId} (hf : LessU f) (eg : ∀ args w, (callFunc f args).run Tryz.prog w = .ok (.enter f args) w) (hn : l.length = n) (hfz : n ≤ lo ∨ hi = 0) (h2 : 2 ≤ n) (hl : n < 4611686018427387904) :
    Ctr Tryz.prog 34 [.iface 29 (.slice (some ⟨g, 0, none⟩) n cap), .func (.func f) #[] #[.pointer (some ⟨gs, 0, none⟩)]] G [(gs, C [.slice (some ⟨g, 0, none⟩) n cap] 29), (g, VB .u64 l rest e lo hi)] (fun r H' => r = .tuple #[] ∧ H' = [(gs, C [.slice (some ⟨g, 0, none⟩) n cap] 29), (g, VB .u64 (srt l) rest e lo hi)]) := fun w _ hH hnd _ => by
  subst hn
  have hb := hH (g, _) (.tail _ (.head _))
  have hs := hH (gs, _) (.head _)
  have hblk : g < w.heap.size := (Array.getElem?_eq_some_iff.1 hb).1
  have hgs : gs < w.heap.size := (Array.getElem?_eq_some_iff.1 hs).1
  have hne : gs ≠ g := fun e => by subst e; simp [keys] at hnd
  have hHo := holds_row hb hfz
  have hless : LessReads Tryz.prog f #[.pointer (some ⟨gs, 0, none⟩)] (Value.int .u64) Sort.ltInt g 0 l.length w := by
    intro m os dk hsz i j hi hj
    have hd : dk.size = l.toArray.size := by simpa using hsz
    refine hf g 0 cap gs l.length _ (fun t => dk[t]!) ?_ (fun t ht => ?_) i j hi hj
    · rw [sortWorld, Sort.cell?_grow _ _ _ (by simpa [Sort.ahead] using hgs), Sort.cell?_putRow_other _ _ g 0 dk _ (.inl hne)]
      exact cell_of (off := 0) hs
    · rw [sortWorld, Sort.cell?_grow _ _ _ (by simpa [Sort.ahead] using hblk)]
      exact Sort.cell?_putRow _ _ g 0 l.toArray dk hHo hd t (by rw [hsz]; exact ht)
  have hS := Any.sort_Slice_sorted Tryz.laysSlice 29 23 Tryz.t29 Tryz.t23 (info_of typeInfo29) rfl (by kernel_rfl) (info_of typeInfo23) 11 kind23 rfl isAgg23 (Value.int .u64) (fun _ => rfl) Sort.ltInt Sort.swo_ltInt f #[.pointer (some ⟨gs, 0, none⟩)] eg
    g 0 cap l.toArray (by simpa using h2) (by simpa using hl) 117 (by rw [List.size_toArray, k5 h2]; kernel_rfl) true
    (fun args W => run_callFunc_extern func117 (by kernel_rfl) (by kernel_rfl) (by kernel_rfl) (e := Extern.ReflectliteSwapper.swap true) (by kernel_rfl) args W) w (by simpa using hless) hHo hblk
  rw [List.size_toArray] at hS
  refine Calls.mono hS ?_
  rintro e' w' ⟨rfl, d', m, os, hp, hso, hw⟩
  rw [srt_of_sorted (l := l) (d' := d') (by simpa using hp) (by simpa using hso)] at hw
  obtain ⟨h1, h2⟩ := post_put (l' := srt l) hb (srt_length l) hw
  refine ⟨_, _, rfl, ⟨rfl, rfl⟩, ?_, by simpa [keys] using hnd, h2.mono (fun i hi => by simp [keys] at hi ⊢; exact .inr hi), fun k hk => .inl hk⟩
  intro p hp
  rcases List.mem_cons.1 hp with rfl | hp
  · rw [h2.keep _ hgs (by simpa using hne)]; exact hs
  · exact h1 p hp
theorem slice_01 {G : HP} {A : Option Addr} {n cap : Nat} {fn : Fn} {ua uc : Array Value} (h : n ≤ 1) :
    CtrP Tryz.prog 34 [.iface 29 (.slice A n cap), .func fn ua uc] G (.tuple #[]) := fun w _ _ _ _ => by
  have hk : ∃ f, Tryz.prog.funcs.findIdx? (·.name == "internal/reflectlite" ++ ".Swapper$" ++ toString (Lib.swapperK n Tryz.t23 11)) = some f := by
    match n, h with
    | 0, _ => exact ⟨113, by kernel_rfl⟩
    | 1, _ => exact ⟨114, by kernel_rfl⟩
  obtain ⟨f, hk⟩ := hk
  have hS := Any.sort_Slice_tiny Tryz.laysSlice 29 23 Tryz.t29 Tryz.t23 (info_of typeInfo29) rfl (by kernel_rfl) (info_of typeInfo23) 11 kind23 A n cap h f hk fn ua uc w
  refine Calls.mono hS ?_
  rintro e w' ⟨rfl, os, rfl⟩
  refine ⟨_, [], rfl, ⟨rfl, rfl⟩, (fun _ h => by cases h), by simp [keys], ⟨rfl, rfl, rfl, by simp, fun k hk _ => ?_⟩, by simp [keys]⟩
  exact Sort.heap_grow_old _ _ hk
end Go.Proofs
namespace Go.Proofs
open Go Go.Sl Tryz
set_option maxRecDepth 100000
set_option maxHeartbeats 1000000
def hcs (l : List En) : List Int := l.map fun x => x.h
def codes (l : List En) : List Int := srt (distI (hcs l))
theorem hcs_take {l : List En} {i : Nat} (h : i < l.length) : distI (hcs (l.take (i + 1))) = addN (distI (hcs (l.take i))) l[i].h := by
  have := distI_take (l := hcs l) (i := i) (by simpa [hcs] using h)
  simpa [hcs, List.map_take] using this
theorem codes_nil : codes [] = [] := by simp [codes, hcs, distI, srt]
theorem srt_small {l : List Int} (h : l.length ≤ 1) : srt l = l := by
  match l, h with
  | [], _ => simp [srt]
  | [a], _ => simp [srt]
theorem codes_is {G : HP} {v : Value} {l : List En} (h : EnS G v l) (hl : l.length ≤ 1000) :
    Ctr Tryz.prog 72 [v] G [] (fun r H' => Osl 23 1 r (codes l).length (V .u64 (codes l)) H') := by
  cases h with
  | none =>
    refine fn_enter 36 func72 rfl ntmps72 rfl ?_
    intro w0
    refine cR <| oA rfl <| oN <| cR ?_
    refine o_l rfl (l_alloc zeroValue29 rfl rfl) ?_; intro g3 _
    refine oN <| cR ?_
    refine o_l rfl (l_mkmap rfl .u64) ?_
    intro gm _
    refine oA rfl <| oN <| c_seq <| cR <| oM rfl <| oX (e_lenl runUnderlying22 rfl) <| oM rfl <| oN <| c_block ?_
    refine c_rounds 1 ?_
    refine cR <| oX (e_lss rfl rfl) <| oN <| c_seq <| c_else rfl ?_
    refine c_exit ?_; refine x_code ?_; refine x_upto ?_; refine x_here ?_
    refine n_code <| cR ?_
    refine oX (e_load isAgg29 rfl (by first | exact .inr (by assumption) | exact .inl (by repeat (first | exact List.Mem.head _ | refine List.Mem.tail _ ?_))) rfl) ?_
    refine oX (e_mkif runUnderlying29 rfl rfl) <| oX (e_func rfl rfl) ?_
    refine o_l rfl (l_call call34 (slice_01 (by decide)) rfl rfl .nil) ?_
    rintro ⟨r, H'⟩ ⟨rfl, rfl⟩
    simp only [List.nil_append]
    refine oN <| cR ?_
    refine oX (e_load isAgg29 rfl (by first | exact .inr (by assumption) | exact .inl (by repeat (first | exact List.Mem.head _ | refine List.Mem.tail _ ?_))) rfl) ?_
    refine oA rfl <| oN <| c_ret ?_
    refine WR.less (fun _ _ h => h) (List.nil_sublist _) ?_
    refine r_fn1 results72 rfl ?_
    rw [codes_nil]
    exact .nil
  | @blk l L g off n cap e fr hm hn hc =>
    refine fn_enter 36 func72 rfl ntmps72 rfl ?_
    intro w0
    refine cR <| oA rfl <| oN <| cR ?_
    refine o_l rfl (l_alloc zeroValue29 rfl rfl) ?_; intro g3 _
    refine oN <| cR ?_
    refine o_l rfl (l_mkmap rfl .u64) ?_
    intro gm _
    refine oA rfl <| oN <| c_seq <| cR <| oM rfl <| oX (e_lenl runUnderlying22 rfl) <| oM rfl <| oN <| c_block ?_
    refine c_loop (X := Nat × Value × HP) (fun y => [(3, .pointer (some ⟨g3, 0, none⟩)), (4, .map (some gm)), (8, .slice (some ⟨g, off, none⟩) n cap), (9, .int .i64 n), (10, .int .i64 y.1)]) (fun y => (gm, Mo .u64 (MT (distI (hcs (l.take y.1))))) :: (g3, C [y.2.1] 29) :: y.2.2) (fun y => y.1 ≤ n ∧ Osl 23 1 y.2.1 (distI (hcs (l.take y.1))).length (V .u64 (distI (hcs (l.take y.1)))) y.2.2) (fun y => n - y.1) (0, .slice none 0 0, []) ⟨Nat.zero_le _, .nil⟩ (sub_cons rfl (sub_cons rfl (sub_cons rfl (sub_cons rfl (sub_cons rfl sub_nil))))) (.refl _) ?_
    rintro ⟨i, v', HB'⟩ ⟨hi, ho⟩
    simp only at hi ho ⊢
    refine cR <| oX (e_lss rfl rfl) <| oN <| c_seq ?_
    refine c_ifp rfl (fun h2 => ?_) (fun h2 => ?_)
    · have hi2 : i < l.length := by omega
      have hci := hc i hi2
      have hnx := hcs_take hi2
      have hlen : (distI (hcs (l.take i))).length ≤ 1000 := Nat.le_trans (distI_length _) (by simp [hcs]; omega)
      generalize l[i] = x at hci hnx
      obtain ⟨xv, xc, xh, xd, xo⟩ := x
      simp only [cE] at hci hnx
      generalize hacc : distI (hcs (l.take i)) = acc at ho hnx hlen ⊢
      refine c_skip <| n_code <| c_seq <| c_block <| cR <| oX (e_ian runUnderlying22 sizeOf56 rfl rfl (by omega)) <| oX (e_loada isAgg56 sizeOf56 rfl (.inr hm) hci) ?_
      refine o_l rfl (l_alloc zeroValue56 rfl rfl) ?_; intro g6 _
      refine o_l rfl (l_storea sizeOf56 rfl rfl rfl (by simp [Value.oneCell']) .head (.take (.take (.take (.take (.take .done))))) nofrs0) ?_
      intro _ _
      refine oN <| cR <| oM rfl <| oX (e_fak 0 runUnderlying56 rfl sizeOf25 rfl rfl rfl) <| oX (e_fak 2 runUnderlying25 rfl sizeOf23 rfl rfl rfl) <| oX (e_load isAgg23 rfl (.inl M0) rfl) <| oX (e_lookMT runUnderlying227 runUnderlying23 zeroValue4 rfl rfl (.inl M1)) <| oX (e_not rfl) <| oN ?_
      refine c_if rfl (fun h3 => ?_) (fun h3 => ?_)
      · have h3' : ¬ (xh ∈ acc) := by simpa using h3
        rw [show addN acc xh = acc ++ [xh] by simp [addN, h3']] at hnx
        refine cR <| oM rfl <| oX (e_fak 0 runUnderlying56 rfl sizeOf25 rfl rfl rfl) <| oX (e_fak 2 runUnderlying25 rfl sizeOf23 rfl rfl rfl) <| oX (e_load isAgg23 rfl (.inl M0) rfl) ?_
        refine o_l rfl (l_mapup runUnderlying227 runUnderlying23 rfl rfl rfl (.tail .head)) ?_
        intro _ _
        rw [mset_MT h3']
        refine oN <| c_region ?_
        refine oX (e_load isAgg29 rfl (by first | exact .inr (by assumption) | exact .inl (by repeat (first | exact List.Mem.head _ | refine List.Mem.tail _ ?_))) rfl) ?_
        refine oX (e_fak 0 runUnderlying56 rfl sizeOf25 rfl rfl rfl) <| oX (e_fak 2 runUnderlying25 rfl sizeOf23 rfl rfl rfl) <| oX (e_load isAgg23 rfl (.inl M0) rfl) ?_
        refine o_l rfl (l_bs1 runUnderlying29 sizeOf23 zeroValue23 rfl rfl rfl) ?_; intro g28 _
        refine o_l rfl (l_append (sz := 1) underlying29 (info_of typeInfo23) rfl rfl rfl rfl rfl rfl ho (List.perm_append_comm (l₁ := [_, _, _, _])) (.blk underlying29 (.inl M0) (.take .done) (by simp [Value.oneCell'])) (by show _ * 8 ≤ _; omega) (by omega)) ?_
        rintro ⟨v2, HB2⟩ ho2
        refine o_perm (List.perm_append_comm (l₂ := [_, _, _, _])) ?_
        refine o_l rfl (l_store sizeOf29 rfl rfl ho2.one (.tail (.tail (.tail .head))) .head (by omega)) ?_
        intro _ _
        refine o_nil <| n_block <| n_code <| c_region <| oX (e_addn rfl rfl (by simp only [inR]; omega)) <| oM rfl <| o_nil ?_
        refine n_round' (y := (i, v', HB')) (i + 1, v2, HB2) (by show n - (i + 1) < n - i; omega) ?_ (sub_cons rfl (sub_cons rfl (sub_cons rfl (sub_cons rfl (sub_cons rfl sub_nil))))) _ (.refl _) ?_
        · refine ⟨by show i + 1 ≤ n; omega, ?_⟩
          simp only [hnx]
          simpa using ho2
        · simp only [hnx]
          exact .cons _ (.cons _ (.cons_cons _ (.cons_cons _ (List.Sublist.refl _))))
      · have h3' : xh ∈ acc := by simpa using h3
        rw [show addN acc xh = acc by simp [addN, h3']] at hnx
        refine c_skip <| n_block <| n_code <| c_region <| oX (e_addn rfl rfl (by simp only [inR]; omega)) <| oM rfl <| o_nil ?_
        refine n_round' (y := (i, v', HB')) (i + 1, v', HB') (by show n - (i + 1) < n - i; omega) ?_ (sub_cons rfl (sub_cons rfl (sub_cons rfl (sub_cons rfl (sub_cons rfl sub_nil))))) _ (.refl _) ?_
        · refine ⟨by show i + 1 ≤ n; omega, ?_⟩
          simp only [hnx]
          exact ho
        · simp only [hnx]
          exact .cons _ (List.Sublist.refl _)
    · skip
      have : i = l.length := by omega
      subst this
      have hlen : (distI (hcs l)).length ≤ 1000 := Nat.le_trans (distI_length _) (by simp [hcs]; omega)
      rw [List.take_length] at ho ⊢
      refine c_exit ?_; refine x_code ?_; refine x_upto ?_; refine x_here ?_
      refine n_code <| cR ?_
      refine oX (e_load isAgg29 rfl (by first | exact .inr (by assumption) | exact .inl (by repeat (first | exact List.Mem.head _ | refine List.Mem.tail _ ?_))) rfl) ?_
      refine oX (e_mkif runUnderlying29 rfl rfl) <| oX (e_func rfl rfl) ?_
      rcases ho.openV with ⟨rfl, rfl, h0⟩ | ⟨g2, cap2, rest, lo, hi, rfl, rfl, a2, a3, a4, a5⟩
      · refine o_l rfl (l_call call34 (slice_01 (by decide)) rfl rfl .nil) ?_
        rintro ⟨r, H'⟩ ⟨rfl, rfl⟩
        simp only [List.nil_append]
        refine oN <| cR ?_
        refine oX (e_load isAgg29 rfl (by first | exact .inr (by assumption) | exact .inl (by repeat (first | exact List.Mem.head _ | refine List.Mem.tail _ ?_))) rfl) ?_
        refine oA rfl <| oN <| c_ret ?_
        refine WR.less (fun _ _ h => h) (List.nil_sublist _) ?_
        refine r_fn1 results72 rfl ?_
        rw [codes, h0, srt, List.mergeSort_nil]
        exact .nil
      · skip
        by_cases h1 : (distI (hcs l)).length ≤ 1
        · skip
          refine o_l rfl (l_call call34 (slice_01 h1) rfl rfl .nil) ?_
          rintro ⟨r, H'⟩ ⟨rfl, rfl⟩
          simp only [List.nil_append]
          refine oN <| cR ?_
          refine oX (e_load isAgg29 rfl (by first | exact .inr (by assumption) | exact .inl (by repeat (first | exact List.Mem.head _ | refine List.Mem.tail _ ?_))) rfl) ?_
          refine oA rfl <| oN <| c_ret ?_
          refine WR.sel (.cons (.tail (.tail .head)) .nil) ?_
          refine r_fn1 results72 rfl ?_
          rw [codes, srt_small h1]
          exact .own (by simp) a2 a3 a4 a5
        · skip
          refine o_l rfl (l_call call34 (slice_is less138 (fun _ _ => call138 _ _) rfl (by omega) (by omega) (by omega)) rfl rfl (.cons (.tail .head) (.cons (.tail .head) .nil))) ?_
          rintro ⟨r, H'⟩ ⟨rfl, rfl⟩
          simp only [List.cons_append, List.nil_append]
          refine oN <| cR <| oX (e_load isAgg29 rfl (.inl M0) rfl) <| oA rfl <| oN <| c_ret ?_
          refine WR.sel (.cons (.tail .head) .nil) ?_
          refine r_fn1 results72 rfl ?_
          rw [show (distI (hcs l)).length = (codes l).length by rw [codes, srt_length]] at a2 a3 ⊢
          exact .own (by simp) a2 a3 a4 a5
end Go.Proofs
namespace Go.Proofs
open Go Go.Sl Tryz
set_option maxRecDepth 100000
set_option maxHeartbeats 1000000
def rowsB (st : List En) (n : Int) : List UInt8 := (st.filter fun x => decide ((x.d.length : Int) = n)).flatMap fun x => x.d ++ lowB x.o 8
def partB (st : List En) (n : Int) : List UInt8 := lowB (n + 8) 4 ++ (lowB ((rowsB st n).length : Nat) 8 ++ rowsB st n)
def sortedB (l : List En) : List UInt8 := lowB ((widths l).length : Nat) 4 ++ (widths l).flatMap (partB (stable l))
theorem rowsB_take {st : List En} {n : Int} {i : Nat} (h : i < st.length) : rowsB (st.take (i + 1)) n = rowsB (st.take i) n ++ if (st[i].d.length : Int) = n then st[i].d ++ lowB st[i].o 8 else [] := by
  simp only [rowsB]
  rw [List.take_succ_eq_append_getElem h, List.filter_append, List.flatMap_append]
  congr 1
  by_cases hc : (st[i].d.length : Int) = n <;> simp [hc]
theorem rowsB_length (st : List En) (n : Int) (k : Nat) (hd : ∀ x ∈ st, x.d.length ≤ k) : (rowsB st n).length ≤ st.length * (k + 8) := by
  induction st with
  | nil => simp [rowsB]
  | cons x st ih =>
    have h1 := ih (fun y hy => hd y (.tail _ hy))
    have h2 := hd x (.head _)
    have e : rowsB (x :: st) n = (if (x.d.length : Int) = n then x.d ++ lowB x.o 8 else []) ++ rowsB st n := by
      simp only [rowsB, List.filter_cons]
      by_cases hc : (x.d.length : Int) = n <;> simp [hc]
    rw [e, List.length_append, List.length_cons, Nat.add_mul]
    have : (if (x.d.length : Int) = n then x.d ++ lowB x.o 8 else []).length ≤ k + 8 := by
      split
      · simp [lowB_length]; omega
      · simp
    omega
theorem partB_length (st : List En) (n : Int) (hd : ∀ x ∈ st, x.d.length ≤ 200) (hl : st.length ≤ 100) : (partB st n).length ≤ 21000 := by
  have := rowsB_length st n 200 hd
  have h2 : st.length * 208 ≤ 100 * 208 := Nat.mul_le_mul_right _ hl
  simp only [partB, List.length_append, lowB_length]
  omega
theorem flat_length (W : List Int) (f : Int → List UInt8) (k : Nat) (h : ∀ n, (f n).length ≤ k) : (W.flatMap f).length ≤ W.length * k := by
  induction W with
  | nil => simp
  | cons a W ih => simp only [List.flatMap_cons, List.length_append, List.length_cons, Nat.add_mul]; have := h a; omega
theorem flat_take {W : List Int} {f : Int → List UInt8} {i : Nat} (h : i < W.length) : (W.take (i + 1)).flatMap f = (W.take i).flatMap f ++ f (gd W i) := by
  rw [List.take_succ_eq_append_getElem h, List.flatMap_append]
  simp [gd, h]
theorem widths_mem {l : List En} {a : Int} : a ∈ widths l ↔ ∃ x ∈ l, (x.d.length : Int) = a := by
  rw [widths, srt_mem, distI_mem, lens, List.mem_map]
theorem widths_len (l : List En) : (widths l).length ≤ l.length := by
  rw [widths, srt_length]
  exact Nat.le_trans (distI_length _) (by simp [lens])
theorem gd_mem {l : List Int} {i : Nat} (h : i < l.length) : gd l i ∈ l := by
  have : gd l i = l[i] := by simp [gd, h]
  rw [this]; exact List.getElem_mem h
theorem sortedB_length (l : List En) (hd : ∀ x ∈ l, x.d.length ≤ 200) (hl : l.length ≤ 100) : (sortedB l).length ≤ 2200000 := by
  have h1 := flat_length (widths l) (partB (stable l)) 21000 (fun n => partB_length _ n (fun x hx => hd x ((stable_perm l).mem_iff.1 hx)) (by rw [stable_length]; exact hl))
  have h2 := widths_len l
  have h3 : (widths l).length * 21000 ≤ 100 * 21000 := Nat.mul_le_mul_right _ (by omega)
  simp only [sortedB, List.length_append, lowB_length]
  omega
end Go.Proofs
namespace Go.Proofs
open Go Go.Sl Tryz
set_option maxRecDepth 100000
set_option maxHeartbeats 2000000
theorem sortedBytes_is {G HB : HP} {v vl : Value} {l : List En} {m : Nat} {xs : List Value} (ho : Osl 5 1 v m xs HB) (h : EnS G vl l) (hl : l.length ≤ 100) (hd : ∀ x ∈ l, x.d.length ≤ 200) (hm : m ≤ 500000000) :
    Ctr Tryz.prog 71 [v, vl] G HB (fun r H' => Osl 5 1 r (m + (sortedB l).length) (xs ++ B (sortedB l)) H') := by
  refine fn_enter 62 func71 rfl ntmps71 rfl ?_
  intro w0
  refine cR <| oA rfl <| oN <| cR <| oM rfl ?_
  refine o_l rfl (l_call call136 (widths_is h (by omega) (fun x hx => by have := hd x hx; omega)) rfl rfl .nil) ?_
  rintro ⟨vw, Hw⟩ hw
  rcases hw.openV with ⟨rfl, rfl, h0⟩ | ⟨gw, capw, restw, low, hiw, rfl, rfl, a2, a3, a4, a5⟩
  · simp only [List.nil_append]
    refine oA rfl <| oN <| cR <| oM rfl <| oM rfl <| oX (e_lenl runUnderlying99 rfl) <| oX (e_convn runUnderlying3 runUnderlying23 rfl (by simp only [inR]; omega)) ?_
    refine o_l rfl (l_call call73 (low_is (k := 4) ho (by decide) (by omega)) rfl rfl (by simpa using Sel.app HB [])) ?_
    rintro ⟨v1, HB1⟩ ho1
    simp only [List.append_nil]
    refine oA rfl <| oN <| cR <| oM rfl ?_
    refine o_l rfl (l_call call137 (byDigest_is h (by omega)) rfl rfl .nil) ?_
    rintro ⟨vs, Hs⟩ hs
    refine oA rfl <| oN <| c_seq <| cR <| oM rfl <| oX (e_lenl runUnderlying99 rfl) <| oM rfl <| oN <| c_block ?_
    refine c_rounds 1 ?_
    refine cR <| oX (e_lss rfl rfl) <| oN <| c_seq <| c_else rfl ?_
    refine c_exit ?_; refine x_code ?_; refine x_upto ?_; refine x_here ?_
    refine n_code <| cR <| oM rfl <| oA rfl <| oN <| c_ret ?_
    refine WR.less (fun _ _ h => h) (List.sublist_append_right _ _) ?_
    refine r_fn1 results71 rfl ?_
    have e : sortedB l = lowB 0 4 := by simp [sortedB, h0]
    rw [e, lowB_length]
    exact ho1
  · skip
    have hwl := widths_len l
    refine oA rfl <| oN <| cR <| oM rfl <| oM rfl <| oX (e_lenl runUnderlying99 rfl) <| oX (e_convn runUnderlying3 runUnderlying23 rfl (by simp only [inR]; omega)) <| o_perm (List.perm_append_comm (l₁ := [_])) ?_
    refine o_l rfl (l_call call73 (low_is (k := 4) ho (by decide) (by omega)) rfl rfl (Sel.app HB _)) ?_
    rintro ⟨v1, HB1⟩ ho1
    simp only at ho1 ⊢
    refine oA rfl <| oN <| cR <| oM rfl ?_
    refine o_l rfl (l_call call137 (byDigest_is h (by omega)) rfl rfl .nil) ?_
    rintro ⟨vs, Hs⟩ hs
    simp only at hs ⊢
    have hno : ∀ u w, Osl 56 5 u l.length (cells5 (stable l)) w → (u = .slice none 0 0 ∧ w = [] ∧ l = []) ∨ ∃ g cap rest lo hi, u = .slice (some ⟨g, 0, none⟩) l.length cap ∧ w = [(g, .cells (cells5 (stable l) ++ rest).toArray 56 (lo, hi))] ∧ l.length ≤ cap ∧ cap < 9223372036854775808 := by
      intro u w hu
      generalize hN : l.length = N at hu
      generalize hX : cells5 (stable l) = X at hu
      cases hu with
      | nil => exact .inl ⟨rfl, rfl, List.length_eq_zero_iff.1 hN⟩
      | own b1 b2 b3 b4 b5 => exact .inr ⟨_, _, _, _, _, rfl, rfl, b3, b4⟩
    rcases hno vs Hs hs with ⟨rfl, rfl, hnil⟩ | ⟨gq, capd, restd, lod, hid, rfl, rfl, b3, b4⟩
    · have hw0 : (widths l).length = 0 := by subst hnil; simpa using hwl
      rw [hw0] at ho1 ⊢
      refine oA rfl <| oN <| c_seq <| cR <| oM rfl <| oX (e_lenl runUnderlying99 rfl) <| oM rfl <| oN <| c_block ?_
      refine c_rounds 1 ?_
      refine cR <| oX (e_lss rfl rfl) <| oN <| c_seq <| c_else rfl ?_
      refine c_exit ?_; refine x_code ?_; refine x_upto ?_; refine x_here ?_
      refine n_code <| cR <| oM rfl <| oA rfl <| oN <| c_ret ?_
      refine WR.less (fun _ _ h => h) (List.sublist_append_left HB1 [_]) ?_
      refine r_fn1 results71 rfl ?_
      have e : sortedB l = lowB 0 4 := by simp [sortedB, List.length_eq_zero_iff.1 hw0]
      rw [e, lowB_length]
      simpa using ho1
    · skip
      have hst : (stable l).length = l.length := stable_length l
      have hd' : ∀ x ∈ stable l, x.d.length ≤ 200 := fun x hx => hd x ((stable_perm l).mem_iff.1 hx)
      refine oA rfl <| oN <| c_seq <| cR <| oM rfl <| oX (e_lenl runUnderlying99 rfl) <| oM rfl <| oN <| c_block ?_
      refine c_loop (X := Nat × Value × HP) (fun y => [(0, y.2.1), (6, .slice (some ⟨gq, 0, none⟩) l.length capd), (21, .slice (some ⟨gw, 0, none⟩) (widths l).length capw), (22, .int .i64 (widths l).length), (23, .int .i64 y.1)]) (fun y => (gq, .cells (cells5 (stable l) ++ restd).toArray 56 (lod, hid)) :: (gw, VB .i64 (widths l) restw 3 low hiw) :: y.2.2)
        (fun y => y.1 ≤ (widths l).length ∧ Osl 5 1 y.2.1 (m + 4 + (((widths l).take y.1).flatMap (partB (stable l))).length) (xs ++ B (lowB ((widths l).length : Nat) 4) ++ B (((widths l).take y.1).flatMap (partB (stable l)))) y.2.2) (fun y => (widths l).length - y.1) (0, v1, HB1) ⟨Nat.zero_le _, by simpa [B] using ho1⟩ (sub_cons rfl (sub_cons rfl (sub_cons rfl (sub_cons rfl (sub_cons rfl sub_nil))))) (List.Perm.cons _ (List.perm_append_comm (l₂ := [_]))) ?_
      rintro ⟨i, v', HB'⟩ ⟨hi, ho'⟩
      simp only at hi ho' ⊢
      refine cR <| oX (e_lss rfl rfl) <| oN <| c_seq ?_
      refine c_ifp rfl (fun h2 => ?_) (fun h2 => ?_)
      · have hi2 : i < (widths l).length := by omega
        have hnx := flat_take (f := partB (stable l)) hi2
        obtain ⟨xw, hxw, hwe⟩ := widths_mem.1 (gd_mem hi2)
        have hxd := hd xw hxw
        have hfl := flat_length ((widths l).take i) (partB (stable l)) 21000 (fun n => partB_length _ n hd' (by omega))
        have hfl2 : ((widths l).take i).length * 21000 ≤ 100 * 21000 := Nat.mul_le_mul_right _ (by simp; omega)
        generalize hwi : gd (widths l) i = wi at hnx hwe
        refine c_skip <| n_code <| c_seq <| c_block <| cR <| oX (e_ian runUnderlying99 sizeOf3 rfl rfl (by omega)) ?_
        refine oX (e_ld isAgg3 rfl (by first | exact .inr (by assumption) | exact .inl (by repeat (first | exact List.Mem.head _ | refine List.Mem.tail _ ?_))) (by omega)) ?_
        refine oA rfl <| oN <| cR <| oA rfl <| oN <| c_seq <| cR <| oM rfl <| oX (e_lenl runUnderlying22 rfl) <| oM rfl <| oN <| c_block ?_
        rw [hwi]
        refine c_loop (X := Nat × Value × HP) (fun z => [(0, v'), (6, .slice (some ⟨gq, 0, none⟩) l.length capd), (8, .int .i64 wi), (9, z.2.1), (21, .slice (some ⟨gw, 0, none⟩) (widths l).length capw), (22, .int .i64 (widths l).length), (23, .int .i64 i), (27, .slice (some ⟨gq, 0, none⟩) l.length capd), (28, .int .i64 l.length), (29, .int .i64 z.1)])
          (fun z => (gq, .cells (cells5 (stable l) ++ restd).toArray 56 (lod, hid)) :: (gw, VB .i64 (widths l) restw 3 low hiw) :: (z.2.2 ++ HB'))
          (fun z => z.1 ≤ l.length ∧ Osl 5 1 z.2.1 (rowsB ((stable l).take z.1) wi).length (B (rowsB ((stable l).take z.1) wi)) z.2.2) (fun z => l.length - z.1) (0, .slice none 0 0, []) ⟨Nat.zero_le _, .nil⟩ (sub_cons rfl (sub_cons rfl (sub_cons rfl (sub_cons rfl (sub_cons rfl (sub_cons rfl (sub_cons rfl (sub_cons rfl (sub_cons rfl (sub_cons rfl sub_nil)))))))))) (.refl _) ?_
        rintro ⟨j, vr, HR⟩ ⟨hj, hr⟩
        simp only at hj hr ⊢
        refine cR <| oX (e_lss rfl rfl) <| oN <| c_seq ?_
        refine c_ifp rfl (fun h4 => ?_) (fun h4 => ?_)
        · have hj2 : j < (stable l).length := by omega
          have hcut : CutL (cells5 (stable l) ++ restd) (0 + j * 5) 5 (cE (stable l)[j]) := by rw [Nat.zero_add]; exact cells5_cut hj2 restd
          have hrx := rowsB_take (n := wi) hj2
          have hxj := hd' _ (List.getElem_mem hj2)
          have hrl := rowsB_length ((stable l).take j) wi 200 (fun x hx => hd' x (List.mem_of_mem_take hx))
          have hrl2 : ((stable l).take j).length * 208 ≤ 100 * 208 := Nat.mul_le_mul_right _ (by simp; omega)
          generalize (stable l)[j] = x at hcut hrx hxj
          obtain ⟨xv, xc, xh, xd, xo⟩ := x
          simp only [cE] at hcut hrx hxj
          refine c_skip <| n_code <| c_seq <| c_block <| cR <| oX (e_ian runUnderlying22 sizeOf56 rfl rfl (by omega)) <| oX (e_loada isAgg56 sizeOf56 rfl (.inl M0) hcut) ?_
          refine o_l rfl (l_alloc zeroValue56 rfl rfl) ?_; intro g11 _
          refine o_l rfl (l_storea sizeOf56 rfl rfl rfl (by simp [Value.oneCell']) .head (.take (.take (.take (.take (.take .done))))) nofrs0) ?_
          intro _ _
          refine oN <| cR <| oX (e_fak 0 runUnderlying56 rfl sizeOf25 rfl rfl rfl) <| oX (e_fak 3 runUnderlying25 rfl sizeOf9 rfl rfl rfl) <| oX (e_load isAgg9 rfl (.inl M0) rfl) <| oX (e_lens runUnderlying9 rfl) <| oM rfl <| oX (e_eql rfl rfl) <| oN ?_
          refine c_ifp rfl (fun h5 => ?_) (fun h5 => ?_)
          · rw [if_pos h5] at hrx
            refine c_regiond ([(g11, C [.int .u64 xv, .int .u64 xc, .int .u64 xh, S xd, .int .u64 xo] 56)]) (by kernel_rfl) (.cons_cons _ (List.nil_sublist _)) <| dX 0 rfl (e_move rfl) <| dX 1 rfl (e_fak 0 runUnderlying56 rfl sizeOf25 rfl rfl rfl) <| dX 2 rfl (e_fak 3 runUnderlying25 rfl sizeOf9 rfl rfl rfl) <| dX 3 rfl (e_load isAgg9 rfl (.inl M0) rfl) <| dX 5 rfl (e_fak 4 runUnderlying56 rfl sizeOf23 rfl rfl rfl) <| dX 6 rfl (e_load isAgg23 rfl (.inl M0) rfl) ?_
            refine d_l 4 (by kernel_rfl) rfl rfl (l_append (sz := 1) (HB := HR) underlying72 (info_of typeInfo5) rfl rfl rfl rfl rfl rfl hr (perm_mid [_, _, _] HR HB') (.str underlying9 rfl) (by show _ * 1 ≤ _; omega) (by omega)) (by first | exact fun _ _ => hs_nil | (intro y hy p hp; simp only [List.mem_cons, List.mem_append, List.not_mem_nil, or_false, false_or] at hp ⊢; first | exact hp.elim | (simp only [hp, true_or, or_true]) | (rcases hp with rfl | rfl | rfl <;> simp))) ?_
            rintro ⟨v2, HR2⟩ hr2
            simp only at hr2 ⊢
            refine d_l 7 (by kernel_rfl) rfl rfl (l_call call73 (low_is (k := 8) hr2 (by decide) (by omega)) rfl rfl (Sel.app HR2 _)) (by first | exact fun _ _ => hs_nil | (intro y hy p hp; simp only [List.mem_cons, List.mem_append, List.not_mem_nil, or_false, false_or] at hp ⊢; first | exact hp.elim | (simp only [hp, true_or, or_true]) | (rcases hp with rfl | rfl | rfl <;> simp))) ?_
            rintro ⟨v3, HR3⟩ hr3
            simp only at hr3 ⊢
            refine dX 8 rfl (e_assign rfl) <| dN <| n_block <| n_code <| c_region <| oX (e_addn rfl rfl (by simp only [inR]; omega)) <| oM rfl <| o_nil ?_
            refine n_round' (y := (j, vr, HR)) (j + 1, v3, HR3) (by show l.length - (j + 1) < l.length - j; omega) ⟨by show j + 1 ≤ l.length; omega, ?_⟩ (sub_cons rfl (sub_cons rfl (sub_cons rfl (sub_cons rfl (sub_cons rfl (sub_cons rfl (sub_cons rfl (sub_cons rfl (sub_cons rfl (sub_cons rfl sub_nil)))))))))) _ (perm_mid [_, _, _] HR3 HB').symm (.cons _ (List.Sublist.refl _))
            simp only [hrx]
            rw [List.length_append, List.length_append, lowB_length, B_append, B_append, ← List.append_assoc, ← Nat.add_assoc]
            exact hr3
          · rw [if_neg h5, List.append_nil] at hrx
            refine c_skip <| n_block <| n_code <| c_region <| oX (e_addn rfl rfl (by simp only [inR]; omega)) <| oM rfl <| o_nil ?_
            refine n_round' (y := (j, vr, HR)) (j + 1, vr, HR) (by show l.length - (j + 1) < l.length - j; omega) ⟨by show j + 1 ≤ l.length; omega, ?_⟩ (sub_cons rfl (sub_cons rfl (sub_cons rfl (sub_cons rfl (sub_cons rfl (sub_cons rfl (sub_cons rfl (sub_cons rfl (sub_cons rfl (sub_cons rfl sub_nil)))))))))) _ (.refl _) (.cons _ (List.Sublist.refl _))
            simp only [hrx]
            exact hr
        · skip
          have hje : (stable l).take j = stable l := List.take_of_length_le (by omega)
          rw [hje] at hr
          have hrl := rowsB_length (stable l) wi 200 hd'
          have hrl2 : (stable l).length * 208 ≤ 100 * 208 := Nat.mul_le_mul_right _ (by omega)
          refine c_exit ?_; refine x_code ?_; refine x_upto ?_; refine x_here ?_
          refine n_code <| cR <| oM rfl <| oM rfl <| oX (e_addn rfl rfl (by simp only [inR]; omega)) <| oX (e_convn runUnderlying3 runUnderlying23 rfl (by simp only [inR]; omega)) ?_
          refine o_l rfl (l_call call73 (low_is (n := wi + 8) (k := 4) ho' (by decide) (by omega)) rfl rfl (Sel.appR ([_, _] ++ HR) HB')) ?_
          rintro ⟨v2, HB2⟩ ho2
          simp only at ho2 ⊢
          refine oA rfl <| oN <| c_region <| oM rfl <| oM rfl ?_
          refine oX (e_lenO runUnderlying72 (by assumption) rfl) ?_
          refine oX (e_convn runUnderlying3 runUnderlying23 rfl (by simp only [inR]; omega)) ?_
          refine o_l rfl (l_call call73 (low_is (k := 8) ho2 (by decide) (by omega)) rfl rfl (Sel.app HB2 _)) ?_
          rintro ⟨v3, HB3⟩ ho3
          simp only at ho3 ⊢
          refine oM rfl ?_
          refine o_l rfl (l_append (sz := 1) (HB := HB3) underlying72 (info_of typeInfo5) rfl rfl rfl rfl rfl rfl ho3 (.refl _) (hr.sv underlying72 (by simp; intro a b hab; exact .inr (.inr (.inr hab))) (B_one _)) (by show _ * 1 ≤ _; omega) (by omega)) ?_
          rintro ⟨v4, HB4⟩ ho4
          simp only at ho4 ⊢
          refine oA rfl <| o_nil <| n_block <| n_code <| c_region <| oX (e_addn rfl rfl (by simp only [inR]; omega)) <| oM rfl <| o_nil ?_
          refine n_round' (y := (i, v', HB')) (i + 1, v4, HB4) (by show (widths l).length - (i + 1) < (widths l).length - i; omega) ⟨by show i + 1 ≤ (widths l).length; omega, ?_⟩ (sub_cons rfl (sub_cons rfl (sub_cons rfl (sub_cons rfl (sub_cons rfl sub_nil))))) _ List.perm_append_comm (.cons_cons _ (.cons_cons _ (List.sublist_append_right _ _)))
          simp only [hnx, partB]
          rw [List.length_append, List.length_append, List.length_append, lowB_length, lowB_length, B_append, B_append, B_append, ← List.append_assoc, ← List.append_assoc, ← List.append_assoc, ← Nat.add_assoc, ← Nat.add_assoc, ← Nat.add_assoc]
          exact ho4
      · skip
        refine c_exit ?_; refine x_code ?_; refine x_upto ?_; refine x_here ?_
        refine n_code <| cR <| oM rfl <| oA rfl <| oN <| c_ret ?_
        refine WR.less (fun _ _ h => h) (.cons _ (.cons _ (List.Sublist.refl _))) ?_
        refine r_fn1 results71 rfl ?_
        have : i = (widths l).length := by omega
        subst this
        rw [List.take_length] at ho'
        have e : m + (sortedB l).length = m + 4 + ((widths l).flatMap (partB (stable l))).length := by simp [sortedB, lowB_length]; omega
        rw [e, sortedB, B_append, ← List.append_assoc]
        exact ho'
end Go.Proofs
namespace Go.Sl
open Go
theorem B_inj {a b : List UInt8} (h : B a = B b) : a = b := by
  induction a generalizing b with
  | nil => cases b with
    | nil => rfl
    | cons y b => simp [B] at h
  | cons x a ih => cases b with
    | nil => simp [B] at h
    | cons y b =>
      simp only [B, List.map_cons, List.cons.injEq, Value.int.injEq, true_and] at h
      rw [ih (show B a = B b from h.2), UInt8.toNat_inj.1 (by omega : x.toNat = y.toNat)]
/-- A string of bytes that a slice holds. -/
theorem e_bsO {x : Cx} {s : Slots} {H HB : HP} {d n : Nat} {p : Operand} {ty t t' e : TypeId} {pos : String} {af : Array Edge} {gd' : Option (Nat × Bool)} {v : Value} {bs : List UInt8} (hU : x.P.underlying t = some (.slice e)) (hU8 : x.P.underlying e = some (.int .u8)) (hU' : x.P.underlying t' = some .string) (ho : Osl e 1 v n (B bs) HB) (hm : ∀ p ∈ HB, p ∈ H) (hp : ev s p = some v) :
    Ex x s H ⟨some d, .convert t t' p, ty, pos, af, gd'⟩ (S bs) := by
  generalize hX : B bs = X at ho
  cases ho with
  | nil =>
    obtain rfl : bs = [] := B_inj (b := []) hX
    exact e_bsn hU hU8 hU' hp
  | @own g n cap lo hi xs rest a1 a2 a3 a4 a5 =>
    subst hX
    refine e_bs hU hU8 hU' hp (.inl (hm _ (.head _))) ?_
    have := CutL.of (l := B bs ++ rest) (i := 0) (n := n) (by simp; omega)
    simpa [← (show (B bs).length = n by omega)] using this
end Go.Sl
namespace Go.Proofs
open Go Go.Sl Tryz
set_option maxRecDepth 100000
set_option maxHeartbeats 2000000
theorem osl_ens {G HB : HP} {v : Value} {l : List En} (ho : Osl 56 5 v l.length (cells5 l) HB) : EnS (G ++ HB) v l := by
  generalize hN : l.length = N at ho
  generalize hX : cells5 l = X at ho
  cases ho with
  | nil =>
    obtain rfl := List.length_eq_zero_iff.1 hN
    exact .none
  | own a1 a2 a3 a4 a5 =>
    subst hX
    refine .blk (List.mem_append_right _ (.head _)) hN (fun i h => ?_)
    rw [Nat.zero_add]
    exact cells5_cut h _
def codeB (l : List En) (c : Int) : List UInt8 := lowB c 8 ++ sortedB (codedL l c)
def bodyB (l : List En) (kind : Int) : List UInt8 := if kind = 1024 then sortedB l else lowB ((codes l).length : Nat) 4 ++ (codes l).flatMap (codeB l)
theorem codedL_len (l : List En) (c : Int) : (codedL l c).length ≤ l.length := List.length_filter_le _ _
theorem codedL_mem {l : List En} {c : Int} {x : En} (h : x ∈ codedL l c) : x ∈ l := (List.mem_filter.1 h).1
theorem codeB_length (l : List En) (c : Int) (hd : ∀ x ∈ l, x.d.length ≤ 200) (hl : l.length ≤ 100) : (codeB l c).length ≤ 2200008 := by
  have := sortedB_length (codedL l c) (fun x hx => hd x (codedL_mem hx)) (Nat.le_trans (codedL_len l c) hl)
  simp only [codeB, List.length_append, lowB_length]
  omega
theorem codes_len (l : List En) : (codes l).length ≤ l.length := by
  rw [codes, srt_length]
  exact Nat.le_trans (distI_length _) (by simp [hcs])
theorem body_is {G : HP} {vl : Value} {l : List En} {kind : Int} (h : EnS G vl l) (hl : l.length ≤ 100) (hd : ∀ x ∈ l, x.d.length ≤ 200) :
    CtrP Tryz.prog 38 [vl, .int .u64 kind] G (S (bodyB l kind)) := by
  refine fn_enter 36 func38 rfl ntmps38 rfl ?_
  intro w0
  refine cR <| oA rfl <| oN <| c_seq <| cR <| oM rfl <| oX (e_eql rfl rfl) <| oN ?_
  refine c_ifp rfl (fun h1 => ?_) (fun h1 => ?_)
  · refine cR <| oM rfl ?_
    refine o_l rfl (l_call call71 (sortedBytes_is .nil h hl hd (by decide)) rfl rfl .nil) ?_
    rintro ⟨v, HB⟩ ho
    simp only [Nat.zero_add, List.nil_append] at ho ⊢
    refine oX (e_bsO underlying72 underlying5 underlying9 ho (by simp) rfl) ?_
    refine oA rfl <| oN <| c_ret ?_
    refine WR.less (fun _ _ h => h) (List.nil_sublist _) ?_
    refine r_fn1 results38 rfl ?_
    exact ⟨by rw [bodyB, if_pos h1], rfl⟩
  · skip
    have hcl := codes_len l
    refine c_skip <| n_code <| cR <| oM rfl ?_
    refine o_l rfl (l_call call72 (codes_is h (by omega)) rfl rfl .nil) ?_
    rintro ⟨vc, Hc⟩ hvc
    rcases hvc.openV with ⟨rfl, rfl, h0⟩ | ⟨gc, capc, restc, loc, hic, rfl, rfl, a2, a3, a4, a5⟩
    · simp only [List.nil_append]
      refine oA rfl <| oN <| cR <| oM rfl <| oX (e_lenl runUnderlying29 rfl) <| oX (e_convn runUnderlying3 runUnderlying23 rfl (by simp only [inR]; omega)) ?_
      refine o_l rfl (l_call call73 (low_is (k := 4) .nil (by decide) (by decide)) rfl rfl .nil) ?_
      rintro ⟨v1, HB1⟩ ho1
      simp only [Nat.zero_add, List.nil_append] at ho1 ⊢
      refine oA rfl <| oN <| c_seq <| cR <| oM rfl <| oX (e_lenl runUnderlying29 rfl) <| oM rfl <| oN <| c_block ?_
      refine c_rounds 1 ?_
      refine cR <| oX (e_lss rfl rfl) <| oN <| c_seq <| c_else rfl ?_
      refine c_exit ?_; refine x_code ?_; refine x_upto ?_; refine x_here ?_
      refine n_code <| cR <| oM rfl ?_
      refine oX (e_bsO underlying72 underlying5 underlying9 ho1 (by simp) rfl) ?_
      refine oA rfl <| oN <| c_ret ?_
      refine WR.less (fun _ _ h => h) (List.nil_sublist _) ?_
      refine r_fn1 results38 rfl ?_
      exact ⟨by rw [bodyB, if_neg h1, h0]; simp, rfl⟩
    · skip
      refine oA rfl <| oN <| cR <| oM rfl <| oX (e_lenl runUnderlying29 rfl) <| oX (e_convn runUnderlying3 runUnderlying23 rfl (by simp only [inR]; omega)) ?_
      refine o_l rfl (l_call call73 (low_is (k := 4) .nil (by decide) (by decide)) rfl rfl .nil) ?_
      rintro ⟨v1, HB1⟩ ho1
      simp only [Nat.zero_add, List.nil_append] at ho1 ⊢
      refine oA rfl <| oN <| c_seq <| cR <| oM rfl <| oX (e_lenl runUnderlying29 rfl) <| oM rfl <| oN <| c_block ?_
      refine c_loop (X := Nat × Value × HP) (fun y => [(0, vl), (6, y.2.1), (20, .slice (some ⟨gc, 0, none⟩) (codes l).length capc), (21, .int .i64 (codes l).length), (22, .int .i64 y.1)]) (fun y => (gc, VB .u64 (codes l) restc 23 loc hic) :: y.2.2)
        (fun y => y.1 ≤ (codes l).length ∧ Osl 5 1 y.2.1 (4 + (((codes l).take y.1).flatMap (codeB l)).length) (B (lowB ((codes l).length : Nat) 4 ++ ((codes l).take y.1).flatMap (codeB l))) y.2.2) (fun y => (codes l).length - y.1) (0, v1, HB1) ⟨Nat.zero_le _, by simpa using ho1⟩ (sub_cons rfl (sub_cons rfl (sub_cons rfl (sub_cons rfl (sub_cons rfl sub_nil))))) (List.perm_append_comm (l₂ := [_])) ?_
      rintro ⟨i, v', HB'⟩ ⟨hi, ho'⟩
      simp only at hi ho' ⊢
      refine cR <| oX (e_lss rfl rfl) <| oN <| c_seq ?_
      refine c_ifp rfl (fun h2 => ?_) (fun h2 => ?_)
      · have hi2 : i < (codes l).length := by omega
        have hnx := flat_take (f := codeB l) hi2
        have hfl := flat_length ((codes l).take i) (codeB l) 2200008 (fun n => codeB_length l n hd hl)
        have hfl2 : ((codes l).take i).length * 2200008 ≤ 100 * 2200008 := Nat.mul_le_mul_right _ (by simp; omega)
        generalize hwi : gd (codes l) i = ci at hnx
        have hcb := codeB_length l ci hd hl
        refine c_skip <| n_code <| c_seq <| c_block <| cR <| oX (e_ian runUnderlying29 sizeOf23 rfl rfl (by omega)) <| oX (e_ld isAgg23 rfl (.inl M0) (by omega)) <| oA rfl <| oN <| c_region <| oM rfl <| oM rfl ?_
        rw [hwi]
        refine o_l rfl (l_call call73 (low_is (k := 8) ho' (by decide) (by omega)) rfl rfl (Sel.appR [_] HB')) ?_
        rintro ⟨v2, HB2⟩ ho2
        simp only at ho2 ⊢
        refine oM rfl <| oM rfl ?_
        refine o_l rfl (l_call call74 (coded_is h (by omega)) rfl rfl .nil) ?_
        rintro ⟨vk, Hk⟩ hk
        simp only at hk ⊢
        refine o_l rfl (l_callj (HJ := Hk) call71 (sortedBytes_is ho2 (osl_ens hk) (Nat.le_trans (codedL_len l ci) hl) (fun x hx => hd x (codedL_mem hx)) (by omega)) rfl rfl (Hr := Hk ++ [_]) (by simpa using Sel.mid Hk HB2 [_]) (fun p hp => List.mem_append_left _ hp)) ?_
        rintro ⟨v3, HB3⟩ ho3
        simp only at ho3 ⊢
        refine oA rfl <| o_nil <| n_block <| n_code <| c_region <| oX (e_addn rfl rfl (by simp only [inR]; omega)) <| oM rfl <| o_nil ?_
        refine n_round' (y := (i, v', HB')) (i + 1, v3, HB3) (by show (codes l).length - (i + 1) < (codes l).length - i; omega) ⟨by show i + 1 ≤ (codes l).length; omega, ?_⟩ (sub_cons rfl (sub_cons rfl (sub_cons rfl (sub_cons rfl (sub_cons rfl sub_nil))))) ((Hk ++ [_]) ++ HB3) List.perm_append_comm (by rw [List.append_assoc]; exact List.sublist_append_right _ _)
        simp only [hnx, codeB]
        rw [List.length_append, List.length_append, lowB_length, ← List.append_assoc, ← List.append_assoc, B_append, B_append (_ ++ _) (lowB _ _), ← Nat.add_assoc, ← Nat.add_assoc]
        exact ho3
      · skip
        have : i = (codes l).length := by omega
        subst this
        rw [List.take_length] at ho'
        refine c_exit ?_; refine x_code ?_; refine x_upto ?_; refine x_here ?_
        refine n_code <| cR <| oM rfl ?_
        refine oX (e_bsO underlying72 underlying5 underlying9 ho' (fun _ h => .tail _ h) rfl) ?_
        refine oA rfl <| oN <| c_ret ?_
        refine WR.less (fun _ _ h => h) (List.nil_sublist _) ?_
        refine r_fn1 results38 rfl ?_
        exact ⟨by rw [bodyB, if_neg h1], rfl⟩
end Go.Proofs
namespace Go.Proofs
open Go Go.Sl Tryz
set_option maxRecDepth 100000
set_option maxHeartbeats 2000000
theorem varint_1024 {G : HP} : Ctr Tryz.prog 37 [.int .u64 1024] G [] (fun r H' => Osl 5 1 r 2 (B [128, 8]) H') := by
  refine fn_enter 19 func37 rfl ntmps37 rfl ?_
  intro w0
  refine cR <| oA rfl <| oN <| cR <| oA rfl <| oN <| c_seq <| c_block ?_
  refine c_rounds 2 ?_
  refine c_seq <| cR <| oM rfl <| oX (e_geq rfl rfl) <| oN <| c_then rfl <| c_skip <| n_code <| c_block <| cR <| oM rfl <| oM rfl <| oX (e_conv runUnderlying23 runUnderlying5 rfl) <| oX (e_or rfl rfl) ?_
  refine o_l rfl (l_bs1 runUnderlying72 sizeOf5 zeroValue5 rfl rfl rfl) ?_; intro g10 _
  refine o_l rfl (l_append (sz := 1) (HB := []) underlying72 (info_of typeInfo5) rfl rfl rfl rfl rfl rfl .nil (.refl _) (.blk underlying72 (.inl M0) (.take .done) (by simp [Value.oneCell'])) (by show _ * 1 ≤ _; omega) (by omega)) ?_
  rintro ⟨v2, HB2⟩ ho2
  simp only at ho2 ⊢
  refine oA rfl <| oN <| c_region <| oM rfl <| oX (e_shr rfl rfl (by omega)) <| oA rfl <| o_nil <| n_block ?_
  refine n_rounds ?_
  refine c_seq <| cR <| oM rfl <| oX (e_geq rfl rfl) <| oN <| c_else rfl ?_
  refine c_exit ?_; refine x_code ?_; refine x_upto ?_; refine x_here ?_
  refine n_code <| cR <| oM rfl <| oM rfl <| oX (e_conv runUnderlying23 runUnderlying5 rfl) ?_
  refine o_l rfl (l_bs1 runUnderlying72 sizeOf5 zeroValue5 rfl rfl rfl) ?_; intro g17 _
  refine o_l rfl (l_append (sz := 1) (HB := HB2) underlying72 (info_of typeInfo5) rfl rfl rfl rfl rfl rfl ho2 (perm_mid [_] HB2 _) (.blk underlying72 (.inl M0) (.take .done) (by simp [Value.oneCell'])) (by show _ * 1 ≤ _; omega) (by omega)) ?_
  rintro ⟨v3, HB3⟩ ho3
  simp only at ho3 ⊢
  refine oA rfl <| oN <| c_ret ?_
  refine WR.less (fun _ _ h => h) (List.sublist_append_left _ _) ?_
  refine r_fn1 results37 rfl ?_
  exact ho3
theorem varint_1025 {G : HP} : Ctr Tryz.prog 37 [.int .u64 1025] G [] (fun r H' => Osl 5 1 r 2 (B [129, 8]) H') := by
  refine fn_enter 19 func37 rfl ntmps37 rfl ?_
  intro w0
  refine cR <| oA rfl <| oN <| cR <| oA rfl <| oN <| c_seq <| c_block ?_
  refine c_rounds 2 ?_
  refine c_seq <| cR <| oM rfl <| oX (e_geq rfl rfl) <| oN <| c_then rfl <| c_skip <| n_code <| c_block <| cR <| oM rfl <| oM rfl <| oX (e_conv runUnderlying23 runUnderlying5 rfl) <| oX (e_or rfl rfl) ?_
  refine o_l rfl (l_bs1 runUnderlying72 sizeOf5 zeroValue5 rfl rfl rfl) ?_; intro g10 _
  refine o_l rfl (l_append (sz := 1) (HB := []) underlying72 (info_of typeInfo5) rfl rfl rfl rfl rfl rfl .nil (.refl _) (.blk underlying72 (.inl M0) (.take .done) (by simp [Value.oneCell'])) (by show _ * 1 ≤ _; omega) (by omega)) ?_
  rintro ⟨v2, HB2⟩ ho2
  simp only at ho2 ⊢
  refine oA rfl <| oN <| c_region <| oM rfl <| oX (e_shr rfl rfl (by omega)) <| oA rfl <| o_nil <| n_block ?_
  refine n_rounds ?_
  refine c_seq <| cR <| oM rfl <| oX (e_geq rfl rfl) <| oN <| c_else rfl ?_
  refine c_exit ?_; refine x_code ?_; refine x_upto ?_; refine x_here ?_
  refine n_code <| cR <| oM rfl <| oM rfl <| oX (e_conv runUnderlying23 runUnderlying5 rfl) ?_
  refine o_l rfl (l_bs1 runUnderlying72 sizeOf5 zeroValue5 rfl rfl rfl) ?_; intro g17 _
  refine o_l rfl (l_append (sz := 1) (HB := HB2) underlying72 (info_of typeInfo5) rfl rfl rfl rfl rfl rfl ho2 (perm_mid [_] HB2 _) (.blk underlying72 (.inl M0) (.take .done) (by simp [Value.oneCell'])) (by show _ * 1 ≤ _; omega) (by omega)) ?_
  rintro ⟨v3, HB3⟩ ho3
  simp only at ho3 ⊢
  refine oA rfl <| oN <| c_ret ?_
  refine WR.less (fun _ _ h => h) (List.sublist_append_left _ _) ?_
  refine r_fn1 results37 rfl ?_
  exact ho3
theorem bodyB_length (l : List En) (kind : Int) (hd : ∀ x ∈ l, x.d.length ≤ 200) (hl : l.length ≤ 100) : (bodyB l kind).length ≤ 300000000 := by
  have h1 := sortedB_length l hd hl
  have h2 := flat_length (codes l) (codeB l) 2200008 (fun n => codeB_length l n hd hl)
  have h3 := codes_len l
  have h4 : (codes l).length * 2200008 ≤ 100 * 2200008 := Nat.mul_le_mul_right _ (by omega)
  unfold bodyB
  split
  · omega
  · simp only [List.length_append, lowB_length]; omega
/-- What begins an index. -/
def kindB (kind : Int) : List UInt8 := if kind = 1024 then [128, 8] else [129, 8]
def indexB (l : List En) (kind : Int) : List UInt8 := kindB kind ++ bodyB l kind
theorem kindB_length (kind : Int) : (kindB kind).length = 2 := by unfold kindB; split <;> rfl
theorem varint_kind {G : HP} {kind : Int} (hk : kind = 1024 ∨ kind = 1025) : Ctr Tryz.prog 37 [.int .u64 kind] G [] (fun r H' => Osl 5 1 r 2 (B (kindB kind)) H') := by
  rcases hk with rfl | rfl
  · exact varint_1024
  · exact varint_1025
theorem indexBytes_is {G : HP} {vl : Value} {l : List En} {kind : Int} (h : EnS G vl l) (hl : l.length ≤ 100) (hd : ∀ x ∈ l, x.d.length ≤ 200) (hk : kind = 1024 ∨ kind = 1025) :
    CtrP Tryz.prog 15 [vl, .int .u64 kind] G (S (indexB l kind)) := by
  have hbl := bodyB_length l kind hd hl
  have hkl := kindB_length kind
  refine fn_enter 12 func15 rfl ntmps15 rfl ?_
  intro w0
  refine cR <| oA rfl <| oN <| c_seq ?_
  refine c_regiond ([]) (by kernel_rfl) (by first | exact List.Sublist.refl _ | exact List.nil_sublist _ | (repeat constructor)) ?_
  refine dX 0 rfl (e_move rfl) <| dX 3 rfl (e_move rfl) <| dX 4 rfl (e_move rfl) ?_
  refine d_l 1 (by kernel_rfl) rfl rfl (l_call call37 (varint_kind hk) rfl rfl .nil) (fun _ _ => hs_nil) ?_
  rintro ⟨vv, HBv⟩ hv
  simp only at hv ⊢
  refine d_l2 2 5 (by kernel_rfl) rfl rfl rfl rfl (l_q rfl (e_bsO underlying72 underlying5 underlying9 hv (by simp) rfl)) (l_call call38 (body_is h hl hd) rfl rfl .nil) (fun _ _ _ h => by cases h) (fun _ _ _ h => by cases h) ?_ ?_
  · intro _ _
    refine d_l 5 (by kernel_rfl) rfl rfl (l_call call38 (body_is h hl hd) rfl rfl .nil) (fun _ _ => hs_nil) ?_
    rintro ⟨r, H'⟩ ⟨rfl, rfl⟩
    simp only [List.nil_append]
    refine dX 6 rfl (e_sadd rfl rfl (by omega)) <| dX 7 rfl (e_assign rfl) <| dN <| n_code <| c_ret ?_
    refine WR.less (fun _ _ h => h) (List.nil_sublist _) ?_
    refine r_fn1 results15 rfl ?_
    exact ⟨rfl, rfl⟩
  · skip
    rintro ⟨r, H'⟩ ⟨rfl, rfl⟩
    simp only [List.nil_append]
    refine d_le 2 (by kernel_rfl) rfl rfl rfl rfl (fun _ h => by cases h) (e_bsO underlying72 underlying5 underlying9 hv (by simp) rfl) ?_
    refine dX 6 rfl (e_sadd rfl rfl (by omega)) <| dX 7 rfl (e_assign rfl) <| dN <| n_code <| c_ret ?_
    refine WR.less (fun _ _ h => h) (List.nil_sublist _) ?_
    refine r_fn1 results15 rfl ?_
    exact ⟨rfl, rfl⟩
end Go.Proofs
namespace Go.Proofs
open Go Go.Sl
theorem lowb_nat (k i : Nat) : (lowb (k : Nat) i).toNat = k / 2 ^ (8 * i) % 256 := by
  unfold lowb
  have h : ((k : Nat) : Int) / 2 ^ (8 * i) % 256 = ((k / 2 ^ (8 * i) % 256 : Nat) : Int) := by simp
  rw [h, Int.toNat_natCast, UInt8.toNat_ofNat']
  omega
theorem le_lowB (k : Nat) (h : k < 4294967296) : le (lowB (k : Nat) 4) = k := by
  have e : lowB (k : Nat) 4 = [lowb (k : Nat) 0, lowb (k : Nat) 1, lowb (k : Nat) 2, lowb (k : Nat) 3] := rfl
  rw [e]
  simp only [le, lowb_nat]
  omega
theorem num_take {s : List UInt8} {m i : Nat} (h : i + 4 ≤ m) : num (s.take m) i = num s i := by
  unfold num
  rw [List.drop_take, List.take_take, Nat.min_eq_left (by omega)]
theorem num_at {p q : List UInt8} {k : Nat} (h : k < 4294967296) : num (p ++ (lowB (k : Nat) 4 ++ q)) p.length = k := by
  unfold num
  rw [List.drop_left, List.take_left' (lowB_length _ _), le_lowB k h]
def cutN (l : List En) (kind : Int) : Nat := if l = [] then 6 else if kind = 1025 then 30 else 18
theorem sortedB_head {l : List En} (hl : l ≠ []) (h100 : l.length ≤ 100) : ∃ (k : Nat) (q : List UInt8), sortedB l = lowB (k : Nat) 4 ++ q ∧ 1 ≤ k ∧ k ≤ 100 ∧ 12 ≤ q.length := by
  refine ⟨(widths l).length, _, rfl, ?_, Nat.le_trans (widths_len l) h100, ?_⟩
  · obtain ⟨x, hx⟩ := List.exists_mem_of_ne_nil l hl
    have : (x.d.length : Int) ∈ widths l := widths_mem.2 ⟨x, hx, rfl⟩
    exact List.length_pos_of_mem this
  · obtain ⟨x, hx⟩ := List.exists_mem_of_ne_nil l hl
    have : (x.d.length : Int) ∈ widths l := widths_mem.2 ⟨x, hx, rfl⟩
    cases hw : widths l with
    | nil => rw [hw] at this; cases this
    | cons a W => simp only [List.flatMap_cons, List.length_append, partB, lowB_length]; omega
theorem sortedB_nil : sortedB [] = lowB 0 4 := by simp [sortedB, widths_nil]
theorem codes_mem {l : List En} {a : Int} : a ∈ codes l ↔ ∃ x ∈ l, x.h = a := by
  rw [codes, srt_mem, distI_mem, hcs, List.mem_map]
theorem bodyB_head {l : List En} (hl : l ≠ []) (h100 : l.length ≤ 100) : ∃ (k : Nat) (q : List UInt8), bodyB l 1025 = lowB (k : Nat) 4 ++ q ∧ 1 ≤ k ∧ k ≤ 100 ∧ ∃ (c q1 : List UInt8) (k2 : Nat), q = c ++ (lowB (k2 : Nat) 4 ++ q1) ∧ c.length = 8 ∧ 1 ≤ k2 ∧ k2 ≤ 100 ∧ 12 ≤ q1.length := by
  obtain ⟨x, hx⟩ := List.exists_mem_of_ne_nil l hl
  have hm : x.h ∈ codes l := codes_mem.2 ⟨x, hx, rfl⟩
  refine ⟨(codes l).length, _, by rw [bodyB, if_neg (by decide)], List.length_pos_of_mem hm, Nat.le_trans (codes_len l) h100, ?_⟩
  cases hc : codes l with
  | nil => rw [hc] at hm; cases hm
  | cons a Cs =>
    have ha : a ∈ codes l := by rw [hc]; exact .head _
    obtain ⟨y, hy, hya⟩ := codes_mem.1 ha
    have hne : codedL l a ≠ [] := by
      intro e
      have : y ∈ codedL l a := List.mem_filter.2 ⟨hy, by simp [hya]⟩
      rw [e] at this; cases this
    obtain ⟨k2, q2, e2, h1, h2, h3⟩ := sortedB_head hne (Nat.le_trans (codedL_len l a) h100)
    refine ⟨lowB a 8, q2 ++ Cs.flatMap (codeB l), k2, ?_, lowB_length _ _, h1, h2, by rw [List.length_append]; omega⟩
    simp only [List.flatMap_cons, codeB, e2, List.append_assoc]
theorem cut_of {l : List En} {kind : Int} {m : Nat} (h100 : l.length ≤ 100) (hk : kind = 1024 ∨ kind = 1025) (hm : m < cutN l kind) : cutN l kind ≤ (indexB l kind).length ∧ Cut ((indexB l kind).take m) := by
  have h0 : ∀ (b : UInt8) (t : List UInt8), 128 ≤ b.toNat → m < 2 → Cut ((b :: 8 :: t).take m) := by
    intro b t hb h2
    match m, h2 with
    | 0, _ => exact .none rfl
    | 1, _ => exact .one rfl hb
  by_cases hl : l = []
  · subst hl
    simp only [cutN, if_true] at hm ⊢
    rcases hk with rfl | rfl
    · have e : indexB [] 1024 = 128 :: 8 :: lowB 0 4 := by simp [indexB, kindB, bodyB, sortedB_nil]
      rw [e]
      refine ⟨by simp [lowB_length], ?_⟩
      by_cases h2 : m < 2
      · exact h0 _ _ (by decide) h2
      · refine .s (tl := (lowB 0 4).take (m - 2)) (by rw [show m = (m - 2) + 2 by omega]; rfl) (by simp; omega) (fun h => ?_)
        simp at h; omega
    · have e : indexB [] 1025 = 129 :: 8 :: lowB 0 4 := by simp [indexB, kindB, bodyB, codes_nil]
      rw [e]
      refine ⟨by simp [lowB_length], ?_⟩
      by_cases h2 : m < 2
      · exact h0 _ _ (by decide) h2
      · refine .m (tl := (lowB 0 4).take (m - 2)) (by rw [show m = (m - 2) + 2 by omega]; rfl) (by simp; omega) (fun h => ?_) (fun h => ?_)
        · simp at h; omega
        · simp at h; omega
  · rcases hk with rfl | rfl
    · obtain ⟨k, q, e, h1, h2, h3⟩ := sortedB_head hl h100
      have e' : indexB l 1024 = [128, 8] ++ (lowB (k : Nat) 4 ++ q) := by rw [indexB, kindB, if_pos rfl, bodyB, if_pos rfl, e]
      simp only [cutN, if_neg hl, if_neg (show ¬ (1024 : Int) = 1025 by decide)] at hm ⊢
      have hn := num_at (p := [128, 8]) (q := q) (k := k) (by omega)
      rw [e']
      refine ⟨by simp [lowB_length]; omega, ?_⟩
      by_cases h4 : m < 2
      · exact h0 _ _ (by decide) h4
      · refine .s (tl := (lowB (k : Nat) 4 ++ q).take (m - 2)) (by rw [show m = (m - 2) + 2 by omega]; rfl) (by simp; omega) (fun h => ?_)
        have hm6 : 6 ≤ m := by simp at h; omega
        rw [num_take (by omega), show (2 : Nat) = ([128, 8] : List UInt8).length from rfl, hn]
        omega
    · obtain ⟨k, q, e, h1, h2, c, q1, k2, e2, hc8, h5, h6, h7⟩ := bodyB_head hl h100
      have e' : indexB l 1025 = [129, 8] ++ (lowB (k : Nat) 4 ++ q) := by rw [indexB, kindB, if_neg (by decide), e]
      simp only [cutN, if_neg hl, if_true] at hm ⊢
      have hn := num_at (p := [129, 8]) (q := q) (k := k) (by omega)
      have hn2 := num_at (p := [129, 8] ++ (lowB (k : Nat) 4 ++ c)) (q := q1) (k := k2) (by omega)
      have e3 : ([129, 8] ++ (lowB (k : Nat) 4 ++ c)) ++ (lowB (k2 : Nat) 4 ++ q1) = [129, 8] ++ (lowB (k : Nat) 4 ++ q) := by rw [e2]; simp
      have e4 : ([129, 8] ++ (lowB (k : Nat) 4 ++ c) : List UInt8).length = 14 := by simp [lowB_length, hc8]
      rw [e3, e4] at hn2
      rw [e']
      refine ⟨by rw [e2]; simp [lowB_length, hc8]; omega, ?_⟩
      by_cases h4 : m < 2
      · exact h0 _ _ (by decide) h4
      · refine .m (tl := (lowB (k : Nat) 4 ++ q).take (m - 2)) (by rw [show m = (m - 2) + 2 by omega]; rfl) (by simp; omega) (fun h => ?_) (fun h => ?_)
        · have hm6 : 6 ≤ m := by simp at h; omega
          rw [num_take (by omega), show (2 : Nat) = ([129, 8] : List UInt8).length from rfl, hn]
          omega
        · have hm18 : 18 ≤ m := by simp at h; omega
          rw [num_take (by omega), hn2]
          omega
end Go.Proofs

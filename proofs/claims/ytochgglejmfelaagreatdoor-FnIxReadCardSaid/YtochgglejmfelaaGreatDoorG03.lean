/- Numbers of bytes, the least first; Rows of numbers, turned by swaps alone; What the parts of the library's sort keep; Rows of numbers in memory; Each number once, in order; A reader of bytes; Reading so many bytes; Numbers read. (A part of the proof of this: for every input laws.FnIxRead returns true and its arguments read as they did, the listed package variables being what the program lays.) -/
import Derived.Test.YtochgglejmfelaaGreatDoorG02
import Derived.Test.YtochgglejmfelaaGreatDoorProg
import Derived.KernelRfl
import Derived.LaidEql
namespace Go.Sl
open Go
def le : List UInt8 → Nat
  | [] => 0
  | b :: l => b.toNat + 256 * le l
theorem le_lt : ∀ l : List UInt8, le l < 256 ^ l.length
  | [] => by simp [le]
  | b :: l => by
    have := le_lt l
    have hb := b.toNat_lt
    simp only [le, List.length_cons, Nat.pow_succ]
    omega
theorem or_add {a b k : Nat} (ha : a < 2 ^ k) : a ||| b * 2 ^ k = a + b * 2 ^ k := by
  have := Nat.shiftLeft_add_eq_or_of_lt ha b
  rw [Nat.shiftLeft_eq] at this
  rw [Nat.or_comm, ← this, Nat.add_comm]
/-- What 'or' comes to where no bit is in both. -/
theorem ib_or {kd : IntKind} (hk : kd.signed = false) {a b k : Nat} (ha : a < 2 ^ k) (hb : a + b * 2 ^ k < 2 ^ kd.bits) : ib .or kd (a : Nat) ((b * 2 ^ k : Nat) : Int) = ((a + b * 2 ^ k : Nat) : Int) := by
  have h1 : a < 2 ^ kd.bits := by omega
  have h2 : b * 2 ^ k < 2 ^ kd.bits := by omega
  simp only [ib, BitVec.toNat_or, BitVec.ofInt_natCast, BitVec.toNat_ofNat, Nat.mod_eq_of_lt h1, Nat.mod_eq_of_lt h2, or_add ha]
  generalize a + b * 2 ^ k = z at hb
  refine wrap_in kd _ ?_ ?_
  · cases kd <;> simp_all [IntKind.min, IntKind.signed] <;> omega
  · cases kd <;> simp_all [IntKind.max, IntKind.signed, IntKind.bits] <;> omega
theorem or_sh {kd : IntKind} (hk : kd.signed = false) {a b : Nat} (m : Int) (k : Nat) (hm : m.toNat = k) (hkb : k ≤ kd.bits) (ha : a < 2 ^ k) (hb : a + b * 2 ^ k < 2 ^ kd.bits) : ib .or kd (a : Nat) (kd.wrap ((b : Nat) * 2 ^ (min m.toNat kd.bits))) = ((a + b * 2 ^ k : Nat) : Int) := by
  have h1 : kd.wrap ((b : Nat) * 2 ^ (min m.toNat kd.bits)) = ((b * 2 ^ k : Nat) : Int) := by
    rw [hm, Nat.min_eq_left hkb, show ((b : Nat) : Int) * 2 ^ k = ((b * 2 ^ k : Nat) : Int) by simp]
    have h2 : b * 2 ^ k < 2 ^ kd.bits := by omega
    generalize b * 2 ^ k = z at h2
    refine wrap_in kd _ ?_ ?_
    · cases kd <;> simp_all [IntKind.min, IntKind.signed] <;> omega
    · cases kd <;> simp_all [IntKind.max, IntKind.signed, IntKind.bits] <;> omega
  rw [h1, ib_or hk ha hb]
end Go.Sl
namespace Go.Sl
def gd (l : List Int) (i : Nat) : Int := l.getD i 0
def swp (l : List Int) (i j : Nat) : List Int := (l.set i (gd l j)).set j (gd l i)
theorem gd_eq {l : List Int} {i : Nat} (h : i < l.length) : l[i]? = some (gd l i) := by simp [gd, h]
theorem swp_length (l : List Int) (i j : Nat) : (swp l i j).length = l.length := by simp [swp]
theorem gd_swp {l : List Int} {i j : Nat} (hi : i < l.length) (hj : j < l.length) (k : Nat) : gd (swp l i j) k = if k = j then gd l i else if k = i then gd l j else gd l k := by
  simp only [gd, swp, List.getD_eq_getElem?_getD, List.getElem?_set, List.length_set]
  by_cases h1 : j = k
  · subst h1; simp [hj]
  · by_cases h2 : i = k
    · subst h2; simp [h1, Ne.symm h1, hi]
    · simp [h1, h2, Ne.symm h1, Ne.symm h2]
theorem swp_perm {l : List Int} {i j : Nat} (hi : i < l.length) (hj : j < l.length) : (swp l i j).Perm l := by
  have h := Array.swap_perm (xs := l.toArray) (i := i) (j := j) (by simpa using hi) (by simpa using hj)
  rw [Array.perm_iff_toList_perm] at h
  simpa [swp, gd, hi, hj] using h
/-- Turned by swaps between the places a and b. -/
inductive PR (a b : Nat) : List Int → List Int → Prop where
  | refl {l : List Int} : PR a b l l
  | swap {l l' : List Int} {i j : Nat} (h : PR a b l l') (h1 : a ≤ i) (h2 : i < b) (h3 : a ≤ j) (h4 : j < b) (h5 : b ≤ l'.length) : PR a b l (swp l' i j)
theorem PR.len {a b : Nat} {l l' : List Int} (h : PR a b l l') : l'.length = l.length := by
  induction h with
  | refl => rfl
  | swap _ _ _ _ _ _ ih => rw [swp_length, ih]
theorem PR.perm {a b : Nat} {l l' : List Int} (h : PR a b l l') : l'.Perm l := by
  induction h with
  | refl => exact .refl _
  | swap _ _ _ _ _ _ ih => exact (swp_perm (by omega) (by omega)).trans ih
theorem PR.trans {a b : Nat} {l l' l2 : List Int} (h : PR a b l l') (k : PR a b l' l2) : PR a b l l2 := by
  induction k with
  | refl => exact h
  | swap _ h1 h2 h3 h4 h5 ih => exact .swap ih h1 h2 h3 h4 h5
theorem PR.one {a b : Nat} {l : List Int} {i j : Nat} (h1 : a ≤ i) (h2 : i < b) (h3 : a ≤ j) (h4 : j < b) (h5 : b ≤ l.length) : PR a b l (swp l i j) := .swap .refl h1 h2 h3 h4 h5
theorem PR.mono {a b a' b' : Nat} {l l' : List Int} (h : PR a b l l') (h1 : a' ≤ a) (h2 : b ≤ b') (h3 : b' ≤ l.length) : PR a' b' l l' := by
  induction h with
  | refl => exact .refl
  | swap h _ _ _ _ _ ih => exact .swap ih (by omega) (by omega) (by omega) (by omega) (by rw [h.len]; exact h3)
theorem PR.out {a b : Nat} {l l' : List Int} (h : PR a b l l') {i : Nat} (hi : i < a ∨ b ≤ i) : gd l' i = gd l i := by
  induction h with
  | refl => rfl
  | swap _ _ _ _ _ _ ih => rw [gd_swp (by omega) (by omega), if_neg (by omega), if_neg (by omega), ih]
theorem PR.all {a b : Nat} {l l' : List Int} (h : PR a b l l') {p : Int → Prop} (hp : ∀ i, a ≤ i → i < b → p (gd l i)) : ∀ i, a ≤ i → i < b → p (gd l' i) := by
  induction h with
  | refl => exact hp
  | @swap l' i j _ h1 h2 h3 h4 h5 ih =>
    intro k k1 k2
    rw [gd_swp (by omega) (by omega)]
    split
    · exact ih _ h1 h2
    · split
      · exact ih _ h3 h4
      · exact ih _ k1 k2
/-- The places from a to b are in order. -/
def SR (a b : Nat) (l : List Int) : Prop := ∀ i j, a ≤ i → i < j → j < b → gd l i ≤ gd l j
theorem SR.small {a b : Nat} {l : List Int} (h : b ≤ a + 1) : SR a b l := fun i j _ _ _ => by omega
theorem SR.snoc {a b : Nat} {l : List Int} (h : SR a b l) (hb : a < b) (hh : gd l (b - 1) ≤ gd l b) : SR a (b + 1) l := fun i j h1 h2 h3 => by
  by_cases e : j < b
  · exact h i j h1 h2 e
  · obtain rfl : j = b := by omega
    by_cases e2 : i = j - 1
    · subst e2; exact hh
    · have := h i (j - 1) h1 (by omega) (by omega); omega
theorem SR.less {a b a' b' : Nat} {l : List Int} (h : SR a b l) (h1 : a ≤ a') (h2 : b' ≤ b) : SR a' b' l := fun i j k1 k2 k3 => h i j (by omega) k2 (by omega)
theorem SR.congr {a b : Nat} {l l' : List Int} (h : SR a b l) (he : ∀ i, a ≤ i → i < b → gd l' i = gd l i) : SR a b l' := fun i j k1 k2 k3 => by
  rw [he i (by omega) (by omega), he j (by omega) (by omega)]; exact h i j k1 k2 k3
/-- A row that is in order but for the place j, which is one of the least of those behind it. -/
structure Ins (a j b : Nat) (l : List Int) : Prop where
  rest : ∀ p q, a ≤ p → p < q → q < b → p ≠ j → q ≠ j → gd l p ≤ gd l q
  here : ∀ q, j < q → q < b → gd l j ≤ gd l q
theorem Ins.start {a b : Nat} {l : List Int} (h : SR a b l) : Ins a b (b + 1) l := ⟨fun p q h1 h2 h3 h4 h5 => h p q h1 h2 (by omega), fun q h1 h2 => by omega⟩
theorem Ins.stop {a j b : Nat} {l : List Int} (h : Ins a j b l) (hj : j ≤ a ∨ ¬ gd l j < gd l (j - 1)) : SR a b l := fun p q h1 h2 h3 => by
  by_cases e : q = j
  · subst e
    have hh : gd l (q - 1) ≤ gd l q := by omega
    by_cases e2 : p = q - 1
    · subst e2; exact hh
    · have := h.rest p (q - 1) h1 (by omega) (by omega) (by omega) (by omega); omega
  · by_cases e2 : p = j
    · subst e2; exact h.here q h2 h3
    · exact h.rest p q h1 h2 h3 e2 e
theorem Ins.step {a j b : Nat} {l : List Int} (h : Ins a j b l) (hj : gd l j < gd l (j - 1)) (ha : a < j) (hb : j < b) (hl : b ≤ l.length) : Ins a (j - 1) b (swp l j (j - 1)) := by
  have hg := gd_swp (l := l) (i := j) (j := j - 1) (by omega) (by omega)
  constructor
  · intro p q h1 h2 h3 h4 h5
    rw [hg, hg, if_neg h4, if_neg h5]
    by_cases e : p = j
    · rw [if_pos e, if_neg (by omega)]; exact h.rest _ _ (by omega) (by omega) h3 (by omega) (by omega)
    · rw [if_neg e]
      by_cases e2 : q = j
      · rw [if_pos e2]
        exact h.rest _ _ h1 (by omega) (by omega) (by omega) (by omega)
      · rw [if_neg e2]; exact h.rest _ _ h1 h2 h3 e e2
  · intro q h1 h2
    rw [hg, hg, if_pos rfl, if_neg (by omega)]
    by_cases e : q = j
    · rw [if_pos e]; omega
    · rw [if_neg e]; exact h.here q (by omega) h2
/-! ### Heaps -/
/-- From place s on (counted from f) each element is at least its children ahead of hi. -/
def Hp (f s hi : Nat) (l : List Int) : Prop := ∀ k c, s ≤ k → c = 2 * k + 1 ∨ c = 2 * k + 2 → c < hi → gd l (f + c) ≤ gd l (f + k)
/-- The same but at r; r's children are at most r's parent. -/
structure HQ (f s hi r : Nat) (l : List Int) : Prop where
  le : s ≤ r
  rest : ∀ k c, s ≤ k → k ≠ r → c = 2 * k + 1 ∨ c = 2 * k + 2 → c < hi → gd l (f + c) ≤ gd l (f + k)
  up : ∀ k c, s ≤ k → r = 2 * k + 1 ∨ r = 2 * k + 2 → c = 2 * r + 1 ∨ c = 2 * r + 2 → c < hi → gd l (f + c) ≤ gd l (f + k)
theorem HQ.start {f s hi : Nat} {l : List Int} (h : Hp f (s + 1) hi l) : HQ f s hi s l :=
  ⟨Nat.le_refl _, fun k c h1 h2 h3 h4 => h k c (by omega) h3 h4, fun k c h1 h2 h3 h4 => by omega⟩
theorem HQ.stop {f s hi r : Nat} {l : List Int} (h : HQ f s hi r l) (hr : ∀ c, c = 2 * r + 1 ∨ c = 2 * r + 2 → c < hi → gd l (f + c) ≤ gd l (f + r)) : Hp f s hi l := fun k c h1 h2 h3 => by
  by_cases e : k = r
  · subst e; exact hr c h2 h3
  · exact h.rest k c h1 e h2 h3
theorem HQ.step {f s hi r d : Nat} {l : List Int} (h : HQ f s hi r l) (hd : d = 2 * r + 1 ∨ d = 2 * r + 2) (hdh : d < hi) (hl : f + hi ≤ l.length) (hmax : ∀ c, c = 2 * r + 1 ∨ c = 2 * r + 2 → c < hi → gd l (f + c) ≤ gd l (f + d)) (hlt : gd l (f + r) < gd l (f + d)) :
    HQ f s hi d (swp l (f + r) (f + d)) := by
  have hg := gd_swp (l := l) (i := f + r) (j := f + d) (by omega) (by omega)
  have hle := h.le
  refine ⟨by omega, ?_, ?_⟩
  · intro k c h1 h2 h3 h4
    rw [hg, hg, if_neg (show ¬ f + k = f + d by omega)]
    by_cases e : k = r
    · subst e
      rw [if_pos rfl]
      by_cases e2 : c = d
      · subst e2; rw [if_pos rfl]; omega
      · rw [if_neg (by omega), if_neg (by omega)]; exact hmax c h3 h4
    · rw [if_neg (show ¬ f + k = f + r by omega)]
      rw [if_neg (show ¬ f + c = f + d by omega)]
      by_cases e2 : c = r
      · subst e2
        rw [if_pos rfl]
        exact h.up k d h1 h3 hd hdh
      · rw [if_neg (by omega)]; exact h.rest k c h1 e h3 h4
  · intro k c h1 h2 h3 h4
    have hk : k = r := by omega
    subst hk
    rw [hg, hg, if_neg (by omega), if_neg (by omega), if_neg (by omega), if_pos rfl]
    exact h.rest d c (by omega) (by omega) h3 h4
theorem Hp.none {f s hi : Nat} {l : List Int} (h : hi ≤ 2 * s + 1) : Hp f s hi l := fun k c h1 h2 h3 => by omega
theorem Hp.top {f hi : Nat} {l : List Int} (h : Hp f 0 hi l) : ∀ n, n < hi → gd l (f + n) ≤ gd l f := by
  intro n
  induction n using Nat.strongRecOn with
  | ind n ih =>
    intro hn
    by_cases e : n = 0
    · subst e; exact Int.le_refl _
    · have := h ((n - 1) / 2) n (Nat.zero_le _) (by omega) hn
      have := ih ((n - 1) / 2) (by omega) (by omega)
      omega
/-- The heap's greatest goes to its end. -/
theorem Hp.pop {f i : Nat} {l : List Int} (h : Hp f 0 (i + 1) l) (hl : f + i < l.length) : Hp f 1 i (swp l f (f + i)) := fun k c h1 h2 h3 => by
  have hg := gd_swp (l := l) (i := f) (j := f + i) (by omega) (by omega)
  rw [hg, hg, if_neg (by omega), if_neg (by omega), if_neg (by omega), if_neg (by omega)]
  exact h k c (Nat.zero_le _) h2 (by omega)
end Go.Sl
namespace Go.Sl
/-- The end of a row is in order and at least what is ahead of it, which is a heap. -/
structure Pop (f i hi : Nat) (l : List Int) : Prop where
  heap : Hp f 0 i l
  srt : SR (f + i) (f + hi) l
  le : ∀ p q, f ≤ p → p < f + i → f + i ≤ q → q < f + hi → gd l p ≤ gd l q
theorem Pop.start {f hi : Nat} {l : List Int} (h : Hp f 0 hi l) : Pop f hi hi l := ⟨h, .small (by omega), fun p q _ _ _ _ => by omega⟩
structure Pop1 (f i hi : Nat) (l : List Int) : Prop where
  heap : Hp f 1 i l
  srt : SR (f + i) (f + hi) l
  le : ∀ p q, f ≤ p → p < f + i → f + i ≤ q → q < f + hi → gd l p ≤ gd l q
theorem Pop.swap {f i hi : Nat} {l : List Int} (h : Pop f (i + 1) hi l) (hi1 : i < hi) (hl : f + hi ≤ l.length) : Pop1 f i hi (swp l f (f + i)) := by
  have hg := gd_swp (l := l) (i := f) (j := f + i) (by omega) (by omega)
  have ht := h.heap.top
  refine ⟨h.heap.pop (by omega), ?_, ?_⟩
  · intro p q h1 h2 h3
    rw [hg, hg, if_neg (show ¬ q = f + i by omega), if_neg (show ¬ q = f by omega)]
    by_cases e : p = f + i
    · rw [if_pos e]; exact h.le f q (by omega) (by omega) (by omega) h3
    · rw [if_neg e, if_neg (by omega)]; exact h.srt p q (by omega) h2 h3
  · intro p q h1 h2 h3 h4
    rw [hg, hg, if_neg (show ¬ p = f + i by omega)]
    have hp : ∀ n, n ≤ i → gd l (f + n) ≤ gd l f := fun n hn => ht n (by omega)
    by_cases e : q = f + i
    · rw [if_pos e]
      split
      · exact hp i (Nat.le_refl _)
      · have := hp (p - f) (by omega); rwa [show f + (p - f) = p by omega] at this
    · rw [if_neg e, if_neg (show ¬ q = f by omega)]
      split
      · exact h.le (f + i) q (by omega) (by omega) (by omega) h4
      · exact h.le p q h1 (by omega) (by omega) h4
theorem Pop1.sift {f i hi : Nat} {l l' : List Int} (h : Pop1 f i hi l) (hp : PR f (f + i) l l') (hh : Hp f 0 i l') : Pop f i hi l' := by
  refine ⟨hh, h.srt.congr (fun k h1 _ => hp.out (.inr h1)), fun p q h1 h2 h3 h4 => ?_⟩
  rw [hp.out (i := q) (.inr h3)]
  exact hp.all (p := fun z => z ≤ gd l q) (fun k k1 k2 => h.le k q k1 k2 h3 h4) p h1 h2
theorem Pop.done {f hi : Nat} {l : List Int} (h : Pop f 0 hi l) : SR f (f + hi) l := h.srt
/-! ### Partitions -/
structure Pt (a b i j : Nat) (l : List Int) : Prop where
  ai : a < i
  ij : i ≤ j + 1
  jb : j < b
  lo : ∀ k, a < k → k < i → gd l k < gd l a
  hi : ∀ k, j < k → k < b → gd l a ≤ gd l k
theorem Pt.start {a b : Nat} {l : List Int} (h : a < b) : Pt a b (a + 1) (b - 1) l := ⟨by omega, by omega, by omega, fun k _ _ => by omega, fun k _ _ => by omega⟩
theorem Pt.incr {a b i j : Nat} {l : List Int} (h : Pt a b i j l) (hij : i ≤ j) (hh : gd l i < gd l a) : Pt a b (i + 1) j l :=
  ⟨by have := h.ai; omega, by omega, h.jb, fun k h1 h2 => by
    by_cases e : k = i
    · subst e; exact hh
    · exact h.lo k h1 (by omega), h.hi⟩
theorem Pt.decr {a b i j : Nat} {l : List Int} (h : Pt a b i j l) (hij : i ≤ j) (hh : ¬ gd l j < gd l a) : Pt a b i (j - 1) l :=
  ⟨h.ai, by omega, by have := h.jb; omega, h.lo, fun k h1 h2 => by
    by_cases e : k = j
    · subst e; omega
    · exact h.hi k (by omega) h2⟩
theorem Pt.swap {a b i j : Nat} {l : List Int} (h : Pt a b i j l) (hij : i ≤ j) (h1 : ¬ gd l i < gd l a) (h2 : gd l j < gd l a) (hl : b ≤ l.length) : Pt a b (i + 1) (j - 1) (swp l i j) := by
  obtain ⟨a1, a2, a3, a4, a5⟩ := h
  have hne : i ≠ j := fun e => by subst e; exact h1 h2
  have hg := gd_swp (l := l) (i := i) (j := j) (by omega) (by omega)
  have ha : gd (swp l i j) a = gd l a := by rw [hg, if_neg (by omega), if_neg (by omega)]
  refine ⟨by omega, by omega, by omega, fun k k1 k2 => ?_, fun k k1 k2 => ?_⟩
  · rw [ha, hg, if_neg (by omega)]
    split
    · exact h2
    · exact a4 k k1 (by omega)
  · rw [ha, hg]
    split
    · omega
    · rw [if_neg (by omega)]; exact a5 k (by omega) k2
structure PtF (a b m : Nat) (l : List Int) : Prop where
  am : a ≤ m
  mb : m < b
  lo : ∀ k, a ≤ k → k < m → gd l k < gd l m
  hi : ∀ k, m < k → k < b → gd l m ≤ gd l k
theorem Pt.fin {a b i j : Nat} {l : List Int} (h : Pt a b i j l) (hij : ¬ i ≤ j) (hl : b ≤ l.length) : PtF a b j (swp l j a) := by
  obtain ⟨a1, a2, a3, a4, a5⟩ := h
  have hg := gd_swp (l := l) (i := j) (j := a) (by omega) (by omega)
  have hj : gd (swp l j a) j = gd l a := by
    rw [hg]
    split
    · rename_i e; rw [e]
    · rw [if_pos rfl]
  refine ⟨by omega, by omega, fun k k1 k2 => ?_, fun k k1 k2 => ?_⟩
  · rw [hj, hg]
    split
    · exact a4 j (by omega) (by omega)
    · rw [if_neg (by omega)]; exact a4 k (by omega) (by omega)
  · rw [hj, hg, if_neg (by omega), if_neg (by omega)]; exact a5 k k1 k2
structure Pe (a b i j : Nat) (l : List Int) : Prop where
  ai : a < i
  ij : i ≤ j + 1
  jb : j < b
  lo : ∀ k, a < k → k < i → gd l k ≤ gd l a
  hi : ∀ k, j < k → k < b → gd l a < gd l k
theorem Pe.start {a b : Nat} {l : List Int} (h : a < b) : Pe a b (a + 1) (b - 1) l := ⟨by omega, by omega, by omega, fun k _ _ => by omega, fun k _ _ => by omega⟩
theorem Pe.incr {a b i j : Nat} {l : List Int} (h : Pe a b i j l) (hij : i ≤ j) (hh : ¬ gd l a < gd l i) : Pe a b (i + 1) j l :=
  ⟨by have := h.ai; omega, by omega, h.jb, fun k h1 h2 => by
    by_cases e : k = i
    · subst e; omega
    · exact h.lo k h1 (by omega), h.hi⟩
theorem Pe.decr {a b i j : Nat} {l : List Int} (h : Pe a b i j l) (hij : i ≤ j) (hh : gd l a < gd l j) : Pe a b i (j - 1) l :=
  ⟨h.ai, by omega, by have := h.jb; omega, h.lo, fun k h1 h2 => by
    by_cases e : k = j
    · subst e; exact hh
    · exact h.hi k (by omega) h2⟩
theorem Pe.swap {a b i j : Nat} {l : List Int} (h : Pe a b i j l) (hij : i ≤ j) (h1 : gd l a < gd l i) (h2 : ¬ gd l a < gd l j) (hl : b ≤ l.length) : Pe a b (i + 1) (j - 1) (swp l i j) := by
  obtain ⟨a1, a2, a3, a4, a5⟩ := h
  have hne : i ≠ j := fun e => by subst e; exact h2 h1
  have hg := gd_swp (l := l) (i := i) (j := j) (by omega) (by omega)
  have ha : gd (swp l i j) a = gd l a := by rw [hg, if_neg (by omega), if_neg (by omega)]
  refine ⟨by omega, by omega, by omega, fun k k1 k2 => ?_, fun k k1 k2 => ?_⟩
  · rw [ha, hg, if_neg (by omega)]
    split
    · omega
    · exact a4 k k1 (by omega)
  · rw [ha, hg]
    split
    · exact h1
    · rw [if_neg (by omega)]; exact a5 k (by omega) k2
/-- What partitionEqual gives, where no element is less than the first. -/
structure PeF (a b m : Nat) (l : List Int) : Prop where
  am : a < m
  mb : m ≤ b
  lo : ∀ k, a ≤ k → k < m → gd l k ≤ gd l a
  hi : ∀ k, m ≤ k → k < b → gd l a < gd l k
theorem Pe.fin {a b i j : Nat} {l : List Int} (h : Pe a b i j l) (hij : ¬ i ≤ j) : PeF a b i l := by
  obtain ⟨a1, a2, a3, a4, a5⟩ := h
  exact ⟨a1, by omega, fun k k1 k2 => by
    by_cases e : k = a
    · subst e; omega
    · exact a4 k (by omega) k2, fun k k1 k2 => a5 k (by omega) k2⟩
/-! ### The whole -/
/-- The element ahead is at most all of them. -/
def Lb (a b : Nat) (l : List Int) : Prop := a = 0 ∨ ∀ i, a ≤ i → i < b → gd l (a - 1) ≤ gd l i
theorem Lb.pr {a b a' b' : Nat} {l l' : List Int} (h : Lb a b l) (hp : PR a' b' l l') (h1 : a ≤ a') (h2 : b' ≤ b) : Lb a b l' := by
  rcases h with h | h
  · exact .inl h
  · by_cases e : a = 0
    · exact .inl e
    · refine .inr (fun i i1 i2 => ?_)
      rw [hp.out (i := a - 1) (.inl (by omega))]
      by_cases e2 : a' ≤ i ∧ i < b'
      · exact hp.all (p := fun z => gd l (a - 1) ≤ z) (fun k k1 k2 => h k (by omega) (by omega)) i e2.1 e2.2
      · rw [hp.out (by omega)]; exact h i i1 i2
theorem Lb.less {a b b' : Nat} {l : List Int} (h : Lb a b l) (hb : b' ≤ b) : Lb a b' l := by
  rcases h with h | h
  · exact .inl h
  · exact .inr fun i h1 h2 => h i h1 (by omega)
/-- Whoever sorts what is left has sorted all. -/
def Fin (a b a' b' : Nat) (l : List Int) : Prop := ∀ l2, PR a' b' l l2 → SR a' b' l2 → SR a b l2
theorem Fin.start {a b : Nat} {l : List Int} : Fin a b a b l := fun _ _ h => h
theorem Fin.pr {a b a' b' : Nat} {l l' : List Int} (h : Fin a b a' b' l) (hp : PR a' b' l l') : Fin a b a' b' l' := fun l2 h2 hs => h l2 (hp.trans h2) hs
theorem PtF.keepl {a b m : Nat} {l l' : List Int} (h : PtF a b m l) (hp : PR a m l l') : PtF a b m l' := by
  have h1 := h.am
  have h2 := h.mb
  have hm : gd l' m = gd l m := hp.out (.inr (Nat.le_refl _))
  refine ⟨h1, h2, fun k k1 k2 => ?_, fun k k1 k2 => ?_⟩
  · rw [hm]; exact hp.all (p := fun z => z < gd l m) h.lo k k1 k2
  · rw [hm, hp.out (.inr (by omega))]; exact h.hi k k1 k2
theorem PtF.keepr {a b m : Nat} {l l' : List Int} (h : PtF a b m l) (hp : PR (m + 1) b l l') : PtF a b m l' := by
  have h1 := h.am
  have h2 := h.mb
  have hm : gd l' m = gd l m := hp.out (.inl (by omega))
  refine ⟨h1, h2, fun k k1 k2 => ?_, fun k k1 k2 => ?_⟩
  · rw [hm, hp.out (.inl (by omega))]; exact h.lo k k1 k2
  · rw [hm]; exact hp.all (p := fun z => gd l m ≤ z) (fun i i1 i2 => h.hi i (by omega) i2) k (by omega) k2
theorem PtF.all {a b m : Nat} {l : List Int} (h : PtF a b m l) (hl : SR a m l) (hr : SR (m + 1) b l) : SR a b l := fun i j h1 h2 h3 => by
  have k1 := h.am
  have k2 := h.mb
  have lo := fun k x y => Int.le_of_lt (h.lo k x y)
  rcases Nat.lt_trichotomy j m with hj | hj | hj
  · exact hl i j h1 h2 hj
  · subst hj; exact lo i h1 h2
  · have hj' := h.hi j hj h3
    rcases Nat.lt_trichotomy i m with hi | hi | hi
    · have := lo i h1 hi; omega
    · subst hi; exact hj'
    · exact hr i j (by omega) h2 h3
theorem PtF.left {a0 b0 a b m : Nat} {l l' : List Int} (h : PtF a b m l) (hf : Fin a0 b0 a b l) (hp : PR a m l l') (hs : SR a m l') (hl : b ≤ l.length) : Fin a0 b0 (m + 1) b l' := fun l2 h2 hs2 => by
  have k1 := h.am
  have k2 := h.mb
  have hk := (h.keepl hp).keepr h2
  refine hf l2 ((hp.mono (Nat.le_refl _) (by omega) hl).trans (h2.mono (by omega) (Nat.le_refl _) (by rw [hp.len]; exact hl))) (hk.all ?_ hs2)
  exact hs.congr fun i _ i2 => h2.out (.inl (by omega))
theorem PtF.right {a0 b0 a b m : Nat} {l l' : List Int} (h : PtF a b m l) (hf : Fin a0 b0 a b l) (hp : PR (m + 1) b l l') (hs : SR (m + 1) b l') (hl : b ≤ l.length) : Fin a0 b0 a m l' := fun l2 h2 hs2 => by
  have k1 := h.am
  have k2 := h.mb
  have hk := (h.keepr hp).keepl h2
  refine hf l2 ((hp.mono (by omega) (Nat.le_refl _) hl).trans (h2.mono (Nat.le_refl _) (by omega) (by rw [hp.len]; exact hl))) (hk.all hs2 ?_)
  exact hs.congr fun i i1 _ => h2.out (.inr (by omega))
theorem PtF.lbr {a b m : Nat} {l : List Int} (h : PtF a b m l) : Lb (m + 1) b l := .inr fun i h1 h2 => h.hi i (by omega) h2
theorem PeF.all {a0 b0 a b m : Nat} {l : List Int} (h : PeF a b m l) (hf : Fin a0 b0 a b l) (hmin : ∀ i, a ≤ i → i < b → gd l a ≤ gd l i) (hl : b ≤ l.length) : Fin a0 b0 m b l := fun l2 h2 hs2 => by
  have k1 := h.am
  have k2 := h.mb
  refine hf l2 (h2.mono (by omega) (Nat.le_refl _) hl) (fun i j h3 h4 h5 => ?_)
  by_cases hi : i < m
  · have e1 := h.lo i h3 hi
    rw [h2.out (i := i) (.inl hi)]
    by_cases hj : j < m
    · rw [h2.out (i := j) (.inl hj)]; have := hmin j (by omega) h5; omega
    · have := h2.all (p := fun z => gd l a < z) (fun k a1 a2 => h.hi k a1 a2) j (by omega) h5
      have : gd l a < gd l2 j := this
      omega
  · exact hs2 i j (by omega) h4 h5
theorem PeF.lb {a b m : Nat} {l : List Int} (h : PeF a b m l) : Lb m b l := .inr fun i h1 h2 => by
  have := h.lo (m - 1) (by have := h.am; omega) (by have := h.am; omega)
  have := h.hi i h1 h2
  omega
end Go.Sl
namespace Go.Sl
open Go
abbrev V (kd : IntKind) (l : List Int) : List Value := l.map (Value.int kd)
/-- The block of a row, room behind it. -/
abbrev VB (kd : IntKind) (l : List Int) (rest : List Value) (e : TypeId) (lo hi : Nat) : Obj := .cells (V kd l ++ rest).toArray e (lo, hi)
theorem V_get {kd : IntKind} {l : List Int} {rest : List Value} {i : Nat} (h : i < l.length) : (V kd l ++ rest)[0 + i * 1]? = some (.int kd (gd l i)) := by
  rw [Nat.zero_add, Nat.mul_one, List.getElem?_append_left (by simpa using h)]
  simp [gd, h]
theorem V_set {kd : IntKind} {l : List Int} {rest : List Value} {i : Nat} (z : Int) (h : i < l.length) : SetAt (V kd l ++ rest) (0 + i * 1) (.int kd z) (V kd (l.set i z) ++ rest) := by
  rw [Nat.zero_add, Nat.mul_one]
  have := SetAt.of (l := V kd l ++ rest) (i := i) (.int kd z) (by simp; omega)
  rw [List.set_append_left _ _ (by simpa using h)] at this
  simpa [V, List.map_set] using this
section
variable {x : Cx} {ops : Array Oper} {k : List KI} {s : Slots} {H H' : HP}
variable {d : Nat} {p q c : Operand} {ty t t' : TypeId} {pos : String} {af : Array Edge} {gd' : Option (Nat × Bool)} {g i : Nat} {l : List Int} {rest : List Value} {kd : IntKind} {e : TypeId} {fr : Nat × Nat} {lo hi : Nat}
theorem e_ld (hA : ∀ w, (isAgg t).run x.P w = .ok false w) (hp : ev s p = some (.pointer (some ⟨g, 0 + i * 1, none⟩)))
    (hm : (g, .cells (V kd l ++ rest).toArray e fr) ∈ H ∨ (g, Obj.cells (V kd l ++ rest).toArray e fr) ∈ x.G) (hi : i < l.length) : Ex x s H ⟨some d, .load t p, ty, pos, af, gd'⟩ (.int kd (gd l i)) := e_load hA hp hm (V_get hi)
theorem l_st {z : Int} (hS : ∀ w, (sizeOf t).run x.P w = .ok 1 w) (hp : ev s p = some (.pointer (some ⟨g, 0 + i * 1, none⟩))) (hq : ev s q = some (.int kd z))
    (hu : UpB H g (VB kd l rest e lo hi) (VB kd (l.set i z) rest e lo hi) H') (hi1 : i < l.length) (hf : l.length ≤ lo ∨ hi = 0) : Lo x s H ⟨none, .store t p q, ty, pos, af, gd'⟩ (Y := Unit) (fun _ => s) (fun _ => H') (fun _ => True) :=
  l_store hS hp hq rfl hu (V_set z hi1) (by omega)
end
/-- A function that tells r and leaves memory alone. -/
abbrev CtrP (P : Program) (f : FuncId) (args : List Value) (G : HP) (r : Value) : Prop := Ctr P f args G [] (fun v H' => v = r ∧ H' = [])
section
variable {x : Cx} {ops : Array Oper} {k : List KI} {rest : List Oper} {s : Slots} {H : HP}
variable {d : Nat} {p : Operand} {ty : TypeId} {pos : String} {af : Array Edge}
/-- Such a call. -/
theorem o_pure {f : FuncId} {args : List Value} {r : Value} {ps : List Operand} {ats : Array TypeId} {gd' : Option (Nat × Bool)} (hw : wantS ops s ⟨some d, .call { callee := .value (.func f), args := ps.toArray, argTypes := ats }, ty, pos, af, gd'⟩ = some true)
    (hf : ∀ az w, (callFunc f az).run x.P w = .ok (.enter f az) w) (hc : CtrP x.P f args x.G r) (hN : Nat.blt d x.N = true) (hps : evs s ps = some args) (h : WO x ops k rest ((d, r) :: s) H) :
    WO x ops k (⟨some d, .call { callee := .value (.func f), args := ps.toArray, argTypes := ats }, ty, pos, af, gd'⟩ :: rest) s H :=
  o_l hw (l_call hf hc hN hps (.nil)) (by rintro ⟨_, _⟩ ⟨rfl, rfl⟩; exact h)
theorem q_pure {f : FuncId} {args : List Value} {r : Value} {ps : List Operand} {ats : Array TypeId} {gd' : Option (Nat × Bool)} (hw : wantS ops s ⟨some d, .call { callee := .value (.func f), args := ps.toArray, argTypes := ats }, ty, pos, af, gd'⟩ = some true)
    (hf : ∀ az w, (callFunc f az).run x.P w = .ok (.enter f az) w) (hc : CtrP x.P f args x.G r) (hN : Nat.blt d x.N = true) (hps : evs s ps = some args) (h : QO x ops k rest ((d, r) :: s) H) :
    QO x ops k (⟨some d, .call { callee := .value (.func f), args := ps.toArray, argTypes := ats }, ty, pos, af, gd'⟩ :: rest) s H :=
  q_call (HJ := []) (R := fun v H' => v = r ∧ H' = []) hf (by simpa using hc) (fun _ _ h => h.1) hw hN hps (by simp) h
end
end Go.Sl
namespace Go.Sl
open Go
def srt (l : List Int) : List Int := l.mergeSort fun a b => decide (a ≤ b)
theorem SR.pairwise {l : List Int} (h : SR 0 l.length l) : l.Pairwise (fun a b => (decide (a ≤ b)) = true) := by
  rw [List.pairwise_iff_getElem]
  intro i j hi hj hij
  have := h i j (Nat.zero_le _) hij hj
  simpa [gd, hi, hj] using this
theorem srt_of {l l' : List Int} {n : Nat} (h : PR 0 n l l') (hs : SR 0 n l') (hn : l.length = n) : l' = srt l := by
  have hl := h.len
  subst hn
  refine List.Perm.eq_of_pairwise (le := fun a b => (decide (a ≤ b)) = true) ?_ (SR.pairwise (by rwa [hl])) (List.pairwise_mergeSort ?_ ?_ _) (h.perm.trans (List.mergeSort_perm _ _).symm)
  · intro a b _ _ h1 h2
    simp at h1 h2; omega
  · intro a b c h1 h2
    simp at h1 h2 ⊢; omega
  · intro a b
    simp; omega
theorem srt_length (l : List Int) : (srt l).length = l.length := List.length_mergeSort _
theorem srt_mem {l : List Int} {a : Int} : a ∈ srt l ↔ a ∈ l := List.mem_mergeSort
def addN (acc : List Int) (n : Int) : List Int := if n ∈ acc then acc else acc ++ [n]
def distI (l : List Int) : List Int := l.foldl addN []
theorem distI_take {l : List Int} {i : Nat} (h : i < l.length) : distI (l.take (i + 1)) = addN (distI (l.take i)) l[i] := by
  rw [distI, List.take_succ_eq_append_getElem h, List.foldl_append]; rfl
theorem foldl_addN (l : List Int) : ∀ acc, (∀ a, a ∈ l.foldl addN acc ↔ a ∈ acc ∨ a ∈ l) ∧ (l.foldl addN acc).length ≤ acc.length + l.length ∧ (acc.Nodup → (l.foldl addN acc).Nodup) := by
  induction l with
  | nil => intro acc; simp
  | cons b l ih =>
    intro acc
    obtain ⟨h1, h2, h3⟩ := ih (addN acc b)
    simp only [List.foldl_cons]
    by_cases hb : b ∈ acc
    · rw [show addN acc b = acc by simp [addN, hb]] at h1 h2 h3 ⊢
      refine ⟨fun a => ?_, by simp; omega, h3⟩
      rw [h1]; simp
      constructor
      · rintro (h | h)
        · exact .inl h
        · exact .inr (.inr h)
      · rintro (h | rfl | h)
        · exact .inl h
        · exact .inl hb
        · exact .inr h
    · rw [show addN acc b = acc ++ [b] by simp [addN, hb]] at h1 h2 h3 ⊢
      refine ⟨fun a => ?_, by simp at h2 ⊢; omega, fun hn => h3 ?_⟩
      · rw [h1]; simp [or_assoc]
      · rw [List.nodup_append]; exact ⟨hn, by simp, by intro x hx y hy e; simp at hy; subst hy; subst e; exact hb hx⟩
theorem distI_mem {l : List Int} {a : Int} : a ∈ distI l ↔ a ∈ l := by have := (foldl_addN l []).1 a; simpa [distI] using this
theorem distI_length (l : List Int) : (distI l).length ≤ l.length := by have := (foldl_addN l []).2.1; simpa [distI] using this
theorem distI_nodup (l : List Int) : (distI l).Nodup := (foldl_addN l []).2.2 .nil
/-- A set of numbers, as a map to true. -/
abbrev MT (acc : List Int) : List (Int × Value) := acc.map fun a => (a, .bool true)
theorem mget_MT (acc : List Int) (a : Int) : mget (MT acc) a = if a ∈ acc then some (.bool true) else none := by
  induction acc with
  | nil => rfl
  | cons b l ih =>
    simp only [MT, List.map_cons, mget]
    by_cases h : a = b
    · simp [h]
    · rw [if_neg h, ih]; simp [h]
theorem mset_MT {acc : List Int} {a : Int} (h : a ∉ acc) : mset (MT acc) a (.bool true) = MT (acc ++ [a]) := by
  rw [mset_new _ (by rw [mget_MT, if_neg h])]; simp [MT]
theorem Osl.one {e : TypeId} {sz n : Nat} {v : Value} {xs : List Value} {w : HP} (h : Osl e sz v n xs w) : v.oneCell' = true := by cases h <;> rfl
theorem Osl.openV {e : TypeId} {kd : IntKind} {u : Value} {w : HP} {acc : List Int} (h : Osl e 1 u acc.length (V kd acc) w) : (u = .slice none 0 0 ∧ w = [] ∧ acc = []) ∨
    ∃ g cap rest lo hi, u = .slice (some ⟨g, 0, none⟩) acc.length cap ∧ w = [(g, VB kd acc rest e lo hi)] ∧ rest.length = (cap - acc.length) * 1 ∧ acc.length ≤ cap ∧ cap < 9223372036854775808 ∧ (cap * 1 ≤ lo ∨ hi = 0) := by
  generalize hN : acc.length = N at h
  generalize hX : V kd acc = X at h
  cases h with
  | nil => exact .inl ⟨rfl, rfl, List.length_eq_zero_iff.1 hN⟩
  | own a1 a2 a3 a4 a5 => subst hX; exact .inr ⟨_, _, _, _, _, rfl, rfl, a2, a3, a4, a5⟩
section
variable {x : Cx} {s : Slots} {H : HP} {d g : Nat} {p q : Operand} {ty t kt et : TypeId} {pos : String} {af : Array Edge} {gd' : Option (Nat × Bool)} {kd : IntKind} {a : Int} {acc : List Int}
theorem e_lookMT (hU : ∀ w, (underlying t).run x.P w = .ok (.map kt et) w) (hK : ∀ w, (underlying kt).run x.P w = .ok (.int kd) w) (hz : ∀ w, (zeroValue et).run x.P w = .ok (.bool false) w)
    (hp : ev s p = some (.map (some g))) (hq : ev s q = some (.int kd a)) (hm : (g, Mo kd (MT acc)) ∈ H ∨ (g, Mo kd (MT acc)) ∈ x.G) : Ex x s H ⟨some d, .lookup t p q false, ty, pos, af, gd'⟩ (.bool (decide (a ∈ acc))) := by
  have h := e_lookup (x := x) (s := s) (H := H) (d := d) (ty := ty) (pos := pos) (af := af) (gd := gd') hU hK hz hp hq hm
  rw [mget_MT] at h
  by_cases e : a ∈ acc
  · simpa [e] using h
  · simpa [e] using h
end
end Go.Sl
namespace Go.Sl
open Go
section
variable {x : Cx} {s : Slots} {H : HP} {d : Nat} {p q : Operand} {ty t t' : TypeId} {pos : String} {af : Array Edge} {gd' : Option (Nat × Bool)}
/-- Two pointers to blocks of their own in two interface values of one type. -/
theorem e_ieq_two {ms : Array (String × TypeId)} {tv el n : Nat} {gA gB : Addr} {ti : TypeInfo} {cA cB : List Value} {eA eB : TypeId} (hU : ∀ w, (underlying t).run x.P w = .ok (.interface ms) w) (hI : ∀ w, (typeInfo tv).run x.P w = .ok ti w) (hc : ti.comparable = true)
    (hU' : ∀ w, (underlying tv).run x.P w = .ok (.pointer el) w) (hS : ∀ w, (sizeOf el).run x.P w = .ok n w) (hn : n ≠ 0)
    (hp : ev s p = some (.iface tv (.pointer (some gA)))) (hq : ev s q = some (.iface tv (.pointer (some gB)))) (hA : (gA.block, C cA eA) ∈ x.G) (hB : (gB.block, C cB eB) ∈ x.G) (hne : gA ≠ gB) :
    Ex x s H ⟨some d, .binOp .eql t p q t', ty, pos, af, gd'⟩ (.bool false) := fun a w hs => by
  have h1 := run_sameAddr_other (P := x.P) w (a := gA) (b := gB) hne (hs.glob _ hA) (hs.glob _ hB)
  have hE : (Op.equal t (.iface tv (.pointer (some gA))) (.iface tv (.pointer (some gB)))).run x.P w = .ok false w := by
    obtain ⟨dd, hdd⟩ := eq_in2
    rw [hdd]
    simp only [Op.equalIn, Sem.run_bind, hU, Result.andThen_ok, ne_eq, not_true_eq_false, if_false, hI, hc, Bool.not_true, Bool.false_eq_true, hU', hS, hn, not_false_eq_true, if_true, h1]
  have hx : binOp .eql t (.iface tv (.pointer (some gA))) (.iface tv (.pointer (some gB))) = (do pure (.bool (← Op.equal t (.iface tv (.pointer (some gA))) (.iface tv (.pointer (some gB)))))) := rfl
  have hg : (eqGuard .eql t p q (.iface tv (.pointer (some gA))) (.iface tv (.pointer (some gB)))).run x.P w = .ok () w := rfl
  simp only [execOp, hs.eval hp, hs.eval hq, Sem.run_bind, hg, Result.andThen_ok, hx, hE, Sem.run_pure]
end
end Go.Sl
namespace Go.Proofs
open Go Go.Sl Tryz
set_option maxRecDepth 100000
/-- What io.EOF and its like hold: a pointer to a block of its own. -/
abbrev EV (a : Addr) : Value := .iface 260 (.pointer (some a))
abbrev RB (gs n cap i : Nat) : Obj := C [.slice (some ⟨gs, 0, none⟩) n cap, .int .i64 (i : Nat), .int .i64 (-1)] 144
abbrev DB (bs : List UInt8) (rest : List Value) (lo hi : Nat) : Obj := .cells (B bs ++ rest).toArray 5 (lo, hi)
abbrev RV (gr : Nat) : Value := .iface 75 (.pointer (some ⟨gr, 0, none⟩))
section
variable {G : HP} {gr gs n cap i k lo hi e3 e5 eE eU : Nat} {f3 f5 : Nat × Nat} {bs : List UInt8} {rest cE' cU' : List Value} {gE gU : Addr} {t3 t5 : List Value}
theorem newReader_is : Ctr Tryz.prog 40 [.slice (some ⟨gs, 0, none⟩) n cap] G [] (fun r H' => ∃ g, r = .pointer (some ⟨g, 0, none⟩) ∧ H' = [(g, RB gs n cap 0)]) := by
  refine fn_enter 6 func40 rfl ntmps40 rfl ?_
  intro w0
  refine cR <| oA rfl <| oN <| cR <| oM rfl <| oX (e_build (vs := [.slice (some ⟨gs, 0, none⟩) n cap, .int .i64 0, .int .i64 (-1)]) runUnderlying144 zeroValue144 (.cons sizeOf72 (.cons sizeOf2 (.cons sizeOf3 .nil))) rfl (by kernel_rfl)) ?_
  refine o_l rfl (l_box rfl rfl rfl) ?_; intro g5 _
  refine oA rfl <| oN <| c_ret ?_
  refine r_fn1 results40 rfl ?_
  exact ⟨_, rfl, rfl⟩
/-- Nothing is left. -/
theorem read_eof {v : Value} (hE : (3, Obj.cells (EV gE :: t3).toArray e3 f3) ∈ G) : Ctr Tryz.prog 288 [.pointer (some ⟨gr, 0, none⟩), v] G [(gr, RB gs n cap n)] (fun r H' => r = .tuple #[.int .i64 0, EV gE] ∧ H' = [(gr, RB gs n cap n)]) := by
  refine fn_enter 39 func288 rfl ntmps288 rfl ?_
  intro w0
  refine cR <| oA rfl <| oA rfl <| oN <| c_seq <| c_seq <| cQ <| qM rfl <| qC rfl <| qX (e_fak 1 runUnderlying144 rfl sizeOf2 rfl rfl rfl) <| qX (e_load isAgg2 rfl (.inl M0) rfl) <| qM rfl <| qC rfl <| qX (e_fak 0 runUnderlying144 rfl sizeOf72 rfl rfl rfl) <| qX (e_load isAgg72 rfl (.inl M0) rfl) <| qX (e_lenl runUnderlying72 rfl) <| qX (e_geq rfl rfl) <| qN ?_
  refine c_then (by simp [ev, lk]) ?_
  refine c_seq <| cQ ?_
  refine qX (e_load isAgg80 rfl (.inr (by assumption)) rfl) ?_
  refine qA rfl <| qA rfl <| qN <| c_ret ?_
  refine r_fn (l := [.tmp 4, .tmp 5]) results288 rfl rfl ?_
  exact ⟨rfl, rfl⟩
theorem DB_cut (h : i + k ≤ bs.length) : CutL (B bs ++ rest) (0 + i * 1) (k * 1) (B ((bs.drop i).take k)) := by
  rw [Nat.zero_add, Nat.mul_one, Nat.mul_one]
  have := CutL.of (l := B bs ++ rest) (i := i) (n := k) (by simp [B]; omega)
  rw [List.drop_append_of_le_length (by simp [B]; omega), List.take_append_of_le_length (by simp [B]; omega)] at this
  simpa [B, List.map_drop, List.map_take] using this
/-- Some are left. -/
theorem read_some {gb ob L capb k : Nat} {pl : List Value} (hD : (gs, DB bs rest lo hi) ∈ G) (hn : bs.length = n) (hc : n ≤ cap) (h63 : cap < 9223372036854775808) (hi' : i < n) (hk : Nat.min (n - i) L = k) (hp : ob + L ≤ pl.length) :
    Ctr Tryz.prog 288 [.pointer (some ⟨gr, 0, none⟩), .slice (some ⟨gb, ob, none⟩) L capb] G [(gr, RB gs n cap i), (gb, C pl 5)] (fun r H' => r = .tuple #[.int .i64 (k : Nat), .nilIface] ∧ H' = [(gr, RB gs n cap (i + k)), (gb, C (pl.take ob ++ B ((bs.drop i).take k) ++ pl.drop (ob + k)) 5)]) := by
  have hk1 : k ≤ n - i := by rw [← hk]; exact Nat.min_le_left _ _
  have hk2 : k ≤ L := by rw [← hk]; exact Nat.min_le_right _ _
  refine fn_enter 39 func288 rfl ntmps288 rfl ?_
  intro w0
  refine cR <| oA rfl <| oA rfl <| oN <| c_seq <| c_seq <| cQ <| qM rfl <| qC rfl <| qX (e_fak 1 runUnderlying144 rfl sizeOf2 rfl rfl rfl) <| qX (e_load isAgg2 rfl (.inl M0) rfl) <| qM rfl <| qC rfl <| qX (e_fak 0 runUnderlying144 rfl sizeOf72 rfl rfl rfl) <| qX (e_load isAgg72 rfl (.inl M0) rfl) <| qX (e_lenl runUnderlying72 rfl) <| qX (e_geq rfl rfl) <| qN ?_
  refine c_ifp rfl (fun h1 => ?_) (fun h1 => ?_)
  · exact absurd h1 (by omega)
  · skip
    refine c_skip <| n_code <| cR <| oM rfl <| oC rfl <| oX (e_fak 2 runUnderlying144 rfl sizeOf3 rfl rfl rfl) ?_
    refine o_l rfl (l_store sizeOf3 rfl rfl rfl .head (.tail (.tail .head)) (by omega)) ?_; intro _ _
    refine oN <| c_seq <| c_regiong [10] (by kernel_rfl) <| gM 0 rfl (e_move rfl) <| gM 1 rfl (e_move rfl) <| gM 2 rfl (e_nilCheck rfl) <| gM 3 rfl (e_fak 0 runUnderlying144 rfl sizeOf72 rfl rfl rfl) <| gE 4 rfl (e_load isAgg72 rfl (.inl M0) rfl) <| gM 5 rfl (e_move rfl) <| gM 6 rfl (e_nilCheck rfl) <| gM 7 rfl (e_fak 1 runUnderlying144 rfl sizeOf2 rfl rfl rfl) <| gE 8 rfl (e_load isAgg2 rfl (.inl M0) rfl) <| gM 9 rfl (e_sl_l runUnderlying72 sizeOf5 rfl rfl (by omega) (by omega) (by omega)) ?_
    refine g_l 10 (by kernel_rfl) rfl rfl rfl (l_copy runUnderlying72 sizeOf5 rfl rfl rfl (.blk underlying72 (.inr hD) (DB_cut (k := n - i) (by omega)) (B_one _)) hk (.tail .head) (PutL.of (by simp [B]; omega)) (.inr rfl)) ?_
    intro _ _
    refine dX 11 rfl (e_assign rfl) <| dN <| n_code <| cR <| oM rfl <| oC rfl <| oX (e_fak 1 runUnderlying144 rfl sizeOf2 rfl rfl rfl) <| oX (e_load isAgg2 rfl (.inl M0) rfl) <| oM rfl <| oX (e_addN rfl rfl (by omega)) <| oC rfl <| oX (e_fak 1 runUnderlying144 rfl sizeOf2 rfl rfl rfl) ?_
    refine o_l rfl (l_store sizeOf2 rfl rfl rfl .head (.tail .head) (by omega)) ?_; intro _ _
    refine oN <| c_ret ?_
    refine r_fn (l := [.tmp 4, .tmp 5]) results288 rfl rfl ?_
    have hb : (B ((bs.drop i).take (n - i))).take k = B ((bs.drop i).take k) := by simp [B, List.map_take, List.take_take, Nat.min_eq_left hk1]
    have hl : (B ((bs.drop i).take k)).length = k := by simp [B]; omega
    refine ⟨rfl, ?_⟩
    simp only [Int.toNat_natCast, hb, hl, RB]
end
end Go.Proofs
namespace Go.Proofs
open Go Go.Sl Tryz
set_option maxRecDepth 100000
set_option maxHeartbeats 1000000
section
variable {G : HP} {gr gs gb n cap i k L lo hi e3 e5 eE eU : Nat} {f3 f5 : Nat × Nat} {bs : List UInt8} {rest pl cE' cU' : List Value} {gE gU : Addr} {t3 t5 : List Value}
/-- As many as are asked for. -/
theorem full_is (hD : (gs, DB bs rest lo hi) ∈ G) (hn : bs.length = n) (hc : n ≤ cap) (h63 : cap < 9223372036854775808) (hi' : i + L ≤ n) (hL : 0 < L) (hp : pl.length = L) :
    Ctr Tryz.prog 201 [RV gr, .slice (some ⟨gb, 0, none⟩) L L, .int .i64 L] G [(gr, RB gs n cap i), (gb, C pl 5)] (fun r H' => r = .tuple #[.int .i64 L, .nilIface] ∧ H' = [(gr, RB gs n cap (i + L)), (gb, C (B ((bs.drop i).take L)) 5)]) := by
  have hrd := read_some (G := G) (gr := gr) (gb := gb) (ob := 0) (L := L) (capb := L) (k := L) (pl := pl) hD hn hc h63 (show i < n by omega) (Nat.min_eq_right (by omega)) (by omega)
  have hpl : pl.take 0 ++ B ((bs.drop i).take L) ++ pl.drop (0 + L) = B ((bs.drop i).take L) := by
    have h0 : pl.drop (0 + L) = [] := List.drop_eq_nil_of_le (by omega)
    rw [h0]; simp
  rw [hpl] at hrd
  refine fn_enter 46 func201 rfl ntmps201 rfl ?_
  intro w0
  refine cR <| oA rfl <| oA rfl <| oN <| c_seq <| cR <| oM rfl <| oX (e_lenl runUnderlying72 rfl) <| oM rfl <| oX (e_lss rfl rfl) <| oN ?_
  refine c_ifp rfl (fun h1 => ?_) (fun h1 => ?_)
  · exact absurd h1 (by omega)
  · skip
    refine c_skip <| n_code <| c_seq <| c_block ?_
    refine c_rounds 2 ?_
    refine c_seq <| cR <| oM rfl <| oM rfl <| oX (e_lss rfl rfl) <| oM rfl ?_
    refine o_splitp 17 rfl (fun h2 => ?_) (fun h2 => ?_)
    · refine oM rfl <| oX (e_neqn runUnderlying80 rfl) <| oX (e_pick_t rfl rfl) <| oN <| c_then rfl <| c_skip <| n_code <| c_block <| cR <| oA rfl <| oN <| c_seq <| c_regiong [7] (by kernel_rfl) <| gM 0 rfl (e_move rfl) <| gM 1 rfl (e_move rfl) <| gM 2 rfl (e_move rfl) <| gM 4 rfl (e_func rfl rfl) ?_
      refine gM 5 rfl (e_nilm (fun _ => by kernel_rfl) rfl) ?_
      refine gM 6 rfl (e_move rfl) <| gM 3 rfl (e_sl_l runUnderlying72 sizeOf5 rfl rfl (by omega) (by omega) (by omega)) ?_
      refine g_l 7 (by kernel_rfl) rfl rfl rfl (l_calli0 call288 (by intro w; kernel_rfl) hrd rfl rfl rfl (.cons .head (.cons .head .nil))) ?_
      rintro ⟨r, H'⟩ ⟨rfl, rfl⟩
      simp only [List.cons_append, List.nil_append]
      refine dX 8 rfl (e_move rfl) <| dX 9 rfl (e_extract rfl rfl) <| dX 10 rfl (e_extract rfl rfl) <| dX 11 rfl (e_assign rfl) <| dX 12 rfl (e_assign rfl) <| dN <| n_code <| c_region <| oM rfl <| oM rfl <| oX (e_addn rfl rfl (by simp only [inR]; omega)) <| oA rfl <| o_nil <| n_block ?_
      refine n_rounds ?_
      refine c_seq <| cR <| oM rfl <| oM rfl <| oX (e_lss rfl rfl) <| oM rfl ?_
      refine o_splitp 17 rfl (fun h3 => ?_) (fun h3 => ?_)
      · exact absurd h3 (by omega)
      · skip
        refine oS <| oS <| oX (e_pick_f rfl rfl) <| oN <| c_else rfl ?_
        refine c_exit ?_; refine x_code ?_; refine x_upto ?_; refine x_here ?_
        refine n_code <| c_seq <| cR <| oM rfl <| oM rfl <| oX (e_geq rfl rfl) <| oN ?_
        refine c_ifp rfl (fun h4 => ?_) (fun h4 => ?_)
        · refine c_region <| oA rfl <| oN <| c_ret ?_
          refine r_fn (l := [.tmp 6, .tmp 7]) results201 rfl rfl ?_
          exact ⟨by simp, rfl⟩
        · exact absurd h4 (by omega)
    · exact absurd h2 (by simp; omega)
/-- Fewer are left. -/
theorem short_is (hD : (gs, DB bs rest lo hi) ∈ G) (hE : (3, Obj.cells (EV gE :: t3).toArray e3 f3) ∈ G) (hU : (5, Obj.cells (EV gU :: t5).toArray e5 f5) ∈ G) (hn : bs.length = n) (hc : n ≤ cap) (h63 : cap < 9223372036854775808) (h63' : L < 9223372036854775808) (hi' : i ≤ n) (hL : n < i + L) (hp : pl.length = L) :
    Ctr Tryz.prog 201 [RV gr, .slice (some ⟨gb, 0, none⟩) L L, .int .i64 L] G [(gr, RB gs n cap i), (gb, C pl 5)] (fun r H' => ∃ m e pl', r = .tuple #[.int .i64 m, e] ∧ (e = EV gE ∨ e = EV gU) ∧ H' = [(gr, RB gs n cap n), (gb, C pl' 5)]) := by
  by_cases h0 : i = n
  · subst h0
    have hrd := read_eof (G := G) (gr := gr) (gs := gs) (cap := cap) (n := i) (v := .slice (some ⟨gb, 0, none⟩) L L) hE
    refine fn_enter 46 func201 rfl ntmps201 rfl ?_
    intro w0
    refine cR <| oA rfl <| oA rfl <| oN <| c_seq <| cR <| oM rfl <| oX (e_lenl runUnderlying72 rfl) <| oM rfl <| oX (e_lss rfl rfl) <| oN ?_
    refine c_ifp rfl (fun h1 => ?_) (fun h1 => ?_)
    · exact absurd h1 (by omega)
    · skip
      refine c_skip <| n_code <| c_seq <| c_block ?_
      refine c_rounds 2 ?_
      refine c_seq <| cR <| oM rfl <| oM rfl <| oX (e_lss rfl rfl) <| oM rfl ?_
      refine o_splitp 17 rfl (fun h2 => ?_) (fun h2 => ?_)
      · refine oM rfl <| oX (e_neqn runUnderlying80 rfl) <| oX (e_pick_t rfl rfl) <| oN <| c_then rfl <| c_skip <| n_code <| c_block <| cR <| oA rfl <| oN <| c_seq <| c_regiong [7] (by kernel_rfl) <| gM 0 rfl (e_move rfl) <| gM 1 rfl (e_move rfl) <| gM 2 rfl (e_move rfl) <| gM 4 rfl (e_func rfl rfl) ?_
        refine gM 5 rfl (e_nilm (fun _ => by kernel_rfl) rfl) ?_
        refine gM 6 rfl (e_move rfl) <| gM 3 rfl (e_sl_l runUnderlying72 sizeOf5 rfl rfl (by omega) (by omega) (by omega)) ?_
        refine g_l 7 (by kernel_rfl) rfl rfl rfl (l_calli0 call288 (by intro w; kernel_rfl) hrd rfl rfl rfl (.cons .head .nil)) ?_
        rintro ⟨r, H'⟩ ⟨rfl, rfl⟩
        simp only [List.cons_append, List.nil_append]
        refine dX 8 rfl (e_move rfl) <| dX 9 rfl (e_extract rfl rfl) <| dX 10 rfl (e_extract rfl rfl) <| dX 11 rfl (e_assign rfl) <| dX 12 rfl (e_assign rfl) <| dN <| n_code <| c_region <| oM rfl <| oM rfl <| oX (e_addn rfl rfl (by simp only [inR]; omega)) <| oA rfl <| o_nil <| n_block ?_
        refine n_rounds ?_
        refine c_seq <| cR <| oM rfl <| oM rfl <| oX (e_lss rfl rfl) <| oM rfl ?_
        refine o_splitp 17 rfl (fun h3 => ?_) (fun h3 => ?_)
        · refine oM rfl <| oX (e_ieqn runUnderlying80 rfl) <| oX (e_pick_t rfl rfl) <| oN <| c_else rfl ?_
          refine c_exit ?_; refine x_code ?_; refine x_upto ?_; refine x_here ?_
          refine n_code <| c_seq <| cR <| oM rfl <| oM rfl <| oX (e_geq rfl rfl) <| oN ?_
          refine c_ifp rfl (fun h4 => ?_) (fun h4 => ?_)
          · exact absurd h4 (by omega)
          · skip
            refine cR <| oM rfl <| oX (e_gtr rfl rfl) <| oM rfl ?_
            refine o_splitp 40 rfl (fun h5 => ?_) (fun h5 => ?_)
            · exact absurd h5 (by omega)
            · skip
              refine oS <| oS <| oS <| oX (e_pick_f rfl rfl) <| oN <| cL rfl <| c_ret ?_
              refine r_fn (l := [.tmp 6, .tmp 7]) results201 rfl rfl ?_
              exact ⟨_, _, _, rfl, .inl rfl, rfl⟩
        · exact absurd h3 (by omega)
      · exact absurd h2 (by simp; omega)
  · have hrd := read_some (G := G) (gr := gr) (gb := gb) (ob := 0) (L := L) (capb := L) (k := n - i) (pl := pl) hD hn hc h63 (show i < n by omega) (Nat.min_eq_left (by omega)) (by omega)
    rw [show i + (n - i) = n by omega] at hrd
    refine fn_enter 46 func201 rfl ntmps201 rfl ?_
    intro w0
    refine cR <| oA rfl <| oA rfl <| oN <| c_seq <| cR <| oM rfl <| oX (e_lenl runUnderlying72 rfl) <| oM rfl <| oX (e_lss rfl rfl) <| oN ?_
    refine c_ifp rfl (fun h1 => ?_) (fun h1 => ?_)
    · exact absurd h1 (by omega)
    · skip
      refine c_skip <| n_code <| c_seq <| c_block ?_
      refine c_rounds 3 ?_
      refine c_seq <| cR <| oM rfl <| oM rfl <| oX (e_lss rfl rfl) <| oM rfl ?_
      refine o_splitp 17 rfl (fun h2 => ?_) (fun h2 => ?_)
      · refine oM rfl <| oX (e_neqn runUnderlying80 rfl) <| oX (e_pick_t rfl rfl) <| oN <| c_then rfl <| c_skip <| n_code <| c_block <| cR <| oA rfl <| oN <| c_seq <| c_regiong [7] (by kernel_rfl) <| gM 0 rfl (e_move rfl) <| gM 1 rfl (e_move rfl) <| gM 2 rfl (e_move rfl) <| gM 4 rfl (e_func rfl rfl) ?_
        refine gM 5 rfl (e_nilm (fun _ => by kernel_rfl) rfl) ?_
        refine gM 6 rfl (e_move rfl) <| gM 3 rfl (e_sl_l runUnderlying72 sizeOf5 rfl rfl (by omega) (by omega) (by omega)) ?_
        refine g_l 7 (by kernel_rfl) rfl rfl rfl (l_calli0 call288 (by intro w; kernel_rfl) hrd rfl rfl rfl (.cons .head (.cons .head .nil))) ?_
        rintro ⟨r, H'⟩ ⟨rfl, rfl⟩
        simp only [List.cons_append, List.nil_append]
        refine dX 8 rfl (e_move rfl) <| dX 9 rfl (e_extract rfl rfl) <| dX 10 rfl (e_extract rfl rfl) <| dX 11 rfl (e_assign rfl) <| dX 12 rfl (e_assign rfl) <| dN <| n_code <| c_region <| oM rfl <| oM rfl <| oX (e_addn rfl rfl (by simp only [inR]; omega)) <| oA rfl <| o_nil <| n_block ?_
        refine n_rounds ?_
        refine c_seq <| cR <| oM rfl <| oM rfl <| oX (e_lss rfl rfl) <| oM rfl ?_
        refine o_splitp 17 rfl (fun h3 => ?_) (fun h3 => ?_)
        · refine oM rfl <| oX (e_neqn runUnderlying80 rfl) <| oX (e_pick_t rfl rfl) <| oN <| c_then rfl <| c_skip <| n_code <| c_block <| cR <| oA rfl <| oN <| c_seq <| c_regiong [7] (by kernel_rfl) <| gM 0 rfl (e_move rfl) <| gM 1 rfl (e_move rfl) <| gM 2 rfl (e_move rfl) <| gM 4 rfl (e_func rfl rfl) ?_
          refine gM 5 rfl (e_nilm (fun _ => by kernel_rfl) rfl) ?_
          refine gM 6 rfl (e_move rfl) <| gM 3 rfl (e_sl_l runUnderlying72 sizeOf5 rfl rfl (by omega) (by omega) (by omega)) ?_
          refine g_l 7 (by kernel_rfl) rfl rfl rfl (l_calli0 call288 (by intro w; kernel_rfl) (read_eof hE) rfl rfl rfl (.cons .head .nil)) ?_
          rintro ⟨r, H'⟩ ⟨rfl, rfl⟩
          simp only [List.cons_append, List.nil_append]
          refine dX 8 rfl (e_move rfl) <| dX 9 rfl (e_extract rfl rfl) <| dX 10 rfl (e_extract rfl rfl) <| dX 11 rfl (e_assign rfl) <| dX 12 rfl (e_assign rfl) <| dN <| n_code <| c_region <| oM rfl <| oM rfl <| oX (e_addn rfl rfl (by simp only [inR]; omega)) <| oA rfl <| o_nil <| n_block ?_
          refine n_rounds ?_
          refine c_seq <| cR <| oM rfl <| oM rfl <| oX (e_lss rfl rfl) <| oM rfl ?_
          refine o_splitp 17 rfl (fun h4 => ?_) (fun h4 => ?_)
          · refine oM rfl <| oX (e_ieqn runUnderlying80 rfl) <| oX (e_pick_t rfl rfl) <| oN <| c_else rfl ?_
            refine c_exit ?_; refine x_code ?_; refine x_upto ?_; refine x_here ?_
            refine n_code <| c_seq <| cR <| oM rfl <| oM rfl <| oX (e_geq rfl rfl) <| oN ?_
            refine c_ifp rfl (fun h5 => ?_) (fun h5 => ?_)
            · exact absurd h5 (by omega)
            · skip
              refine cR <| oM rfl <| oX (e_gtr rfl rfl) <| oM rfl ?_
              refine o_splitp 40 rfl (fun h6 => ?_) (fun h6 => ?_)
              · refine oM rfl ?_
                refine oX (e_load isAgg80 rfl (.inr (by assumption)) rfl) ?_
                refine oX (e_ieq_same runUnderlying80 (typeInfo260) rfl (runUnderlying260) (sizeOf262) (by decide) rfl rfl) <| oX (e_pick_t rfl rfl) <| oN <| c_then rfl <| c_region ?_
                refine oX (e_load isAgg80 rfl (.inr (by assumption)) rfl) ?_
                refine oA rfl <| oN <| c_ret ?_
                refine r_fn (l := [.tmp 6, .tmp 7]) results201 rfl rfl ?_
                exact ⟨_, _, _, rfl, .inr rfl, rfl⟩
              · exact absurd h6 (by omega)
          · exact absurd h4 (by omega)
        · exact absurd h3 (by omega)
      · exact absurd h2 (by simp; omega)
end
end Go.Proofs
namespace Go.Proofs
open Go Go.Sl Tryz
set_option maxRecDepth 100000
set_option maxHeartbeats 1000000
section
variable {G : HP} {gr gs gb n cap i k L lo hi e3 e5 eE eU : Nat} {f3 f5 : Nat × Nat} {bs : List UInt8} {rest pl cE' cU' : List Value} {gE gU : Addr} {t3 t5 : List Value}
theorem readFull_is (hD : (gs, DB bs rest lo hi) ∈ G) (hn : bs.length = n) (hc : n ≤ cap) (h63 : cap < 9223372036854775808) (hi' : i + L ≤ n) (hL : 0 < L) (hp : pl.length = L) :
    Ctr Tryz.prog 152 [RV gr, .slice (some ⟨gb, 0, none⟩) L L] G [(gr, RB gs n cap i), (gb, C pl 5)] (fun r H' => r = .tuple #[.int .i64 L, .nilIface] ∧ H' = [(gr, RB gs n cap (i + L)), (gb, C (B ((bs.drop i).take L)) 5)]) := by
  refine fn_enter 13 func152 rfl ntmps152 rfl ?_
  intro w0
  refine cR <| oA rfl <| oA rfl <| oN <| cR <| oM rfl <| oM rfl <| oM rfl <| oX (e_lenl runUnderlying72 rfl) ?_
  refine o_l rfl (l_call call201 (full_is hD hn hc h63 hi' hL hp) rfl rfl (.cons .head (.cons .head .nil))) ?_
  rintro ⟨r, H'⟩ ⟨rfl, rfl⟩
  simp only [List.cons_append, List.nil_append]
  refine oX (e_extract rfl rfl) <| oX (e_extract rfl rfl) <| oA rfl <| oA rfl <| oN <| c_ret ?_
  refine r_fn (l := [.tmp 4, .tmp 5]) results152 rfl rfl ?_
  exact ⟨rfl, rfl⟩
theorem readFull_short (hD : (gs, DB bs rest lo hi) ∈ G) (hE : (3, Obj.cells (EV gE :: t3).toArray e3 f3) ∈ G) (hU : (5, Obj.cells (EV gU :: t5).toArray e5 f5) ∈ G) (hn : bs.length = n) (hc : n ≤ cap) (h63 : cap < 9223372036854775808) (h63' : L < 9223372036854775808) (hi' : i ≤ n) (hL : n < i + L) (hp : pl.length = L) :
    Ctr Tryz.prog 152 [RV gr, .slice (some ⟨gb, 0, none⟩) L L] G [(gr, RB gs n cap i), (gb, C pl 5)] (fun r H' => ∃ m e pl', r = .tuple #[.int .i64 m, e] ∧ (e = EV gE ∨ e = EV gU) ∧ H' = [(gr, RB gs n cap n), (gb, C pl' 5)]) := by
  refine fn_enter 13 func152 rfl ntmps152 rfl ?_
  intro w0
  refine cR <| oA rfl <| oA rfl <| oN <| cR <| oM rfl <| oM rfl <| oM rfl <| oX (e_lenl runUnderlying72 rfl) ?_
  refine o_l rfl (l_call call201 (short_is hD hE hU hn hc h63 h63' hi' hL hp) rfl rfl (.cons .head (.cons .head .nil))) ?_
  rintro ⟨r, H'⟩ ⟨m, e, pl', rfl, he, rfl⟩
  simp only [List.cons_append, List.nil_append]
  refine oX (e_extract rfl rfl) <| oX (e_extract rfl rfl) <| oA rfl <| oA rfl <| oN <| c_ret ?_
  refine r_fn (l := [.tmp 4, .tmp 5]) results152 rfl rfl ?_
  exact ⟨_, _, _, rfl, he, rfl⟩
theorem u32_is {v : Value} {b0 b1 b2 b3 : UInt8} (hB : (gb, C (B [b0, b1, b2, b3]) 5) ∈ G) : CtrP Tryz.prog 330 [v, .slice (some ⟨gb, 0, none⟩) 4 4] G (.int .u32 (le [b0, b1, b2, b3] : Nat)) := by
  have h0 := b0.toNat_lt
  have h1 := b1.toNat_lt
  have h2 := b2.toNat_lt
  have h3 := b3.toNat_lt
  refine fn_enter 30 func330 rfl ntmps330 rfl ?_
  intro w0
  refine cR ?_
  refine o_l rfl (l_box rfl rfl rfl) ?_; intro g2 _
  refine oA rfl <| oN <| cR <| oM rfl <| oX (e_ia runUnderlying72 sizeOf5 rfl rfl (by omega) (by omega)) ?_
  refine oX (e_load isAgg5 rfl (.inr (by assumption)) rfl) ?_
  refine oN <| c_seq <| cQ <| qM rfl <| qX (e_ia runUnderlying72 sizeOf5 rfl rfl (by omega) (by omega)) ?_
  refine qX (e_load isAgg5 rfl (.inr (by assumption)) rfl) ?_
  refine qX (e_convn runUnderlying5 runUnderlying212 rfl (by simp only [inR]; omega)) <| qM rfl <| qX (e_ia runUnderlying72 sizeOf5 rfl rfl (by omega) (by omega)) ?_
  refine qX (e_load isAgg5 rfl (.inr (by assumption)) rfl) ?_
  refine qX (e_convn runUnderlying5 runUnderlying212 rfl (by simp only [inR]; omega)) <| qX (e_shl rfl rfl (by omega)) <| qX (e_or rfl rfl) <| qM rfl <| qX (e_ia runUnderlying72 sizeOf5 rfl rfl (by omega) (by omega)) ?_
  refine qX (e_load isAgg5 rfl (.inr (by assumption)) rfl) ?_
  refine qX (e_convn runUnderlying5 runUnderlying212 rfl (by simp only [inR]; omega)) <| qX (e_shl rfl rfl (by omega)) <| qX (e_or rfl rfl) <| qM rfl <| qX (e_ia runUnderlying72 sizeOf5 rfl rfl (by omega) (by omega)) ?_
  refine qX (e_load isAgg5 rfl (.inr (by assumption)) rfl) ?_
  refine qX (e_convn runUnderlying5 runUnderlying212 rfl (by simp only [inR]; omega)) <| qX (e_shl rfl rfl (by omega)) <| qX (e_or rfl rfl) <| qA rfl <| qN <| c_ret ?_
  refine WR.less (fun _ _ h => h) (List.nil_sublist _) ?_
  refine r_fn1 results330 rfl ?_
  refine ⟨?_, rfl⟩
  show Value.int _ _ = Value.int _ _
  congr 1
  rw [or_sh rfl 8 8 rfl (by decide) (by omega) (by show _ < 2 ^ 32; omega), or_sh rfl 16 16 rfl (by decide) (by omega) (by show _ < 2 ^ 32; omega), or_sh rfl 24 24 rfl (by decide) (by omega) (by show _ < 2 ^ 32; omega)]
  simp only [le]
  omega
theorem u64_is {v : Value} {b0 b1 b2 b3 b4 b5 b6 b7 : UInt8} (hB : (gb, C (B [b0, b1, b2, b3, b4, b5, b6, b7]) 5) ∈ G) : CtrP Tryz.prog 214 [v, .slice (some ⟨gb, 0, none⟩) 8 8] G (.int .u64 (le [b0, b1, b2, b3, b4, b5, b6, b7] : Nat)) := by
  have h0 := b0.toNat_lt
  have h1 := b1.toNat_lt
  have h2 := b2.toNat_lt
  have h3 := b3.toNat_lt
  have h4 := b4.toNat_lt
  have h5 := b5.toNat_lt
  have h6 := b6.toNat_lt
  have h7 := b7.toNat_lt
  refine fn_enter 54 func214 rfl ntmps214 rfl ?_
  intro w0
  refine cR ?_
  refine o_l rfl (l_box rfl rfl rfl) ?_; intro g2 _
  refine oA rfl <| oN <| cR <| oM rfl <| oX (e_ia runUnderlying72 sizeOf5 rfl rfl (by omega) (by omega)) ?_
  refine oX (e_load isAgg5 rfl (.inr (by assumption)) rfl) ?_
  refine oN <| c_seq <| cQ <| qM rfl <| qX (e_ia runUnderlying72 sizeOf5 rfl rfl (by omega) (by omega)) ?_
  refine qX (e_load isAgg5 rfl (.inr (by assumption)) rfl) ?_
  refine qX (e_convn runUnderlying5 runUnderlying23 rfl (by simp only [inR]; omega)) <| qM rfl <| qX (e_ia runUnderlying72 sizeOf5 rfl rfl (by omega) (by omega)) ?_
  refine qX (e_load isAgg5 rfl (.inr (by assumption)) rfl) ?_
  refine qX (e_convn runUnderlying5 runUnderlying23 rfl (by simp only [inR]; omega)) <| qX (e_shl rfl rfl (by omega)) <| qX (e_or rfl rfl) <| qM rfl <| qX (e_ia runUnderlying72 sizeOf5 rfl rfl (by omega) (by omega)) ?_
  refine qX (e_load isAgg5 rfl (.inr (by assumption)) rfl) ?_
  refine qX (e_convn runUnderlying5 runUnderlying23 rfl (by simp only [inR]; omega)) <| qX (e_shl rfl rfl (by omega)) <| qX (e_or rfl rfl) <| qM rfl <| qX (e_ia runUnderlying72 sizeOf5 rfl rfl (by omega) (by omega)) ?_
  refine qX (e_load isAgg5 rfl (.inr (by assumption)) rfl) ?_
  refine qX (e_convn runUnderlying5 runUnderlying23 rfl (by simp only [inR]; omega)) <| qX (e_shl rfl rfl (by omega)) <| qX (e_or rfl rfl) <| qM rfl <| qX (e_ia runUnderlying72 sizeOf5 rfl rfl (by omega) (by omega)) ?_
  refine qX (e_load isAgg5 rfl (.inr (by assumption)) rfl) ?_
  refine qX (e_convn runUnderlying5 runUnderlying23 rfl (by simp only [inR]; omega)) <| qX (e_shl rfl rfl (by omega)) <| qX (e_or rfl rfl) <| qM rfl <| qX (e_ia runUnderlying72 sizeOf5 rfl rfl (by omega) (by omega)) ?_
  refine qX (e_load isAgg5 rfl (.inr (by assumption)) rfl) ?_
  refine qX (e_convn runUnderlying5 runUnderlying23 rfl (by simp only [inR]; omega)) <| qX (e_shl rfl rfl (by omega)) <| qX (e_or rfl rfl) <| qM rfl <| qX (e_ia runUnderlying72 sizeOf5 rfl rfl (by omega) (by omega)) ?_
  refine qX (e_load isAgg5 rfl (.inr (by assumption)) rfl) ?_
  refine qX (e_convn runUnderlying5 runUnderlying23 rfl (by simp only [inR]; omega)) <| qX (e_shl rfl rfl (by omega)) <| qX (e_or rfl rfl) <| qM rfl <| qX (e_ia runUnderlying72 sizeOf5 rfl rfl (by omega) (by omega)) ?_
  refine qX (e_load isAgg5 rfl (.inr (by assumption)) rfl) ?_
  refine qX (e_convn runUnderlying5 runUnderlying23 rfl (by simp only [inR]; omega)) <| qX (e_shl rfl rfl (by omega)) <| qX (e_or rfl rfl) <| qA rfl <| qN <| c_ret ?_
  refine WR.less (fun _ _ h => h) (List.nil_sublist _) ?_
  refine r_fn1 results214 rfl ?_
  refine ⟨?_, rfl⟩
  show Value.int _ _ = Value.int _ _
  congr 1
  rw [or_sh rfl 8 8 rfl (by decide) (by omega) (by show _ < 2 ^ 64; omega), or_sh rfl 16 16 rfl (by decide) (by omega) (by show _ < 2 ^ 64; omega), or_sh rfl 24 24 rfl (by decide) (by omega) (by show _ < 2 ^ 64; omega), or_sh rfl 32 32 rfl (by decide) (by omega) (by show _ < 2 ^ 64; omega), or_sh rfl 40 40 rfl (by decide) (by omega) (by show _ < 2 ^ 64; omega), or_sh rfl 48 48 rfl (by decide) (by omega) (by show _ < 2 ^ 64; omega), or_sh rfl 56 56 rfl (by decide) (by omega) (by show _ < 2 ^ 64; omega)]
  simp only [le]
  omega
theorem take4 {l : List UInt8} (h : 4 ≤ l.length) : ∃ b0 b1 b2 b3, l.take 4 = [b0, b1, b2, b3] := by
  match l, h with
  | a :: b :: c :: d :: _, _ => exact ⟨a, b, c, d, rfl⟩
theorem take8 {l : List UInt8} (h : 8 ≤ l.length) : ∃ b0 b1 b2 b3 b4 b5 b6 b7, l.take 8 = [b0, b1, b2, b3, b4, b5, b6, b7] := by
  match l, h with
  | a :: b :: c :: d :: a' :: b' :: c' :: d' :: _, _ => exact ⟨a, b, c, d, a', b', c', d', rfl⟩
/-- A number of 4 bytes, into a cell. -/
theorem read32_is {gp off : Nat} {pc pc' : List Value} {ep : TypeId} (hD : (gs, DB bs rest lo hi) ∈ G) (hn : bs.length = n) (hc : n ≤ cap) (h63 : cap < 9223372036854775808) (hi' : i + 4 ≤ n) (hs : SetAt pc off (.int .u32 (le ((bs.drop i).take 4) : Nat)) pc') :
    Ctr Tryz.prog 321 [RV gr, .pointer (some ⟨gp, off, none⟩)] G [(gr, RB gs n cap i), (gp, C pc ep)] (fun r H' => r = .nilIface ∧ H' = [(gr, RB gs n cap (i + 4)), (gp, C pc' ep)]) := by
  obtain ⟨b0, b1, b2, b3, hb⟩ := take4 (l := bs.drop i) (by simp; omega)
  have hrd := fun (gb : Nat) => readFull_is (G := G) (gr := gr) (gb := gb) (pl := [.int .u8 0, .int .u8 0, .int .u8 0, .int .u8 0]) hD hn hc h63 hi' (by decide) rfl
  rw [hb] at hs hrd
  refine fn_enter 23 func321 rfl ntmps321 rfl ?_
  intro w0
  refine cR <| oA rfl <| oN <| cR ?_
  refine o_l rfl (l_mksc (l := [.int .u8 0, .int .u8 0, .int .u8 0, .int .u8 0]) underlying72 (info_of typeInfo5) rfl rfl rfl rfl rfl rfl rfl (Nat.le_refl _) (by kernel_rfl)) ?_
  intro g8 _
  refine oA rfl <| oN <| c_seq <| cR <| oM rfl <| oM rfl ?_
  refine o_l rfl (l_call call152 (hrd g8) rfl rfl (.cons (.tail .head) (.cons .head .nil))) ?_
  rintro ⟨r, H'⟩ ⟨rfl, rfl⟩
  simp only [List.cons_append, List.nil_append]
  refine oM rfl <| oX (e_extract rfl rfl) <| oX (e_extract rfl rfl) <| oA rfl <| oA rfl <| oN <| cR <| oM rfl <| oX (e_nnen runUnderlying80 rfl) <| oN <| cL rfl <| cR <| oM rfl <| oX (e_load0 isAgg294 sizeOf294 rfl) <| oM rfl ?_
  refine o_l rfl (l_callj (HJ := [(g8, C (B [b0, b1, b2, b3]) 5)]) call330 (u32_is (G := _ ++ [_]) (List.mem_append_right _ (.head _))) rfl rfl .nil (by simp)) ?_
  rintro ⟨r, H'⟩ ⟨rfl, rfl⟩
  simp only [List.cons_append, List.nil_append]
  refine oC rfl ?_
  refine o_l rfl (l_store sizeOf212 rfl rfl rfl (.tail (.tail .head)) hs (by omega)) ?_
  intro _ _
  refine oN <| cR <| oA rfl <| oN <| c_ret ?_
  refine WR.sel (.cons .head (.cons (.tail .head) .nil)) ?_
  refine r_fn1 results321 rfl ?_
  exact ⟨rfl, rfl⟩
theorem read32_short {gp off : Nat} {v : Value} (hD : (gs, DB bs rest lo hi) ∈ G) (hE : (3, Obj.cells (EV gE :: t3).toArray e3 f3) ∈ G) (hU : (5, Obj.cells (EV gU :: t5).toArray e5 f5) ∈ G) (hn : bs.length = n) (hc : n ≤ cap) (h63 : cap < 9223372036854775808) (hi' : i ≤ n) (hL : n < i + 4) :
    Ctr Tryz.prog 321 [RV gr, v] G [(gr, RB gs n cap i)] (fun r H' => ∃ g, (g = gE ∨ g = gU) ∧ r = EV g ∧ H' = [(gr, RB gs n cap n)]) := by
  have hrd := fun (gb : Nat) => readFull_short (G := G) (gr := gr) (gb := gb) (L := 4) (pl := [.int .u8 0, .int .u8 0, .int .u8 0, .int .u8 0]) hD hE hU hn hc h63 (by decide) hi' hL rfl
  refine fn_enter 23 func321 rfl ntmps321 rfl ?_
  intro w0
  refine cR <| oA rfl <| oN <| cR ?_
  refine o_l rfl (l_mksc (l := [.int .u8 0, .int .u8 0, .int .u8 0, .int .u8 0]) underlying72 (info_of typeInfo5) rfl rfl rfl rfl rfl rfl rfl (Nat.le_refl _) (by kernel_rfl)) ?_
  intro g8 _
  refine oA rfl <| oN <| c_seq <| cR <| oM rfl <| oM rfl ?_
  refine o_l rfl (l_call call152 (hrd g8) rfl rfl (.cons (.tail .head) (.cons .head .nil))) ?_
  rintro ⟨r, H'⟩ ⟨m, e, pl', rfl, he, rfl⟩
  simp only [List.cons_append, List.nil_append]
  obtain ⟨ge, rfl, hg⟩ : ∃ g, e = EV g ∧ (g = gE ∨ g = gU) := by rcases he with rfl | rfl <;> exact ⟨_, rfl, by simp⟩
  refine oM rfl <| oX (e_extract rfl rfl) <| oX (e_extract rfl rfl) <| oA rfl <| oA rfl <| oN <| cR <| oM rfl <| oX (e_inen runUnderlying80 rfl) <| oN <| c_then rfl <| cR <| oM rfl <| oA rfl <| oN <| c_ret ?_
  refine WR.sel (.cons .head .nil) ?_
  refine r_fn1 results321 rfl ?_
  exact ⟨ge, hg, rfl, rfl⟩
/-- A number of 8 bytes, into a cell. -/
theorem read64_is {gp off : Nat} {pc pc' : List Value} {ep : TypeId} (hD : (gs, DB bs rest lo hi) ∈ G) (hn : bs.length = n) (hc : n ≤ cap) (h63 : cap < 9223372036854775808) (hi' : i + 8 ≤ n) (hs : SetAt pc off (.int .u64 (le ((bs.drop i).take 8) : Nat)) pc') :
    Ctr Tryz.prog 331 [RV gr, .pointer (some ⟨gp, off, none⟩)] G [(gr, RB gs n cap i), (gp, C pc ep)] (fun r H' => r = .nilIface ∧ H' = [(gr, RB gs n cap (i + 8)), (gp, C pc' ep)]) := by
  obtain ⟨b0, b1, b2, b3, b4, b5, b6, b7, hb⟩ := take8 (l := bs.drop i) (by simp; omega)
  have hrd := fun (gb : Nat) => readFull_is (G := G) (gr := gr) (gb := gb) (pl := [.int .u8 0, .int .u8 0, .int .u8 0, .int .u8 0, .int .u8 0, .int .u8 0, .int .u8 0, .int .u8 0]) hD hn hc h63 hi' (by decide) rfl
  rw [hb] at hs hrd
  refine fn_enter 23 func331 rfl ntmps331 rfl ?_
  intro w0
  refine cR <| oA rfl <| oN <| cR ?_
  refine o_l rfl (l_mksc (l := [.int .u8 0, .int .u8 0, .int .u8 0, .int .u8 0, .int .u8 0, .int .u8 0, .int .u8 0, .int .u8 0]) underlying72 (info_of typeInfo5) rfl rfl rfl rfl rfl rfl rfl (Nat.le_refl _) (by kernel_rfl)) ?_
  intro g8 _
  refine oA rfl <| oN <| c_seq <| cR <| oM rfl <| oM rfl ?_
  refine o_l rfl (l_call call152 (hrd g8) rfl rfl (.cons (.tail .head) (.cons .head .nil))) ?_
  rintro ⟨r, H'⟩ ⟨rfl, rfl⟩
  simp only [List.cons_append, List.nil_append]
  refine oM rfl <| oX (e_extract rfl rfl) <| oX (e_extract rfl rfl) <| oA rfl <| oA rfl <| oN <| cR <| oM rfl <| oX (e_nnen runUnderlying80 rfl) <| oN <| cL rfl <| cR <| oM rfl <| oX (e_load0 isAgg294 sizeOf294 rfl) <| oM rfl ?_
  refine o_l rfl (l_callj (HJ := [(g8, C (B [b0, b1, b2, b3, b4, b5, b6, b7]) 5)]) call214 (u64_is (G := _ ++ [_]) (List.mem_append_right _ (.head _))) rfl rfl .nil (by simp)) ?_
  rintro ⟨r, H'⟩ ⟨rfl, rfl⟩
  simp only [List.cons_append, List.nil_append]
  refine oC rfl ?_
  refine o_l rfl (l_store sizeOf23 rfl rfl rfl (.tail (.tail .head)) hs (by omega)) ?_
  intro _ _
  refine oN <| cR <| oA rfl <| oN <| c_ret ?_
  refine WR.sel (.cons .head (.cons (.tail .head) .nil)) ?_
  refine r_fn1 results331 rfl ?_
  exact ⟨rfl, rfl⟩
theorem read64_short {gp off : Nat} {v : Value} (hD : (gs, DB bs rest lo hi) ∈ G) (hE : (3, Obj.cells (EV gE :: t3).toArray e3 f3) ∈ G) (hU : (5, Obj.cells (EV gU :: t5).toArray e5 f5) ∈ G) (hn : bs.length = n) (hc : n ≤ cap) (h63 : cap < 9223372036854775808) (hi' : i ≤ n) (hL : n < i + 8) :
    Ctr Tryz.prog 331 [RV gr, v] G [(gr, RB gs n cap i)] (fun r H' => ∃ g, (g = gE ∨ g = gU) ∧ r = EV g ∧ H' = [(gr, RB gs n cap n)]) := by
  have hrd := fun (gb : Nat) => readFull_short (G := G) (gr := gr) (gb := gb) (L := 8) (pl := [.int .u8 0, .int .u8 0, .int .u8 0, .int .u8 0, .int .u8 0, .int .u8 0, .int .u8 0, .int .u8 0]) hD hE hU hn hc h63 (by decide) hi' hL rfl
  refine fn_enter 23 func331 rfl ntmps331 rfl ?_
  intro w0
  refine cR <| oA rfl <| oN <| cR ?_
  refine o_l rfl (l_mksc (l := [.int .u8 0, .int .u8 0, .int .u8 0, .int .u8 0, .int .u8 0, .int .u8 0, .int .u8 0, .int .u8 0]) underlying72 (info_of typeInfo5) rfl rfl rfl rfl rfl rfl rfl (Nat.le_refl _) (by kernel_rfl)) ?_
  intro g8 _
  refine oA rfl <| oN <| c_seq <| cR <| oM rfl <| oM rfl ?_
  refine o_l rfl (l_call call152 (hrd g8) rfl rfl (.cons (.tail .head) (.cons .head .nil))) ?_
  rintro ⟨r, H'⟩ ⟨m, e, pl', rfl, he, rfl⟩
  simp only [List.cons_append, List.nil_append]
  obtain ⟨ge, rfl, hg⟩ : ∃ g, e = EV g ∧ (g = gE ∨ g = gU) := by rcases he with rfl | rfl <;> exact ⟨_, rfl, by simp⟩
  refine oM rfl <| oX (e_extract rfl rfl) <| oX (e_extract rfl rfl) <| oA rfl <| oA rfl <| oN <| cR <| oM rfl <| oX (e_inen runUnderlying80 rfl) <| oN <| c_then rfl <| cR <| oM rfl <| oA rfl <| oN <| c_ret ?_
  refine WR.sel (.cons .head .nil) ?_
  refine r_fn1 results331 rfl ?_
  exact ⟨ge, hg, rfl, rfl⟩
end
end Go.Proofs

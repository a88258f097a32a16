/- Numbers of bytes, the least first; How many bits a small number has; Rows of numbers, turned by swaps alone; What the parts of the library's sort keep; Rows of numbers in memory; Each number once, in order; Numbers as varints; Entries, as memory holds them; Numbers as varints: how long they are; written into a row, read from one; A number read from its varint; A reader of bytes. (A part of the proof of this: for every input laws.FnIxStop returns true and its arguments read as they did, the listed package variables being what the program lays.) -/
import Derived.Test.YtochgglejmfelaaGreatDoorG02
import Derived.KernelRfl
import Derived.Test.YtochgglejmfelaaGreatDoorProg
import Derived.LaidEql
namespace Go.Sl
open Go
def le : List UInt8 → Nat
  | [] => 0
  | b :: l => b.toNat + 256 * le l
theorem le_lt : ∀ l : List UInt8, le l < 256 ^ l.length
  | [] => by simp [le]
  | b :: l => by
    have := le_lt l
    have hb := b.toNat_lt
    simp only [le, List.length_cons, Nat.pow_succ]
    omega
theorem or_add {a b k : Nat} (ha : a < 2 ^ k) : a ||| b * 2 ^ k = a + b * 2 ^ k := by
  have := Nat.shiftLeft_add_eq_or_of_lt ha b
  rw [Nat.shiftLeft_eq] at this
  rw [Nat.or_comm, ← this, Nat.add_comm]
/-- What 'or' comes to where no bit is in both. -/
theorem ib_or {kd : IntKind} (hk : kd.signed = false) {a b k : Nat} (ha : a < 2 ^ k) (hb : a + b * 2 ^ k < 2 ^ kd.bits) : ib .or kd (a : Nat) ((b * 2 ^ k : Nat) : Int) = ((a + b * 2 ^ k : Nat) : Int) := by
  have h1 : a < 2 ^ kd.bits := by omega
  have h2 : b * 2 ^ k < 2 ^ kd.bits := by omega
  simp only [ib, BitVec.toNat_or, BitVec.ofInt_natCast, BitVec.toNat_ofNat, Nat.mod_eq_of_lt h1, Nat.mod_eq_of_lt h2, or_add ha]
  generalize a + b * 2 ^ k = z at hb
  refine wrap_in kd _ ?_ ?_
  · cases kd <;> simp_all [IntKind.min, IntKind.signed] <;> omega
  · cases kd <;> simp_all [IntKind.max, IntKind.signed, IntKind.bits] <;> omega
theorem or_sh {kd : IntKind} (hk : kd.signed = false) {a b : Nat} (m : Int) (k : Nat) (hm : m.toNat = k) (hkb : k ≤ kd.bits) (ha : a < 2 ^ k) (hb : a + b * 2 ^ k < 2 ^ kd.bits) : ib .or kd (a : Nat) (kd.wrap ((b : Nat) * 2 ^ (min m.toNat kd.bits))) = ((a + b * 2 ^ k : Nat) : Int) := by
  have h1 : kd.wrap ((b : Nat) * 2 ^ (min m.toNat kd.bits)) = ((b * 2 ^ k : Nat) : Int) := by
    rw [hm, Nat.min_eq_left hkb, show ((b : Nat) : Int) * 2 ^ k = ((b * 2 ^ k : Nat) : Int) by simp]
    have h2 : b * 2 ^ k < 2 ^ kd.bits := by omega
    generalize b * 2 ^ k = z at h2
    refine wrap_in kd _ ?_ ?_
    · cases kd <;> simp_all [IntKind.min, IntKind.signed] <;> omega
    · cases kd <;> simp_all [IntKind.max, IntKind.signed, IntKind.bits] <;> omega
  rw [h1, ib_or hk ha hb]
end Go.Sl
namespace Go.Sl
open Go
set_option maxRecDepth 10000
def tbl : List UInt8 := [0, 1] ++ List.replicate 2 2 ++ List.replicate 4 3 ++ List.replicate 8 4 ++ List.replicate 16 5 ++ List.replicate 32 6 ++ List.replicate 64 7 ++ List.replicate 128 8
def nb (x : Nat) : Nat := (tbl.getD x 0).toNat
theorem tbl_get {x : Nat} (h : x < 256) : tbl[((x : Nat) : Int).toNat]? = some (tbl.getD x 0) := by
  have : tbl.length = 256 := rfl
  rw [Int.toNat_natCast, List.getD_eq_getElem?_getD, List.getElem?_eq_getElem (by omega)]
  rfl
theorem nb_all : (List.range 256).all (fun x => decide (nb x ≤ 8) && (decide (x < 8) || (decide (x < 2 ^ nb x) && decide (2 ^ nb x ≤ 2 * x) && decide (4 ≤ nb x)))) = true := by kernel_rfl
theorem nb_is {x : Nat} (h : x < 256) : nb x ≤ 8 ∧ (8 ≤ x → x < 2 ^ nb x ∧ 2 ^ nb x ≤ 2 * x ∧ 4 ≤ nb x) := by
  have := List.all_eq_true.1 nb_all x (List.mem_range.2 h)
  simp only [Bool.and_eq_true, Bool.or_eq_true, decide_eq_true_eq] at this
  refine ⟨this.1, fun h8 => ?_⟩
  rcases this.2 with h | h
  · omega
  · exact ⟨h.1.1, h.1.2, h.2⟩
/-- What 'and' with ones comes to. -/
theorem ib_and {kd : IntKind} (hk : kd.signed = false) {m : Int} {z : Nat} (hz : z < 2 ^ kd.bits) : ∃ r : Nat, ib .and kd m (z : Nat) = (r : Int) ∧ r ≤ z := by
  refine ⟨(BitVec.ofInt kd.bits m &&& BitVec.ofInt kd.bits (z : Nat)).toNat, ?_, ?_⟩
  · have h := (BitVec.ofInt kd.bits m &&& BitVec.ofInt kd.bits (z : Nat)).isLt
    simp only [ib]
    generalize (BitVec.ofInt kd.bits m &&& BitVec.ofInt kd.bits (z : Nat)).toNat = q at h
    refine wrap_in kd _ ?_ ?_
    · cases kd <;> simp_all [IntKind.min, IntKind.signed] <;> omega
    · cases kd <;> simp_all [IntKind.max, IntKind.signed, IntKind.bits] <;> omega
  · rw [BitVec.toNat_and, BitVec.ofInt_natCast, BitVec.toNat_ofNat, Nat.mod_eq_of_lt hz]
    exact Nat.and_le_right
end Go.Sl
namespace Go.Sl
def gd (l : List Int) (i : Nat) : Int := l.getD i 0
def swp (l : List Int) (i j : Nat) : List Int := (l.set i (gd l j)).set j (gd l i)
theorem gd_eq {l : List Int} {i : Nat} (h : i < l.length) : l[i]? = some (gd l i) := by simp [gd, h]
theorem swp_length (l : List Int) (i j : Nat) : (swp l i j).length = l.length := by simp [swp]
theorem gd_swp {l : List Int} {i j : Nat} (hi : i < l.length) (hj : j < l.length) (k : Nat) : gd (swp l i j) k = if k = j then gd l i else if k = i then gd l j else gd l k := by
  simp only [gd, swp, List.getD_eq_getElem?_getD, List.getElem?_set, List.length_set]
  by_cases h1 : j = k
  · subst h1; simp [hj]
  · by_cases h2 : i = k
    · subst h2; simp [h1, Ne.symm h1, hi]
    · simp [h1, h2, Ne.symm h1, Ne.symm h2]
theorem swp_perm {l : List Int} {i j : Nat} (hi : i < l.length) (hj : j < l.length) : (swp l i j).Perm l := by
  have h := Array.swap_perm (xs := l.toArray) (i := i) (j := j) (by simpa using hi) (by simpa using hj)
  rw [Array.perm_iff_toList_perm] at h
  simpa [swp, gd, hi, hj] using h
/-- Turned by swaps between the places a and b. -/
inductive PR (a b : Nat) : List Int → List Int → Prop where
  | refl {l : List Int} : PR a b l l
  | swap {l l' : List Int} {i j : Nat} (h : PR a b l l') (h1 : a ≤ i) (h2 : i < b) (h3 : a ≤ j) (h4 : j < b) (h5 : b ≤ l'.length) : PR a b l (swp l' i j)
theorem PR.len {a b : Nat} {l l' : List Int} (h : PR a b l l') : l'.length = l.length := by
  induction h with
  | refl => rfl
  | swap _ _ _ _ _ _ ih => rw [swp_length, ih]
theorem PR.perm {a b : Nat} {l l' : List Int} (h : PR a b l l') : l'.Perm l := by
  induction h with
  | refl => exact .refl _
  | swap _ _ _ _ _ _ ih => exact (swp_perm (by omega) (by omega)).trans ih
theorem PR.trans {a b : Nat} {l l' l2 : List Int} (h : PR a b l l') (k : PR a b l' l2) : PR a b l l2 := by
  induction k with
  | refl => exact h
  | swap _ h1 h2 h3 h4 h5 ih => exact .swap ih h1 h2 h3 h4 h5
theorem PR.one {a b : Nat} {l : List Int} {i j : Nat} (h1 : a ≤ i) (h2 : i < b) (h3 : a ≤ j) (h4 : j < b) (h5 : b ≤ l.length) : PR a b l (swp l i j) := .swap .refl h1 h2 h3 h4 h5
theorem PR.mono {a b a' b' : Nat} {l l' : List Int} (h : PR a b l l') (h1 : a' ≤ a) (h2 : b ≤ b') (h3 : b' ≤ l.length) : PR a' b' l l' := by
  induction h with
  | refl => exact .refl
  | swap h _ _ _ _ _ ih => exact .swap ih (by omega) (by omega) (by omega) (by omega) (by rw [h.len]; exact h3)
theorem PR.out {a b : Nat} {l l' : List Int} (h : PR a b l l') {i : Nat} (hi : i < a ∨ b ≤ i) : gd l' i = gd l i := by
  induction h with
  | refl => rfl
  | swap _ _ _ _ _ _ ih => rw [gd_swp (by omega) (by omega), if_neg (by omega), if_neg (by omega), ih]
theorem PR.all {a b : Nat} {l l' : List Int} (h : PR a b l l') {p : Int → Prop} (hp : ∀ i, a ≤ i → i < b → p (gd l i)) : ∀ i, a ≤ i → i < b → p (gd l' i) := by
  induction h with
  | refl => exact hp
  | @swap l' i j _ h1 h2 h3 h4 h5 ih =>
    intro k k1 k2
    rw [gd_swp (by omega) (by omega)]
    split
    · exact ih _ h1 h2
    · split
      · exact ih _ h3 h4
      · exact ih _ k1 k2
/-- The places from a to b are in order. -/
def SR (a b : Nat) (l : List Int) : Prop := ∀ i j, a ≤ i → i < j → j < b → gd l i ≤ gd l j
theorem SR.small {a b : Nat} {l : List Int} (h : b ≤ a + 1) : SR a b l := fun i j _ _ _ => by omega
theorem SR.snoc {a b : Nat} {l : List Int} (h : SR a b l) (hb : a < b) (hh : gd l (b - 1) ≤ gd l b) : SR a (b + 1) l := fun i j h1 h2 h3 => by
  by_cases e : j < b
  · exact h i j h1 h2 e
  · obtain rfl : j = b := by omega
    by_cases e2 : i = j - 1
    · subst e2; exact hh
    · have := h i (j - 1) h1 (by omega) (by omega); omega
theorem SR.less {a b a' b' : Nat} {l : List Int} (h : SR a b l) (h1 : a ≤ a') (h2 : b' ≤ b) : SR a' b' l := fun i j k1 k2 k3 => h i j (by omega) k2 (by omega)
theorem SR.congr {a b : Nat} {l l' : List Int} (h : SR a b l) (he : ∀ i, a ≤ i → i < b → gd l' i = gd l i) : SR a b l' := fun i j k1 k2 k3 => by
  rw [he i (by omega) (by omega), he j (by omega) (by omega)]; exact h i j k1 k2 k3
/-- A row that is in order but for the place j, which is one of the least of those behind it. -/
structure Ins (a j b : Nat) (l : List Int) : Prop where
  rest : ∀ p q, a ≤ p → p < q → q < b → p ≠ j → q ≠ j → gd l p ≤ gd l q
  here : ∀ q, j < q → q < b → gd l j ≤ gd l q
theorem Ins.start {a b : Nat} {l : List Int} (h : SR a b l) : Ins a b (b + 1) l := ⟨fun p q h1 h2 h3 h4 h5 => h p q h1 h2 (by omega), fun q h1 h2 => by omega⟩
theorem Ins.stop {a j b : Nat} {l : List Int} (h : Ins a j b l) (hj : j ≤ a ∨ ¬ gd l j < gd l (j - 1)) : SR a b l := fun p q h1 h2 h3 => by
  by_cases e : q = j
  · subst e
    have hh : gd l (q - 1) ≤ gd l q := by omega
    by_cases e2 : p = q - 1
    · subst e2; exact hh
    · have := h.rest p (q - 1) h1 (by omega) (by omega) (by omega) (by omega); omega
  · by_cases e2 : p = j
    · subst e2; exact h.here q h2 h3
    · exact h.rest p q h1 h2 h3 e2 e
theorem Ins.step {a j b : Nat} {l : List Int} (h : Ins a j b l) (hj : gd l j < gd l (j - 1)) (ha : a < j) (hb : j < b) (hl : b ≤ l.length) : Ins a (j - 1) b (swp l j (j - 1)) := by
  have hg := gd_swp (l := l) (i := j) (j := j - 1) (by omega) (by omega)
  constructor
  · intro p q h1 h2 h3 h4 h5
    rw [hg, hg, if_neg h4, if_neg h5]
    by_cases e : p = j
    · rw [if_pos e, if_neg (by omega)]; exact h.rest _ _ (by omega) (by omega) h3 (by omega) (by omega)
    · rw [if_neg e]
      by_cases e2 : q = j
      · rw [if_pos e2]
        exact h.rest _ _ h1 (by omega) (by omega) (by omega) (by omega)
      · rw [if_neg e2]; exact h.rest _ _ h1 h2 h3 e e2
  · intro q h1 h2
    rw [hg, hg, if_pos rfl, if_neg (by omega)]
    by_cases e : q = j
    · rw [if_pos e]; omega
    · rw [if_neg e]; exact h.here q (by omega) h2
/-! ### Heaps -/
/-- From place s on (counted from f) each element is at least its children ahead of hi. -/
def Hp (f s hi : Nat) (l : List Int) : Prop := ∀ k c, s ≤ k → c = 2 * k + 1 ∨ c = 2 * k + 2 → c < hi → gd l (f + c) ≤ gd l (f + k)
/-- The same but at r; r's children are at most r's parent. -/
structure HQ (f s hi r : Nat) (l : List Int) : Prop where
  le : s ≤ r
  rest : ∀ k c, s ≤ k → k ≠ r → c = 2 * k + 1 ∨ c = 2 * k + 2 → c < hi → gd l (f + c) ≤ gd l (f + k)
  up : ∀ k c, s ≤ k → r = 2 * k + 1 ∨ r = 2 * k + 2 → c = 2 * r + 1 ∨ c = 2 * r + 2 → c < hi → gd l (f + c) ≤ gd l (f + k)
theorem HQ.start {f s hi : Nat} {l : List Int} (h : Hp f (s + 1) hi l) : HQ f s hi s l :=
  ⟨Nat.le_refl _, fun k c h1 h2 h3 h4 => h k c (by omega) h3 h4, fun k c h1 h2 h3 h4 => by omega⟩
theorem HQ.stop {f s hi r : Nat} {l : List Int} (h : HQ f s hi r l) (hr : ∀ c, c = 2 * r + 1 ∨ c = 2 * r + 2 → c < hi → gd l (f + c) ≤ gd l (f + r)) : Hp f s hi l := fun k c h1 h2 h3 => by
  by_cases e : k = r
  · subst e; exact hr c h2 h3
  · exact h.rest k c h1 e h2 h3
theorem HQ.step {f s hi r d : Nat} {l : List Int} (h : HQ f s hi r l) (hd : d = 2 * r + 1 ∨ d = 2 * r + 2) (hdh : d < hi) (hl : f + hi ≤ l.length) (hmax : ∀ c, c = 2 * r + 1 ∨ c = 2 * r + 2 → c < hi → gd l (f + c) ≤ gd l (f + d)) (hlt : gd l (f + r) < gd l (f + d)) :
    HQ f s hi d (swp l (f + r) (f + d)) := by
  have hg := gd_swp (l := l) (i := f + r) (j := f + d) (by omega) (by omega)
  have hle := h.le
  refine ⟨by omega, ?_, ?_⟩
  · intro k c h1 h2 h3 h4
    rw [hg, hg, if_neg (show ¬ f + k = f + d by omega)]
    by_cases e : k = r
    · subst e
      rw [if_pos rfl]
      by_cases e2 : c = d
      · subst e2; rw [if_pos rfl]; omega
      · rw [if_neg (by omega), if_neg (by omega)]; exact hmax c h3 h4
    · rw [if_neg (show ¬ f + k = f + r by omega)]
      rw [if_neg (show ¬ f + c = f + d by omega)]
      by_cases e2 : c = r
      · subst e2
        rw [if_pos rfl]
        exact h.up k d h1 h3 hd hdh
      · rw [if_neg (by omega)]; exact h.rest k c h1 e h3 h4
  · intro k c h1 h2 h3 h4
    have hk : k = r := by omega
    subst hk
    rw [hg, hg, if_neg (by omega), if_neg (by omega), if_neg (by omega), if_pos rfl]
    exact h.rest d c (by omega) (by omega) h3 h4
theorem Hp.none {f s hi : Nat} {l : List Int} (h : hi ≤ 2 * s + 1) : Hp f s hi l := fun k c h1 h2 h3 => by omega
theorem Hp.top {f hi : Nat} {l : List Int} (h : Hp f 0 hi l) : ∀ n, n < hi → gd l (f + n) ≤ gd l f := by
  intro n
  induction n using Nat.strongRecOn with
  | ind n ih =>
    intro hn
    by_cases e : n = 0
    · subst e; exact Int.le_refl _
    · have := h ((n - 1) / 2) n (Nat.zero_le _) (by omega) hn
      have := ih ((n - 1) / 2) (by omega) (by omega)
      omega
/-- The heap's greatest goes to its end. -/
theorem Hp.pop {f i : Nat} {l : List Int} (h : Hp f 0 (i + 1) l) (hl : f + i < l.length) : Hp f 1 i (swp l f (f + i)) := fun k c h1 h2 h3 => by
  have hg := gd_swp (l := l) (i := f) (j := f + i) (by omega) (by omega)
  rw [hg, hg, if_neg (by omega), if_neg (by omega), if_neg (by omega), if_neg (by omega)]
  exact h k c (Nat.zero_le _) h2 (by omega)
end Go.Sl
namespace Go.Sl
/-- The end of a row is in order and at least what is ahead of it, which is a heap. -/
structure Pop (f i hi : Nat) (l : List Int) : Prop where
  heap : Hp f 0 i l
  srt : SR (f + i) (f + hi) l
  le : ∀ p q, f ≤ p → p < f + i → f + i ≤ q → q < f + hi → gd l p ≤ gd l q
theorem Pop.start {f hi : Nat} {l : List Int} (h : Hp f 0 hi l) : Pop f hi hi l := ⟨h, .small (by omega), fun p q _ _ _ _ => by omega⟩
structure Pop1 (f i hi : Nat) (l : List Int) : Prop where
  heap : Hp f 1 i l
  srt : SR (f + i) (f + hi) l
  le : ∀ p q, f ≤ p → p < f + i → f + i ≤ q → q < f + hi → gd l p ≤ gd l q
theorem Pop.swap {f i hi : Nat} {l : List Int} (h : Pop f (i + 1) hi l) (hi1 : i < hi) (hl : f + hi ≤ l.length) : Pop1 f i hi (swp l f (f + i)) := by
  have hg := gd_swp (l := l) (i := f) (j := f + i) (by omega) (by omega)
  have ht := h.heap.top
  refine ⟨h.heap.pop (by omega), ?_, ?_⟩
  · intro p q h1 h2 h3
    rw [hg, hg, if_neg (show ¬ q = f + i by omega), if_neg (show ¬ q = f by omega)]
    by_cases e : p = f + i
    · rw [if_pos e]; exact h.le f q (by omega) (by omega) (by omega) h3
    · rw [if_neg e, if_neg (by omega)]; exact h.srt p q (by omega) h2 h3
  · intro p q h1 h2 h3 h4
    rw [hg, hg, if_neg (show ¬ p = f + i by omega)]
    have hp : ∀ n, n ≤ i → gd l (f + n) ≤ gd l f := fun n hn => ht n (by omega)
    by_cases e : q = f + i
    · rw [if_pos e]
      split
      · exact hp i (Nat.le_refl _)
      · have := hp (p - f) (by omega); rwa [show f + (p - f) = p by omega] at this
    · rw [if_neg e, if_neg (show ¬ q = f by omega)]
      split
      · exact h.le (f + i) q (by omega) (by omega) (by omega) h4
      · exact h.le p q h1 (by omega) (by omega) h4
theorem Pop1.sift {f i hi : Nat} {l l' : List Int} (h : Pop1 f i hi l) (hp : PR f (f + i) l l') (hh : Hp f 0 i l') : Pop f i hi l' := by
  refine ⟨hh, h.srt.congr (fun k h1 _ => hp.out (.inr h1)), fun p q h1 h2 h3 h4 => ?_⟩
  rw [hp.out (i := q) (.inr h3)]
  exact hp.all (p := fun z => z ≤ gd l q) (fun k k1 k2 => h.le k q k1 k2 h3 h4) p h1 h2
theorem Pop.done {f hi : Nat} {l : List Int} (h : Pop f 0 hi l) : SR f (f + hi) l := h.srt
/-! ### Partitions -/
structure Pt (a b i j : Nat) (l : List Int) : Prop where
  ai : a < i
  ij : i ≤ j + 1
  jb : j < b
  lo : ∀ k, a < k → k < i → gd l k < gd l a
  hi : ∀ k, j < k → k < b → gd l a ≤ gd l k
theorem Pt.start {a b : Nat} {l : List Int} (h : a < b) : Pt a b (a + 1) (b - 1) l := ⟨by omega, by omega, by omega, fun k _ _ => by omega, fun k _ _ => by omega⟩
theorem Pt.incr {a b i j : Nat} {l : List Int} (h : Pt a b i j l) (hij : i ≤ j) (hh : gd l i < gd l a) : Pt a b (i + 1) j l :=
  ⟨by have := h.ai; omega, by omega, h.jb, fun k h1 h2 => by
    by_cases e : k = i
    · subst e; exact hh
    · exact h.lo k h1 (by omega), h.hi⟩
theorem Pt.decr {a b i j : Nat} {l : List Int} (h : Pt a b i j l) (hij : i ≤ j) (hh : ¬ gd l j < gd l a) : Pt a b i (j - 1) l :=
  ⟨h.ai, by omega, by have := h.jb; omega, h.lo, fun k h1 h2 => by
    by_cases e : k = j
    · subst e; omega
    · exact h.hi k (by omega) h2⟩
theorem Pt.swap {a b i j : Nat} {l : List Int} (h : Pt a b i j l) (hij : i ≤ j) (h1 : ¬ gd l i < gd l a) (h2 : gd l j < gd l a) (hl : b ≤ l.length) : Pt a b (i + 1) (j - 1) (swp l i j) := by
  obtain ⟨a1, a2, a3, a4, a5⟩ := h
  have hne : i ≠ j := fun e => by subst e; exact h1 h2
  have hg := gd_swp (l := l) (i := i) (j := j) (by omega) (by omega)
  have ha : gd (swp l i j) a = gd l a := by rw [hg, if_neg (by omega), if_neg (by omega)]
  refine ⟨by omega, by omega, by omega, fun k k1 k2 => ?_, fun k k1 k2 => ?_⟩
  · rw [ha, hg, if_neg (by omega)]
    split
    · exact h2
    · exact a4 k k1 (by omega)
  · rw [ha, hg]
    split
    · omega
    · rw [if_neg (by omega)]; exact a5 k (by omega) k2
structure PtF (a b m : Nat) (l : List Int) : Prop where
  am : a ≤ m
  mb : m < b
  lo : ∀ k, a ≤ k → k < m → gd l k < gd l m
  hi : ∀ k, m < k → k < b → gd l m ≤ gd l k
theorem Pt.fin {a b i j : Nat} {l : List Int} (h : Pt a b i j l) (hij : ¬ i ≤ j) (hl : b ≤ l.length) : PtF a b j (swp l j a) := by
  obtain ⟨a1, a2, a3, a4, a5⟩ := h
  have hg := gd_swp (l := l) (i := j) (j := a) (by omega) (by omega)
  have hj : gd (swp l j a) j = gd l a := by
    rw [hg]
    split
    · rename_i e; rw [e]
    · rw [if_pos rfl]
  refine ⟨by omega, by omega, fun k k1 k2 => ?_, fun k k1 k2 => ?_⟩
  · rw [hj, hg]
    split
    · exact a4 j (by omega) (by omega)
    · rw [if_neg (by omega)]; exact a4 k (by omega) (by omega)
  · rw [hj, hg, if_neg (by omega), if_neg (by omega)]; exact a5 k k1 k2
structure Pe (a b i j : Nat) (l : List Int) : Prop where
  ai : a < i
  ij : i ≤ j + 1
  jb : j < b
  lo : ∀ k, a < k → k < i → gd l k ≤ gd l a
  hi : ∀ k, j < k → k < b → gd l a < gd l k
theorem Pe.start {a b : Nat} {l : List Int} (h : a < b) : Pe a b (a + 1) (b - 1) l := ⟨by omega, by omega, by omega, fun k _ _ => by omega, fun k _ _ => by omega⟩
theorem Pe.incr {a b i j : Nat} {l : List Int} (h : Pe a b i j l) (hij : i ≤ j) (hh : ¬ gd l a < gd l i) : Pe a b (i + 1) j l :=
  ⟨by have := h.ai; omega, by omega, h.jb, fun k h1 h2 => by
    by_cases e : k = i
    · subst e; omega
    · exact h.lo k h1 (by omega), h.hi⟩
theorem Pe.decr {a b i j : Nat} {l : List Int} (h : Pe a b i j l) (hij : i ≤ j) (hh : gd l a < gd l j) : Pe a b i (j - 1) l :=
  ⟨h.ai, by omega, by have := h.jb; omega, h.lo, fun k h1 h2 => by
    by_cases e : k = j
    · subst e; exact hh
    · exact h.hi k (by omega) h2⟩
theorem Pe.swap {a b i j : Nat} {l : List Int} (h : Pe a b i j l) (hij : i ≤ j) (h1 : gd l a < gd l i) (h2 : ¬ gd l a < gd l j) (hl : b ≤ l.length) : Pe a b (i + 1) (j - 1) (swp l i j) := by
  obtain ⟨a1, a2, a3, a4, a5⟩ := h
  have hne : i ≠ j := fun e => by subst e; exact h2 h1
  have hg := gd_swp (l := l) (i := i) (j := j) (by omega) (by omega)
  have ha : gd (swp l i j) a = gd l a := by rw [hg, if_neg (by omega), if_neg (by omega)]
  refine ⟨by omega, by omega, by omega, fun k k1 k2 => ?_, fun k k1 k2 => ?_⟩
  · rw [ha, hg, if_neg (by omega)]
    split
    · omega
    · exact a4 k k1 (by omega)
  · rw [ha, hg]
    split
    · exact h1
    · rw [if_neg (by omega)]; exact a5 k (by omega) k2
/-- What partitionEqual gives, where no element is less than the first. -/
structure PeF (a b m : Nat) (l : List Int) : Prop where
  am : a < m
  mb : m ≤ b
  lo : ∀ k, a ≤ k → k < m → gd l k ≤ gd l a
  hi : ∀ k, m ≤ k → k < b → gd l a < gd l k
theorem Pe.fin {a b i j : Nat} {l : List Int} (h : Pe a b i j l) (hij : ¬ i ≤ j) : PeF a b i l := by
  obtain ⟨a1, a2, a3, a4, a5⟩ := h
  exact ⟨a1, by omega, fun k k1 k2 => by
    by_cases e : k = a
    · subst e; omega
    · exact a4 k (by omega) k2, fun k k1 k2 => a5 k (by omega) k2⟩
/-! ### The whole -/
/-- The element ahead is at most all of them. -/
def Lb (a b : Nat) (l : List Int) : Prop := a = 0 ∨ ∀ i, a ≤ i → i < b → gd l (a - 1) ≤ gd l i
theorem Lb.pr {a b a' b' : Nat} {l l' : List Int} (h : Lb a b l) (hp : PR a' b' l l') (h1 : a ≤ a') (h2 : b' ≤ b) : Lb a b l' := by
  rcases h with h | h
  · exact .inl h
  · by_cases e : a = 0
    · exact .inl e
    · refine .inr (fun i i1 i2 => ?_)
      rw [hp.out (i := a - 1) (.inl (by omega))]
      by_cases e2 : a' ≤ i ∧ i < b'
      · exact hp.all (p := fun z => gd l (a - 1) ≤ z) (fun k k1 k2 => h k (by omega) (by omega)) i e2.1 e2.2
      · rw [hp.out (by omega)]; exact h i i1 i2
theorem Lb.less {a b b' : Nat} {l : List Int} (h : Lb a b l) (hb : b' ≤ b) : Lb a b' l := by
  rcases h with h | h
  · exact .inl h
  · exact .inr fun i h1 h2 => h i h1 (by omega)
/-- Whoever sorts what is left has sorted all. -/
def Fin (a b a' b' : Nat) (l : List Int) : Prop := ∀ l2, PR a' b' l l2 → SR a' b' l2 → SR a b l2
theorem Fin.start {a b : Nat} {l : List Int} : Fin a b a b l := fun _ _ h => h
theorem Fin.pr {a b a' b' : Nat} {l l' : List Int} (h : Fin a b a' b' l) (hp : PR a' b' l l') : Fin a b a' b' l' := fun l2 h2 hs => h l2 (hp.trans h2) hs
theorem PtF.keepl {a b m : Nat} {l l' : List Int} (h : PtF a b m l) (hp : PR a m l l') : PtF a b m l' := by
  have h1 := h.am
  have h2 := h.mb
  have hm : gd l' m = gd l m := hp.out (.inr (Nat.le_refl _))
  refine ⟨h1, h2, fun k k1 k2 => ?_, fun k k1 k2 => ?_⟩
  · rw [hm]; exact hp.all (p := fun z => z < gd l m) h.lo k k1 k2
  · rw [hm, hp.out (.inr (by omega))]; exact h.hi k k1 k2
theorem PtF.keepr {a b m : Nat} {l l' : List Int} (h : PtF a b m l) (hp : PR (m + 1) b l l') : PtF a b m l' := by
  have h1 := h.am
  have h2 := h.mb
  have hm : gd l' m = gd l m := hp.out (.inl (by omega))
  refine ⟨h1, h2, fun k k1 k2 => ?_, fun k k1 k2 => ?_⟩
  · rw [hm, hp.out (.inl (by omega))]; exact h.lo k k1 k2
  · rw [hm]; exact hp.all (p := fun z => gd l m ≤ z) (fun i i1 i2 => h.hi i (by omega) i2) k (by omega) k2
theorem PtF.all {a b m : Nat} {l : List Int} (h : PtF a b m l) (hl : SR a m l) (hr : SR (m + 1) b l) : SR a b l := fun i j h1 h2 h3 => by
  have k1 := h.am
  have k2 := h.mb
  have lo := fun k x y => Int.le_of_lt (h.lo k x y)
  rcases Nat.lt_trichotomy j m with hj | hj | hj
  · exact hl i j h1 h2 hj
  · subst hj; exact lo i h1 h2
  · have hj' := h.hi j hj h3
    rcases Nat.lt_trichotomy i m with hi | hi | hi
    · have := lo i h1 hi; omega
    · subst hi; exact hj'
    · exact hr i j (by omega) h2 h3
theorem PtF.left {a0 b0 a b m : Nat} {l l' : List Int} (h : PtF a b m l) (hf : Fin a0 b0 a b l) (hp : PR a m l l') (hs : SR a m l') (hl : b ≤ l.length) : Fin a0 b0 (m + 1) b l' := fun l2 h2 hs2 => by
  have k1 := h.am
  have k2 := h.mb
  have hk := (h.keepl hp).keepr h2
  refine hf l2 ((hp.mono (Nat.le_refl _) (by omega) hl).trans (h2.mono (by omega) (Nat.le_refl _) (by rw [hp.len]; exact hl))) (hk.all ?_ hs2)
  exact hs.congr fun i _ i2 => h2.out (.inl (by omega))
theorem PtF.right {a0 b0 a b m : Nat} {l l' : List Int} (h : PtF a b m l) (hf : Fin a0 b0 a b l) (hp : PR (m + 1) b l l') (hs : SR (m + 1) b l') (hl : b ≤ l.length) : Fin a0 b0 a m l' := fun l2 h2 hs2 => by
  have k1 := h.am
  have k2 := h.mb
  have hk := (h.keepr hp).keepl h2
  refine hf l2 ((hp.mono (by omega) (Nat.le_refl _) hl).trans (h2.mono (Nat.le_refl _) (by omega) (by rw [hp.len]; exact hl))) (hk.all hs2 ?_)
  exact hs.congr fun i i1 _ => h2.out (.inr (by omega))
theorem PtF.lbr {a b m : Nat} {l : List Int} (h : PtF a b m l) : Lb (m + 1) b l := .inr fun i h1 h2 => h.hi i (by omega) h2
theorem PeF.all {a0 b0 a b m : Nat} {l : List Int} (h : PeF a b m l) (hf : Fin a0 b0 a b l) (hmin : ∀ i, a ≤ i → i < b → gd l a ≤ gd l i) (hl : b ≤ l.length) : Fin a0 b0 m b l := fun l2 h2 hs2 => by
  have k1 := h.am
  have k2 := h.mb
  refine hf l2 (h2.mono (by omega) (Nat.le_refl _) hl) (fun i j h3 h4 h5 => ?_)
  by_cases hi : i < m
  · have e1 := h.lo i h3 hi
    rw [h2.out (i := i) (.inl hi)]
    by_cases hj : j < m
    · rw [h2.out (i := j) (.inl hj)]; have := hmin j (by omega) h5; omega
    · have := h2.all (p := fun z => gd l a < z) (fun k a1 a2 => h.hi k a1 a2) j (by omega) h5
      have : gd l a < gd l2 j := this
      omega
  · exact hs2 i j (by omega) h4 h5
theorem PeF.lb {a b m : Nat} {l : List Int} (h : PeF a b m l) : Lb m b l := .inr fun i h1 h2 => by
  have := h.lo (m - 1) (by have := h.am; omega) (by have := h.am; omega)
  have := h.hi i h1 h2
  omega
end Go.Sl
namespace Go.Sl
open Go
abbrev V (kd : IntKind) (l : List Int) : List Value := l.map (Value.int kd)
/-- The block of a row, room behind it. -/
abbrev VB (kd : IntKind) (l : List Int) (rest : List Value) (e : TypeId) (lo hi : Nat) : Obj := .cells (V kd l ++ rest).toArray e (lo, hi)
theorem V_get {kd : IntKind} {l : List Int} {rest : List Value} {i : Nat} (h : i < l.length) : (V kd l ++ rest)[0 + i * 1]? = some (.int kd (gd l i)) := by
  rw [Nat.zero_add, Nat.mul_one, List.getElem?_append_left (by simpa using h)]
  simp [gd, h]
theorem V_set {kd : IntKind} {l : List Int} {rest : List Value} {i : Nat} (z : Int) (h : i < l.length) : SetAt (V kd l ++ rest) (0 + i * 1) (.int kd z) (V kd (l.set i z) ++ rest) := by
  rw [Nat.zero_add, Nat.mul_one]
  have := SetAt.of (l := V kd l ++ rest) (i := i) (.int kd z) (by simp; omega)
  rw [List.set_append_left _ _ (by simpa using h)] at this
  simpa [V, List.map_set] using this
section
variable {x : Cx} {ops : Array Oper} {k : List KI} {s : Slots} {H H' : HP}
variable {d : Nat} {p q c : Operand} {ty t t' : TypeId} {pos : String} {af : Array Edge} {gd' : Option (Nat × Bool)} {g i : Nat} {l : List Int} {rest : List Value} {kd : IntKind} {e : TypeId} {fr : Nat × Nat} {lo hi : Nat}
theorem e_ld (hA : ∀ w, (isAgg t).run x.P w = .ok false w) (hp : ev s p = some (.pointer (some ⟨g, 0 + i * 1, none⟩)))
    (hm : (g, .cells (V kd l ++ rest).toArray e fr) ∈ H ∨ (g, Obj.cells (V kd l ++ rest).toArray e fr) ∈ x.G) (hi : i < l.length) : Ex x s H ⟨some d, .load t p, ty, pos, af, gd'⟩ (.int kd (gd l i)) := e_load hA hp hm (V_get hi)
theorem l_st {z : Int} (hS : ∀ w, (sizeOf t).run x.P w = .ok 1 w) (hp : ev s p = some (.pointer (some ⟨g, 0 + i * 1, none⟩))) (hq : ev s q = some (.int kd z))
    (hu : UpB H g (VB kd l rest e lo hi) (VB kd (l.set i z) rest e lo hi) H') (hi1 : i < l.length) (hf : l.length ≤ lo ∨ hi = 0) : Lo x s H ⟨none, .store t p q, ty, pos, af, gd'⟩ (Y := Unit) (fun _ => s) (fun _ => H') (fun _ => True) :=
  l_store hS hp hq rfl hu (V_set z hi1) (by omega)
end
/-- A function that tells r and leaves memory alone. -/
abbrev CtrP (P : Program) (f : FuncId) (args : List Value) (G : HP) (r : Value) : Prop := Ctr P f args G [] (fun v H' => v = r ∧ H' = [])
section
variable {x : Cx} {ops : Array Oper} {k : List KI} {rest : List Oper} {s : Slots} {H : HP}
variable {d : Nat} {p : Operand} {ty : TypeId} {pos : String} {af : Array Edge}
/-- Such a call. -/
theorem o_pure {f : FuncId} {args : List Value} {r : Value} {ps : List Operand} {ats : Array TypeId} {gd' : Option (Nat × Bool)} (hw : wantS ops s ⟨some d, .call { callee := .value (.func f), args := ps.toArray, argTypes := ats }, ty, pos, af, gd'⟩ = some true)
    (hf : ∀ az w, (callFunc f az).run x.P w = .ok (.enter f az) w) (hc : CtrP x.P f args x.G r) (hN : Nat.blt d x.N = true) (hps : evs s ps = some args) (h : WO x ops k rest ((d, r) :: s) H) :
    WO x ops k (⟨some d, .call { callee := .value (.func f), args := ps.toArray, argTypes := ats }, ty, pos, af, gd'⟩ :: rest) s H :=
  o_l hw (l_call hf hc hN hps (.nil)) (by rintro ⟨_, _⟩ ⟨rfl, rfl⟩; exact h)
theorem q_pure {f : FuncId} {args : List Value} {r : Value} {ps : List Operand} {ats : Array TypeId} {gd' : Option (Nat × Bool)} (hw : wantS ops s ⟨some d, .call { callee := .value (.func f), args := ps.toArray, argTypes := ats }, ty, pos, af, gd'⟩ = some true)
    (hf : ∀ az w, (callFunc f az).run x.P w = .ok (.enter f az) w) (hc : CtrP x.P f args x.G r) (hN : Nat.blt d x.N = true) (hps : evs s ps = some args) (h : QO x ops k rest ((d, r) :: s) H) :
    QO x ops k (⟨some d, .call { callee := .value (.func f), args := ps.toArray, argTypes := ats }, ty, pos, af, gd'⟩ :: rest) s H :=
  q_call (HJ := []) (R := fun v H' => v = r ∧ H' = []) hf (by simpa using hc) (fun _ _ h => h.1) hw hN hps (by simp) h
end
end Go.Sl
namespace Go.Sl
open Go
def srt (l : List Int) : List Int := l.mergeSort fun a b => decide (a ≤ b)
theorem SR.pairwise {l : List Int} (h : SR 0 l.length l) : l.Pairwise (fun a b => (decide (a ≤ b)) = true) := by
  rw [List.pairwise_iff_getElem]
  intro i j hi hj hij
  have := h i j (Nat.zero_le _) hij hj
  simpa [gd, hi, hj] using this
theorem srt_of {l l' : List Int} {n : Nat} (h : PR 0 n l l') (hs : SR 0 n l') (hn : l.length = n) : l' = srt l := by
  have hl := h.len
  subst hn
  refine List.Perm.eq_of_pairwise (le := fun a b => (decide (a ≤ b)) = true) ?_ (SR.pairwise (by rwa [hl])) (List.pairwise_mergeSort ?_ ?_ _) (h.perm.trans (List.mergeSort_perm _ _).symm)
  · intro a b _ _ h1 h2
    simp at h1 h2; omega
  · intro a b c h1 h2
    simp at h1 h2 ⊢; omega
  · intro a b
    simp; omega
theorem srt_length (l : List Int) : (srt l).length = l.length := List.length_mergeSort _
theorem srt_mem {l : List Int} {a : Int} : a ∈ srt l ↔ a ∈ l := List.mem_mergeSort
def addN (acc : List Int) (n : Int) : List Int := if n ∈ acc then acc else acc ++ [n]
def distI (l : List Int) : List Int := l.foldl addN []
theorem distI_take {l : List Int} {i : Nat} (h : i < l.length) : distI (l.take (i + 1)) = addN (distI (l.take i)) l[i] := by
  rw [distI, List.take_succ_eq_append_getElem h, List.foldl_append]; rfl
theorem foldl_addN (l : List Int) : ∀ acc, (∀ a, a ∈ l.foldl addN acc ↔ a ∈ acc ∨ a ∈ l) ∧ (l.foldl addN acc).length ≤ acc.length + l.length ∧ (acc.Nodup → (l.foldl addN acc).Nodup) := by
  induction l with
  | nil => intro acc; simp
  | cons b l ih =>
    intro acc
    obtain ⟨h1, h2, h3⟩ := ih (addN acc b)
    simp only [List.foldl_cons]
    by_cases hb : b ∈ acc
    · rw [show addN acc b = acc by simp [addN, hb]] at h1 h2 h3 ⊢
      refine ⟨fun a => ?_, by simp; omega, h3⟩
      rw [h1]; simp
      constructor
      · rintro (h | h)
        · exact .inl h
        · exact .inr (.inr h)
      · rintro (h | rfl | h)
        · exact .inl h
        · exact .inl hb
        · exact .inr h
    · rw [show addN acc b = acc ++ [b] by simp [addN, hb]] at h1 h2 h3 ⊢
      refine ⟨fun a => ?_, by simp at h2 ⊢; omega, fun hn => h3 ?_⟩
      · rw [h1]; simp [or_assoc]
      · rw [List.nodup_append]; exact ⟨hn, by simp, by intro x hx y hy e; simp at hy; subst hy; subst e; exact hb hx⟩
theorem distI_mem {l : List Int} {a : Int} : a ∈ distI l ↔ a ∈ l := by have := (foldl_addN l []).1 a; simpa [distI] using this
theorem distI_length (l : List Int) : (distI l).length ≤ l.length := by have := (foldl_addN l []).2.1; simpa [distI] using this
theorem distI_nodup (l : List Int) : (distI l).Nodup := (foldl_addN l []).2.2 .nil
/-- A set of numbers, as a map to true. -/
abbrev MT (acc : List Int) : List (Int × Value) := acc.map fun a => (a, .bool true)
theorem mget_MT (acc : List Int) (a : Int) : mget (MT acc) a = if a ∈ acc then some (.bool true) else none := by
  induction acc with
  | nil => rfl
  | cons b l ih =>
    simp only [MT, List.map_cons, mget]
    by_cases h : a = b
    · simp [h]
    · rw [if_neg h, ih]; simp [h]
theorem mset_MT {acc : List Int} {a : Int} (h : a ∉ acc) : mset (MT acc) a (.bool true) = MT (acc ++ [a]) := by
  rw [mset_new _ (by rw [mget_MT, if_neg h])]; simp [MT]
theorem Osl.one {e : TypeId} {sz n : Nat} {v : Value} {xs : List Value} {w : HP} (h : Osl e sz v n xs w) : v.oneCell' = true := by cases h <;> rfl
theorem Osl.openV {e : TypeId} {kd : IntKind} {u : Value} {w : HP} {acc : List Int} (h : Osl e 1 u acc.length (V kd acc) w) : (u = .slice none 0 0 ∧ w = [] ∧ acc = []) ∨
    ∃ g cap rest lo hi, u = .slice (some ⟨g, 0, none⟩) acc.length cap ∧ w = [(g, VB kd acc rest e lo hi)] ∧ rest.length = (cap - acc.length) * 1 ∧ acc.length ≤ cap ∧ cap < 9223372036854775808 ∧ (cap * 1 ≤ lo ∨ hi = 0) := by
  generalize hN : acc.length = N at h
  generalize hX : V kd acc = X at h
  cases h with
  | nil => exact .inl ⟨rfl, rfl, List.length_eq_zero_iff.1 hN⟩
  | own a1 a2 a3 a4 a5 => subst hX; exact .inr ⟨_, _, _, _, _, rfl, rfl, a2, a3, a4, a5⟩
section
variable {x : Cx} {s : Slots} {H : HP} {d g : Nat} {p q : Operand} {ty t kt et : TypeId} {pos : String} {af : Array Edge} {gd' : Option (Nat × Bool)} {kd : IntKind} {a : Int} {acc : List Int}
theorem e_lookMT (hU : ∀ w, (underlying t).run x.P w = .ok (.map kt et) w) (hK : ∀ w, (underlying kt).run x.P w = .ok (.int kd) w) (hz : ∀ w, (zeroValue et).run x.P w = .ok (.bool false) w)
    (hp : ev s p = some (.map (some g))) (hq : ev s q = some (.int kd a)) (hm : (g, Mo kd (MT acc)) ∈ H ∨ (g, Mo kd (MT acc)) ∈ x.G) : Ex x s H ⟨some d, .lookup t p q false, ty, pos, af, gd'⟩ (.bool (decide (a ∈ acc))) := by
  have h := e_lookup (x := x) (s := s) (H := H) (d := d) (ty := ty) (pos := pos) (af := af) (gd := gd') hU hK hz hp hq hm
  rw [mget_MT] at h
  by_cases e : a ∈ acc
  · simpa [e] using h
  · simpa [e] using h
end
end Go.Sl
namespace Go.Sl
open Go
set_option maxRecDepth 10000
def uvF : Nat → Nat → List UInt8
  | 0, x => [UInt8.ofNat x]
  | f + 1, x => if x < 128 then [UInt8.ofNat x] else UInt8.ofNat (128 + x % 128) :: uvF f (x / 128)
/-- A number as a varint. -/
def uv (x : Nat) : List UInt8 := uvF 9 x
theorem uvF_pos (f x : Nat) : 0 < (uvF f x).length := by
  cases f with
  | zero => simp [uvF]
  | succ f => simp only [uvF]; split <;> simp
theorem uvF_le (f x : Nat) : (uvF f x).length ≤ f + 1 := by
  induction f generalizing x with
  | zero => simp [uvF]
  | succ f ih =>
    simp only [uvF]
    split
    · simp
    · have := ih (x / 128); simp; omega
theorem pow_div (x i : Nat) : x / 128 / 128 ^ i = x / 128 ^ (i + 1) := by rw [Nat.div_div_eq_div_mul, Nat.pow_succ, Nat.mul_comm]
theorem uvF_mid (f x i : Nat) (h : i + 1 < (uvF f x).length) : 128 ≤ x / 128 ^ i ∧ (uvF f x)[i]? = some (UInt8.ofNat (128 + x / 128 ^ i % 128)) := by
  induction f generalizing x i with
  | zero => simp [uvF] at h
  | succ f ih =>
    simp only [uvF] at h ⊢
    split at h
    · simp at h
    · rename_i hx
      rw [if_neg hx]
      cases i with
      | zero => simp; omega
      | succ i =>
        have := ih (x / 128) i (by simpa using h)
        rw [pow_div] at this
        exact ⟨this.1, by simpa using this.2⟩
theorem uvF_last (f x i : Nat) (hx : x < 128 ^ (f + 1)) (h : i + 1 = (uvF f x).length) : x / 128 ^ i < 128 ∧ (uvF f x)[i]? = some (UInt8.ofNat (x / 128 ^ i)) ∧ (0 < i → 0 < x / 128 ^ i) := by
  induction f generalizing x i with
  | zero =>
    have : i = 0 := by simpa [uvF] using h
    subst this
    simpa [uvF] using hx
  | succ f ih =>
    simp only [uvF] at h ⊢
    split at h
    · rename_i hx'
      have : i = 0 := by simpa using h
      subst this
      rw [if_pos hx']
      simpa using hx'
    · rename_i hx'
      rw [if_neg hx']
      cases i with
      | zero => have := uvF_pos f (x / 128); simp at h; rw [h] at this; simp at this
      | succ i =>
        have h2 : x / 128 < 128 ^ (f + 1) := by rw [Nat.div_lt_iff_lt_mul (by decide)]; rw [Nat.pow_succ 128 (f + 1)] at hx; omega
        have := ih (x / 128) i h2 (by simpa using h)
        rw [pow_div] at this
        refine ⟨this.1, by simpa using this.2.1, fun _ => ?_⟩
        by_cases h0 : 0 < i
        · exact this.2.2 h0
        · obtain rfl : i = 0 := by omega
          simp; omega
theorem uv_pos (x : Nat) : 0 < (uv x).length := uvF_pos 9 x
theorem uv_le (x : Nat) : (uv x).length ≤ 10 := uvF_le 9 x
theorem uv_le9 {x : Nat} (hx : x < 9223372036854775808) : (uv x).length ≤ 9 := by
  apply Decidable.byContradiction
  intro hn
  have hl := uv_le x
  have := uvF_mid 9 x 8 (show 8 + 1 < (uv x).length by omega)
  have h2 : x / 128 ^ 8 < 128 := by rw [Nat.div_lt_iff_lt_mul (by decide)]; omega
  omega
theorem uv_mid {x i : Nat} (h : i + 1 < (uv x).length) : 128 ≤ x / 128 ^ i ∧ (uv x)[i]? = some (UInt8.ofNat (128 + x / 128 ^ i % 128)) := uvF_mid 9 x i h
theorem uv_last {x i : Nat} (hx : x < 18446744073709551616) (h : i + 1 = (uv x).length) : x / 128 ^ i < 128 ∧ (uv x)[i]? = some (UInt8.ofNat (x / 128 ^ i)) ∧ (0 < i → 0 < x / 128 ^ i) := uvF_last 9 x i (by omega) h
/-- A byte's 'or' with 128. -/
theorem or128_all : (List.range 256).all (fun y => (BitVec.ofNat 8 y ||| BitVec.ofNat 8 128).toNat == 128 + y % 128) = true := by decide
theorem or128 (z : Int) (n : Nat) (hz : z = n) : ib .or .u8 (IntKind.u8.wrap z) 128 = ((128 + n % 128 : Nat) : Int) := by
  have hw : IntKind.u8.wrap z = ((n % 256 : Nat) : Int) := by
    subst hz
    simp [IntKind.wrap, IntKind.bits, IntKind.signed]
  have h := List.all_eq_true.1 or128_all (n % 256) (List.mem_range.2 (by omega))
  simp only [beq_iff_eq] at h
  have e : n % 256 % 128 = n % 128 := by omega
  rw [e] at h
  rw [hw]
  simp only [ib]
  rw [show ((128 : Int)) = ((128 : Nat) : Int) from rfl, BitVec.ofInt_natCast, BitVec.ofInt_natCast]
  show IntKind.u8.wrap ((BitVec.ofNat 8 (n % 256) ||| BitVec.ofNat 8 128).toNat : Int) = _
  rw [h]
  refine wrap_in .u8 _ ?_ ?_ <;> simp [IntKind.min, IntKind.max, IntKind.signed, IntKind.bits] <;> omega
theorem and127_all : (List.range 256).all (fun y => (BitVec.ofNat 8 y &&& BitVec.ofNat 8 127).toNat == y % 128) = true := by decide
theorem and127 {n : Nat} (hn : n < 256) : ib .and .u8 (n : Nat) 127 = ((n % 128 : Nat) : Int) := by
  have h := List.all_eq_true.1 and127_all n (List.mem_range.2 hn)
  simp only [beq_iff_eq] at h
  simp only [ib]
  rw [show ((127 : Int)) = ((127 : Nat) : Int) from rfl, BitVec.ofInt_natCast, BitVec.ofInt_natCast]
  show IntKind.u8.wrap ((BitVec.ofNat 8 n &&& BitVec.ofNat 8 127).toNat : Int) = _
  rw [h]
  refine wrap_in .u8 _ ?_ ?_ <;> simp [IntKind.min, IntKind.max, IntKind.signed, IntKind.bits] <;> omega
theorem p128 (i : Nat) : 128 ^ i = 2 ^ (7 * i) := by rw [show (128 : Nat) = 2 ^ 7 from rfl, ← Nat.pow_mul]
/-- One digit more. -/
theorem mod_succ (x i : Nat) : x % 128 ^ i + x / 128 ^ i % 128 * 2 ^ (7 * i) = x % 128 ^ (i + 1) := by
  rw [← p128, Nat.pow_succ, Nat.mod_mul, Nat.mul_comm (128 ^ i)]
theorem mod_last {x i : Nat} : x % 128 ^ i + x / 128 ^ i * 2 ^ (7 * i) = x := by
  rw [← p128, Nat.mul_comm]
  exact Nat.mod_add_div x (128 ^ i)
theorem mod_lt' (x i : Nat) : x % 128 ^ i < 2 ^ (7 * i) := by rw [← p128]; exact Nat.mod_lt _ (Nat.pow_pos (by decide))
/-- So many bits. -/
def Blen (x n : Nat) : Prop := (x = 0 ∧ n = 0) ∨ (0 < n ∧ 2 ^ (n - 1) ≤ x ∧ x < 2 ^ n)
theorem uv_bits {x n : Nat} (hx : x < 18446744073709551616) (h : Blen x n) : (uv x).length = (if 0 < n % 7 ∨ n / 7 = 0 then n / 7 + 1 else n / 7) := by
  have hp := uv_pos x
  obtain ⟨L, hL⟩ : ∃ L, (uv x).length = L + 1 := ⟨(uv x).length - 1, by omega⟩
  have hl := uv_last (i := L) hx (by omega)
  rw [hL]
  rcases h with ⟨rfl, rfl⟩ | ⟨hn, h1, h2⟩
  · have : (uv 0).length = 1 := rfl
    simp; omega
  · have k2 : n ≤ 7 * (L + 1) := by
      apply Decidable.byContradiction
      intro hc
      have a1 : x < 128 ^ (L + 1) := by
        have := hl.1
        rw [Nat.div_lt_iff_lt_mul (Nat.pow_pos (by decide))] at this
        rw [Nat.pow_succ, Nat.mul_comm]; exact this
      rw [p128] at a1
      have a2 : 2 ^ (7 * (L + 1)) ≤ 2 ^ (n - 1) := Nat.pow_le_pow_right (by decide) (by omega)
      omega
    have k1 : 7 * L < n := by
      cases L with
      | zero => omega
      | succ L =>
        have := (uv_mid (x := x) (i := L) (by omega)).1
        rw [Nat.le_div_iff_mul_le (Nat.pow_pos (by decide))] at this
        apply Decidable.byContradiction
        intro hc
        have a2 : 2 ^ n ≤ 2 ^ (7 * (L + 1)) := Nat.pow_le_pow_right (by decide) (by omega)
        rw [← p128, Nat.pow_succ] at a2
        omega
    split <;> omega
theorem nbl_all : (List.range 256).all (fun x => decide (x = 0 ∧ nb x = 0) || decide (0 < nb x ∧ 2 ^ (nb x - 1) ≤ x ∧ x < 2 ^ nb x)) = true := by kernel_rfl
theorem nbl {x : Nat} (h : x < 256) : Blen x (nb x) ∧ nb x ≤ 8 := by
  have := List.all_eq_true.1 nbl_all x (List.mem_range.2 h)
  simp only [Bool.or_eq_true, decide_eq_true_eq] at this
  exact ⟨this, (nb_is h).1⟩
theorem bl_shift {x y n m : Nat} (hy : x / 2 ^ n = y) (hz : n = 0 ∨ 0 < y) (h : Blen y m) : Blen x (n + m) := by
  rcases h with ⟨rfl, rfl⟩ | ⟨h0, h1, h2⟩
  · obtain rfl : n = 0 := by omega
    left; simpa using hy
  · right
    subst hy
    rw [Nat.le_div_iff_mul_le (Nat.pow_pos (by decide))] at h1
    rw [Nat.div_lt_iff_lt_mul (Nat.pow_pos (by decide))] at h2
    refine ⟨by omega, ?_, ?_⟩
    · rw [show n + m - 1 = (m - 1) + n by omega, Nat.pow_add]; exact h1
    · rw [Nat.add_comm, Nat.pow_add]; exact h2
theorem wrap_u64 {z : Nat} (h : z < 18446744073709551616) : IntKind.u64.wrap (z : Nat) = (z : Int) := by
  refine wrap_in .u64 _ ?_ ?_ <;> simp [IntKind.min, IntKind.max, IntKind.signed, IntKind.bits] <;> omega
section
variable {x : Cx} {s : Slots} {H : HP} {d : Nat} {p q : Operand} {ty t t' : TypeId} {pos : String} {af : Array Edge} {gd : Option (Nat × Bool)}
theorem e_shrk {m : Nat} {kd kd' : IntKind} {n : Int} (k : Nat) (hp : ev s p = some (.int kd (m : Nat))) (hq : ev s q = some (.int kd' n)) (hn : n = k) (hk : k ≤ kd.bits) : Ex x s H ⟨some d, .binOp .shr t p q t', ty, pos, af, gd⟩ (.int kd ((m / 2 ^ k : Nat) : Int)) := by
  subst hn
  have h := e_shr (x := x) (s := s) (H := H) (d := d) (ty := ty) (pos := pos) (af := af) (gd := gd) (t := t) (t' := t') hp hq (by omega)
  have h1 : min ((k : Nat) : Int).toNat kd.bits = k := by rw [Int.toNat_natCast]; exact Nat.min_eq_left hk
  rw [h1] at h
  have h2 : ((m : Nat) : Int).fdiv (2 ^ k) = ((m / 2 ^ k : Nat) : Int) := by
    rw [Int.fdiv_eq_ediv_of_nonneg _ (Int.le_of_lt (Int.pow_pos (by decide)))]
    simp
  rwa [h2] at h
end
end Go.Sl
namespace Go.Proofs
open Go Go.Sl
structure En where
  v : Int
  c : Int
  h : Int
  d : List UInt8
  o : Int
def cE (x : En) : List Value := [.int .u64 x.v, .int .u64 x.c, .int .u64 x.h, S x.d, .int .u64 x.o]
def cC (x : En) : List Value := [.int .u64 x.v, .int .u64 x.c, .int .u64 x.h, S x.d]
/-- A slice value that holds these entries. -/
inductive EnS (H : HP) : Value → List En → Prop where
  | none {A : Option Addr} {cap : Nat} : EnS H (.slice A 0 cap) []
  | blk {l : List En} {L : List Value} {g off n cap : Nat} {e : TypeId} {fr : Nat × Nat} (hm : (g, Obj.cells L.toArray e fr) ∈ H) (hn : l.length = n) (hc : ∀ i (h : i < l.length), CutL L (off + i * 5) 5 (cE l[i])) : EnS H (.slice (some ⟨g, off, none⟩) n cap) l
end Go.Proofs
namespace Go.Proofs
open Go Go.Sl Tryz
set_option maxRecDepth 100000
set_option maxHeartbeats 1000000
theorem put_byte {pre old : List Value} {u : List UInt8} {i off : Nat} {b : UInt8} {z : Int} (hoff : pre.length = off) (hb : u[i]? = some b) (hz : z = b.toNat) (ho : i < old.length) : SetAt (pre ++ (B (u.take i) ++ old.drop i)) (off + i * 1) (.int .u8 z) (pre ++ (B (u.take (i + 1)) ++ old.drop (i + 1))) := by
  obtain ⟨hi, rfl⟩ := List.getElem?_eq_some_iff.1 hb
  subst hz
  have h1 : (B (u.take i)).length = i := by simp [B]; omega
  have := SetAt.of (l := pre ++ (B (u.take i) ++ old.drop i)) (i := off + i * 1) (.int .u8 u[i].toNat) (by simp only [List.length_append, h1, List.length_drop]; omega)
  rw [List.set_append_right _ _ (by omega), List.set_append_right _ _ (by omega)] at this
  have e1 : off + i * 1 - pre.length - (B (u.take i)).length = 0 := by omega
  have e2 : old.drop i = old[i] :: old.drop (i + 1) := List.drop_eq_getElem_cons ho
  have e3 : B (u.take (i + 1)) = B (u.take i) ++ [.int .u8 u[i].toNat] := by
    rw [List.take_succ_eq_append_getElem hi, B_append]; rfl
  rw [e1, e2, List.set_cons_zero] at this
  rw [e3, List.append_assoc, e2]
  exact this
theorem div_step (x i : Nat) : x / 128 ^ i / 2 ^ 7 = x / 128 ^ (i + 1) := by
  show _ = x / (128 ^ i * 128)
  rw [← Nat.div_div_eq_div_mul]
theorem ofNat_z {q : Nat} (h : q < 256) : ((q : Nat) : Int) = (UInt8.ofNat q).toNat := by rw [UInt8.toNat_ofNat']; omega
section
variable {G : HP} {g x off n cap lo hi : Nat} {pre old l : List Value} {e : TypeId} {fr : Nat × Nat}
theorem len64g_is (hx : x < 18446744073709551616) : Ctr Tryz.prog 123 [.int .u64 (x : Nat)] G [] (fun r H' => ∃ n : Nat, r = .int .i64 n ∧ Blen x n ∧ n ≤ 64 ∧ H' = []) := by
  refine fn_enter 25 func123 rfl ntmps123 rfl ?_
  intro w0
  refine cR <| oA rfl <| oN <| c_seq ?_
  refine c_cut (X := Nat × Nat) (fun y => [(0, .int .u64 y.1), (2, .int .i64 y.2)]) (fun _ => []) (fun y => x / 2 ^ y.2 = y.1 ∧ (y.2 = 0 ∨ 0 < y.1) ∧ y.2 ≤ 32 ∧ y.1 < 4294967296) ?_ ?_
  · skip
    refine cR <| oM rfl <| oX (e_geq rfl rfl) <| oN ?_
    refine c_ifp rfl (fun h1 => ?_) (fun h1 => ?_)
    · refine cR <| oM rfl <| oX (e_shrk 32 rfl rfl rfl (by decide)) <| oA rfl <| oN <| c_region <| oA rfl <| o_nil ?_
      exact n_cut (x / 2 ^ 32, 32) ⟨rfl, .inr (by show 0 < x / 2 ^ 32; omega), by show 32 ≤ 32; decide, by show x / 2 ^ 32 < _; omega⟩ (sub_cons rfl (sub_cons rfl sub_nil)) (.refl _)
    · skip
      refine c_skip ?_
      exact n_cut (x, 0) ⟨by simp, Or.inl rfl, by show 0 ≤ 32; decide, by show x < _; omega⟩ (sub_cons rfl (sub_cons rfl sub_nil)) (.refl _)
  rintro ⟨y, n⟩ ⟨h2, h3, h4, h5⟩
  simp only at h2 h3 h4 h5 ⊢
  refine n_code <| c_seq ?_
  refine c_cut (X := Nat × Nat) (fun y => [(0, .int .u64 y.1), (2, .int .i64 y.2)]) (fun _ => []) (fun y => x / 2 ^ y.2 = y.1 ∧ (y.2 = 0 ∨ 0 < y.1) ∧ y.2 ≤ 48 ∧ y.1 < 65536) ?_ ?_
  · skip
    refine cR <| oM rfl <| oX (e_geq rfl rfl) <| oN ?_
    refine c_ifp rfl (fun h1 => ?_) (fun h1 => ?_)
    · refine cR <| oM rfl <| oX (e_shrk 16 rfl rfl rfl (by decide)) <| oA rfl <| oN <| c_region <| oM rfl <| oX (e_addn rfl rfl (by simp only [inR]; omega)) <| oA rfl <| o_nil ?_
      exact n_cut (y / 2 ^ 16, n + 16) ⟨by show x / 2 ^ (n + 16) = y / 2 ^ 16; rw [Nat.pow_add, ← Nat.div_div_eq_div_mul, h2], .inr (by show 0 < y / 2 ^ 16; omega), by show n + 16 ≤ 48; omega, by show y / 2 ^ 16 < _; omega⟩ (sub_cons rfl (sub_cons rfl sub_nil)) (.refl _)
    · skip
      refine c_skip ?_
      exact n_cut (y, n) ⟨h2, h3, by show n ≤ 48; omega, by show y < _; omega⟩ (sub_cons rfl (sub_cons rfl sub_nil)) (.refl _)
  clear h2 h3 h4 h5
  rintro ⟨y, n⟩ ⟨h2, h3, h4, h5⟩
  simp only at h2 h3 h4 h5 ⊢
  refine n_code <| c_seq ?_
  refine c_cut (X := Nat × Nat) (fun y => [(0, .int .u64 y.1), (2, .int .i64 y.2)]) (fun _ => []) (fun y => x / 2 ^ y.2 = y.1 ∧ (y.2 = 0 ∨ 0 < y.1) ∧ y.2 ≤ 56 ∧ y.1 < 256) ?_ ?_
  · skip
    refine cR <| oM rfl <| oX (e_geq rfl rfl) <| oN ?_
    refine c_ifp rfl (fun h1 => ?_) (fun h1 => ?_)
    · refine cR <| oM rfl <| oX (e_shrk 8 rfl rfl rfl (by decide)) <| oA rfl <| oN <| c_region <| oM rfl <| oX (e_addn rfl rfl (by simp only [inR]; omega)) <| oA rfl <| o_nil ?_
      exact n_cut (y / 2 ^ 8, n + 8) ⟨by show x / 2 ^ (n + 8) = y / 2 ^ 8; rw [Nat.pow_add, ← Nat.div_div_eq_div_mul, h2], .inr (by show 0 < y / 2 ^ 8; omega), by show n + 8 ≤ 56; omega, by show y / 2 ^ 8 < _; omega⟩ (sub_cons rfl (sub_cons rfl sub_nil)) (.refl _)
    · skip
      refine c_skip ?_
      exact n_cut (y, n) ⟨h2, h3, by show n ≤ 56; omega, by show y < _; omega⟩ (sub_cons rfl (sub_cons rfl sub_nil)) (.refl _)
  clear h2 h3 h4 h5
  rintro ⟨y, n⟩ ⟨h2, h3, h4, h5⟩
  simp only at h2 h3 h4 h5 ⊢
  have hb := tbl_get h5
  obtain ⟨hk, hk8⟩ := nbl h5
  have hk2 : (tbl.getD y 0).toNat ≤ 8 := hk8
  refine n_code <| cR <| oM rfl <| oM rfl <| oX (e_convn runUnderlying23 runUnderlying5 rfl (by simp only [inR]; omega)) ?_
  refine oX (e_sidx runUnderlying9 rfl rfl (by omega) (by assumption)) ?_
  refine oX (e_convn runUnderlying5 runUnderlying3 rfl (by simp only [inR]; omega)) <| oX (e_addN rfl rfl (by omega)) <| oA rfl <| oN <| c_ret ?_
  refine r_fn1 results123 rfl ?_
  exact ⟨n + nb y, rfl, bl_shift h2 h3 hk, by omega, rfl⟩
theorem usize_is (hx : x < 18446744073709551616) : CtrP Tryz.prog 185 [.int .u64 (x : Nat)] G (.int .i64 ((uv x).length : Nat)) := by
  refine fn_enter 23 func185 rfl ntmps185 rfl ?_
  intro w0
  refine cR <| oA rfl <| oN <| cR <| oM rfl ?_
  refine o_l rfl (l_call call123 (len64g_is hx) rfl rfl .nil) ?_
  rintro ⟨r, H'⟩ ⟨n, rfl, hb, h64, rfl⟩
  have hL := uv_bits hx hb
  simp only [List.nil_append]
  refine oA rfl <| oN <| cR <| oM rfl <| oX (e_quon rfl rfl (by omega) (by omega) (by simp only [inR]; omega)) <| oM rfl <| oX (e_remn rfl rfl (by omega) (by omega)) <| oA rfl <| oA rfl <| oN <| cR <| oM rfl <| oA rfl <| oN <| c_seq <| cR <| oM rfl <| oX (e_gtr rfl rfl) <| oM rfl ?_
  refine o_splitp 16 rfl (fun h1 => ?_) (fun h1 => ?_)
  · refine oS <| oS <| oX (e_pick_t rfl rfl) <| oN <| c_then rfl <| c_region <| oM rfl <| oX (e_addn rfl rfl (by simp only [inR]; omega)) <| oA rfl <| oN <| cR <| oM rfl <| oA rfl <| oN <| c_ret ?_
    refine r_fn1 results185 rfl ?_
    exact ⟨by rw [hL, if_pos (.inl (by omega))]; rfl, rfl⟩
  · skip
    refine oM rfl <| oX (e_eql rfl rfl) <| oX (e_pick_f rfl rfl) <| oN ?_
    refine c_ifp rfl (fun h2 => ?_) (fun h2 => ?_)
    · refine c_region <| oM rfl <| oX (e_addn rfl rfl (by simp only [inR]; omega)) <| oA rfl <| oN <| cR <| oM rfl <| oA rfl <| oN <| c_ret ?_
      refine r_fn1 results185 rfl ?_
      exact ⟨by rw [hL, if_pos (.inr (by omega))]; rfl, rfl⟩
    · skip
      refine c_skip <| n_code <| cR <| oM rfl <| oA rfl <| oN <| c_ret ?_
      refine r_fn1 results185 rfl ?_
      exact ⟨by rw [hL, if_neg (by omega)]; exact congrArg (Value.int .i64) (by omega), rfl⟩
theorem putU_is (hx : x < 18446744073709551616) (hoff : pre.length = off) (hn : (uv x).length ≤ n) (hc : n ≤ cap) (hcap : cap < 9223372036854775808) (ho : (uv x).length ≤ old.length) (hf : off + old.length ≤ lo ∨ hi = 0) :
    Ctr Tryz.prog 150 [.slice (some ⟨g, off, none⟩) n cap, .int .u64 (x : Nat)] G [(g, .cells (pre ++ old).toArray e (lo, hi))] (fun r H' => r = .int .i64 ((uv x).length : Nat) ∧ H' = [(g, .cells (pre ++ (B (uv x) ++ old.drop (uv x).length)).toArray e (lo, hi))]) := by
  have hp := uv_pos x
  refine fn_enter 25 func150 rfl ntmps150 rfl ?_
  intro w0
  refine cR <| oA rfl <| oN <| cR <| oA rfl <| oN <| c_seq <| c_block ?_
  refine c_loop (X := Nat) (fun i => [(0, .slice (some ⟨g, off, none⟩) n cap), (1, .int .u64 (x / 128 ^ i : Nat)), (5, .int .i64 i)]) (fun i => [(g, .cells (pre ++ (B ((uv x).take i) ++ old.drop i)).toArray e (lo, hi))]) (fun i => i < (uv x).length) (fun i => (uv x).length - i) 0 hp (sub_cons rfl (sub_cons (by show some _ = some _; simp) (sub_cons rfl sub_nil))) (.refl _) ?_
  intro i hi'
  refine c_seq <| cR <| oM rfl <| oX (e_geq rfl rfl) <| oN ?_
  refine c_ifp rfl (fun h1 => ?_) (fun h1 => ?_)
  · have hm : i + 1 < (uv x).length := by
      apply Decidable.byContradiction
      intro hc
      have := (uv_last hx (by omega : i + 1 = (uv x).length)).1
      omega
    obtain ⟨h2, h3⟩ := uv_mid hm
    have hset := put_byte (z := ((128 + x / 128 ^ i % 128 : Nat) : Int)) hoff h3 (ofNat_z (by omega)) (by omega : i < old.length)
    refine c_skip <| n_code <| c_block <| cR <| oM rfl <| oM rfl <| oM rfl <| oX (e_conv runUnderlying23 runUnderlying5 rfl) <| oX (e_or rfl rfl) <| oX (e_ian runUnderlying72 sizeOf5 rfl rfl (by omega)) ?_
    rw [or128 _ (x / 128 ^ i) rfl]
    refine o_l rfl (l_store sizeOf5 rfl rfl rfl .head hset (by omega)) ?_
    intro _ _
    refine oN <| cR <| oM rfl <| oX (e_shrk 7 rfl rfl rfl (by decide)) <| oA rfl <| oN <| c_region <| oM rfl <| oX (e_addn rfl rfl (by simp only [inR]; omega)) <| oA rfl <| o_nil <| n_block ?_
    refine n_round' (y := i) (i + 1) (by omega) hm (sub_cons rfl (sub_cons (by rw [← div_step]; rfl) (sub_cons rfl sub_nil))) _ (.refl _) (List.Sublist.refl _)
  · skip
    have hm : i + 1 = (uv x).length := by
      apply Decidable.byContradiction
      intro hc
      have := (uv_mid (x := x) (by omega : i + 1 < (uv x).length)).1
      omega
    obtain ⟨h2, h3, -⟩ := uv_last hx hm
    have hset := put_byte (z := ((x / 128 ^ i : Nat) : Int)) hoff h3 (ofNat_z (Nat.lt_trans h2 (by decide))) (by omega : i < old.length)
    generalize x / 128 ^ i = q at h2 hset ⊢
    refine c_exit ?_; refine x_code ?_; refine x_upto ?_; refine x_here ?_
    refine n_code <| cR <| oM rfl <| oM rfl <| oM rfl <| oX (e_convn runUnderlying23 runUnderlying5 rfl (by simp only [inR]; omega)) <| oX (e_ian runUnderlying72 sizeOf5 rfl rfl (by omega)) ?_
    refine o_l rfl (l_store sizeOf5 rfl rfl rfl .head hset (by omega)) ?_
    intro _ _
    refine oN <| cR <| oM rfl <| oX (e_addn rfl rfl (by simp only [inR]; omega)) <| oA rfl <| oN <| c_ret ?_
    refine r_fn1 results150 rfl ?_
    rw [hm, List.take_length]
    exact ⟨by rw [← hm]; rfl, rfl⟩
theorem vputg_is (hx : x < 18446744073709551616) (hoff : pre.length = off) (hn : (uv x).length ≤ n) (hc : n ≤ cap) (hcap : cap < 9223372036854775808) (ho : (uv x).length ≤ old.length) (hf : off + old.length ≤ lo ∨ hi = 0) :
    Ctr Tryz.prog 77 [.slice (some ⟨g, off, none⟩) n cap, .int .u64 (x : Nat)] G [(g, .cells (pre ++ old).toArray e (lo, hi))] (fun r H' => r = .int .i64 ((uv x).length : Nat) ∧ H' = [(g, .cells (pre ++ (B (uv x) ++ old.drop (uv x).length)).toArray e (lo, hi))]) := by
  refine fn_enter 8 func77 rfl ntmps77 rfl ?_
  intro w0
  refine cR <| oA rfl <| oN <| cR <| oM rfl <| oM rfl ?_
  refine o_l rfl (l_call call150 (putU_is hx hoff hn hc hcap ho hf) rfl rfl (.cons .head .nil)) ?_
  rintro ⟨r, H'⟩ ⟨rfl, rfl⟩
  simp only [List.cons_append, List.nil_append]
  refine oA rfl <| oN <| c_ret ?_
  refine r_fn1 results77 rfl ?_
  exact ⟨rfl, rfl⟩
end
end Go.Proofs
namespace Go.Proofs
open Go Go.Sl Tryz
set_option maxRecDepth 100000
set_option maxHeartbeats 1000000
theorem byte_at {l : List Value} {off n i : Nat} {bs : List UInt8} {b : UInt8} {z : Nat} (h : CutL l off n (B bs)) (hb : bs[i]? = some b) (hz : b.toNat = z) : l[off + i * 1]? = some (.int .u8 (z : Nat)) := by
  subst hz
  obtain ⟨hi, rfl⟩ := List.getElem?_eq_some_iff.1 hb
  have h1 := congrArg (fun y => y[i]?) h.eq
  have h2 : (B bs).length = n := by have := congrArg List.length h.eq; have := h.le; simp at *; omega
  have h3 : i < n := by rw [← h2, B_length]; exact hi
  simp only [List.getElem?_take_of_lt h3, List.getElem?_drop] at h1
  rw [Nat.mul_one, ← h1]
  simp [B, hi]
section
variable {G : HP} {g x off n cap : Nat} {bs tl : List UInt8} {l : List Value} {e : TypeId} {fr : Nat × Nat}
theorem fromU_is (hx : x < 9223372036854775808) (hm : (g, .cells l.toArray e fr) ∈ G) (hcut : CutL l off n (B bs)) (hbs : bs = uv x ++ tl) (hc : n ≤ cap) (hcap : cap < 9223372036854775808) :
    CtrP Tryz.prog 157 [.slice (some ⟨g, off, none⟩) n cap] G (.tuple #[.int .u64 (x : Nat), .int .i64 ((uv x).length : Nat), .nilIface]) := by
  have hp := uv_pos x
  have h9 := uv_le9 hx
  have hx' : x < 18446744073709551616 := by omega
  have hlen : bs.length = n := by have := congrArg List.length hcut.eq; have := hcut.le; simp [B_length] at *; omega
  have hL : (uv x).length ≤ n := by rw [← hlen, hbs, List.length_append]; omega
  refine fn_enter 55 func157 rfl ntmps157 rfl ?_
  intro w0
  refine cR <| oA rfl <| oA rfl <| oA rfl <| oN <| cR <| oA rfl <| oN <| cR <| oA rfl <| oN <| c_seq <| cR <| oM rfl <| oX (e_lenl runUnderlying72 rfl) <| oM rfl <| oN <| c_block ?_
  refine c_loop (X := Nat) (fun i => [(9, .slice (some ⟨g, off, none⟩) n cap), (10, .int .i64 n), (11, .int .i64 i), (5, .int .u64 (x % 128 ^ i : Nat)), (6, .int .u64 (7 * i : Nat))]) (fun _ => []) (fun i => i < (uv x).length) (fun i => (uv x).length - i) 0 hp (sub_cons rfl (sub_cons rfl (sub_cons rfl (sub_cons (by show some _ = some _; simp [Nat.mod_one]) (sub_cons rfl sub_nil))))) (.refl _) ?_
  intro i hi'
  refine cR <| oX (e_lss rfl rfl) <| oN <| c_seq ?_
  refine c_ifp rfl (fun h1 => ?_) (fun h1 => ?_)
  · skip
    by_cases hmid : i + 1 < (uv x).length
    · obtain ⟨h2, h3⟩ := uv_mid hmid
      have hb : bs[i]? = some (UInt8.ofNat (128 + x / 128 ^ i % 128)) := by rw [hbs, List.getElem?_append_left (by omega)]; exact h3
      have hcell := byte_at (z := 128 + x / 128 ^ i % 128) hcut hb (by rw [UInt8.toNat_ofNat']; omega)
      have e127 : (128 + x / 128 ^ i % 128) % 128 = x / 128 ^ i % 128 := by omega
      have hle : x % 128 ^ (i + 1) ≤ x := Nat.mod_le _ _
      refine c_skip <| n_code <| c_seq <| c_block <| cR <| oM rfl <| oX (e_ian runUnderlying72 sizeOf5 rfl rfl (by omega)) ?_
      refine oX (e_load isAgg5 rfl (.inr (by assumption)) (by assumption)) ?_
      refine oA rfl <| oA rfl <| oN <| c_seq <| cR <| oM rfl <| oX (e_eql rfl rfl) <| oM rfl ?_
      refine o_splitp 18 rfl (fun h4 => ?_) (fun h4 => ?_)
      · exact absurd h4 (by omega)
      · skip
        refine oS <| oS <| oX (e_pick_f rfl rfl) <| oM rfl <| oM rfl <| oX (e_geq rfl rfl) <| oX (e_pick_f rfl rfl) <| oN ?_
        refine c_ifp rfl (fun h5 => ?_) (fun h5 => ?_)
        · exact absurd h5 (by omega)
        · skip
          refine c_skip <| n_code <| c_seq <| cR <| oM rfl <| oX (e_lss rfl rfl) <| oN ?_
          refine c_ifp rfl (fun h6 => ?_) (fun h6 => ?_)
          · exact absurd h6 (by omega)
          · skip
            refine c_skip <| n_code <| cR <| oM rfl <| oM rfl <| oX (e_and rfl rfl) ?_
            rw [and127 (by omega), e127]
            refine oX (e_convn runUnderlying5 runUnderlying23 rfl (by simp only [inR]; omega)) <| oM rfl <| oX (e_shl rfl rfl (by omega)) <| oX (e_or rfl rfl) ?_
            rw [or_sh rfl _ (7 * i) (Int.toNat_natCast _) (by show 7 * i ≤ 64; omega) (mod_lt' x i) (by rw [mod_succ]; show _ < 18446744073709551616; omega), mod_succ]
            refine oA rfl <| oN <| c_region <| oM rfl <| oX (e_addn rfl rfl (by simp only [inR]; omega)) <| oA rfl <| o_nil <| n_block <| n_code <| c_region <| oX (e_addn rfl rfl (by simp only [inR]; omega)) <| oM rfl <| o_nil ?_
            refine n_round' (y := i) (i + 1) (by omega) hmid (sub_cons rfl (sub_cons rfl (sub_cons rfl (sub_cons rfl (sub_cons (by show some (Value.int .u64 (((7 * i : Nat) : Int) + 7)) = some (Value.int .u64 ((7 * (i + 1) : Nat) : Int)); rw [show ((7 * i : Nat) : Int) + 7 = ((7 * (i + 1) : Nat) : Int) by omega]) sub_nil))))) _ (.refl _) (List.Sublist.refl _)
    · skip
      have hlast : i + 1 = (uv x).length := by omega
      obtain ⟨h2, h3, h0⟩ := uv_last hx' hlast
      have hb : bs[i]? = some (UInt8.ofNat (x / 128 ^ i)) := by rw [hbs, List.getElem?_append_left (by omega)]; exact h3
      have hcell := byte_at (z := x / 128 ^ i) hcut hb (by rw [UInt8.toNat_ofNat']; exact Nat.mod_eq_of_lt (Nat.lt_trans h2 (by decide)))
      have hor : ib .or .u64 ((x % 128 ^ i : Nat) : Int) (IntKind.u64.wrap (((x / 128 ^ i : Nat) : Int) * 2 ^ (min ((7 * i : Nat) : Int).toNat IntKind.u64.bits))) = ((x : Nat) : Int) := by
        rw [or_sh rfl _ (7 * i) (Int.toNat_natCast _) (by show 7 * i ≤ 64; omega) (mod_lt' x i) (by rw [mod_last]; show _ < 18446744073709551616; omega), mod_last]
      clear hb h3
      generalize x / 128 ^ i = q at h2 h0 hcell hor
      refine c_skip <| n_code <| c_seq <| c_block <| cR <| oM rfl <| oX (e_ian runUnderlying72 sizeOf5 rfl rfl (by omega)) ?_
      refine oX (e_load isAgg5 rfl (.inr (by assumption)) (by assumption)) ?_
      refine oA rfl <| oA rfl <| oN <| c_seq ?_
      refine c_cut (X := Unit) (fun _ => [(5, .int .u64 (x % 128 ^ i : Nat)), (6, .int .u64 (7 * i : Nat)), (7, .int .i64 i), (8, .int .u8 (q : Nat))]) (fun _ => []) (fun _ => True) ?_ ?_
      · skip
        refine cR <| oM rfl <| oX (e_eql rfl rfl) <| oM rfl ?_
        refine o_splitp 18 rfl (fun h4 => ?_) (fun h4 => ?_)
        · refine oM rfl <| oX (e_geq rfl rfl) <| oX (e_pick_t rfl rfl) <| oM rfl ?_
          refine o_splitp 22 rfl (fun h5 => ?_) (fun h5 => ?_)
          · exact absurd h5 (by omega)
          · skip
            refine oM rfl <| oX (e_geq rfl rfl) <| oX (e_pick_f rfl rfl) <| oN ?_
            refine c_ifp rfl (fun h6 => ?_) (fun h6 => ?_)
            · exact absurd h6 (by omega)
            · skip
              refine c_skip ?_
              exact n_cut () trivial (sub_cons rfl (sub_cons rfl (sub_cons rfl (sub_cons rfl sub_nil)))) (.refl _)
        · skip
          refine oS <| oS <| oX (e_pick_f rfl rfl) <| oM rfl <| oM rfl <| oX (e_geq rfl rfl) <| oX (e_pick_f rfl rfl) <| oN ?_
          refine c_ifp rfl (fun h6 => ?_) (fun h6 => ?_)
          · exact absurd h6 (by omega)
          · skip
            refine c_skip ?_
            exact n_cut () trivial (sub_cons rfl (sub_cons rfl (sub_cons rfl (sub_cons rfl sub_nil)))) (.refl _)
      rintro ⟨⟩ -
      refine n_code <| c_seq <| cR <| oM rfl <| oX (e_lss rfl rfl) <| oN ?_
      refine c_ifp rfl (fun h6 => ?_) (fun h6 => ?_)
      · refine c_seq <| cR <| oM rfl <| oX (e_eql rfl rfl) <| oM rfl ?_
        refine o_splitp 31 rfl (fun h7 => ?_) (fun h7 => ?_)
        · refine oM rfl <| oX (e_gtr rfl rfl) <| oX (e_pick_t rfl rfl) <| oN ?_
          refine c_ifp rfl (fun h8 => ?_) (fun h8 => ?_)
          · exact absurd h8 (by have : i = 0 ∨ 0 < i := by omega
                                rcases this with rfl | h; simp; have := h0 h; omega)
          · skip
            refine c_skip <| n_code <| cR <| oM rfl <| oM rfl <| oX (e_convn runUnderlying5 runUnderlying23 rfl (by simp only [inR]; omega)) <| oM rfl <| oX (e_shl rfl rfl (by omega)) <| oX (e_or rfl rfl) ?_
            rw [hor]
            refine oM rfl <| oX (e_addn rfl rfl (by simp only [inR]; omega)) <| oA rfl <| oA rfl <| oA rfl <| oN <| c_ret ?_
            refine r_fn (l := [.tmp 2, .tmp 3, .tmp 4]) results157 rfl rfl ?_
            exact ⟨by rw [← hlast]; rfl, rfl⟩
        · skip
          refine oS <| oS <| oX (e_pick_f rfl rfl) <| oN <| cL rfl <| cR <| oM rfl <| oM rfl <| oX (e_convn runUnderlying5 runUnderlying23 rfl (by simp only [inR]; omega)) <| oM rfl <| oX (e_shl rfl rfl (by omega)) <| oX (e_or rfl rfl) ?_
          rw [hor]
          refine oM rfl <| oX (e_addn rfl rfl (by simp only [inR]; omega)) <| oA rfl <| oA rfl <| oA rfl <| oN <| c_ret ?_
          refine r_fn (l := [.tmp 2, .tmp 3, .tmp 4]) results157 rfl rfl ?_
          exact ⟨by rw [← hlast]; rfl, rfl⟩
      · exact absurd h6 (by omega)
  · exact absurd h1 (by omega)
end
end Go.Proofs
namespace Go.Sl
open Go
section
variable {x : Cx} {s : Slots} {H : HP} {d : Nat} {p q : Operand} {ty t t' : TypeId} {pos : String} {af : Array Edge} {gd' : Option (Nat × Bool)}
/-- Two pointers to blocks of their own in two interface values of one type. -/
theorem e_ieq_two {ms : Array (String × TypeId)} {tv el n : Nat} {gA gB : Addr} {ti : TypeInfo} {cA cB : List Value} {eA eB : TypeId} (hU : ∀ w, (underlying t).run x.P w = .ok (.interface ms) w) (hI : ∀ w, (typeInfo tv).run x.P w = .ok ti w) (hc : ti.comparable = true)
    (hU' : ∀ w, (underlying tv).run x.P w = .ok (.pointer el) w) (hS : ∀ w, (sizeOf el).run x.P w = .ok n w) (hn : n ≠ 0)
    (hp : ev s p = some (.iface tv (.pointer (some gA)))) (hq : ev s q = some (.iface tv (.pointer (some gB)))) (hA : (gA.block, C cA eA) ∈ x.G) (hB : (gB.block, C cB eB) ∈ x.G) (hne : gA ≠ gB) :
    Ex x s H ⟨some d, .binOp .eql t p q t', ty, pos, af, gd'⟩ (.bool false) := fun a w hs => by
  have h1 := run_sameAddr_other (P := x.P) w (a := gA) (b := gB) hne (hs.glob _ hA) (hs.glob _ hB)
  have hE : (Op.equal t (.iface tv (.pointer (some gA))) (.iface tv (.pointer (some gB)))).run x.P w = .ok false w := by
    obtain ⟨dd, hdd⟩ := eq_in2
    rw [hdd]
    simp only [Op.equalIn, Sem.run_bind, hU, Result.andThen_ok, ne_eq, not_true_eq_false, if_false, hI, hc, Bool.not_true, Bool.false_eq_true, hU', hS, hn, not_false_eq_true, if_true, h1]
  have hx : binOp .eql t (.iface tv (.pointer (some gA))) (.iface tv (.pointer (some gB))) = (do pure (.bool (← Op.equal t (.iface tv (.pointer (some gA))) (.iface tv (.pointer (some gB)))))) := rfl
  have hg : (eqGuard .eql t p q (.iface tv (.pointer (some gA))) (.iface tv (.pointer (some gB)))).run x.P w = .ok () w := rfl
  simp only [execOp, hs.eval hp, hs.eval hq, Sem.run_bind, hg, Result.andThen_ok, hx, hE, Sem.run_pure]
end
end Go.Sl
namespace Go.Proofs
open Go Go.Sl Tryz
set_option maxRecDepth 100000
/-- What io.EOF and its like hold: a pointer to a block of its own. -/
abbrev EV (a : Addr) : Value := .iface 260 (.pointer (some a))
abbrev RB (gs n cap i : Nat) : Obj := C [.slice (some ⟨gs, 0, none⟩) n cap, .int .i64 (i : Nat), .int .i64 (-1)] 144
abbrev DB (bs : List UInt8) (rest : List Value) (lo hi : Nat) : Obj := .cells (B bs ++ rest).toArray 5 (lo, hi)
abbrev RV (gr : Nat) : Value := .iface 75 (.pointer (some ⟨gr, 0, none⟩))
section
variable {G : HP} {gr gs n cap i k lo hi e3 e5 eE eU : Nat} {f3 f5 : Nat × Nat} {bs : List UInt8} {rest cE' cU' : List Value} {gE gU : Addr} {t3 t5 : List Value}
theorem newReader_is : Ctr Tryz.prog 40 [.slice (some ⟨gs, 0, none⟩) n cap] G [] (fun r H' => ∃ g, r = .pointer (some ⟨g, 0, none⟩) ∧ H' = [(g, RB gs n cap 0)]) := by
  refine fn_enter 6 func40 rfl ntmps40 rfl ?_
  intro w0
  refine cR <| oA rfl <| oN <| cR <| oM rfl <| oX (e_build (vs := [.slice (some ⟨gs, 0, none⟩) n cap, .int .i64 0, .int .i64 (-1)]) runUnderlying144 zeroValue144 (.cons sizeOf72 (.cons sizeOf2 (.cons sizeOf3 .nil))) rfl (by kernel_rfl)) ?_
  refine o_l rfl (l_box rfl rfl rfl) ?_; intro g5 _
  refine oA rfl <| oN <| c_ret ?_
  refine r_fn1 results40 rfl ?_
  exact ⟨_, rfl, rfl⟩
/-- Nothing is left. -/
theorem read_eof {v : Value} (hE : (3, Obj.cells (EV gE :: t3).toArray e3 f3) ∈ G) : Ctr Tryz.prog 288 [.pointer (some ⟨gr, 0, none⟩), v] G [(gr, RB gs n cap n)] (fun r H' => r = .tuple #[.int .i64 0, EV gE] ∧ H' = [(gr, RB gs n cap n)]) := by
  refine fn_enter 39 func288 rfl ntmps288 rfl ?_
  intro w0
  refine cR <| oA rfl <| oA rfl <| oN <| c_seq <| c_seq <| cQ <| qM rfl <| qC rfl <| qX (e_fak 1 runUnderlying144 rfl sizeOf2 rfl rfl rfl) <| qX (e_load isAgg2 rfl (.inl M0) rfl) <| qM rfl <| qC rfl <| qX (e_fak 0 runUnderlying144 rfl sizeOf72 rfl rfl rfl) <| qX (e_load isAgg72 rfl (.inl M0) rfl) <| qX (e_lenl runUnderlying72 rfl) <| qX (e_geq rfl rfl) <| qN ?_
  refine c_then (by simp [ev, lk]) ?_
  refine c_seq <| cQ ?_
  refine qX (e_load isAgg80 rfl (.inr (by assumption)) rfl) ?_
  refine qA rfl <| qA rfl <| qN <| c_ret ?_
  refine r_fn (l := [.tmp 4, .tmp 5]) results288 rfl rfl ?_
  exact ⟨rfl, rfl⟩
theorem DB_cut (h : i + k ≤ bs.length) : CutL (B bs ++ rest) (0 + i * 1) (k * 1) (B ((bs.drop i).take k)) := by
  rw [Nat.zero_add, Nat.mul_one, Nat.mul_one]
  have := CutL.of (l := B bs ++ rest) (i := i) (n := k) (by simp [B]; omega)
  rw [List.drop_append_of_le_length (by simp [B]; omega), List.take_append_of_le_length (by simp [B]; omega)] at this
  simpa [B, List.map_drop, List.map_take] using this
/-- Some are left. -/
theorem read_some {gb ob L capb k : Nat} {pl : List Value} (hD : (gs, DB bs rest lo hi) ∈ G) (hn : bs.length = n) (hc : n ≤ cap) (h63 : cap < 9223372036854775808) (hi' : i < n) (hk : Nat.min (n - i) L = k) (hp : ob + L ≤ pl.length) :
    Ctr Tryz.prog 288 [.pointer (some ⟨gr, 0, none⟩), .slice (some ⟨gb, ob, none⟩) L capb] G [(gr, RB gs n cap i), (gb, C pl 5)] (fun r H' => r = .tuple #[.int .i64 (k : Nat), .nilIface] ∧ H' = [(gr, RB gs n cap (i + k)), (gb, C (pl.take ob ++ B ((bs.drop i).take k) ++ pl.drop (ob + k)) 5)]) := by
  have hk1 : k ≤ n - i := by rw [← hk]; exact Nat.min_le_left _ _
  have hk2 : k ≤ L := by rw [← hk]; exact Nat.min_le_right _ _
  refine fn_enter 39 func288 rfl ntmps288 rfl ?_
  intro w0
  refine cR <| oA rfl <| oA rfl <| oN <| c_seq <| c_seq <| cQ <| qM rfl <| qC rfl <| qX (e_fak 1 runUnderlying144 rfl sizeOf2 rfl rfl rfl) <| qX (e_load isAgg2 rfl (.inl M0) rfl) <| qM rfl <| qC rfl <| qX (e_fak 0 runUnderlying144 rfl sizeOf72 rfl rfl rfl) <| qX (e_load isAgg72 rfl (.inl M0) rfl) <| qX (e_lenl runUnderlying72 rfl) <| qX (e_geq rfl rfl) <| qN ?_
  refine c_ifp rfl (fun h1 => ?_) (fun h1 => ?_)
  · exact absurd h1 (by omega)
  · skip
    refine c_skip <| n_code <| cR <| oM rfl <| oC rfl <| oX (e_fak 2 runUnderlying144 rfl sizeOf3 rfl rfl rfl) ?_
    refine o_l rfl (l_store sizeOf3 rfl rfl rfl .head (.tail (.tail .head)) (by omega)) ?_; intro _ _
    refine oN <| c_seq <| c_regiong [10] (by kernel_rfl) <| gM 0 rfl (e_move rfl) <| gM 1 rfl (e_move rfl) <| gM 2 rfl (e_nilCheck rfl) <| gM 3 rfl (e_fak 0 runUnderlying144 rfl sizeOf72 rfl rfl rfl) <| gE 4 rfl (e_load isAgg72 rfl (.inl M0) rfl) <| gM 5 rfl (e_move rfl) <| gM 6 rfl (e_nilCheck rfl) <| gM 7 rfl (e_fak 1 runUnderlying144 rfl sizeOf2 rfl rfl rfl) <| gE 8 rfl (e_load isAgg2 rfl (.inl M0) rfl) <| gM 9 rfl (e_sl_l runUnderlying72 sizeOf5 rfl rfl (by omega) (by omega) (by omega)) ?_
    refine g_l 10 (by kernel_rfl) rfl rfl rfl (l_copy runUnderlying72 sizeOf5 rfl rfl rfl (.blk underlying72 (.inr hD) (DB_cut (k := n - i) (by omega)) (B_one _)) hk (.tail .head) (PutL.of (by simp [B]; omega)) (.inr rfl)) ?_
    intro _ _
    refine dX 11 rfl (e_assign rfl) <| dN <| n_code <| cR <| oM rfl <| oC rfl <| oX (e_fak 1 runUnderlying144 rfl sizeOf2 rfl rfl rfl) <| oX (e_load isAgg2 rfl (.inl M0) rfl) <| oM rfl <| oX (e_addN rfl rfl (by omega)) <| oC rfl <| oX (e_fak 1 runUnderlying144 rfl sizeOf2 rfl rfl rfl) ?_
    refine o_l rfl (l_store sizeOf2 rfl rfl rfl .head (.tail .head) (by omega)) ?_; intro _ _
    refine oN <| c_ret ?_
    refine r_fn (l := [.tmp 4, .tmp 5]) results288 rfl rfl ?_
    have hb : (B ((bs.drop i).take (n - i))).take k = B ((bs.drop i).take k) := by simp [B, List.map_take, List.take_take, Nat.min_eq_left hk1]
    have hl : (B ((bs.drop i).take k)).length = k := by simp [B]; omega
    refine ⟨rfl, ?_⟩
    simp only [Int.toNat_natCast, hb, hl, RB]
end
end Go.Proofs

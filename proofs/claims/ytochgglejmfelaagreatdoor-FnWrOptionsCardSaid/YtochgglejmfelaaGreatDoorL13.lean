/- What swaps, rotations and searches do, in numbers; Merging sorts; The stable sort sorts; What a search in a bucket finds; Bytes compared; a bucket of an index: its rows; the search for the first that is not less; A record's row written; A row that is sorted through its methods Len, Less and Swap: insertion. (A part of the proof of this: for every input laws.FnWrOptions returns true and its arguments read as they did, the listed package variables being what the program lays) -/
import Derived.Test.YtochgglejmfelaaGreatDoorL12
import Derived.Test.YtochgglejmfelaaGreatDoorLSlZ
import Derived.Test.YtochgglejmfelaaGreatDoorL09
import Derived.Test.YtochgglejmfelaaGreatDoorL06
import Derived.Test.YtochgglejmfelaaGreatDoorL04
import Derived.Test.YtochgglejmfelaaGreatDoorL03
set_option linter.unusedVariables false
set_option linter.unusedSimpArgs false
namespace Go.Proofs
open Go Go.Sl
theorem sw_get {l : List En} {i j : Nat} (hi : i < l.length) (hj : j < l.length) (p : Nat) : (sw l i j)[p]? = if p = i then l[j]? else if p = j then l[i]? else l[p]? := by
  simp only [sw, dif_pos (And.intro hi hj), swapL]
  by_cases h1 : p = j
  · subst h1
    rw [List.getElem?_set_self (by simpa using hj)]
    by_cases h2 : p = i
    · subst h2; simp [hi]
    · rw [if_neg h2, if_pos rfl, List.getElem?_eq_getElem hi]
  · rw [List.getElem?_set_ne (Ne.symm h1), if_neg h1]
    by_cases h2 : p = i
    · subst h2; rw [List.getElem?_set_self hi, if_pos rfl, List.getElem?_eq_getElem hj]
    · rw [List.getElem?_set_ne (Ne.symm h2), if_neg h2]
theorem swR_get (l : List En) (a b : Nat) : ∀ (m p : Nat), a + m ≤ b → b + m ≤ l.length → (swR l a b m)[p]? = if a ≤ p ∧ p < a + m then l[p + (b - a)]? else if b ≤ p ∧ p < b + m then l[p - (b - a)]? else l[p]? := by
  intro m
  induction m with
  | zero => intro p _ _; rw [if_neg (by omega), if_neg (by omega)]; rfl
  | succ m ih =>
    intro p h1 h2
    rw [swR, sw_get (by rw [swR_length]; omega) (by rw [swR_length]; omega), ih (b + m) (by omega) (by omega), ih (a + m) (by omega) (by omega), ih p (by omega) (by omega)]
    repeat' split
    all_goals first | rfl | (exfalso; omega) | (congr 1; omega)
theorem rotL_get (m : Nat) : ∀ (f : Nat) (l : List En) (i j p : Nat), i + j ≤ f → 0 < i → 0 < j → i ≤ m → m + j ≤ l.length → (rotL m f l i j)[p]? = if m - i ≤ p ∧ p < m - i + j then l[p + i]? else if m - i + j ≤ p ∧ p < m + j then l[p - j]? else l[p]? := by
  intro f
  induction f with
  | zero => intro l i j p h hi hj; omega
  | succ f ih =>
    intro l i j p h hi hj him hml
    simp only [rotL]
    by_cases h1 : i = j
    · subst h1
      rw [if_pos rfl, swR_get l (m - i) m i p (by omega) hml]
      repeat' split
      all_goals first | rfl | (exfalso; omega) | (congr 1; omega)
    · rw [if_neg h1]
      by_cases h2 : j < i
      · rw [if_pos h2, ih _ (i - j) j p (by omega) (by omega) hj (by omega) (by rw [swR_length]; exact hml)]
        rw [swR_get l (m - i) m j _ (by omega) hml, swR_get l (m - i) m j _ (by omega) hml, swR_get l (m - i) m j _ (by omega) hml]
        repeat' split
        all_goals first | rfl | (exfalso; omega) | (congr 1; omega)
      · rw [if_neg h2, ih _ i (j - i) p (by omega) hi (by omega) him (by rw [swR_length]; omega)]
        rw [swR_get l (m - i) (m + j - i) i _ (by omega) (by omega), swR_get l (m - i) (m + j - i) i _ (by omega) (by omega), swR_get l (m - i) (m + j - i) i _ (by omega) (by omega)]
        repeat' split
        all_goals first | rfl | (exfalso; omega) | (congr 1; omega)
theorem upS_get (l : List En) (k : Nat) : ∀ (c p : Nat), k + c < l.length → (upS l k c)[p]? = if k ≤ p ∧ p < k + c then l[p + 1]? else if p = k + c then l[k]? else l[p]? := by
  intro c
  induction c with
  | zero =>
    intro p h
    rw [if_neg (by omega)]
    split
    · rename_i h1; rw [h1]; rfl
    · rfl
  | succ c ih =>
    intro p h
    rw [upS, sw_get (by rw [upS_length]; omega) (by rw [upS_length]; omega), ih (k + c + 1) (by omega), ih (k + c) (by omega), ih p (by omega)]
    repeat' split
    all_goals first | rfl | (exfalso; omega) | (congr 1; omega)
theorem dnS_get (l : List En) (k : Nat) : ∀ (c p : Nat), c ≤ k → k < l.length → (dnS l k c)[p]? = if p = k - c then l[k]? else if k - c < p ∧ p ≤ k then l[p - 1]? else l[p]? := by
  intro c
  induction c with
  | zero =>
    intro p h1 h2
    rw [if_neg (show ¬ (k - 0 < p ∧ p ≤ k) by omega)]
    split
    · rename_i h; rw [h]; rfl
    · rfl
  | succ c ih =>
    intro p h1 h2
    rw [dnS, sw_get (by rw [dnS_length]; omega) (by rw [dnS_length]; omega), ih (k - c - 1) (by omega) h2, ih (k - c) (by omega) h2, ih p (by omega) h2]
    repeat' split
    all_goals first | rfl | (exfalso; omega) | (congr 1; omega)
theorem bsch_edge (p : Nat → Bool) : ∀ (f i j : Nat), j - i ≤ f → i ≤ j → (bsch p f i j = i ∨ p (bsch p f i j - 1) = true) ∧ (bsch p f i j = j ∨ p (bsch p f i j) = false) := by
  intro f
  induction f with
  | zero => intro i j h1 h2; exact ⟨.inl rfl, .inl (show i = j by omega)⟩
  | succ f ih =>
    intro i j h1 h2
    simp only [bsch]
    by_cases h : i < j
    · rw [if_pos h]
      cases hp : p ((i + j) / 2) with
      | true =>
        rw [if_pos rfl]
        have := ih ((i + j) / 2 + 1) j (by omega) (by omega)
        refine ⟨?_, this.2⟩
        rcases this.1 with e | e
        · right; rw [e]; exact hp
        · exact .inr e
      | false =>
        rw [if_neg (by decide)]
        have := ih i ((i + j) / 2) (by omega) (by omega)
        refine ⟨this.1, ?_⟩
        rcases this.2 with e | e
        · right; rw [e]; exact hp
        · exact .inr e
    · rw [if_neg h]
      exact ⟨.inl rfl, .inl (by omega)⟩
/-! ### In numbers -/
theorem ky_of {l0 l l' : List En} {p q : Nat} (h : l'[p]? = l[q]?) : ky l0 l' p = ky l0 l q := by simp only [ky, h]
def Sd (f : Nat → Nat) (a b : Nat) : Prop := ∀ x y, a ≤ x → x ≤ y → y < b → f x ≤ f y
/-- Outside nothing has changed, inside stands what stood there. -/
def Rng (a b : Nat) (f g : Nat → Nat) : Prop := (∀ p, p < a ∨ b ≤ p → g p = f p) ∧ ∀ p, a ≤ p → p < b → ∃ q, a ≤ q ∧ q < b ∧ g p = f q
theorem Rng.refl (a b : Nat) (f : Nat → Nat) : Rng a b f f := ⟨fun _ _ => rfl, fun p h1 h2 => ⟨p, h1, h2, rfl⟩⟩
theorem Rng.trans {a b : Nat} {f g h : Nat → Nat} (h1 : Rng a b f g) (h2 : Rng a b g h) : Rng a b f h := by
  refine ⟨fun p hp => by rw [h2.1 p hp, h1.1 p hp], fun p hp hp' => ?_⟩
  obtain ⟨q, q1, q2, q3⟩ := h2.2 p hp hp'
  obtain ⟨r, r1, r2, r3⟩ := h1.2 q q1 q2
  exact ⟨r, r1, r2, by rw [q3, r3]⟩
theorem Rng.wide {a b a' b' : Nat} {f g : Nat → Nat} (h : Rng a b f g) (ha : a' ≤ a) (hb : b ≤ b') : Rng a' b' f g := by
  refine ⟨fun p hp => h.1 p (by omega), fun p hp hp' => ?_⟩
  by_cases hin : a ≤ p ∧ p < b
  · obtain ⟨q, q1, q2, q3⟩ := h.2 p hin.1 hin.2
    exact ⟨q, by omega, by omega, q3⟩
  · exact ⟨p, hp, hp', h.1 p (by omega)⟩
theorem sw_mem {l : List En} {i j : Nat} {x : En} (h : x ∈ sw l i j) : x ∈ l := by
  unfold sw at h
  split at h
  · rename_i hij
    obtain ⟨p, hp⟩ := List.mem_iff_getElem?.1 h
    have e := sw_get hij.1 hij.2 p
    simp only [sw, dif_pos hij] at e
    rw [e] at hp
    repeat' split at hp
    all_goals exact List.mem_of_getElem? hp
  · exact h
end Go.Proofs
namespace Go.Proofs
open Go Go.Sl
theorem upS_mem {l : List En} {k c : Nat} {x : En} (h : x ∈ upS l k c) : x ∈ l := by
  induction c with
  | zero => exact h
  | succ c ih => exact ih (sw_mem h)
theorem dnS_mem {l : List En} {k c : Nat} {x : En} (h : x ∈ dnS l k c) : x ∈ l := by
  induction c with
  | zero => exact h
  | succ c ih => exact ih (sw_mem h)
theorem swR_mem {l : List En} {a b m : Nat} {x : En} (h : x ∈ swR l a b m) : x ∈ l := by
  induction m with
  | zero => exact h
  | succ m ih => exact ih (sw_mem h)
theorem rotL_mem {m : Nat} {x : En} : ∀ {f : Nat} {l : List En} {i j : Nat}, x ∈ rotL m f l i j → x ∈ l := by
  intro f
  induction f with
  | zero => intro l i j h; exact h
  | succ f ih =>
    intro l i j h
    simp only [rotL] at h
    repeat' split at h
    · exact swR_mem h
    · exact swR_mem (ih h)
    · exact swR_mem (ih h)
theorem symM_mem {x : En} : ∀ {f : Nat} {l : List En} {a m b : Nat}, x ∈ symM f l a m b → x ∈ l := by
  intro f
  induction f with
  | zero => intro l a m b h; exact h
  | succ f ih =>
    intro l a m b h
    simp only [symM] at h
    repeat' split at h
    all_goals first | exact upS_mem h | exact dnS_mem h | exact rotL_mem (ih (ih h)) | exact rotL_mem (ih h) | exact ih (ih h) | exact ih h | exact rotL_mem h | exact h
/-- Merging, in numbers. -/
theorem symM_sorts {l0 : List En} : ∀ (f : Nat) (l : List En) (a m b : Nat), b - a ≤ f → a < m → m < b → b ≤ l.length → (∀ x ∈ l, x ∈ l0) → Sd (ky l0 l) a m → Sd (ky l0 l) m b →
    Sd (ky l0 (symM f l a m b)) a b ∧ Rng a b (ky l0 l) (ky l0 (symM f l a m b)) := by
  intro f
  induction f with
  | zero => intro l a m b h1 h2 h3; omega
  | succ f ih =>
    intro l a m b hf ham hmb hb hm s1 s2
    have lt : ∀ i j, i < b → j < b → ltAt l i j = decide (ky l0 l i < ky l0 l j) := fun i j hi hj => ltAt_ky hm (by omega) (by omega)
    simp only [symM]
    by_cases c1 : m - a = 1
    · rw [if_pos c1]
      obtain ⟨e1, e2⟩ := bsch_edge (fun h => ltAt l h a) (b - m) m b (Nat.le_refl _) (by omega)
      obtain ⟨e3, e4⟩ := bsch_bounds (fun h => ltAt l h a) (b - m) m b (by omega)
      generalize bsch (fun h => ltAt l h a) (b - m) m b = r at *
      have g1 : r = m ∨ ky l0 l (r - 1) < ky l0 l a := by
        rcases e1 with e | e
        · exact .inl e
        · right
          by_cases hr : r = m
          · subst hr; rw [lt _ _ (by omega) (by omega)] at e; simpa using e
          · rw [lt _ _ (by omega) (by omega)] at e; simpa using e
      have g2 : r = b ∨ ky l0 l a ≤ ky l0 l r := by
        rcases e2 with e | e
        · exact .inl e
        · by_cases hr : r = b
          · exact .inl hr
          · right; rw [lt _ _ (by omega) (by omega)] at e; simpa using e
      have K : ∀ p, ky l0 (upS l a (r - 1 - a)) p = if a ≤ p ∧ p < r - 1 then ky l0 l (p + 1) else if p = r - 1 then ky l0 l a else ky l0 l p := by
        intro p
        have := upS_get l a (r - 1 - a) p (by omega)
        rw [show a + (r - 1 - a) = r - 1 by omega] at this
        repeat' split
        all_goals first | (rw [if_pos (by omega)] at this; exact ky_of this) | (rw [if_neg (by omega), if_pos (by omega)] at this; exact ky_of this) | (rw [if_neg (by omega), if_neg (by omega)] at this; exact ky_of this)
      refine ⟨fun x y h1 h2 h3 => ?_, fun p hp => ?_, fun p h1 h2 => ?_⟩
      · rw [K, K]
        have q1 : r = m ∨ ∀ p, m ≤ p → p < r → ky l0 l p ≤ ky l0 l a := by
          rcases g1 with e | e
          · exact .inl e
          · exact .inr fun p hp hp' => Nat.le_of_lt (Nat.lt_of_le_of_lt (s2 p (r - 1) hp (by omega) (by omega)) e)
        have q2 : ∀ p, r ≤ p → p < b → ky l0 l a ≤ ky l0 l p := by
          intro p hp hp'
          rcases g2 with e | e
          · omega
          · exact Nat.le_trans e (s2 r p (by omega) hp hp')
        repeat' split
        all_goals first
          | exact Nat.le_refl _
          | (exfalso; omega)
          | exact s2 _ _ (by omega) (by omega) (by omega)
          | (rcases q1 with e | e; omega; exact e _ (by omega) (by omega))
          | exact q2 _ (by omega) (by omega)
      · rw [K, if_neg (by omega), if_neg (by omega)]
      · rw [K]
        repeat' split
        · exact ⟨p + 1, by omega, by omega, rfl⟩
        · exact ⟨a, by omega, by omega, rfl⟩
        · exact ⟨p, h1, h2, rfl⟩
    · rw [if_neg c1]
      by_cases c2 : b - m = 1
      · rw [if_pos c2]
        obtain ⟨e1, e2⟩ := bsch_edge (fun h => !ltAt l m h) (m - a) a m (Nat.le_refl _) (by omega)
        obtain ⟨e3, e4⟩ := bsch_bounds (fun h => !ltAt l m h) (m - a) a m (by omega)
        generalize bsch (fun h => !ltAt l m h) (m - a) a m = r at *
        have g1 : r = a ∨ ky l0 l (r - 1) ≤ ky l0 l m := by
          rcases e1 with e | e
          · exact .inl e
          · right; rw [lt _ _ (by omega) (by omega)] at e; simpa using e
        have g2 : r = m ∨ ky l0 l m < ky l0 l r := by
          rcases e2 with e | e
          · exact .inl e
          · right; rw [lt _ _ (by omega) (by omega)] at e; simpa using e
        have K : ∀ p, ky l0 (dnS l m (m - r)) p = if p = r then ky l0 l m else if r < p ∧ p ≤ m then ky l0 l (p - 1) else ky l0 l p := by
          intro p
          have := dnS_get l m (m - r) p (by omega) (by omega)
          rw [show m - (m - r) = r by omega] at this
          repeat' split
          all_goals first | (rw [if_pos (by omega)] at this; exact ky_of this) | (rw [if_neg (by omega), if_pos (by omega)] at this; exact ky_of this) | (rw [if_neg (by omega), if_neg (by omega)] at this; exact ky_of this)
        have q1 : ∀ p, a ≤ p → p < r → ky l0 l p ≤ ky l0 l m := by
          intro p hp hp'
          rcases g1 with e | e
          · omega
          · exact Nat.le_trans (s1 p (r - 1) hp (by omega) (by omega)) e
        have q2 : ∀ p, r ≤ p → p < m → ky l0 l m ≤ ky l0 l p := by
          intro p hp hp'
          rcases g2 with e | e
          · omega
          · exact Nat.le_trans (Nat.le_of_lt e) (s1 r p (by omega) hp hp')
        refine ⟨fun x y h1 h2 h3 => ?_, fun p hp => ?_, fun p h1 h2 => ?_⟩
        · rw [K, K]
          repeat' split
          all_goals first
            | exact Nat.le_refl _
            | (exfalso; omega)
            | exact s1 _ _ (by omega) (by omega) (by omega)
            | exact q1 _ (by omega) (by omega)
            | exact q2 _ (by omega) (by omega)
        · rw [K, if_neg (by omega), if_neg (by omega)]
        · rw [K]
          repeat' split
          · exact ⟨m, by omega, by omega, rfl⟩
          · exact ⟨p - 1, by omega, by omega, rfl⟩
          · exact ⟨p, h1, h2, rfl⟩
      · rw [if_neg c2]
        have hst1 : ∃ st, st = (if (a + b) / 2 < m then bsch (fun c => !ltAt l ((a + b) / 2 + m - 1 - c) c) (b - a) ((a + b) / 2 + m - b) ((a + b) / 2) else bsch (fun c => !ltAt l ((a + b) / 2 + m - 1 - c) c) (b - a) a m) := ⟨_, rfl⟩
        obtain ⟨st, hst⟩ := hst1
        rw [← hst]
        obtain ⟨mid, hmid⟩ : ∃ mid, mid = (a + b) / 2 := ⟨_, rfl⟩
        rw [← hmid] at hst ⊢
        have hm1 : 2 * mid ≤ a + b := by omega
        have hm2 : a + b ≤ 2 * mid + 1 := by omega
        clear hmid
        have lt2 : ∀ c, a ≤ c → mid + m ≤ b + c → c < m → c < mid → (!ltAt l (mid + m - 1 - c) c) = decide (ky l0 l c ≤ ky l0 l (mid + m - 1 - c)) := by
          intro c h1 h2 h3 h4
          rw [lt _ _ (by omega) (by omega)]
          by_cases h : ky l0 l (mid + m - 1 - c) < ky l0 l c
          · simp [h, Nat.not_le.2 h]
          · simp [h, Nat.not_lt.1 h]
        -- where the search ends
        have hS : a ≤ st ∧ mid + m ≤ b + st ∧ st ≤ m ∧ st ≤ mid ∧ (st = m ∨ st = mid ∨ ky l0 l (mid + m - 1 - st) < ky l0 l st) ∧ (st = a ∨ mid + m = b + st ∨ ky l0 l (st - 1) ≤ ky l0 l (mid + m - st)) := by
          by_cases c3 : mid < m
          · rw [if_pos c3] at hst
            obtain ⟨e1, e2⟩ := bsch_edge (fun c => !ltAt l (mid + m - 1 - c) c) (b - a) (mid + m - b) mid (by omega) (by omega)
            obtain ⟨e3, e4⟩ := bsch_bounds (fun c => !ltAt l (mid + m - 1 - c) c) (b - a) (mid + m - b) mid (by omega)
            rw [← hst] at e1 e2 e3 e4
            refine ⟨by omega, by omega, by omega, by omega, ?_, ?_⟩
            · rcases e2 with e | e
              · exact .inr (.inl e)
              · by_cases h : st = mid
                · exact .inr (.inl h)
                · rw [lt2 st (by omega) (by omega) (by omega) (by omega)] at e
                  exact .inr (.inr (by simpa using e))
            · rcases e1 with e | e
              · exact .inr (.inl (by omega))
              · by_cases h : mid + m = b + st
                · exact .inr (.inl h)
                · rw [lt2 (st - 1) (by omega) (by omega) (by omega) (by omega)] at e
                  rw [show mid + m - 1 - (st - 1) = mid + m - st by omega] at e
                  exact .inr (.inr (by simpa using e))
          · rw [if_neg c3] at hst
            obtain ⟨e1, e2⟩ := bsch_edge (fun c => !ltAt l (mid + m - 1 - c) c) (b - a) a m (by omega) (by omega)
            obtain ⟨e3, e4⟩ := bsch_bounds (fun c => !ltAt l (mid + m - 1 - c) c) (b - a) a m (by omega)
            rw [← hst] at e1 e2 e3 e4
            refine ⟨by omega, by omega, by omega, by omega, ?_, ?_⟩
            · rcases e2 with e | e
              · exact .inl e
              · by_cases h : st = m
                · exact .inl h
                · rw [lt2 st (by omega) (by omega) (by omega) (by omega)] at e
                  exact .inr (.inr (by simpa using e))
            · rcases e1 with e | e
              · exact .inl e
              · by_cases h : st = a
                · exact .inl h
                · rw [lt2 (st - 1) (by omega) (by omega) (by omega) (by omega)] at e
                  rw [show mid + m - 1 - (st - 1) = mid + m - st by omega] at e
                  exact .inr (.inr (by simpa using e))
        clear hst lt2
        obtain ⟨k1, k2, k3, k4, k5, k6⟩ := hS
        -- the rotation
        have hR : ∃ l1, l1 = (if st < m ∧ m < mid + m - st then rotL m (mid + m - st - st) l (m - st) (mid + m - st - m) else l) := ⟨_, rfl⟩
        obtain ⟨l1, hl1⟩ := hR
        rw [← hl1]
        have hl1len : l1.length = l.length := by rw [hl1]; split <;> simp [rotL_length]
        have hl1m : ∀ x ∈ l1, x ∈ l0 := by
          intro x hx
          rw [hl1] at hx
          split at hx
          · exact hm x (rotL_mem hx)
          · exact hm x hx
        have K : ∀ p, ky l0 l1 p = if st ≤ p ∧ p < mid then ky l0 l (p + (m - st)) else if mid ≤ p ∧ p < mid + m - st then ky l0 l (p - (mid - st)) else ky l0 l p := by
          intro p
          by_cases c4 : st < m ∧ m < mid + m - st
          · rw [if_pos c4] at hl1
            have := rotL_get m (mid + m - st - st) l (m - st) (mid + m - st - m) p (by omega) (by omega) (by omega) (by omega) (by omega)
            rw [← hl1, show m - (m - st) = st by omega, show st + (mid + m - st - m) = mid by omega, show m + (mid + m - st - m) = mid + m - st by omega, show mid + m - st - m = mid - st by omega] at this
            repeat' split
            all_goals first | (rw [if_pos (by omega)] at this; exact ky_of this) | (rw [if_neg (by omega), if_pos (by omega)] at this; exact ky_of this) | (rw [if_neg (by omega), if_neg (by omega)] at this; exact ky_of this)
          · rw [if_neg c4] at hl1
            subst hl1
            repeat' split
            all_goals first | rfl | (exfalso; omega) | (congr 1; omega)
        clear hl1
        have cross : ∀ p q, a ≤ p → p < mid → mid ≤ q → q < b → ky l0 l1 p ≤ ky l0 l1 q := by
          intro p q h1 h2 h3 h4
          rw [K, K]
          by_cases c5 : st ≤ p
          · rw [if_pos ⟨c5, h2⟩, if_neg (by omega)]
            by_cases c6 : q < mid + m - st
            · rw [if_pos ⟨h3, c6⟩]
              rcases k5 with e | e | e
              · omega
              · omega
              · exact Nat.le_trans (s2 (p + (m - st)) (mid + m - 1 - st) (by omega) (by omega) (by omega)) (Nat.le_trans (Nat.le_of_lt e) (s1 st (q - (mid - st)) (by omega) (by omega) (by omega)))
            · rw [if_neg (by omega)]
              exact s2 _ _ (by omega) (by omega) (by omega)
          · rw [if_neg (by omega), if_neg (by omega), if_neg (by omega)]
            by_cases c6 : q < mid + m - st
            · rw [if_pos ⟨h3, c6⟩]
              exact s1 _ _ (by omega) (by omega) (by omega)
            · rw [if_neg (by omega)]
              rcases k6 with e | e | e
              · omega
              · omega
              · exact Nat.le_trans (s1 p (st - 1) (by omega) (by omega) (by omega)) (Nat.le_trans e (s2 (mid + m - st) q (by omega) (by omega) (by omega)))
        have t1 : Sd (ky l0 l1) a st := fun x y h1 h2 h3 => by
          rw [K, K, if_neg (by omega), if_neg (by omega), if_neg (by omega), if_neg (by omega)]
          exact s1 _ _ (by omega) (by omega) (by omega)
        have t2 : Sd (ky l0 l1) st mid := fun x y h1 h2 h3 => by
          rw [K, K, if_pos (by omega), if_pos (by omega)]
          exact s2 _ _ (by omega) (by omega) (by omega)
        have t3 : Sd (ky l0 l1) mid (mid + m - st) := fun x y h1 h2 h3 => by
          rw [K, K, if_neg (by omega), if_pos (by omega), if_neg (by omega), if_pos (by omega)]
          exact s1 _ _ (by omega) (by omega) (by omega)
        have t4 : Sd (ky l0 l1) (mid + m - st) b := fun x y h1 h2 h3 => by
          rw [K, K, if_neg (by omega), if_neg (by omega), if_neg (by omega), if_neg (by omega)]
          exact s2 _ _ (by omega) (by omega) (by omega)
        have r1 : Rng a b (ky l0 l) (ky l0 l1) := by
          refine ⟨fun p hp => ?_, fun p h1 h2 => ?_⟩
          · rw [K, if_neg (by omega), if_neg (by omega)]
          · rw [K]
            repeat' split
            · exact ⟨_, by omega, by omega, rfl⟩
            · exact ⟨_, by omega, by omega, rfl⟩
            · exact ⟨p, h1, h2, rfl⟩
        clear K s1 s2 k5 k6 lt
        -- the left half
        have hL : ∃ l2, l2 = (if a < st ∧ st < mid then symM f l1 a st mid else l1) := ⟨_, rfl⟩
        obtain ⟨l2, hl2⟩ := hL
        rw [← hl2]
        have hl2len : l2.length = l1.length := by rw [hl2]; split <;> simp [symM_length]
        have hl2m : ∀ x ∈ l2, x ∈ l0 := by
          intro x hx
          rw [hl2] at hx
          split at hx
          · exact hl1m x (symM_mem hx)
          · exact hl1m x hx
        have u1 : Sd (ky l0 l2) a mid ∧ Rng a mid (ky l0 l1) (ky l0 l2) := by
          by_cases c7 : a < st ∧ st < mid
          · rw [hl2, if_pos c7]
            exact ih l1 a st mid (by omega) c7.1 c7.2 (by omega) hl1m t1 t2
          · rw [hl2, if_neg c7]
            refine ⟨?_, Rng.refl _ _ _⟩
            by_cases c8 : st = a
            · rw [← c8]; exact t2
            · have c9 : st = mid := by omega
              rw [← c9]; exact t1
        clear hl2 t1 t2
        obtain ⟨u1, u2⟩ := u1
        have t3' : Sd (ky l0 l2) mid (mid + m - st) := fun x y h1 h2 h3 => by rw [u2.1 x (by omega), u2.1 y (by omega)]; exact t3 x y h1 h2 h3
        have t4' : Sd (ky l0 l2) (mid + m - st) b := fun x y h1 h2 h3 => by rw [u2.1 x (by omega), u2.1 y (by omega)]; exact t4 x y h1 h2 h3
        have hF : ∃ l3, l3 = (if mid < mid + m - st ∧ mid + m - st < b then symM f l2 mid (mid + m - st) b else l2) := ⟨_, rfl⟩
        obtain ⟨l3, hl3⟩ := hF
        rw [← hl3]
        have w1 : Sd (ky l0 l3) mid b ∧ Rng mid b (ky l0 l2) (ky l0 l3) := by
          by_cases c7 : mid < mid + m - st ∧ mid + m - st < b
          · rw [hl3, if_pos c7]
            exact ih l2 mid (mid + m - st) b (by omega) c7.1 c7.2 (by omega) hl2m t3' t4'
          · rw [hl3, if_neg c7]
            refine ⟨?_, Rng.refl _ _ _⟩
            by_cases c8 : mid + m - st = mid
            · rw [c8] at t4'; exact t4'
            · have c9 : mid + m - st = b := by omega
              rw [c9] at t3'; exact t3'
        obtain ⟨w1, w2⟩ := w1
        refine ⟨fun x y h1 h2 h3 => ?_, (r1.trans (u2.wide (by omega) (by omega))).trans (w2.wide (by omega) (by omega))⟩
        by_cases d1 : y < mid
        · rw [w2.1 x (by omega), w2.1 y (by omega)]
          exact u1 x y h1 h2 d1
        · by_cases d2 : mid ≤ x
          · exact w1 x y d2 h2 h3
          · rw [w2.1 x (by omega)]
            obtain ⟨p, p1, p2, p3⟩ := u2.2 x h1 (by omega)
            obtain ⟨q, q1, q2, q3⟩ := w2.2 y (by omega) h3
            rw [p3, q3, u2.1 q (by omega)]
            exact cross p q p1 p2 q1 q2
end Go.Proofs
namespace Go.Proofs
open Go Go.Sl
theorem sw_permQ (l : List En) (i j : Nat) : (sw l i j).Perm l := by
  unfold sw
  split
  · rename_i h
    exact List.set_set_perm h.1 h.2
  · exact .refl _
theorem ky_sw {l0 l : List En} {i j : Nat} (hi : i < l.length) (hj : j < l.length) (p : Nat) : ky l0 (sw l i j) p = if p = i then ky l0 l j else if p = j then ky l0 l i else ky l0 l p := by
  have := sw_get hi hj p
  repeat' split
  all_goals first | (rw [if_pos (by assumption)] at this; exact ky_of this) | (rw [if_neg (by assumption), if_pos (by assumption)] at this; exact ky_of this) | (rw [if_neg (by assumption), if_neg (by assumption)] at this; exact ky_of this)
theorem insJ_sorts {l0 : List En} {a e : Nat} : ∀ (j : Nat) (l : List En), a ≤ j → j < e → e ≤ l.length → (∀ x ∈ l, x ∈ l0) → (∀ x y, a ≤ x → x < y → y < e → x ≠ j → y ≠ j → ky l0 l x ≤ ky l0 l y) → (∀ y, j < y → y < e → ky l0 l j ≤ ky l0 l y) →
    Sd (ky l0 (insJ a j l)) a e ∧ Rng a e (ky l0 l) (ky l0 (insJ a j l)) ∧ ∀ x ∈ insJ a j l, x ∈ l0 := by
  intro j
  induction j with
  | zero =>
    intro l h1 h2 h3 hm i1 i2
    refine ⟨fun x y h4 h5 h6 => ?_, Rng.refl _ _ _, hm⟩
    show ky l0 l x ≤ ky l0 l y
    by_cases e1 : x = y
    · rw [e1]; exact Nat.le_refl _
    · by_cases e2 : x = 0
      · rw [e2]; exact i2 y (by omega) h6
      · exact i1 x y h4 (by omega) h6 e2 (by omega)
  | succ j ih =>
    intro l h1 h2 h3 hm i1 i2
    simp only [insJ]
    by_cases c : a < j + 1 ∧ ltAt l (j + 1) j = true
    · rw [if_pos c]
      have c2 := c.2
      rw [ltAt_ky hm (by omega) (by omega)] at c2
      have c3 : ky l0 l (j + 1) < ky l0 l j := by simpa using c2
      have K := ky_sw (l0 := l0) (l := l) (i := j + 1) (j := j) (by omega) (by omega)
      have hm' : ∀ x ∈ sw l (j + 1) j, x ∈ l0 := fun x hx => hm x (sw_mem hx)
      obtain ⟨r1, r2, r3⟩ := ih (sw l (j + 1) j) (by omega) (by omega) (by rw [sw_length]; exact h3) hm' (fun x y h4 h5 h6 h7 h8 => by
        rw [K, K]
        repeat' split
        all_goals first | (exfalso; omega) | exact Nat.le_refl _ | exact i1 _ _ (by omega) (by omega) (by omega) (by omega) (by omega)) (fun y h4 h5 => by
        rw [K, K, if_neg (by omega), if_pos rfl]
        repeat' split
        · exact Nat.le_of_lt c3
        · omega
        · exact i2 y (by omega) h5)
      refine ⟨r1, Rng.trans ⟨fun p hp => ?_, fun p h4 h5 => ?_⟩ r2, r3⟩
      · rw [K, if_neg (by omega), if_neg (by omega)]
      · rw [K]
        repeat' split
        · exact ⟨j, by omega, by omega, rfl⟩
        · exact ⟨j + 1, by omega, by omega, rfl⟩
        · exact ⟨p, h4, h5, rfl⟩
    · rw [if_neg c]
      refine ⟨fun x y h4 h5 h6 => ?_, Rng.refl _ _ _, hm⟩
      by_cases e1 : x = y
      · rw [e1]; exact Nat.le_refl _
      · by_cases e2 : x = j + 1
        · rw [e2]; exact i2 y (by omega) h6
        · by_cases e3 : y = j + 1
          · have c3 : ky l0 l j ≤ ky l0 l (j + 1) := by
              rw [ltAt_ky hm (by omega) (by omega)] at c
              apply Nat.le_of_not_lt
              intro h
              exact c ⟨by omega, by simpa using h⟩
            rw [e3]
            by_cases e4 : x = j
            · rw [e4]; exact c3
            · exact Nat.le_trans (i1 x j h4 (by omega) (by omega) (by omega) (by omega)) c3
          · exact i1 x y h4 (by omega) h6 e2 e3
theorem isortN_sorts {l0 : List En} {a : Nat} : ∀ (k : Nat) (l : List En), a + k < l.length → (∀ x ∈ l, x ∈ l0) → Sd (ky l0 (isortN a k l)) a (a + k + 1) ∧ Rng a (a + k + 1) (ky l0 l) (ky l0 (isortN a k l)) ∧ ∀ x ∈ isortN a k l, x ∈ l0 := by
  intro k
  induction k with
  | zero =>
    intro l h hm
    refine ⟨fun x y h1 h2 h3 => ?_, Rng.refl _ _ _, hm⟩
    have : x = y := by omega
    rw [this]; exact Nat.le_refl _
  | succ k ih =>
    intro l h hm
    obtain ⟨r1, r2, r3⟩ := ih l (by omega) hm
    obtain ⟨q1, q2, q3⟩ := insJ_sorts (a := a) (e := a + (k + 1) + 1) (a + 1 + k) (isortN a k l) (by omega) (by omega) (by rw [isortN_length]; omega) r3 (fun x y h1 h2 h3 h4 h5 => r1 x y h1 (by omega) (by omega)) (fun y h1 h2 => by omega)
    exact ⟨q1, (r2.wide (Nat.le_refl _) (by omega)).trans q2, q3⟩
def Bk (s : Nat) (f : Nat → Nat) (a n : Nat) : Prop := ∀ q, a + s * q < n → Sd f (a + s * q) (min (a + s * q + s) n)
theorem Bk.cons {s a n : Nat} {f : Nat → Nat} (h0 : Sd f a (min (a + s) n)) (h : Bk s f (a + s) n) : Bk s f a n := by
  intro q hq
  cases q with
  | zero => simpa using h0
  | succ q =>
    have e : a + s * (q + 1) = a + s + s * q := by rw [Nat.mul_succ]; omega
    rw [e] at hq ⊢
    exact h q hq
theorem Bk.end {s a n : Nat} {f : Nat → Nat} (h : n ≤ a) : Bk s f a n := fun q hq => by omega
theorem isP_sorts {l0 : List En} {n : Nat} : ∀ (f a : Nat) (l : List En), n - a ≤ f → a ≤ n → n ≤ l.length → (∀ x ∈ l, x ∈ l0) → Bk 20 (ky l0 (isP n f a l)) a n ∧ Rng a n (ky l0 l) (ky l0 (isP n f a l)) ∧ ∀ x ∈ isP n f a l, x ∈ l0 := by
  have last : ∀ (a : Nat) (l : List En), a ≤ n → n < a + 20 → n ≤ l.length → (∀ x ∈ l, x ∈ l0) → Bk 20 (ky l0 (isortN a (n - (a + 1)) l)) a n ∧ Rng a n (ky l0 l) (ky l0 (isortN a (n - (a + 1)) l)) ∧ ∀ x ∈ isortN a (n - (a + 1)) l, x ∈ l0 := by
    intro a l h1 h2 h3 hm
    by_cases c : a = n
    · subst c
      rw [show a - (a + 1) = 0 by omega]
      exact ⟨.end (Nat.le_refl _), Rng.refl _ _ _, hm⟩
    · obtain ⟨r1, r2, r3⟩ := isortN_sorts (l0 := l0) (a := a) (n - (a + 1)) l (by omega) hm
      rw [show a + (n - (a + 1)) + 1 = n by omega] at r1 r2
      refine ⟨Bk.cons (by rw [Nat.min_eq_right (by omega)]; exact r1) (.end (by omega)), r2, r3⟩
  intro f
  induction f with
  | zero => intro a l h1 h2 h3 hm; exact last a l h2 (by omega) h3 hm
  | succ f ih =>
    intro a l h1 h2 h3 hm
    simp only [isP]
    by_cases c : a + 20 ≤ n
    · rw [if_pos c]
      obtain ⟨r1, r2, r3⟩ := isortN_sorts (l0 := l0) (a := a) 19 l (by omega) hm
      obtain ⟨q1, q2, q3⟩ := ih (a + 20) (isortN a 19 l) (by omega) c (by rw [isortN_length]; exact h3) r3
      refine ⟨Bk.cons (fun x y h4 h5 h6 => ?_) q1, (r2.wide (Nat.le_refl _) (by omega)).trans (q2.wide (by omega) (Nat.le_refl _)), q3⟩
      rw [q2.1 x (by omega), q2.1 y (by omega)]
      exact r1 x y h4 h5 (by omega)
    · rw [if_neg c]
      exact last a l h2 (by omega) h3 hm
theorem mgP_sorts {l0 : List En} {n s : Nat} (hs : 0 < s) : ∀ (f a : Nat) (l : List En), n - a ≤ f → n ≤ l.length → (∀ x ∈ l, x ∈ l0) → Bk s (ky l0 l) a n → Bk (2 * s) (ky l0 (mgP n s f a l)) a n ∧ Rng a n (ky l0 l) (ky l0 (mgP n s f a l)) ∧ ∀ x ∈ mgP n s f a l, x ∈ l0 := by
  have last : ∀ (a : Nat) (l : List En), n < a + 2 * s → n ≤ l.length → (∀ x ∈ l, x ∈ l0) → Bk s (ky l0 l) a n →
      Bk (2 * s) (ky l0 (if a + s < n then symM (n - a) l a (a + s) n else l)) a n ∧ Rng a n (ky l0 l) (ky l0 (if a + s < n then symM (n - a) l a (a + s) n else l)) ∧ ∀ x ∈ (if a + s < n then symM (n - a) l a (a + s) n else l), x ∈ l0 := by
    intro a l h1 h2 hm hb
    by_cases c : a + s < n
    · rw [if_pos c]
      have b0 := hb 0 (by omega)
      have b1 := hb 1 (by omega)
      rw [Nat.mul_zero, Nat.add_zero, Nat.min_eq_left (by omega)] at b0
      rw [Nat.mul_one, Nat.min_eq_right (by omega)] at b1
      obtain ⟨r1, r2⟩ := symM_sorts (l0 := l0) (n - a) l a (a + s) n (Nat.le_refl _) (by omega) c h2 hm b0 b1
      refine ⟨Bk.cons (by rw [Nat.min_eq_right (by omega)]; exact r1) (.end (by omega)), r2, fun x hx => hm x (symM_mem hx)⟩
    · rw [if_neg c]
      refine ⟨Bk.cons ?_ (.end (by omega)), Rng.refl _ _ _, hm⟩
      by_cases c2 : a < n
      · have b0 := hb 0 (by omega)
        rw [Nat.mul_zero, Nat.add_zero] at b0
        intro x y h4 h5 h6
        exact b0 x y h4 h5 (by omega)
      · intro x y h4 h5 h6; omega
  intro f
  induction f with
  | zero => intro a l h1 h2 hm hb; exact last a l (by omega) h2 hm hb
  | succ f ih =>
    intro a l h1 h2 hm hb
    simp only [mgP]
    by_cases c : a + 2 * s ≤ n
    · rw [if_pos c]
      have b0 := hb 0 (by omega)
      have b1 := hb 1 (by omega)
      rw [Nat.mul_zero, Nat.add_zero, Nat.min_eq_left (by omega)] at b0
      rw [Nat.mul_one, Nat.min_eq_left (by omega), show a + s + s = a + 2 * s by omega] at b1
      obtain ⟨r1, r2⟩ := symM_sorts (l0 := l0) (2 * s) l a (a + s) (a + 2 * s) (by omega) (by omega) (by omega) (by omega) hm b0 b1
      have r3 : ∀ x ∈ symM (2 * s) l a (a + s) (a + 2 * s), x ∈ l0 := fun x hx => hm x (symM_mem hx)
      have r4 : Bk s (ky l0 (symM (2 * s) l a (a + s) (a + 2 * s))) (a + 2 * s) n := by
        intro q hq x y h4 h5 h6
        rw [r2.1 x (by omega), r2.1 y (by omega)]
        have e : a + s * (q + 2) = a + 2 * s + s * q := by rw [Nat.mul_add]; omega
        have := hb (q + 2) (by rw [e]; exact hq)
        rw [e] at this
        exact this x y h4 h5 h6
      obtain ⟨q1, q2, q3⟩ := ih (a + 2 * s) _ (by omega) (by rw [symM_length]; exact h2) r3 r4
      refine ⟨Bk.cons (fun x y h4 h5 h6 => ?_) q1, (r2.wide (Nat.le_refl _) c).trans (q2.wide (by omega) (Nat.le_refl _)), q3⟩
      rw [q2.1 x (by omega), q2.1 y (by omega)]
      exact r1 x y h4 h5 (by omega)
    · rw [if_neg c]
      exact last a l (by omega) h2 hm hb
theorem stM_sorts {l0 : List En} {n : Nat} : ∀ (f s : Nat) (l : List En), 0 < s → n ≤ f + s → n ≤ l.length → (∀ x ∈ l, x ∈ l0) → Bk s (ky l0 l) 0 n → Sd (ky l0 (stM n f s l)) 0 n := by
  have last : ∀ (s : Nat) (l : List En), n ≤ s → Bk s (ky l0 l) 0 n → Sd (ky l0 l) 0 n := by
    intro s l h hb x y h1 h2 h3
    have b0 := hb 0 (by omega)
    rw [Nat.mul_zero, Nat.add_zero, Nat.min_eq_right (by omega)] at b0
    exact b0 x y h1 h2 h3
  intro f
  induction f with
  | zero => intro s l hs h1 h2 hm hb; exact last s l (by omega) hb
  | succ f ih =>
    intro s l hs h1 h2 hm hb
    simp only [stM]
    by_cases c : s < n
    · rw [if_pos c]
      obtain ⟨q1, _, q3⟩ := mgP_sorts hs n 0 l (by omega) h2 hm hb
      exact ih (2 * s) _ (by omega) (by omega) (by rw [mgP_length]; exact h2) q3 q1
    · rw [if_neg c]
      exact last s l (by omega) hb
theorem stable_sorts (l : List En) : Sd (ky l (stable l)) 0 l.length := by
  obtain ⟨r1, _, r3⟩ := isP_sorts (l0 := l) (n := l.length) l.length 0 l (by omega) (Nat.zero_le _) (Nat.le_refl _) (fun _ h => h)
  exact stM_sorts l.length 20 _ (by omega) (by omega) (by rw [isP_length]; exact Nat.le_refl _) r3 r1
end Go.Proofs
namespace Go.Proofs
open Go Go.Sl
theorem swR_permQ (l : List En) (a b m : Nat) : (swR l a b m).Perm l := by
  induction m with
  | zero => exact .refl _
  | succ m ih => exact (sw_permQ _ _ _).trans ih
theorem upS_permQ (l : List En) (k c : Nat) : (upS l k c).Perm l := by
  induction c with
  | zero => exact .refl _
  | succ c ih => exact (sw_permQ _ _ _).trans ih
theorem dnS_permQ (l : List En) (k c : Nat) : (dnS l k c).Perm l := by
  induction c with
  | zero => exact .refl _
  | succ c ih => exact (sw_permQ _ _ _).trans ih
theorem rotL_permQ (m : Nat) : ∀ (f : Nat) (l : List En) (i j : Nat), (rotL m f l i j).Perm l := by
  intro f
  induction f with
  | zero => intro l i j; exact .refl _
  | succ f ih =>
    intro l i j
    simp only [rotL]
    split
    · exact swR_permQ ..
    · split
      · exact (ih _ _ _).trans (swR_permQ ..)
      · exact (ih _ _ _).trans (swR_permQ ..)
theorem symM_permQ : ∀ (f : Nat) (l : List En) (a m b : Nat), (symM f l a m b).Perm l := by
  intro f
  induction f with
  | zero => intro l a m b; exact .refl _
  | succ f ih =>
    intro l a m b
    simp only [symM]
    repeat' split
    all_goals first | exact upS_permQ .. | exact dnS_permQ .. | exact ((ih _ _ _ _).trans (ih _ _ _ _)).trans (rotL_permQ ..) | exact (ih _ _ _ _).trans (rotL_permQ ..) | exact (ih _ _ _ _).trans (ih _ _ _ _) | exact ih _ _ _ _ | exact rotL_permQ .. | exact .refl _
theorem insJ_permQ (a : Nat) : ∀ (j : Nat) (l : List En), (insJ a j l).Perm l := by
  intro j
  induction j with
  | zero => intro l; exact .refl _
  | succ j ih =>
    intro l
    simp only [insJ]
    split
    · exact (ih _).trans (sw_permQ ..)
    · exact .refl _
theorem isortN_permQ (a k : Nat) (l : List En) : (isortN a k l).Perm l := by
  induction k with
  | zero => exact .refl _
  | succ k ih => exact (insJ_permQ ..).trans ih
theorem isP_permQ (n : Nat) : ∀ (f a : Nat) (l : List En), (isP n f a l).Perm l := by
  intro f
  induction f with
  | zero => intro a l; exact isortN_permQ ..
  | succ f ih =>
    intro a l
    simp only [isP]
    split
    · exact (ih _ _).trans (isortN_permQ ..)
    · exact isortN_permQ ..
theorem mgP_permQ (n s : Nat) : ∀ (f a : Nat) (l : List En), (mgP n s f a l).Perm l := by
  intro f
  induction f with
  | zero => intro a l; simp only [mgP]; split; exact symM_permQ ..; exact .refl _
  | succ f ih =>
    intro a l
    simp only [mgP]
    split
    · exact (ih _ _).trans (symM_permQ ..)
    · split
      · exact symM_permQ ..
      · exact .refl _
theorem stM_permQ (n : Nat) : ∀ (f s : Nat) (l : List En), (stM n f s l).Perm l := by
  intro f
  induction f with
  | zero => intro s l; exact .refl _
  | succ f ih =>
    intro s l
    simp only [stM]
    split
    · exact (ih _ _).trans (mgP_permQ ..)
    · exact .refl _
theorem stable_permQ (l : List En) : (stable l).Perm l := (stM_permQ ..).trans (isP_permQ ..)
/-- No later digest is less. -/
abbrev Asc (fs : List En) : Prop := fs.Pairwise fun x y => Op.bytesLess y.d x.d = false
theorem stable_asc (l : List En) : Asc (stable l) := by
  rw [Asc, List.pairwise_iff_getElem]
  intro i j hi hj hij
  have hl : (stable l).length = l.length := (stable_permQ l).length_eq
  have h := stable_sorts l i j (Nat.zero_le _) (Nat.le_of_lt hij) (by omega)
  have hm : (stable l)[j] ∈ l := (stable_permQ l).mem_iff.1 (List.getElem_mem hj)
  have h2 : ltE (stable l)[j] (stable l)[i] = false := by
    rw [kap_lt hm]
    simp only [ky, List.getElem?_eq_getElem hi, List.getElem?_eq_getElem hj] at h
    exact decide_eq_false (Nat.not_lt.2 h)
  simp only [ltE] at h2
  by_cases e : (stable l)[j].d = (stable l)[i].d
  · rw [e]; exact bl_irrefl _
  · rwa [if_pos e] at h2
section
variable {fs : List En} {d : List UInt8}
def blA (fs : List En) (d : List UInt8) (h : Nat) : Bool := match fs[h]? with
  | some x => Op.bytesLess x.d d
  | none => false
/-- The rows of a digest, from the first one on. -/
def run (fs : List En) (d : List UInt8) : List En := (fs.drop (bsch (blA fs d) fs.length 0 fs.length)).takeWhile fun x => decide (x.d = d)
end
end Go.Proofs
namespace Go.Proofs
open Go Go.Sl Tryz
set_option maxRecDepth 100000
set_option maxHeartbeats 1000000
section
variable {x : Cx} {s : Slots} {H : HP} {d : Nat} {p q : Operand} {ty t t' : TypeId} {pos : String} {af : Array Edge} {gd' : Option (Nat × Bool)} {u v : Value} {la lb bs : List UInt8} {e : TypeId}
theorem _root_.Go.Sl.BS.mono {K K' : HP} (h : BS K v bs) (hs : ∀ p ∈ K, p ∈ K') : BS K' v bs := by
  cases h with
  | emp => exact .emp
  | blk hm hc hn h63 => exact .blk (hs _ hm) hc hn h63
theorem _root_.Go.Sl.BS.run {a : Act} {w : World} (hs : St x s H a w) (h : BS x.G v bs) : (Extern.Bytes.bytesOf v).run x.P w = .ok ⟨bs.toArray⟩ w := by
  cases h with
  | @emp A cap => cases A <;> rfl
  | @blk g off n cap l e fr _ hm hc hn h63 => exact Bv.run hs (.blk (.inr hm) hc.len hc)
theorem e_cmpS {ats : Array TypeId} (hx : x.P = prog) (hp : ev s p = some v) (hq : ev s q = some u) (ha : BS x.G v la) (hb : BS x.G u lb) :
    Ex x s H ⟨some d, .call { callee := .value (.func 362), args := #[p, q], argTypes := ats }, ty, pos, af, gd'⟩ (.int .i64 (Lib.compareBytes la lb)) := fun a w hs => by
  have h1 := ha.run hs
  have h2 := hb.run hs
  rw [hx] at h1 h2
  have hc : (callFunc 362 #[v, u]).run prog w = .ok (.value (.int .i64 (Lib.compareBytes la lb))) w := by
    rw [run_callFunc_extern func362 (by kernel_rfl) (by kernel_rfl) (by kernel_rfl) (e := Extern.BytealgCompare.compare) (by kernel_rfl)]
    have : (Extern.BytealgCompare.compare #[v, u]).run prog w = .ok (.int .i64 (Lib.compareBytes la lb)) w := by
      change Sem.run prog (do pure (goInt (Extern.BytealgCompare.cmp (← Extern.Bytes.bytesOf v) (← Extern.Bytes.bytesOf u)))) w = _
      simp only [Sem.run_bind, h1, h2, Result.andThen_ok, Sem.run_pure, Lib.cmp_eq, goInt]
    rw [this]
    rfl
  rw [hx]
  have he : a.eval (.func 362) = .func (.func 362) #[] #[] := rfl
  simp [execOp, resolve, he, Deferred.ofValue, invoke, hs.eval hp, hs.eval hq, hc]
theorem e_mulN {m n : Nat} (hp : ev s p = some (.int .i64 (m : Nat))) (hq : ev s q = some (.int .i64 (n : Nat))) (h : m * n < 9223372036854775808) : Ex x s H ⟨some d, .binOp .mul t p q t', ty, pos, af, gd'⟩ (.int .i64 ((m * n : Nat) : Int)) := by
  have := e_muln (x := x) (s := s) (H := H) (d := d) (ty := ty) (pos := pos) (af := af) (gd := gd') (t := t) (t' := t') hp hq (by
    have e : ((m : Nat) : Int) * ((n : Nat) : Int) = ((m * n : Nat) : Int) := by simp
    rw [e]; simp only [inR]; generalize m * n = z at h ⊢; omega)
  rwa [show ((m : Nat) : Int) * ((n : Nat) : Int) = ((m * n : Nat) : Int) by simp] at this
end
section
variable {G : HP} {u v : Value} {la lb : List UInt8}
theorem compare_is (ha : BS G v la) (hb : BS G u lb) : CtrP prog 342 [v, u] G (.int .i64 (Lib.compareBytes la lb)) := by
  refine fn_enter 8 func342 rfl ntmps342 rfl ?_
  intro w0
  refine gn 9 ?_
  refine oX (e_cmpS rfl rfl rfl ha hb) ?_
  refine gn 4 ?_
  refine r_fn1 results342 rfl ?_
  exact ⟨rfl, rfl⟩
end
/-- A bucket's rows as bytes. -/
def rws (fs : List En) : List UInt8 := fs.flatMap fun x => x.d ++ lowB x.o 8
theorem rws_length {n : Nat} : ∀ (fs : List En), (∀ x ∈ fs, x.d.length = n) → (rws fs).length = fs.length * (n + 8)
  | [], _ => by simp [rws]
  | a :: fs, h => by
    have ih := rws_length fs fun x hx => h x (.tail _ hx)
    simp only [rws, List.flatMap_cons, List.length_append, lowB_length, List.length_cons] at ih ⊢
    rw [ih, h a (.head _), Nat.succ_mul]; omega
end Go.Proofs
namespace Go.Sl
open Go
theorem SetAt.app' {l l' : List Value} {k : Nat} {v : Value} (h : SetAt l k v l') : ∀ p : List Value, SetAt (p ++ l) (p.length + k) v (p ++ l')
  | [] => by simpa using h
  | a :: p => by
    have := SetAt.tail (a := a) (SetAt.app' h p)
    rw [show (a :: p).length + k = p.length + k + 1 by simp; omega]
    exact this
/-- A contract holds with more to be read. -/
theorem Ctr.subG {P : Program} {f : FuncId} {args : List Value} {G G1 H : HP} {R : Value → HP → Prop} (h : Ctr P f args G1 H R) (hs : ∀ p ∈ G1, p ∈ G) : Ctr P f args G H R := fun w hG hH hnd hap =>
  h w (fun p hp => hG p (hs p hp)) hH hnd (fun g hg hk => hap g hg (by
    obtain ⟨p, hp, rfl⟩ := List.mem_map.1 hk
    exact List.mem_map_of_mem (hs p hp)))
end Go.Sl
namespace Go.Proofs
open Go Go.Sl Tryz
set_option maxRecDepth 100000
set_option maxHeartbeats 1000000
section
variable {G : HP} {g off c k : Nat} {p q : List Value} {c0 c1 c2 c3 c4 c5 c6 c7 : Int}
theorem put64g_is (hoff : p.length = off) : Ctr prog 179 [.agg #[], .slice (some ⟨g, off, none⟩) 8 c, .int .u64 k] G [(g, C (p ++ .int .u8 c0 :: .int .u8 c1 :: .int .u8 c2 :: .int .u8 c3 :: .int .u8 c4 :: .int .u8 c5 :: .int .u8 c6 :: .int .u8 c7 :: q) 5)] (fun r H' => r = .tuple #[] ∧ H' = [(g, C (p ++ (B (lowB (k : Nat) 8) ++ q)) 5)]) := by
  subst hoff
  have h7 : (p ++ .int .u8 c0 :: .int .u8 c1 :: .int .u8 c2 :: .int .u8 c3 :: .int .u8 c4 :: .int .u8 c5 :: .int .u8 c6 :: .int .u8 c7 :: q)[p.length + Int.toNat 7 * 1]? = some (.int .u8 c7) := by
    show (p ++ _)[p.length + 7]? = _
    rw [List.getElem?_append_right (by omega), Nat.add_sub_cancel_left]; rfl
  refine fn_enter 48 func179 rfl ntmps179 rfl ?_
  intro w0
  refine gn 2 ?_
  refine oB ?_; intro g3 _
  refine gn 15 ?_
  refine oL (l_store sizeOf5 rfl rfl rfl (.tail .head) (SetAt.app' .head p) (by omega)) ?_
  intro _ _
  refine gn 9 ?_
  refine oL (l_store sizeOf5 rfl rfl rfl (.tail .head) (SetAt.app' (.tail .head) p) (by omega)) ?_
  intro _ _
  refine gn 9 ?_
  refine oL (l_store sizeOf5 rfl rfl rfl (.tail .head) (SetAt.app' (.tail (.tail .head)) p) (by omega)) ?_
  intro _ _
  refine gn 9 ?_
  refine oL (l_store sizeOf5 rfl rfl rfl (.tail .head) (SetAt.app' (.tail (.tail (.tail .head))) p) (by omega)) ?_
  intro _ _
  refine gn 9 ?_
  refine oL (l_store sizeOf5 rfl rfl rfl (.tail .head) (SetAt.app' (.tail (.tail (.tail (.tail .head)))) p) (by omega)) ?_
  intro _ _
  refine gn 9 ?_
  refine oL (l_store sizeOf5 rfl rfl rfl (.tail .head) (SetAt.app' (.tail (.tail (.tail (.tail (.tail .head))))) p) (by omega)) ?_
  intro _ _
  refine gn 9 ?_
  refine oL (l_store sizeOf5 rfl rfl rfl (.tail .head) (SetAt.app' (.tail (.tail (.tail (.tail (.tail (.tail .head)))))) p) (by omega)) ?_
  intro _ _
  refine gn 8 ?_
  refine oL (l_store sizeOf5 rfl rfl rfl (.tail .head) (SetAt.app' (.tail (.tail (.tail (.tail (.tail (.tail (.tail .head))))))) p) (by omega)) ?_
  intro _ _
  refine gn 1 ?_
  refine WN.sel (.cons (.tail .head) .nil) ?_
  refine n_fn0 results179 ?_
  refine ⟨rfl, ?_⟩
  have e0 : IntKind.u8.wrap (k : Int) = ((lowb (k : Nat) 0).toNat : Int) := by
    have := low_eq (k : Nat) 0 (by decide)
    simpa using this
  have e1 : IntKind.u8.wrap (((k : Nat) : Int).fdiv (2 ^ min (Int.toNat 8) IntKind.u64.bits)) = ((lowb (k : Nat) 1).toNat : Int) := low_eq (k : Nat) 1 (by decide)
  have e2 : IntKind.u8.wrap (((k : Nat) : Int).fdiv (2 ^ min (Int.toNat 16) IntKind.u64.bits)) = ((lowb (k : Nat) 2).toNat : Int) := low_eq (k : Nat) 2 (by decide)
  have e3 : IntKind.u8.wrap (((k : Nat) : Int).fdiv (2 ^ min (Int.toNat 24) IntKind.u64.bits)) = ((lowb (k : Nat) 3).toNat : Int) := low_eq (k : Nat) 3 (by decide)
  have e4 : IntKind.u8.wrap (((k : Nat) : Int).fdiv (2 ^ min (Int.toNat 32) IntKind.u64.bits)) = ((lowb (k : Nat) 4).toNat : Int) := low_eq (k : Nat) 4 (by decide)
  have e5 : IntKind.u8.wrap (((k : Nat) : Int).fdiv (2 ^ min (Int.toNat 40) IntKind.u64.bits)) = ((lowb (k : Nat) 5).toNat : Int) := low_eq (k : Nat) 5 (by decide)
  have e6 : IntKind.u8.wrap (((k : Nat) : Int).fdiv (2 ^ min (Int.toNat 48) IntKind.u64.bits)) = ((lowb (k : Nat) 6).toNat : Int) := low_eq (k : Nat) 6 (by decide)
  have e7 : IntKind.u8.wrap (((k : Nat) : Int).fdiv (2 ^ min (Int.toNat 56) IntKind.u64.bits)) = ((lowb (k : Nat) 7).toNat : Int) := low_eq (k : Nat) 7 (by decide)
  show [(g, C (p ++ .int .u8 (IntKind.u8.wrap (k : Int)) :: .int .u8 (IntKind.u8.wrap (((k : Nat) : Int).fdiv (2 ^ min (Int.toNat 8) IntKind.u64.bits))) :: .int .u8 (IntKind.u8.wrap (((k : Nat) : Int).fdiv (2 ^ min (Int.toNat 16) IntKind.u64.bits))) :: .int .u8 (IntKind.u8.wrap (((k : Nat) : Int).fdiv (2 ^ min (Int.toNat 24) IntKind.u64.bits))) :: .int .u8 (IntKind.u8.wrap (((k : Nat) : Int).fdiv (2 ^ min (Int.toNat 32) IntKind.u64.bits))) :: .int .u8 (IntKind.u8.wrap (((k : Nat) : Int).fdiv (2 ^ min (Int.toNat 40) IntKind.u64.bits))) :: .int .u8 (IntKind.u8.wrap (((k : Nat) : Int).fdiv (2 ^ min (Int.toNat 48) IntKind.u64.bits))) :: .int .u8 (IntKind.u8.wrap (((k : Nat) : Int).fdiv (2 ^ min (Int.toNat 56) IntKind.u64.bits))) :: q) 5)] = _
  rw [e0, e1, e2, e3, e4, e5, e6, e7]
  rfl
theorem _root_.Go.Sl.BS.sv {x : Cx} {H : HP} {v : Value} {bs : List UInt8} {t e : TypeId} (h : BS x.G v bs) (hU : x.P.underlying t = some (.slice e)) : Sv x H 1 t v bs.length (B bs) := by
  cases h with
  | @emp A cap =>
    cases A with
    | none => exact .nil hU
    | some a => exact .zero hU
  | @blk g off n cap l e' fr _ hm hc hn h63 =>
    rw [hc.len]
    exact .blk hU (.inr hm) (by rw [Nat.mul_one]; exact hc) (B_one _)
theorem _root_.Go.Sl.BS.one {H : HP} {v : Value} {bs : List UInt8} (h : BS H v bs) : v.oneCell' = true := by cases h <;> rfl
theorem _root_.Go.Sl.BS.sl {H : HP} {v : Value} {bs : List UInt8} (h : BS H v bs) : ∃ A c, v = .slice A bs.length c := by
  cases h with
  | @emp A cap => exact ⟨_, _, rfl⟩
  | @blk g off n cap l e' fr _ hm hc hn h63 => rw [hc.len]; exact ⟨_, _, rfl⟩
theorem recw_is {w o : Nat} {d : List UInt8} {dv : Value} (hd : BS G dv d) (hl : d.length ≤ 200) (hoff : p.length = off) (hw : w = d.length + 8) (hc : w ≤ c) (hc63 : c < 9223372036854775808) :
    Ctr prog 325 [.agg #[dv, .int .u64 (o : Nat)], .slice (some ⟨g, off, none⟩) w c] G [(g, C (p ++ (List.replicate w (.int .u8 0) ++ q)) 5)] (fun r H' => r = .tuple #[] ∧ H' = [(g, C (p ++ (B (d ++ lowB (o : Nat) 8) ++ q)) 5)]) := by
  subst hw
  obtain ⟨A, ca, rfl⟩ := hd.sl
  refine fn_enter 17 func325 rfl ntmps325 rfl ?_
  intro w0
  refine gn 2 ?_
  refine oB ?_; intro g2 _
  refine gn 3 ?_
  refine c_regiong [4] (by kernel_rfl) ?_
  refine lg [0, 1, 2, 1003] ?_
  have hput : PutL (p ++ (List.replicate (d.length + 8) (.int .u8 0) ++ q)) off ((B d).take d.length) (p ++ (B d ++ (List.replicate 8 (.int .u8 0) ++ q))) := by
    have ht : (B d).take d.length = B d := List.take_of_length_le (by rw [B_length]; exact Nat.le_refl _)
    have h := PutL.of (l := p ++ (List.replicate (d.length + 8) (.int .u8 0) ++ q)) (i := off) (vs := B d) (by simp [B_length]; omega)
    rw [ht]
    have e1 : (p ++ (List.replicate (d.length + 8) (Value.int .u8 0) ++ q)).take off = p := List.take_left' hoff
    have e2 : (p ++ (List.replicate (d.length + 8) (Value.int .u8 0) ++ q)).drop (off + (B d).length) = List.replicate 8 (Value.int .u8 0) ++ q := by
      rw [← hoff, List.drop_append, B_length, List.drop_eq_nil_of_le (by omega), List.nil_append, Nat.add_sub_cancel_left, List.drop_append_of_le_length (by simp), List.drop_replicate, Nat.add_sub_cancel_left]
    rw [e1, e2, List.append_assoc] at h
    exact h
  refine gL 4 rfl (l_copy runUnderlying72 sizeOf5 rfl rfl rfl (hd.sv underlying72) (Nat.min_eq_left (by omega)) (.tail .head) hput (.inr rfl)) ?_
  intro _ _
  refine ld [5] ?_
  refine gn 2 ?_
  refine c_regiong [6] (by kernel_rfl) ?_
  refine gM 0 rfl (e_load0 isAgg294 sizeOf294 rfl) ?_
  refine lg [1, 2, 3, 4, 1005] ?_
  simp only [Int.toNat_natCast, Nat.mul_one]
  rw [show d.length + 8 - d.length = 8 by omega, ← List.append_assoc p (B d)]
  refine gL 6 rfl (lC (put64g_is (by rw [List.length_append, B_length, hoff])) rfl (.cons (.tail .head) .nil)) ?_
  rintro ⟨r, H'⟩ ⟨rfl, rfl⟩
  simp only [List.cons_append, List.nil_append]
  refine gn 1 ?_
  refine WN.sel (.cons .head .nil) ?_
  refine n_fn0 results325 ?_
  refine ⟨rfl, ?_⟩
  rw [B_append, List.append_assoc, List.append_assoc]
  rfl
end
end Go.Proofs
namespace Go.Sl
open Go
section
variable {x : Cx} {ops : Array Oper} {k : List KI} {rest : List Oper} {s : Slots} {H HI Hr : HP} {d : Nat} {p : Operand} {ty : TypeId} {pos : String} {af : Array Edge} {gd : Option (Nat × Bool)} {v val : Value}
/-- A method that changes nothing. -/
theorem o_inv {f : FuncId} {args : List Value} {rv : Value} {nm : String} {ps : List Operand} {ats : Array TypeId} {tv : TypeId} (hw : wantS ops s ⟨some d, .call { callee := .invoke p nm, args := ps.toArray, argTypes := ats }, ty, pos, af, gd⟩ = some true) (hf : ∀ az w, (callFunc f az).run x.P w = .ok (.enter f az) w)
    (hm : ∀ w, (method (x.P.types.size + Made.depth) tv v nm).run x.P w = .ok (f, rv) w) (hc : Ctr x.P f (rv :: args) x.G HI (fun r H' => r = val ∧ H' = HI))
    (hN : Nat.blt d x.N = true) (hp : ev s p = some (.iface tv v)) (hps : evs s ps = some args) (hsel : Sel H HI Hr) (h : WO x ops k rest ((d, val) :: s) H) :
    WO x ops k (⟨some d, .call { callee := .invoke p nm, args := ps.toArray, argTypes := ats }, ty, pos, af, gd⟩ :: rest) s H := by
  refine o_l hw (l_calli0 hf hm hc hN hp hps hsel) ?_
  rintro ⟨r, H'⟩ ⟨rfl, rfl⟩
  exact o_perm hsel.perm.symm h
end
end Go.Sl
namespace Go.Proofs.AI
open Go Go.Sl Tryz
set_option maxRecDepth 100000
set_option maxHeartbeats 1000000
/-- A row that is sorted through methods: what it holds is told by numbers. -/
structure SoC (G : HP) (tv : TypeId) (v : Value) (n : Nat) where
  X : List Int → Nat × Obj
  Lg : List Int → Prop
  len : ∀ {l}, Lg l → l.length = n
  sw : ∀ {l i j}, Lg l → i < n → j < n → Lg (swp l i j)
  fN : FuncId
  fL : FuncId
  fS : FuncId
  rv : Value
  hfN : ∀ az w, (callFunc fN az).run prog w = .ok (.enter fN az) w
  hfL : ∀ az w, (callFunc fL az).run prog w = .ok (.enter fL az) w
  hfS : ∀ az w, (callFunc fS az).run prog w = .ok (.enter fS az) w
  hmN : ∀ w, (method (prog.types.size + Made.depth) tv v "Len").run prog w = .ok (fN, rv) w
  hmL : ∀ w, (method (prog.types.size + Made.depth) tv v "Less").run prog w = .ok (fL, rv) w
  hmS : ∀ w, (method (prog.types.size + Made.depth) tv v "Swap").run prog w = .ok (fS, rv) w
  lenc : Ctr prog fN [rv] G [] (fun r H' => r = .int .i64 n ∧ H' = [])
  less : ∀ {l} {i j : Nat}, Lg l → i < n → j < n → Ctr prog fL [rv, .int .i64 i, .int .i64 j] G [X l] (fun r H' => r = .bool (decide (gd l i < gd l j)) ∧ H' = [X l])
  swap : ∀ {l} {i j : Nat}, Lg l → i < n → j < n → Ctr prog fS [rv, .int .i64 i, .int .i64 j] G [X l] (fun r H' => r = .tuple #[] ∧ H' = [X (swp l i j)])
theorem SoC.pr {G : HP} {tv : TypeId} {v : Value} {n : Nat} (Q : SoC G tv v n) {a b : Nat} {l l' : List Int} (h : PR a b l l') (hb : b ≤ n) (hg : Q.Lg l) : Q.Lg l' := by
  induction h with
  | refl => exact hg
  | swap _ h1 h2 h3 h4 _ ih => exact Q.sw ih (by omega) (by omega)
section
variable {G : HP} {n : Nat} {tv : TypeId} {v : Value} {l : List Int} {Q : SoC G tv v n}
theorem ins_is {a b : Nat} (hg : Q.Lg l) (h1 : n ≤ 100000) (hab : a ≤ b) (hb : b ≤ n) :
    Ctr prog 343 [.iface tv v, .int .i64 a, .int .i64 b] G [(Q.X l)] (fun r H' => r = .tuple #[] ∧ ∃ l', (PR a b l l' ∧ SR a b l') ∧ H' = [(Q.X l')]) := by
  have hn := Q.len hg
  refine fn_enter 33 func343 rfl ntmps343 rfl ?_
  intro w0
  refine gn 8 ?_
  refine c_loop (X := List Int × Nat) (fun y => [(0, .iface tv v), (1, .int .i64 a), (2, .int .i64 b), (6, .int .i64 (a + 1 + y.2 : Nat))]) (fun y => [(Q.X y.1)]) (fun y => PR a b l y.1 ∧ SR a (a + 1 + y.2) y.1 ∧ (y.2 = 0 ∨ a + 1 + y.2 ≤ b)) (fun y => b - y.2) (l, 0) ⟨.refl, .small (by omega), .inl rfl⟩ aK (.refl _) ?_
  rintro ⟨m, i⟩ ⟨hp, hs, hi0⟩
  simp only at hp hs hi0 ⊢
  refine gn 8 ?_
  refine c_ifp rfl (fun h2 => ?_) (fun h2 => ?_)
  · refine gn 11 ?_
    refine c_loop (X := List Int × Nat) (fun y => [(0, .iface tv v), (1, .int .i64 a), (2, .int .i64 b), (6, .int .i64 (a + 1 + i : Nat)), (7, .int .i64 y.2)]) (fun y => [(Q.X y.1)]) (fun y => PR a b l y.1 ∧ Ins a y.2 (a + 1 + i + 1) y.1 ∧ a ≤ y.2 ∧ y.2 ≤ a + 1 + i) (fun y => y.2) (m, a + 1 + i) ⟨hp, .start hs, by omega, Nat.le_refl _⟩ aK (.refl _) ?_
    rintro ⟨q, j⟩ ⟨hq, hi, haj, hj⟩
    simp only at hq hi haj hj ⊢
    have hl := hq.len
    have hg' := Q.pr hq (by omega) hg
    refine gn 7 ?_
    refine o_splitp 19 rfl (fun h3 => ?_) (fun h3 => ?_)
    · refine gn 4 ?_
      refine o_inv rfl Q.hfL Q.hmL (Q.less (by first | assumption | exact Q.sw (by assumption) (by omega) (by omega)) (by omega) (by omega)) rfl rfl rfl (.cons .head .nil) ?_
      refine gn 3 ?_
      refine c_if rfl (fun h4 => ?_) (fun h4 => ?_)
      · refine gn 9 ?_
        refine oL (l_calli0 Q.hfS Q.hmS (Q.swap (by first | assumption | exact Q.sw (by assumption) (by omega) (by omega)) (by omega) (by omega)) rfl rfl rfl (by first | exact .cons .head .nil | exact .cons (.tail .head) .nil)) ?_
        rintro ⟨r, H'⟩ ⟨rfl, rfl⟩
        simp only [List.cons_append, List.nil_append]
        refine gn 8 ?_
        have hjl : j < q.length := by omega
        refine n_round' (y := (q, j)) (swp q j (j - 1), j - 1) (by show j - 1 < j; omega) ?_ aK _ (.refl _) (List.Sublist.refl _)
        exact ⟨hq.swap (by omega) (by omega) (by omega) (by omega) (by omega), hi.step (of_decide_eq_true h4) (by omega) (by omega) (by omega), by show a ≤ j - 1; omega, by show j - 1 ≤ a + 1 + i; omega⟩
      · skip
        refine gn 11 ?_
        refine n_round' (y := (m, i)) (q, i + 1) (by show b - (i + 1) < b - i; omega) ?_ aK _ (.refl _) (List.Sublist.refl _)
        exact ⟨hq, hi.stop (.inr (of_decide_eq_false h4)), .inr (by show a + 1 + (i + 1) ≤ b; omega)⟩
    · skip
      refine gn 20 ?_
      refine n_round' (y := (m, i)) (q, i + 1) (by show b - (i + 1) < b - i; omega) ?_ aK _ (.refl _) (List.Sublist.refl _)
      exact ⟨hq, hi.stop (.inl (by omega)), .inr (by show a + 1 + (i + 1) ≤ b; omega)⟩
  · skip
    refine gn 4 ?_
    refine n_fn0 results343 ?_
    exact ⟨rfl, m, ⟨hp, hs.less (Nat.le_refl _) (by omega)⟩, rfl⟩
end
end Go.Proofs.AI

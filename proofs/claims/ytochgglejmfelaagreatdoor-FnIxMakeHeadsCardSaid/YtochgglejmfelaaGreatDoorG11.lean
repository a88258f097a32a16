/- An identifier's bytes, its version, its multihash; The order of entries: a weak order, told by numbers; What swaps, rotations and searches do, in numbers; Merging sorts; The stable sort sorts; What a search in a bucket finds; Bytes compared; a bucket of an index: its rows; the search for the first that is not less. (A part of the proof of this: for every input laws.FnIxMakeHeads returns true and its arguments read as they did, the listed package variables being what the program lays) -/
import Derived.Test.YtochgglejmfelaaGreatDoorSlZ
import Derived.Test.YtochgglejmfelaaGreatDoorG10
import Derived.Test.YtochgglejmfelaaGreatDoorG06
import Derived.Lib.Bytealg
import Derived.Test.YtochgglejmfelaaGreatDoorG07
set_option linter.unusedVariables false
set_option linter.unusedSimpArgs false
namespace Go.Proofs
open Go Go.Sl Tryz
set_option maxRecDepth 100000
set_option maxHeartbeats 1000000
section
variable {G : HP} {bs : List UInt8} {x : En}
theorem defd_is (h : bs ≠ []) : CtrP prog 212 [.agg #[S bs]] G (.bool true) := by
  refine fn_enter 6 func212 rfl ntmps212 rfl ?_
  intro w0
  refine gn 2 ?_
  refine oB ?_; intro g1 _
  refine gn 12 ?_
  refine WR.sel .nil ?_
  refine r_fn1 results212 rfl ?_
  exact ⟨congrArg Value.bool (by simpa using h), rfl⟩
theorem cbytes_is (h : bs ≠ []) (hl : bs.length ≤ 1000000) : Ctr prog 163 [.agg #[S bs]] G [] (fun r H' => ∃ y : Tl, TlOk 1 bs.length y ∧ r = .slice (some ⟨y.g, 0, none⟩) bs.length y.cap ∧ H' = [(y.g, Ob (B bs) y 5)]) := by
  refine fn_enter 9 func163 rfl ntmps163 rfl ?_
  intro w0
  refine gn 2 ?_
  refine oB ?_; intro g1 _
  refine gn 7 ?_
  refine oL (lC (defd_is h) rfl .nil) ?_
  rintro ⟨r, H'⟩ ⟨rfl, rfl⟩
  simp only [List.nil_append]
  refine gn 10 ?_
  refine oL (l_sbc underlying9 underlying72 underlying5 rfl rfl (by simp; omega) rfl rfl) ?_
  intro y hy
  refine gn 4 ?_
  refine WR.sel (.cons .head .nil) ?_
  refine r_fn1 results163 rfl ?_
  exact ⟨y, hy, rfl, rfl⟩
theorem ver0_is {t : List UInt8} (h : t.length = 32) : CtrP prog 160 [.agg #[S (18 :: 32 :: t)]] G (.int .u64 0) := by
  have hl : (18 :: 32 :: t : List UInt8).length = 34 := by simp [h]
  have h0 : (18 :: 32 :: t : List UInt8)[(0 : Int).toNat]? = some 18 := rfl
  have h1 : (18 :: 32 :: t : List UInt8)[(1 : Int).toNat]? = some 32 := rfl
  generalize (18 :: 32 :: t : List UInt8) = bs at *
  refine fn_enter 19 func160 rfl ntmps160 rfl ?_
  intro w0
  refine gn 2 ?_
  refine oB ?_; intro g1 _
  refine gn 11 ?_
  refine o_splitp 7 rfl (fun h2 => ?_) (fun h2 => ?_)
  · refine gn 6 ?_
    refine o_splitp 13 rfl (fun h3 => ?_) (fun h3 => ?_)
    · refine gn 7 ?_
      refine c_ifp rfl (fun h4 => ?_) (fun h4 => ?_)
      · refine gn 6 ?_
        refine WR.sel .nil ?_
        refine r_fn1 results160 rfl ?_
        exact ⟨rfl, rfl⟩
      · exact absurd rfl h4
    · exact absurd rfl h3
  · exact absurd (by omega) h2
theorem ver1_is {t : List UInt8} : CtrP prog 160 [.agg #[S (1 :: t)]] G (.int .u64 1) := by
  have h0 : (1 :: t : List UInt8)[(0 : Int).toNat]? = some 1 := rfl
  generalize (1 :: t : List UInt8) = bs at *
  refine fn_enter 19 func160 rfl ntmps160 rfl ?_
  intro w0
  refine gn 2 ?_
  refine oB ?_; intro g1 _
  refine gn 11 ?_
  refine o_splitp 7 rfl (fun h2 => ?_) (fun h2 => ?_)
  · refine gn 6 ?_
    refine o_splitp 13 rfl (fun h3 => ?_) (fun h3 => ?_)
    · exact absurd h3 (by decide)
    · skip
      refine gn 16 ?_
      refine WR.sel .nil ?_
      refine r_fn1 results160 rfl ?_
      exact ⟨rfl, rfl⟩
  · skip
    refine gn 22 ?_
    refine WR.sel .nil ?_
    refine r_fn1 results160 rfl ?_
    exact ⟨rfl, rfl⟩
/-- The multihash of an identifier, cut out of its bytes. -/
theorem hash_is (ht : Tidy x) (hf : EnFit x) (hd : x.d.length ≤ 200) : Ctr prog 93 [.agg #[S (cidB x)]] G [] (fun r H' => ∃ (y : Tl) (off n cap : Nat), r = .slice (some ⟨y.g, off, none⟩) n cap ∧ H' = [(y.g, Ob (B (cidB x)) y 5)] ∧ CutL (B (cidB x) ++ y.rest) off n (B (mhB x.h.toNat x.d)) ∧ n ≤ cap ∧ cap < 9223372036854775808) := by
  obtain ⟨v, c, h, d, o⟩ := x
  obtain ⟨_, _, hc0, hc1, hh0, hh1, _, _⟩ := hf
  simp only at hc0 hc1 hh0 hh1 hd
  simp only [Tidy] at ht
  obtain ⟨c, rfl⟩ := Int.eq_ofNat_of_zero_le hc0
  obtain ⟨h, rfl⟩ := Int.eq_ofNat_of_zero_le hh0
  have hmh : ∀ h : Nat, (mhB h d).length ≤ 220 := fun h => by rw [mhB_length]; have := uv_le h; have := uv_le d.length; omega
  rcases ht with ⟨rfl, h1, h2, h3⟩ | ⟨rfl, h1, h2⟩
  · have h2' : h = 18 := by omega
    subst h2'
    have hcid : cidB ⟨0, (c : Nat), ((18 : Nat) : Int), d, o⟩ = mhB 18 d := if_pos rfl
    simp only [hcid, Int.toNat_natCast]
    have hv : mhB 18 d = 18 :: 32 :: d := by rw [mhB, h3]; rfl
    have hver := ver0_is (G := G) (t := d) h3
    rw [← hv] at hver
    have hne : mhB 18 d ≠ [] := by rw [hv]; simp
    have hl := hmh 18
    generalize mhB 18 d = bs at *
    refine fn_enter 35 func93 rfl ntmps93 rfl ?_
    intro w0
    refine gn 2 ?_
    refine oB ?_; intro g1 _
    refine gn 6 ?_
    refine oL (lC (cbytes_is hne (by omega)) rfl .nil) ?_
    rintro ⟨r, H'⟩ ⟨y, hy, rfl, rfl⟩
    simp only [List.cons_append, List.nil_append]
    refine gn 7 ?_
    refine oL (lC hver rfl .nil) ?_
    rintro ⟨r, H'⟩ ⟨rfl, rfl⟩
    simp only [List.nil_append]
    refine gn 3 ?_
    refine c_ifp rfl (fun h4 => ?_) (fun h4 => ?_)
    · refine gn 7 ?_
      refine WR.sel (.cons .head .nil) ?_
      refine r_fn1 results93 rfl ?_
      refine ⟨y, 0, bs.length, y.cap, rfl, rfl, ?_, hy.le, hy.lt⟩
      have := CutL.of (l := B bs ++ y.rest) (i := 0) (n := bs.length) (by rw [List.length_append, B_length]; omega)
      rwa [List.drop_zero, List.take_left' (B_length bs)] at this
    · exact absurd rfl h4
  · have hcid : cidB ⟨1, (c : Nat), (h : Nat), d, o⟩ = 1 :: (uv c ++ mhB h d) := if_neg (show ¬ (1 : Int) = 0 by decide)
    simp only [hcid, Int.toNat_natCast]
    have hver := ver1_is (G := G) (t := uv c ++ mhB h d)
    have hl := hmh h
    have hl2 := uv_le c
    have hlc := uv_pos c
    have hl0 : 0 < (mhB h d).length := by rw [mhB_length]; have := uv_pos h; omega
    have hlen : (1 :: (uv c ++ mhB h d)).length = 1 + (uv c).length + (mhB h d).length := by simp; omega
    have hne : (1 :: (uv c ++ mhB h d)) ≠ [] := by simp
    have hcat : 1 :: (uv c ++ mhB h d) = uv 1 ++ (uv c ++ mhB h d) := rfl
    have hu1 : (uv 1).length = 1 := rfl
    generalize hbs : 1 :: (uv c ++ mhB h d) = bs at *
    refine fn_enter 35 func93 rfl ntmps93 rfl ?_
    intro w0
    refine gn 2 ?_
    refine oB ?_; intro g1 _
    refine gn 6 ?_
    refine oL (lC (cbytes_is hne (by omega)) rfl .nil) ?_
    rintro ⟨r, H'⟩ ⟨y, hy, rfl, rfl⟩
    have hcut0 : CutL (B bs ++ y.rest) 0 bs.length (B bs) := by
      have := CutL.of (l := B bs ++ y.rest) (i := 0) (n := bs.length) (by rw [List.length_append, B_length]; omega)
      rwa [List.drop_zero, List.take_left' (B_length bs)] at this
    have hcut1 := (show CutL (B bs ++ y.rest) 0 bs.length (B (uv 1 ++ (uv c ++ mhB h d))) from hcat ▸ hcut0).front hu1
    have hcut2 := hcut1.front (u := uv c) rfl
    have hle := hy.le
    have hlt := hy.lt
    simp only [List.cons_append, List.nil_append]
    refine gn 7 ?_
    refine oL (lC hver rfl .nil) ?_
    rintro ⟨r, H'⟩ ⟨rfl, rfl⟩
    simp only [List.nil_append]
    refine gn 3 ?_
    refine c_ifp rfl (fun h4 => ?_) (fun h4 => ?_)
    · exact absurd h4 (by decide)
    · skip
      refine gn 5 ?_
      refine oL (lJ (HJ := [(y.g, Ob (B bs) y 5)]) (fromU_is (x := 1) (tl := uv c ++ mhB h d) (by decide) (List.mem_append_right _ (.head _)) hcut0 hcat hle hlt) rfl .nil (by simp)) ?_
      rintro ⟨r, H'⟩ ⟨rfl, rfl⟩
      simp only [List.nil_append]
      refine gn 14 ?_
      simp only [Int.toNat_natCast, Nat.mul_one, hu1]
      refine oL (lJ (HJ := [(y.g, Ob (B bs) y 5)]) (fromU_is (x := c) (tl := mhB h d) (by omega) (List.mem_append_right _ (.head _)) hcut1 rfl (by omega) (by omega)) rfl .nil (by simp)) ?_
      rintro ⟨r, H'⟩ ⟨rfl, rfl⟩
      simp only [List.nil_append]
      refine gn 20 ?_
      simp only [Int.toNat_natCast, Nat.mul_one, hu1]
      refine WR.sel (.cons .head .nil) ?_
      refine r_fn1 results93 rfl ?_
      refine ⟨y, _, _, _, rfl, rfl, ?_, ?_, ?_⟩
      · have e1 : 0 + (1 + (uv c).length) = 0 + 1 + (uv c).length := by omega
        have e2 : bs.length - (1 + (uv c).length) = bs.length - 1 - (uv c).length := by omega
        rw [e1, e2]
        exact hcut2
      · omega
      · omega
end
end Go.Proofs
namespace Go.Proofs
open Go Go.Sl
theorem u8_lt {a b : UInt8} : (a < b) ↔ a.toNat < b.toNat := UInt8.lt_iff_toNat_lt
theorem bl_irrefl : ∀ x : List UInt8, Op.bytesLess x x = false
  | [] => rfl
  | a :: x => by simp [Op.bytesLess, bl_irrefl x]
theorem bl_trans : ∀ x y z : List UInt8, Op.bytesLess x y = true → Op.bytesLess y z = true → Op.bytesLess x z = true
  | x, [], z => by intro h; cases x <;> simp [Op.bytesLess] at h
  | x, b :: y, [] => by intro _ h; simp [Op.bytesLess] at h
  | [], b :: y, c :: z => by intros; rfl
  | a :: x, b :: y, c :: z => by
    have ih := bl_trans x y z
    simp only [Op.bytesLess, Bool.or_eq_true, Bool.and_eq_true, decide_eq_true_eq, beq_iff_eq, u8_lt]
    rintro (h1 | ⟨rfl, h1⟩) (h2 | ⟨rfl, h2⟩)
    · left; omega
    · left; exact h1
    · left; exact h2
    · right; exact ⟨rfl, ih h1 h2⟩
theorem bl_tri : ∀ x y : List UInt8, Op.bytesLess x y = false → Op.bytesLess y x = false → x = y
  | [], [] => by intros; rfl
  | [], b :: y => by intro h; simp [Op.bytesLess] at h
  | a :: x, [] => by intro _ h; simp [Op.bytesLess] at h
  | a :: x, b :: y => by
    have ih := bl_tri x y
    simp only [Op.bytesLess, Bool.or_eq_false_iff, Bool.and_eq_false_iff, decide_eq_false_iff_not, u8_lt, beq_eq_false_iff_ne, ne_eq]
    rintro ⟨h1, h2⟩ ⟨h3, h4⟩
    have e : a = b := UInt8.toNat_inj.1 (by omega)
    subst e
    rw [ih (by simpa using h2) (by simpa using h4)]
theorem ltE_irrefl (x : En) : ltE x x = false := by simp [ltE]
theorem ltE_trans {x y z : En} (h1 : ltE x y = true) (h2 : ltE y z = true) : ltE x z = true := by
  simp only [ltE] at *
  by_cases e1 : x.d = y.d
  · by_cases e2 : y.d = z.d
    · rw [if_neg (by simp [e1])] at h1
      rw [if_neg (by simp [e2])] at h2
      rw [if_neg (by simp [e1, e2])]
      simp only [decide_eq_true_eq] at *
      omega
    · rw [if_pos e2] at h2
      rw [if_pos (by rw [e1]; exact e2), e1]
      exact h2
  · rw [if_pos e1] at h1
    by_cases e2 : y.d = z.d
    · rw [if_pos (by rw [← e2]; exact e1), ← e2]
      exact h1
    · rw [if_pos e2] at h2
      have h3 := bl_trans _ _ _ h1 h2
      rw [if_pos (by intro e; rw [e, bl_irrefl] at h3; cases h3)]
      exact h3
theorem ltE_tri {x y z : En} (h1 : ltE z y = true) (h2 : ltE x y = false) : ltE z x = true := by
  cases hzx : ltE z x with
  | true => rfl
  | false =>
    exfalso
    simp only [ltE] at h1 h2 hzx
    by_cases e1 : z.d = x.d
    · rw [if_neg (by simp [e1])] at hzx
      by_cases e2 : x.d = y.d
      · rw [if_neg (by simp [e2])] at h2
        rw [if_neg (by simp [e1, e2])] at h1
        simp only [decide_eq_true_eq, decide_eq_false_iff_not] at *
        omega
      · rw [if_pos e2] at h2
        rw [if_pos (by rw [e1]; exact e2), e1, h2] at h1
        cases h1
    · rw [if_pos e1] at hzx
      by_cases e2 : x.d = y.d
      · rw [if_pos (by rw [← e2]; exact e1), ← e2, hzx] at h1
        cases h1
      · rw [if_pos e2] at h2
        by_cases e3 : z.d = y.d
        · rw [e3] at hzx
          exact e2 (bl_tri _ _ h2 hzx)
        · rw [if_pos e3] at h1
          cases hxz : Op.bytesLess x.d z.d with
          | true => rw [bl_trans _ _ _ hxz h1] at h2; cases h2
          | false => exact e1 (bl_tri _ _ hzx hxz)
/-- How many are less. -/
def kap (l0 : List En) (x : En) : Nat := (l0.filter (fun z => ltE z x)).length
theorem filter_le {α : Type} {p q : α → Bool} (h : ∀ z, p z = true → q z = true) : ∀ l : List α, (l.filter p).length ≤ (l.filter q).length
  | [] => Nat.le_refl _
  | a :: l => by
    have ih := filter_le h l
    cases hp : p a with
    | true => simp [hp, h a hp]; omega
    | false => cases hq : q a <;> simp [hp, hq] <;> omega
theorem filter_lt {α : Type} {p q : α → Bool} (h : ∀ z, p z = true → q z = true) : ∀ (l : List α) (x : α), x ∈ l → p x = false → q x = true → (l.filter p).length < (l.filter q).length
  | [], x, hx, _, _ => by cases hx
  | a :: l, x, hx, h1, h2 => by
    have hle := filter_le h l
    rcases List.mem_cons.1 hx with rfl | hx
    · simp [h1, h2]; omega
    · have ih := filter_lt h l x hx h1 h2
      cases hp : p a with
      | true => simp [hp, h a hp]; omega
      | false => cases hq : q a <;> simp [hp, hq] <;> omega
theorem kap_lt {l0 : List En} {x y : En} (hx : x ∈ l0) : ltE x y = decide (kap l0 x < kap l0 y) := by
  cases h : ltE x y with
  | true =>
    have := filter_lt (p := fun z => ltE z x) (q := fun z => ltE z y) (fun z hz => ltE_trans hz h) l0 x hx (ltE_irrefl x) h
    exact (decide_eq_true this).symm
  | false =>
    have := filter_le (p := fun z => ltE z y) (q := fun z => ltE z x) (fun z hz => ltE_tri hz h) l0
    have h2 : ¬ kap l0 x < kap l0 y := by simp only [kap]; omega
    simp [h2]
/-- The number of what stands at a place. -/
def ky (l0 l : List En) (i : Nat) : Nat := match l[i]? with
  | some x => kap l0 x
  | none => 0
theorem ltAt_ky {l0 l : List En} (hl : ∀ x ∈ l, x ∈ l0) {i j : Nat} (hi : i < l.length) (hj : j < l.length) : ltAt l i j = decide (ky l0 l i < ky l0 l j) := by
  simp only [ltAt, ky, List.getElem?_eq_getElem hi, List.getElem?_eq_getElem hj]
  exact kap_lt (hl _ (List.getElem_mem hi))
end Go.Proofs
namespace Go.Proofs
open Go Go.Sl
theorem sw_get {l : List En} {i j : Nat} (hi : i < l.length) (hj : j < l.length) (p : Nat) : (sw l i j)[p]? = if p = i then l[j]? else if p = j then l[i]? else l[p]? := by
  simp only [sw, dif_pos (And.intro hi hj), swapL]
  by_cases h1 : p = j
  · subst h1
    rw [List.getElem?_set_self (by simpa using hj)]
    by_cases h2 : p = i
    · subst h2; simp [hi]
    · rw [if_neg h2, if_pos rfl, List.getElem?_eq_getElem hi]
  · rw [List.getElem?_set_ne (Ne.symm h1), if_neg h1]
    by_cases h2 : p = i
    · subst h2; rw [List.getElem?_set_self hi, if_pos rfl, List.getElem?_eq_getElem hj]
    · rw [List.getElem?_set_ne (Ne.symm h2), if_neg h2]
theorem swR_get (l : List En) (a b : Nat) : ∀ (m p : Nat), a + m ≤ b → b + m ≤ l.length → (swR l a b m)[p]? = if a ≤ p ∧ p < a + m then l[p + (b - a)]? else if b ≤ p ∧ p < b + m then l[p - (b - a)]? else l[p]? := by
  intro m
  induction m with
  | zero => intro p _ _; rw [if_neg (by omega), if_neg (by omega)]; rfl
  | succ m ih =>
    intro p h1 h2
    rw [swR, sw_get (by rw [swR_length]; omega) (by rw [swR_length]; omega), ih (b + m) (by omega) (by omega), ih (a + m) (by omega) (by omega), ih p (by omega) (by omega)]
    repeat' split
    all_goals first | rfl | (exfalso; omega) | (congr 1; omega)
theorem rotL_get (m : Nat) : ∀ (f : Nat) (l : List En) (i j p : Nat), i + j ≤ f → 0 < i → 0 < j → i ≤ m → m + j ≤ l.length → (rotL m f l i j)[p]? = if m - i ≤ p ∧ p < m - i + j then l[p + i]? else if m - i + j ≤ p ∧ p < m + j then l[p - j]? else l[p]? := by
  intro f
  induction f with
  | zero => intro l i j p h hi hj; omega
  | succ f ih =>
    intro l i j p h hi hj him hml
    simp only [rotL]
    by_cases h1 : i = j
    · subst h1
      rw [if_pos rfl, swR_get l (m - i) m i p (by omega) hml]
      repeat' split
      all_goals first | rfl | (exfalso; omega) | (congr 1; omega)
    · rw [if_neg h1]
      by_cases h2 : j < i
      · rw [if_pos h2, ih _ (i - j) j p (by omega) (by omega) hj (by omega) (by rw [swR_length]; exact hml)]
        rw [swR_get l (m - i) m j _ (by omega) hml, swR_get l (m - i) m j _ (by omega) hml, swR_get l (m - i) m j _ (by omega) hml]
        repeat' split
        all_goals first | rfl | (exfalso; omega) | (congr 1; omega)
      · rw [if_neg h2, ih _ i (j - i) p (by omega) hi (by omega) him (by rw [swR_length]; omega)]
        rw [swR_get l (m - i) (m + j - i) i _ (by omega) (by omega), swR_get l (m - i) (m + j - i) i _ (by omega) (by omega), swR_get l (m - i) (m + j - i) i _ (by omega) (by omega)]
        repeat' split
        all_goals first | rfl | (exfalso; omega) | (congr 1; omega)
theorem upS_get (l : List En) (k : Nat) : ∀ (c p : Nat), k + c < l.length → (upS l k c)[p]? = if k ≤ p ∧ p < k + c then l[p + 1]? else if p = k + c then l[k]? else l[p]? := by
  intro c
  induction c with
  | zero =>
    intro p h
    rw [if_neg (by omega)]
    split
    · rename_i h1; rw [h1]; rfl
    · rfl
  | succ c ih =>
    intro p h
    rw [upS, sw_get (by rw [upS_length]; omega) (by rw [upS_length]; omega), ih (k + c + 1) (by omega), ih (k + c) (by omega), ih p (by omega)]
    repeat' split
    all_goals first | rfl | (exfalso; omega) | (congr 1; omega)
theorem dnS_get (l : List En) (k : Nat) : ∀ (c p : Nat), c ≤ k → k < l.length → (dnS l k c)[p]? = if p = k - c then l[k]? else if k - c < p ∧ p ≤ k then l[p - 1]? else l[p]? := by
  intro c
  induction c with
  | zero =>
    intro p h1 h2
    rw [if_neg (show ¬ (k - 0 < p ∧ p ≤ k) by omega)]
    split
    · rename_i h; rw [h]; rfl
    · rfl
  | succ c ih =>
    intro p h1 h2
    rw [dnS, sw_get (by rw [dnS_length]; omega) (by rw [dnS_length]; omega), ih (k - c - 1) (by omega) h2, ih (k - c) (by omega) h2, ih p (by omega) h2]
    repeat' split
    all_goals first | rfl | (exfalso; omega) | (congr 1; omega)
theorem bsch_edge (p : Nat → Bool) : ∀ (f i j : Nat), j - i ≤ f → i ≤ j → (bsch p f i j = i ∨ p (bsch p f i j - 1) = true) ∧ (bsch p f i j = j ∨ p (bsch p f i j) = false) := by
  intro f
  induction f with
  | zero => intro i j h1 h2; exact ⟨.inl rfl, .inl (show i = j by omega)⟩
  | succ f ih =>
    intro i j h1 h2
    simp only [bsch]
    by_cases h : i < j
    · rw [if_pos h]
      cases hp : p ((i + j) / 2) with
      | true =>
        rw [if_pos rfl]
        have := ih ((i + j) / 2 + 1) j (by omega) (by omega)
        refine ⟨?_, this.2⟩
        rcases this.1 with e | e
        · right; rw [e]; exact hp
        · exact .inr e
      | false =>
        rw [if_neg (by decide)]
        have := ih i ((i + j) / 2) (by omega) (by omega)
        refine ⟨this.1, ?_⟩
        rcases this.2 with e | e
        · right; rw [e]; exact hp
        · exact .inr e
    · rw [if_neg h]
      exact ⟨.inl rfl, .inl (by omega)⟩
/-! ### In numbers -/
theorem ky_of {l0 l l' : List En} {p q : Nat} (h : l'[p]? = l[q]?) : ky l0 l' p = ky l0 l q := by simp only [ky, h]
def Sd (f : Nat → Nat) (a b : Nat) : Prop := ∀ x y, a ≤ x → x ≤ y → y < b → f x ≤ f y
/-- Outside nothing has changed, inside stands what stood there. -/
def Rng (a b : Nat) (f g : Nat → Nat) : Prop := (∀ p, p < a ∨ b ≤ p → g p = f p) ∧ ∀ p, a ≤ p → p < b → ∃ q, a ≤ q ∧ q < b ∧ g p = f q
theorem Rng.refl (a b : Nat) (f : Nat → Nat) : Rng a b f f := ⟨fun _ _ => rfl, fun p h1 h2 => ⟨p, h1, h2, rfl⟩⟩
theorem Rng.trans {a b : Nat} {f g h : Nat → Nat} (h1 : Rng a b f g) (h2 : Rng a b g h) : Rng a b f h := by
  refine ⟨fun p hp => by rw [h2.1 p hp, h1.1 p hp], fun p hp hp' => ?_⟩
  obtain ⟨q, q1, q2, q3⟩ := h2.2 p hp hp'
  obtain ⟨r, r1, r2, r3⟩ := h1.2 q q1 q2
  exact ⟨r, r1, r2, by rw [q3, r3]⟩
theorem Rng.wide {a b a' b' : Nat} {f g : Nat → Nat} (h : Rng a b f g) (ha : a' ≤ a) (hb : b ≤ b') : Rng a' b' f g := by
  refine ⟨fun p hp => h.1 p (by omega), fun p hp hp' => ?_⟩
  by_cases hin : a ≤ p ∧ p < b
  · obtain ⟨q, q1, q2, q3⟩ := h.2 p hin.1 hin.2
    exact ⟨q, by omega, by omega, q3⟩
  · exact ⟨p, hp, hp', h.1 p (by omega)⟩
theorem sw_mem {l : List En} {i j : Nat} {x : En} (h : x ∈ sw l i j) : x ∈ l := by
  unfold sw at h
  split at h
  · rename_i hij
    obtain ⟨p, hp⟩ := List.mem_iff_getElem?.1 h
    have e := sw_get hij.1 hij.2 p
    simp only [sw, dif_pos hij] at e
    rw [e] at hp
    repeat' split at hp
    all_goals exact List.mem_of_getElem? hp
  · exact h
end Go.Proofs
namespace Go.Proofs
open Go Go.Sl
theorem upS_mem {l : List En} {k c : Nat} {x : En} (h : x ∈ upS l k c) : x ∈ l := by
  induction c with
  | zero => exact h
  | succ c ih => exact ih (sw_mem h)
theorem dnS_mem {l : List En} {k c : Nat} {x : En} (h : x ∈ dnS l k c) : x ∈ l := by
  induction c with
  | zero => exact h
  | succ c ih => exact ih (sw_mem h)
theorem swR_mem {l : List En} {a b m : Nat} {x : En} (h : x ∈ swR l a b m) : x ∈ l := by
  induction m with
  | zero => exact h
  | succ m ih => exact ih (sw_mem h)
theorem rotL_mem {m : Nat} {x : En} : ∀ {f : Nat} {l : List En} {i j : Nat}, x ∈ rotL m f l i j → x ∈ l := by
  intro f
  induction f with
  | zero => intro l i j h; exact h
  | succ f ih =>
    intro l i j h
    simp only [rotL] at h
    repeat' split at h
    · exact swR_mem h
    · exact swR_mem (ih h)
    · exact swR_mem (ih h)
theorem symM_mem {x : En} : ∀ {f : Nat} {l : List En} {a m b : Nat}, x ∈ symM f l a m b → x ∈ l := by
  intro f
  induction f with
  | zero => intro l a m b h; exact h
  | succ f ih =>
    intro l a m b h
    simp only [symM] at h
    repeat' split at h
    all_goals first | exact upS_mem h | exact dnS_mem h | exact rotL_mem (ih (ih h)) | exact rotL_mem (ih h) | exact ih (ih h) | exact ih h | exact rotL_mem h | exact h
/-- Merging, in numbers. -/
theorem symM_sorts {l0 : List En} : ∀ (f : Nat) (l : List En) (a m b : Nat), b - a ≤ f → a < m → m < b → b ≤ l.length → (∀ x ∈ l, x ∈ l0) → Sd (ky l0 l) a m → Sd (ky l0 l) m b →
    Sd (ky l0 (symM f l a m b)) a b ∧ Rng a b (ky l0 l) (ky l0 (symM f l a m b)) := by
  intro f
  induction f with
  | zero => intro l a m b h1 h2 h3; omega
  | succ f ih =>
    intro l a m b hf ham hmb hb hm s1 s2
    have lt : ∀ i j, i < b → j < b → ltAt l i j = decide (ky l0 l i < ky l0 l j) := fun i j hi hj => ltAt_ky hm (by omega) (by omega)
    simp only [symM]
    by_cases c1 : m - a = 1
    · rw [if_pos c1]
      obtain ⟨e1, e2⟩ := bsch_edge (fun h => ltAt l h a) (b - m) m b (Nat.le_refl _) (by omega)
      obtain ⟨e3, e4⟩ := bsch_bounds (fun h => ltAt l h a) (b - m) m b (by omega)
      generalize bsch (fun h => ltAt l h a) (b - m) m b = r at *
      have g1 : r = m ∨ ky l0 l (r - 1) < ky l0 l a := by
        rcases e1 with e | e
        · exact .inl e
        · right
          by_cases hr : r = m
          · subst hr; rw [lt _ _ (by omega) (by omega)] at e; simpa using e
          · rw [lt _ _ (by omega) (by omega)] at e; simpa using e
      have g2 : r = b ∨ ky l0 l a ≤ ky l0 l r := by
        rcases e2 with e | e
        · exact .inl e
        · by_cases hr : r = b
          · exact .inl hr
          · right; rw [lt _ _ (by omega) (by omega)] at e; simpa using e
      have K : ∀ p, ky l0 (upS l a (r - 1 - a)) p = if a ≤ p ∧ p < r - 1 then ky l0 l (p + 1) else if p = r - 1 then ky l0 l a else ky l0 l p := by
        intro p
        have := upS_get l a (r - 1 - a) p (by omega)
        rw [show a + (r - 1 - a) = r - 1 by omega] at this
        repeat' split
        all_goals first | (rw [if_pos (by omega)] at this; exact ky_of this) | (rw [if_neg (by omega), if_pos (by omega)] at this; exact ky_of this) | (rw [if_neg (by omega), if_neg (by omega)] at this; exact ky_of this)
      refine ⟨fun x y h1 h2 h3 => ?_, fun p hp => ?_, fun p h1 h2 => ?_⟩
      · rw [K, K]
        have q1 : r = m ∨ ∀ p, m ≤ p → p < r → ky l0 l p ≤ ky l0 l a := by
          rcases g1 with e | e
          · exact .inl e
          · exact .inr fun p hp hp' => Nat.le_of_lt (Nat.lt_of_le_of_lt (s2 p (r - 1) hp (by omega) (by omega)) e)
        have q2 : ∀ p, r ≤ p → p < b → ky l0 l a ≤ ky l0 l p := by
          intro p hp hp'
          rcases g2 with e | e
          · omega
          · exact Nat.le_trans e (s2 r p (by omega) hp hp')
        repeat' split
        all_goals first
          | exact Nat.le_refl _
          | (exfalso; omega)
          | exact s2 _ _ (by omega) (by omega) (by omega)
          | (rcases q1 with e | e; omega; exact e _ (by omega) (by omega))
          | exact q2 _ (by omega) (by omega)
      · rw [K, if_neg (by omega), if_neg (by omega)]
      · rw [K]
        repeat' split
        · exact ⟨p + 1, by omega, by omega, rfl⟩
        · exact ⟨a, by omega, by omega, rfl⟩
        · exact ⟨p, h1, h2, rfl⟩
    · rw [if_neg c1]
      by_cases c2 : b - m = 1
      · rw [if_pos c2]
        obtain ⟨e1, e2⟩ := bsch_edge (fun h => !ltAt l m h) (m - a) a m (Nat.le_refl _) (by omega)
        obtain ⟨e3, e4⟩ := bsch_bounds (fun h => !ltAt l m h) (m - a) a m (by omega)
        generalize bsch (fun h => !ltAt l m h) (m - a) a m = r at *
        have g1 : r = a ∨ ky l0 l (r - 1) ≤ ky l0 l m := by
          rcases e1 with e | e
          · exact .inl e
          · right; rw [lt _ _ (by omega) (by omega)] at e; simpa using e
        have g2 : r = m ∨ ky l0 l m < ky l0 l r := by
          rcases e2 with e | e
          · exact .inl e
          · right; rw [lt _ _ (by omega) (by omega)] at e; simpa using e
        have K : ∀ p, ky l0 (dnS l m (m - r)) p = if p = r then ky l0 l m else if r < p ∧ p ≤ m then ky l0 l (p - 1) else ky l0 l p := by
          intro p
          have := dnS_get l m (m - r) p (by omega) (by omega)
          rw [show m - (m - r) = r by omega] at this
          repeat' split
          all_goals first | (rw [if_pos (by omega)] at this; exact ky_of this) | (rw [if_neg (by omega), if_pos (by omega)] at this; exact ky_of this) | (rw [if_neg (by omega), if_neg (by omega)] at this; exact ky_of this)
        have q1 : ∀ p, a ≤ p → p < r → ky l0 l p ≤ ky l0 l m := by
          intro p hp hp'
          rcases g1 with e | e
          · omega
          · exact Nat.le_trans (s1 p (r - 1) hp (by omega) (by omega)) e
        have q2 : ∀ p, r ≤ p → p < m → ky l0 l m ≤ ky l0 l p := by
          intro p hp hp'
          rcases g2 with e | e
          · omega
          · exact Nat.le_trans (Nat.le_of_lt e) (s1 r p (by omega) hp hp')
        refine ⟨fun x y h1 h2 h3 => ?_, fun p hp => ?_, fun p h1 h2 => ?_⟩
        · rw [K, K]
          repeat' split
          all_goals first
            | exact Nat.le_refl _
            | (exfalso; omega)
            | exact s1 _ _ (by omega) (by omega) (by omega)
            | exact q1 _ (by omega) (by omega)
            | exact q2 _ (by omega) (by omega)
        · rw [K, if_neg (by omega), if_neg (by omega)]
        · rw [K]
          repeat' split
          · exact ⟨m, by omega, by omega, rfl⟩
          · exact ⟨p - 1, by omega, by omega, rfl⟩
          · exact ⟨p, h1, h2, rfl⟩
      · rw [if_neg c2]
        have hst1 : ∃ st, st = (if (a + b) / 2 < m then bsch (fun c => !ltAt l ((a + b) / 2 + m - 1 - c) c) (b - a) ((a + b) / 2 + m - b) ((a + b) / 2) else bsch (fun c => !ltAt l ((a + b) / 2 + m - 1 - c) c) (b - a) a m) := ⟨_, rfl⟩
        obtain ⟨st, hst⟩ := hst1
        rw [← hst]
        obtain ⟨mid, hmid⟩ : ∃ mid, mid = (a + b) / 2 := ⟨_, rfl⟩
        rw [← hmid] at hst ⊢
        have hm1 : 2 * mid ≤ a + b := by omega
        have hm2 : a + b ≤ 2 * mid + 1 := by omega
        clear hmid
        have lt2 : ∀ c, a ≤ c → mid + m ≤ b + c → c < m → c < mid → (!ltAt l (mid + m - 1 - c) c) = decide (ky l0 l c ≤ ky l0 l (mid + m - 1 - c)) := by
          intro c h1 h2 h3 h4
          rw [lt _ _ (by omega) (by omega)]
          by_cases h : ky l0 l (mid + m - 1 - c) < ky l0 l c
          · simp [h, Nat.not_le.2 h]
          · simp [h, Nat.not_lt.1 h]
        -- where the search ends
        have hS : a ≤ st ∧ mid + m ≤ b + st ∧ st ≤ m ∧ st ≤ mid ∧ (st = m ∨ st = mid ∨ ky l0 l (mid + m - 1 - st) < ky l0 l st) ∧ (st = a ∨ mid + m = b + st ∨ ky l0 l (st - 1) ≤ ky l0 l (mid + m - st)) := by
          by_cases c3 : mid < m
          · rw [if_pos c3] at hst
            obtain ⟨e1, e2⟩ := bsch_edge (fun c => !ltAt l (mid + m - 1 - c) c) (b - a) (mid + m - b) mid (by omega) (by omega)
            obtain ⟨e3, e4⟩ := bsch_bounds (fun c => !ltAt l (mid + m - 1 - c) c) (b - a) (mid + m - b) mid (by omega)
            rw [← hst] at e1 e2 e3 e4
            refine ⟨by omega, by omega, by omega, by omega, ?_, ?_⟩
            · rcases e2 with e | e
              · exact .inr (.inl e)
              · by_cases h : st = mid
                · exact .inr (.inl h)
                · rw [lt2 st (by omega) (by omega) (by omega) (by omega)] at e
                  exact .inr (.inr (by simpa using e))
            · rcases e1 with e | e
              · exact .inr (.inl (by omega))
              · by_cases h : mid + m = b + st
                · exact .inr (.inl h)
                · rw [lt2 (st - 1) (by omega) (by omega) (by omega) (by omega)] at e
                  rw [show mid + m - 1 - (st - 1) = mid + m - st by omega] at e
                  exact .inr (.inr (by simpa using e))
          · rw [if_neg c3] at hst
            obtain ⟨e1, e2⟩ := bsch_edge (fun c => !ltAt l (mid + m - 1 - c) c) (b - a) a m (by omega) (by omega)
            obtain ⟨e3, e4⟩ := bsch_bounds (fun c => !ltAt l (mid + m - 1 - c) c) (b - a) a m (by omega)
            rw [← hst] at e1 e2 e3 e4
            refine ⟨by omega, by omega, by omega, by omega, ?_, ?_⟩
            · rcases e2 with e | e
              · exact .inl e
              · by_cases h : st = m
                · exact .inl h
                · rw [lt2 st (by omega) (by omega) (by omega) (by omega)] at e
                  exact .inr (.inr (by simpa using e))
            · rcases e1 with e | e
              · exact .inl e
              · by_cases h : st = a
                · exact .inl h
                · rw [lt2 (st - 1) (by omega) (by omega) (by omega) (by omega)] at e
                  rw [show mid + m - 1 - (st - 1) = mid + m - st by omega] at e
                  exact .inr (.inr (by simpa using e))
        clear hst lt2
        obtain ⟨k1, k2, k3, k4, k5, k6⟩ := hS
        -- the rotation
        have hR : ∃ l1, l1 = (if st < m ∧ m < mid + m - st then rotL m (mid + m - st - st) l (m - st) (mid + m - st - m) else l) := ⟨_, rfl⟩
        obtain ⟨l1, hl1⟩ := hR
        rw [← hl1]
        have hl1len : l1.length = l.length := by rw [hl1]; split <;> simp [rotL_length]
        have hl1m : ∀ x ∈ l1, x ∈ l0 := by
          intro x hx
          rw [hl1] at hx
          split at hx
          · exact hm x (rotL_mem hx)
          · exact hm x hx
        have K : ∀ p, ky l0 l1 p = if st ≤ p ∧ p < mid then ky l0 l (p + (m - st)) else if mid ≤ p ∧ p < mid + m - st then ky l0 l (p - (mid - st)) else ky l0 l p := by
          intro p
          by_cases c4 : st < m ∧ m < mid + m - st
          · rw [if_pos c4] at hl1
            have := rotL_get m (mid + m - st - st) l (m - st) (mid + m - st - m) p (by omega) (by omega) (by omega) (by omega) (by omega)
            rw [← hl1, show m - (m - st) = st by omega, show st + (mid + m - st - m) = mid by omega, show m + (mid + m - st - m) = mid + m - st by omega, show mid + m - st - m = mid - st by omega] at this
            repeat' split
            all_goals first | (rw [if_pos (by omega)] at this; exact ky_of this) | (rw [if_neg (by omega), if_pos (by omega)] at this; exact ky_of this) | (rw [if_neg (by omega), if_neg (by omega)] at this; exact ky_of this)
          · rw [if_neg c4] at hl1
            subst hl1
            repeat' split
            all_goals first | rfl | (exfalso; omega) | (congr 1; omega)
        clear hl1
        have cross : ∀ p q, a ≤ p → p < mid → mid ≤ q → q < b → ky l0 l1 p ≤ ky l0 l1 q := by
          intro p q h1 h2 h3 h4
          rw [K, K]
          by_cases c5 : st ≤ p
          · rw [if_pos ⟨c5, h2⟩, if_neg (by omega)]
            by_cases c6 : q < mid + m - st
            · rw [if_pos ⟨h3, c6⟩]
              rcases k5 with e | e | e
              · omega
              · omega
              · exact Nat.le_trans (s2 (p + (m - st)) (mid + m - 1 - st) (by omega) (by omega) (by omega)) (Nat.le_trans (Nat.le_of_lt e) (s1 st (q - (mid - st)) (by omega) (by omega) (by omega)))
            · rw [if_neg (by omega)]
              exact s2 _ _ (by omega) (by omega) (by omega)
          · rw [if_neg (by omega), if_neg (by omega), if_neg (by omega)]
            by_cases c6 : q < mid + m - st
            · rw [if_pos ⟨h3, c6⟩]
              exact s1 _ _ (by omega) (by omega) (by omega)
            · rw [if_neg (by omega)]
              rcases k6 with e | e | e
              · omega
              · omega
              · exact Nat.le_trans (s1 p (st - 1) (by omega) (by omega) (by omega)) (Nat.le_trans e (s2 (mid + m - st) q (by omega) (by omega) (by omega)))
        have t1 : Sd (ky l0 l1) a st := fun x y h1 h2 h3 => by
          rw [K, K, if_neg (by omega), if_neg (by omega), if_neg (by omega), if_neg (by omega)]
          exact s1 _ _ (by omega) (by omega) (by omega)
        have t2 : Sd (ky l0 l1) st mid := fun x y h1 h2 h3 => by
          rw [K, K, if_pos (by omega), if_pos (by omega)]
          exact s2 _ _ (by omega) (by omega) (by omega)
        have t3 : Sd (ky l0 l1) mid (mid + m - st) := fun x y h1 h2 h3 => by
          rw [K, K, if_neg (by omega), if_pos (by omega), if_neg (by omega), if_pos (by omega)]
          exact s1 _ _ (by omega) (by omega) (by omega)
        have t4 : Sd (ky l0 l1) (mid + m - st) b := fun x y h1 h2 h3 => by
          rw [K, K, if_neg (by omega), if_neg (by omega), if_neg (by omega), if_neg (by omega)]
          exact s2 _ _ (by omega) (by omega) (by omega)
        have r1 : Rng a b (ky l0 l) (ky l0 l1) := by
          refine ⟨fun p hp => ?_, fun p h1 h2 => ?_⟩
          · rw [K, if_neg (by omega), if_neg (by omega)]
          · rw [K]
            repeat' split
            · exact ⟨_, by omega, by omega, rfl⟩
            · exact ⟨_, by omega, by omega, rfl⟩
            · exact ⟨p, h1, h2, rfl⟩
        clear K s1 s2 k5 k6 lt
        -- the left half
        have hL : ∃ l2, l2 = (if a < st ∧ st < mid then symM f l1 a st mid else l1) := ⟨_, rfl⟩
        obtain ⟨l2, hl2⟩ := hL
        rw [← hl2]
        have hl2len : l2.length = l1.length := by rw [hl2]; split <;> simp [symM_length]
        have hl2m : ∀ x ∈ l2, x ∈ l0 := by
          intro x hx
          rw [hl2] at hx
          split at hx
          · exact hl1m x (symM_mem hx)
          · exact hl1m x hx
        have u1 : Sd (ky l0 l2) a mid ∧ Rng a mid (ky l0 l1) (ky l0 l2) := by
          by_cases c7 : a < st ∧ st < mid
          · rw [hl2, if_pos c7]
            exact ih l1 a st mid (by omega) c7.1 c7.2 (by omega) hl1m t1 t2
          · rw [hl2, if_neg c7]
            refine ⟨?_, Rng.refl _ _ _⟩
            by_cases c8 : st = a
            · rw [← c8]; exact t2
            · have c9 : st = mid := by omega
              rw [← c9]; exact t1
        clear hl2 t1 t2
        obtain ⟨u1, u2⟩ := u1
        have t3' : Sd (ky l0 l2) mid (mid + m - st) := fun x y h1 h2 h3 => by rw [u2.1 x (by omega), u2.1 y (by omega)]; exact t3 x y h1 h2 h3
        have t4' : Sd (ky l0 l2) (mid + m - st) b := fun x y h1 h2 h3 => by rw [u2.1 x (by omega), u2.1 y (by omega)]; exact t4 x y h1 h2 h3
        have hF : ∃ l3, l3 = (if mid < mid + m - st ∧ mid + m - st < b then symM f l2 mid (mid + m - st) b else l2) := ⟨_, rfl⟩
        obtain ⟨l3, hl3⟩ := hF
        rw [← hl3]
        have w1 : Sd (ky l0 l3) mid b ∧ Rng mid b (ky l0 l2) (ky l0 l3) := by
          by_cases c7 : mid < mid + m - st ∧ mid + m - st < b
          · rw [hl3, if_pos c7]
            exact ih l2 mid (mid + m - st) b (by omega) c7.1 c7.2 (by omega) hl2m t3' t4'
          · rw [hl3, if_neg c7]
            refine ⟨?_, Rng.refl _ _ _⟩
            by_cases c8 : mid + m - st = mid
            · rw [c8] at t4'; exact t4'
            · have c9 : mid + m - st = b := by omega
              rw [c9] at t3'; exact t3'
        obtain ⟨w1, w2⟩ := w1
        refine ⟨fun x y h1 h2 h3 => ?_, (r1.trans (u2.wide (by omega) (by omega))).trans (w2.wide (by omega) (by omega))⟩
        by_cases d1 : y < mid
        · rw [w2.1 x (by omega), w2.1 y (by omega)]
          exact u1 x y h1 h2 d1
        · by_cases d2 : mid ≤ x
          · exact w1 x y d2 h2 h3
          · rw [w2.1 x (by omega)]
            obtain ⟨p, p1, p2, p3⟩ := u2.2 x h1 (by omega)
            obtain ⟨q, q1, q2, q3⟩ := w2.2 y (by omega) h3
            rw [p3, q3, u2.1 q (by omega)]
            exact cross p q p1 p2 q1 q2
end Go.Proofs
namespace Go.Proofs
open Go Go.Sl
theorem sw_permQ (l : List En) (i j : Nat) : (sw l i j).Perm l := by
  unfold sw
  split
  · rename_i h
    exact List.set_set_perm h.1 h.2
  · exact .refl _
theorem ky_sw {l0 l : List En} {i j : Nat} (hi : i < l.length) (hj : j < l.length) (p : Nat) : ky l0 (sw l i j) p = if p = i then ky l0 l j else if p = j then ky l0 l i else ky l0 l p := by
  have := sw_get hi hj p
  repeat' split
  all_goals first | (rw [if_pos (by assumption)] at this; exact ky_of this) | (rw [if_neg (by assumption), if_pos (by assumption)] at this; exact ky_of this) | (rw [if_neg (by assumption), if_neg (by assumption)] at this; exact ky_of this)
theorem insJ_sorts {l0 : List En} {a e : Nat} : ∀ (j : Nat) (l : List En), a ≤ j → j < e → e ≤ l.length → (∀ x ∈ l, x ∈ l0) → (∀ x y, a ≤ x → x < y → y < e → x ≠ j → y ≠ j → ky l0 l x ≤ ky l0 l y) → (∀ y, j < y → y < e → ky l0 l j ≤ ky l0 l y) →
    Sd (ky l0 (insJ a j l)) a e ∧ Rng a e (ky l0 l) (ky l0 (insJ a j l)) ∧ ∀ x ∈ insJ a j l, x ∈ l0 := by
  intro j
  induction j with
  | zero =>
    intro l h1 h2 h3 hm i1 i2
    refine ⟨fun x y h4 h5 h6 => ?_, Rng.refl _ _ _, hm⟩
    show ky l0 l x ≤ ky l0 l y
    by_cases e1 : x = y
    · rw [e1]; exact Nat.le_refl _
    · by_cases e2 : x = 0
      · rw [e2]; exact i2 y (by omega) h6
      · exact i1 x y h4 (by omega) h6 e2 (by omega)
  | succ j ih =>
    intro l h1 h2 h3 hm i1 i2
    simp only [insJ]
    by_cases c : a < j + 1 ∧ ltAt l (j + 1) j = true
    · rw [if_pos c]
      have c2 := c.2
      rw [ltAt_ky hm (by omega) (by omega)] at c2
      have c3 : ky l0 l (j + 1) < ky l0 l j := by simpa using c2
      have K := ky_sw (l0 := l0) (l := l) (i := j + 1) (j := j) (by omega) (by omega)
      have hm' : ∀ x ∈ sw l (j + 1) j, x ∈ l0 := fun x hx => hm x (sw_mem hx)
      obtain ⟨r1, r2, r3⟩ := ih (sw l (j + 1) j) (by omega) (by omega) (by rw [sw_length]; exact h3) hm' (fun x y h4 h5 h6 h7 h8 => by
        rw [K, K]
        repeat' split
        all_goals first | (exfalso; omega) | exact Nat.le_refl _ | exact i1 _ _ (by omega) (by omega) (by omega) (by omega) (by omega)) (fun y h4 h5 => by
        rw [K, K, if_neg (by omega), if_pos rfl]
        repeat' split
        · exact Nat.le_of_lt c3
        · omega
        · exact i2 y (by omega) h5)
      refine ⟨r1, Rng.trans ⟨fun p hp => ?_, fun p h4 h5 => ?_⟩ r2, r3⟩
      · rw [K, if_neg (by omega), if_neg (by omega)]
      · rw [K]
        repeat' split
        · exact ⟨j, by omega, by omega, rfl⟩
        · exact ⟨j + 1, by omega, by omega, rfl⟩
        · exact ⟨p, h4, h5, rfl⟩
    · rw [if_neg c]
      refine ⟨fun x y h4 h5 h6 => ?_, Rng.refl _ _ _, hm⟩
      by_cases e1 : x = y
      · rw [e1]; exact Nat.le_refl _
      · by_cases e2 : x = j + 1
        · rw [e2]; exact i2 y (by omega) h6
        · by_cases e3 : y = j + 1
          · have c3 : ky l0 l j ≤ ky l0 l (j + 1) := by
              rw [ltAt_ky hm (by omega) (by omega)] at c
              apply Nat.le_of_not_lt
              intro h
              exact c ⟨by omega, by simpa using h⟩
            rw [e3]
            by_cases e4 : x = j
            · rw [e4]; exact c3
            · exact Nat.le_trans (i1 x j h4 (by omega) (by omega) (by omega) (by omega)) c3
          · exact i1 x y h4 (by omega) h6 e2 e3
theorem isortN_sorts {l0 : List En} {a : Nat} : ∀ (k : Nat) (l : List En), a + k < l.length → (∀ x ∈ l, x ∈ l0) → Sd (ky l0 (isortN a k l)) a (a + k + 1) ∧ Rng a (a + k + 1) (ky l0 l) (ky l0 (isortN a k l)) ∧ ∀ x ∈ isortN a k l, x ∈ l0 := by
  intro k
  induction k with
  | zero =>
    intro l h hm
    refine ⟨fun x y h1 h2 h3 => ?_, Rng.refl _ _ _, hm⟩
    have : x = y := by omega
    rw [this]; exact Nat.le_refl _
  | succ k ih =>
    intro l h hm
    obtain ⟨r1, r2, r3⟩ := ih l (by omega) hm
    obtain ⟨q1, q2, q3⟩ := insJ_sorts (a := a) (e := a + (k + 1) + 1) (a + 1 + k) (isortN a k l) (by omega) (by omega) (by rw [isortN_length]; omega) r3 (fun x y h1 h2 h3 h4 h5 => r1 x y h1 (by omega) (by omega)) (fun y h1 h2 => by omega)
    exact ⟨q1, (r2.wide (Nat.le_refl _) (by omega)).trans q2, q3⟩
def Bk (s : Nat) (f : Nat → Nat) (a n : Nat) : Prop := ∀ q, a + s * q < n → Sd f (a + s * q) (min (a + s * q + s) n)
theorem Bk.cons {s a n : Nat} {f : Nat → Nat} (h0 : Sd f a (min (a + s) n)) (h : Bk s f (a + s) n) : Bk s f a n := by
  intro q hq
  cases q with
  | zero => simpa using h0
  | succ q =>
    have e : a + s * (q + 1) = a + s + s * q := by rw [Nat.mul_succ]; omega
    rw [e] at hq ⊢
    exact h q hq
theorem Bk.end {s a n : Nat} {f : Nat → Nat} (h : n ≤ a) : Bk s f a n := fun q hq => by omega
theorem isP_sorts {l0 : List En} {n : Nat} : ∀ (f a : Nat) (l : List En), n - a ≤ f → a ≤ n → n ≤ l.length → (∀ x ∈ l, x ∈ l0) → Bk 20 (ky l0 (isP n f a l)) a n ∧ Rng a n (ky l0 l) (ky l0 (isP n f a l)) ∧ ∀ x ∈ isP n f a l, x ∈ l0 := by
  have last : ∀ (a : Nat) (l : List En), a ≤ n → n < a + 20 → n ≤ l.length → (∀ x ∈ l, x ∈ l0) → Bk 20 (ky l0 (isortN a (n - (a + 1)) l)) a n ∧ Rng a n (ky l0 l) (ky l0 (isortN a (n - (a + 1)) l)) ∧ ∀ x ∈ isortN a (n - (a + 1)) l, x ∈ l0 := by
    intro a l h1 h2 h3 hm
    by_cases c : a = n
    · subst c
      rw [show a - (a + 1) = 0 by omega]
      exact ⟨.end (Nat.le_refl _), Rng.refl _ _ _, hm⟩
    · obtain ⟨r1, r2, r3⟩ := isortN_sorts (l0 := l0) (a := a) (n - (a + 1)) l (by omega) hm
      rw [show a + (n - (a + 1)) + 1 = n by omega] at r1 r2
      refine ⟨Bk.cons (by rw [Nat.min_eq_right (by omega)]; exact r1) (.end (by omega)), r2, r3⟩
  intro f
  induction f with
  | zero => intro a l h1 h2 h3 hm; exact last a l h2 (by omega) h3 hm
  | succ f ih =>
    intro a l h1 h2 h3 hm
    simp only [isP]
    by_cases c : a + 20 ≤ n
    · rw [if_pos c]
      obtain ⟨r1, r2, r3⟩ := isortN_sorts (l0 := l0) (a := a) 19 l (by omega) hm
      obtain ⟨q1, q2, q3⟩ := ih (a + 20) (isortN a 19 l) (by omega) c (by rw [isortN_length]; exact h3) r3
      refine ⟨Bk.cons (fun x y h4 h5 h6 => ?_) q1, (r2.wide (Nat.le_refl _) (by omega)).trans (q2.wide (by omega) (Nat.le_refl _)), q3⟩
      rw [q2.1 x (by omega), q2.1 y (by omega)]
      exact r1 x y h4 h5 (by omega)
    · rw [if_neg c]
      exact last a l h2 (by omega) h3 hm
theorem mgP_sorts {l0 : List En} {n s : Nat} (hs : 0 < s) : ∀ (f a : Nat) (l : List En), n - a ≤ f → n ≤ l.length → (∀ x ∈ l, x ∈ l0) → Bk s (ky l0 l) a n → Bk (2 * s) (ky l0 (mgP n s f a l)) a n ∧ Rng a n (ky l0 l) (ky l0 (mgP n s f a l)) ∧ ∀ x ∈ mgP n s f a l, x ∈ l0 := by
  have last : ∀ (a : Nat) (l : List En), n < a + 2 * s → n ≤ l.length → (∀ x ∈ l, x ∈ l0) → Bk s (ky l0 l) a n →
      Bk (2 * s) (ky l0 (if a + s < n then symM (n - a) l a (a + s) n else l)) a n ∧ Rng a n (ky l0 l) (ky l0 (if a + s < n then symM (n - a) l a (a + s) n else l)) ∧ ∀ x ∈ (if a + s < n then symM (n - a) l a (a + s) n else l), x ∈ l0 := by
    intro a l h1 h2 hm hb
    by_cases c : a + s < n
    · rw [if_pos c]
      have b0 := hb 0 (by omega)
      have b1 := hb 1 (by omega)
      rw [Nat.mul_zero, Nat.add_zero, Nat.min_eq_left (by omega)] at b0
      rw [Nat.mul_one, Nat.min_eq_right (by omega)] at b1
      obtain ⟨r1, r2⟩ := symM_sorts (l0 := l0) (n - a) l a (a + s) n (Nat.le_refl _) (by omega) c h2 hm b0 b1
      refine ⟨Bk.cons (by rw [Nat.min_eq_right (by omega)]; exact r1) (.end (by omega)), r2, fun x hx => hm x (symM_mem hx)⟩
    · rw [if_neg c]
      refine ⟨Bk.cons ?_ (.end (by omega)), Rng.refl _ _ _, hm⟩
      by_cases c2 : a < n
      · have b0 := hb 0 (by omega)
        rw [Nat.mul_zero, Nat.add_zero] at b0
        intro x y h4 h5 h6
        exact b0 x y h4 h5 (by omega)
      · intro x y h4 h5 h6; omega
  intro f
  induction f with
  | zero => intro a l h1 h2 hm hb; exact last a l (by omega) h2 hm hb
  | succ f ih =>
    intro a l h1 h2 hm hb
    simp only [mgP]
    by_cases c : a + 2 * s ≤ n
    · rw [if_pos c]
      have b0 := hb 0 (by omega)
      have b1 := hb 1 (by omega)
      rw [Nat.mul_zero, Nat.add_zero, Nat.min_eq_left (by omega)] at b0
      rw [Nat.mul_one, Nat.min_eq_left (by omega), show a + s + s = a + 2 * s by omega] at b1
      obtain ⟨r1, r2⟩ := symM_sorts (l0 := l0) (2 * s) l a (a + s) (a + 2 * s) (by omega) (by omega) (by omega) (by omega) hm b0 b1
      have r3 : ∀ x ∈ symM (2 * s) l a (a + s) (a + 2 * s), x ∈ l0 := fun x hx => hm x (symM_mem hx)
      have r4 : Bk s (ky l0 (symM (2 * s) l a (a + s) (a + 2 * s))) (a + 2 * s) n := by
        intro q hq x y h4 h5 h6
        rw [r2.1 x (by omega), r2.1 y (by omega)]
        have e : a + s * (q + 2) = a + 2 * s + s * q := by rw [Nat.mul_add]; omega
        have := hb (q + 2) (by rw [e]; exact hq)
        rw [e] at this
        exact this x y h4 h5 h6
      obtain ⟨q1, q2, q3⟩ := ih (a + 2 * s) _ (by omega) (by rw [symM_length]; exact h2) r3 r4
      refine ⟨Bk.cons (fun x y h4 h5 h6 => ?_) q1, (r2.wide (Nat.le_refl _) c).trans (q2.wide (by omega) (Nat.le_refl _)), q3⟩
      rw [q2.1 x (by omega), q2.1 y (by omega)]
      exact r1 x y h4 h5 (by omega)
    · rw [if_neg c]
      exact last a l (by omega) h2 hm hb
theorem stM_sorts {l0 : List En} {n : Nat} : ∀ (f s : Nat) (l : List En), 0 < s → n ≤ f + s → n ≤ l.length → (∀ x ∈ l, x ∈ l0) → Bk s (ky l0 l) 0 n → Sd (ky l0 (stM n f s l)) 0 n := by
  have last : ∀ (s : Nat) (l : List En), n ≤ s → Bk s (ky l0 l) 0 n → Sd (ky l0 l) 0 n := by
    intro s l h hb x y h1 h2 h3
    have b0 := hb 0 (by omega)
    rw [Nat.mul_zero, Nat.add_zero, Nat.min_eq_right (by omega)] at b0
    exact b0 x y h1 h2 h3
  intro f
  induction f with
  | zero => intro s l hs h1 h2 hm hb; exact last s l (by omega) hb
  | succ f ih =>
    intro s l hs h1 h2 hm hb
    simp only [stM]
    by_cases c : s < n
    · rw [if_pos c]
      obtain ⟨q1, _, q3⟩ := mgP_sorts hs n 0 l (by omega) h2 hm hb
      exact ih (2 * s) _ (by omega) (by omega) (by rw [mgP_length]; exact h2) q3 q1
    · rw [if_neg c]
      exact last s l (by omega) hb
theorem stable_sorts (l : List En) : Sd (ky l (stable l)) 0 l.length := by
  obtain ⟨r1, _, r3⟩ := isP_sorts (l0 := l) (n := l.length) l.length 0 l (by omega) (Nat.zero_le _) (Nat.le_refl _) (fun _ h => h)
  exact stM_sorts l.length 20 _ (by omega) (by omega) (by rw [isP_length]; exact Nat.le_refl _) r3 r1
end Go.Proofs
namespace Go.Proofs
open Go Go.Sl
theorem swR_permQ (l : List En) (a b m : Nat) : (swR l a b m).Perm l := by
  induction m with
  | zero => exact .refl _
  | succ m ih => exact (sw_permQ _ _ _).trans ih
theorem upS_permQ (l : List En) (k c : Nat) : (upS l k c).Perm l := by
  induction c with
  | zero => exact .refl _
  | succ c ih => exact (sw_permQ _ _ _).trans ih
theorem dnS_permQ (l : List En) (k c : Nat) : (dnS l k c).Perm l := by
  induction c with
  | zero => exact .refl _
  | succ c ih => exact (sw_permQ _ _ _).trans ih
theorem rotL_permQ (m : Nat) : ∀ (f : Nat) (l : List En) (i j : Nat), (rotL m f l i j).Perm l := by
  intro f
  induction f with
  | zero => intro l i j; exact .refl _
  | succ f ih =>
    intro l i j
    simp only [rotL]
    split
    · exact swR_permQ ..
    · split
      · exact (ih _ _ _).trans (swR_permQ ..)
      · exact (ih _ _ _).trans (swR_permQ ..)
theorem symM_permQ : ∀ (f : Nat) (l : List En) (a m b : Nat), (symM f l a m b).Perm l := by
  intro f
  induction f with
  | zero => intro l a m b; exact .refl _
  | succ f ih =>
    intro l a m b
    simp only [symM]
    repeat' split
    all_goals first | exact upS_permQ .. | exact dnS_permQ .. | exact ((ih _ _ _ _).trans (ih _ _ _ _)).trans (rotL_permQ ..) | exact (ih _ _ _ _).trans (rotL_permQ ..) | exact (ih _ _ _ _).trans (ih _ _ _ _) | exact ih _ _ _ _ | exact rotL_permQ .. | exact .refl _
theorem insJ_permQ (a : Nat) : ∀ (j : Nat) (l : List En), (insJ a j l).Perm l := by
  intro j
  induction j with
  | zero => intro l; exact .refl _
  | succ j ih =>
    intro l
    simp only [insJ]
    split
    · exact (ih _).trans (sw_permQ ..)
    · exact .refl _
theorem isortN_permQ (a k : Nat) (l : List En) : (isortN a k l).Perm l := by
  induction k with
  | zero => exact .refl _
  | succ k ih => exact (insJ_permQ ..).trans ih
theorem isP_permQ (n : Nat) : ∀ (f a : Nat) (l : List En), (isP n f a l).Perm l := by
  intro f
  induction f with
  | zero => intro a l; exact isortN_permQ ..
  | succ f ih =>
    intro a l
    simp only [isP]
    split
    · exact (ih _ _).trans (isortN_permQ ..)
    · exact isortN_permQ ..
theorem mgP_permQ (n s : Nat) : ∀ (f a : Nat) (l : List En), (mgP n s f a l).Perm l := by
  intro f
  induction f with
  | zero => intro a l; simp only [mgP]; split; exact symM_permQ ..; exact .refl _
  | succ f ih =>
    intro a l
    simp only [mgP]
    split
    · exact (ih _ _).trans (symM_permQ ..)
    · split
      · exact symM_permQ ..
      · exact .refl _
theorem stM_permQ (n : Nat) : ∀ (f s : Nat) (l : List En), (stM n f s l).Perm l := by
  intro f
  induction f with
  | zero => intro s l; exact .refl _
  | succ f ih =>
    intro s l
    simp only [stM]
    split
    · exact (ih _ _).trans (mgP_permQ ..)
    · exact .refl _
theorem stable_permQ (l : List En) : (stable l).Perm l := (stM_permQ ..).trans (isP_permQ ..)
/-- No later digest is less. -/
abbrev Asc (fs : List En) : Prop := fs.Pairwise fun x y => Op.bytesLess y.d x.d = false
theorem stable_asc (l : List En) : Asc (stable l) := by
  rw [Asc, List.pairwise_iff_getElem]
  intro i j hi hj hij
  have hl : (stable l).length = l.length := (stable_permQ l).length_eq
  have h := stable_sorts l i j (Nat.zero_le _) (Nat.le_of_lt hij) (by omega)
  have hm : (stable l)[j] ∈ l := (stable_permQ l).mem_iff.1 (List.getElem_mem hj)
  have h2 : ltE (stable l)[j] (stable l)[i] = false := by
    rw [kap_lt hm]
    simp only [ky, List.getElem?_eq_getElem hi, List.getElem?_eq_getElem hj] at h
    exact decide_eq_false (Nat.not_lt.2 h)
  simp only [ltE] at h2
  by_cases e : (stable l)[j].d = (stable l)[i].d
  · rw [e]; exact bl_irrefl _
  · rwa [if_pos e] at h2
section
variable {fs : List En} {d : List UInt8}
def blA (fs : List En) (d : List UInt8) (h : Nat) : Bool := match fs[h]? with
  | some x => Op.bytesLess x.d d
  | none => false
/-- The rows of a digest, from the first one on. -/
def run (fs : List En) (d : List UInt8) : List En := (fs.drop (bsch (blA fs d) fs.length 0 fs.length)).takeWhile fun x => decide (x.d = d)
end
end Go.Proofs
namespace Go.Proofs
open Go Go.Sl Tryz
set_option maxRecDepth 100000
set_option maxHeartbeats 1000000
section
variable {x : Cx} {s : Slots} {H : HP} {d : Nat} {p q : Operand} {ty t t' : TypeId} {pos : String} {af : Array Edge} {gd' : Option (Nat × Bool)} {u v : Value} {la lb bs : List UInt8} {e : TypeId}
theorem _root_.Go.Sl.BS.mono {K K' : HP} (h : BS K v bs) (hs : ∀ p ∈ K, p ∈ K') : BS K' v bs := by
  cases h with
  | emp => exact .emp
  | blk hm hc hn h63 => exact .blk (hs _ hm) hc hn h63
theorem _root_.Go.Sl.BS.run {a : Act} {w : World} (hs : St x s H a w) (h : BS x.G v bs) : (Extern.Bytes.bytesOf v).run x.P w = .ok ⟨bs.toArray⟩ w := by
  cases h with
  | @emp A cap => cases A <;> rfl
  | @blk g off n cap l e fr _ hm hc hn h63 => exact Bv.run hs (.blk (.inr hm) hc.len hc)
theorem e_cmpS {ats : Array TypeId} (hx : x.P = prog) (hp : ev s p = some v) (hq : ev s q = some u) (ha : BS x.G v la) (hb : BS x.G u lb) :
    Ex x s H ⟨some d, .call { callee := .value (.func 362), args := #[p, q], argTypes := ats }, ty, pos, af, gd'⟩ (.int .i64 (Lib.compareBytes la lb)) := fun a w hs => by
  have h1 := ha.run hs
  have h2 := hb.run hs
  rw [hx] at h1 h2
  have hc : (callFunc 362 #[v, u]).run prog w = .ok (.value (.int .i64 (Lib.compareBytes la lb))) w := by
    rw [run_callFunc_extern func362 (by kernel_rfl) (by kernel_rfl) (by kernel_rfl) (e := Extern.BytealgCompare.compare) (by kernel_rfl)]
    have : (Extern.BytealgCompare.compare #[v, u]).run prog w = .ok (.int .i64 (Lib.compareBytes la lb)) w := by
      change Sem.run prog (do pure (goInt (Extern.BytealgCompare.cmp (← Extern.Bytes.bytesOf v) (← Extern.Bytes.bytesOf u)))) w = _
      simp only [Sem.run_bind, h1, h2, Result.andThen_ok, Sem.run_pure, Lib.cmp_eq, goInt]
    rw [this]
    rfl
  rw [hx]
  have he : a.eval (.func 362) = .func (.func 362) #[] #[] := rfl
  simp [execOp, resolve, he, Deferred.ofValue, invoke, hs.eval hp, hs.eval hq, hc]
theorem e_mulN {m n : Nat} (hp : ev s p = some (.int .i64 (m : Nat))) (hq : ev s q = some (.int .i64 (n : Nat))) (h : m * n < 9223372036854775808) : Ex x s H ⟨some d, .binOp .mul t p q t', ty, pos, af, gd'⟩ (.int .i64 ((m * n : Nat) : Int)) := by
  have := e_muln (x := x) (s := s) (H := H) (d := d) (ty := ty) (pos := pos) (af := af) (gd := gd') (t := t) (t' := t') hp hq (by
    have e : ((m : Nat) : Int) * ((n : Nat) : Int) = ((m * n : Nat) : Int) := by simp
    rw [e]; simp only [inR]; generalize m * n = z at h ⊢; omega)
  rwa [show ((m : Nat) : Int) * ((n : Nat) : Int) = ((m * n : Nat) : Int) by simp] at this
end
section
variable {G : HP} {u v : Value} {la lb : List UInt8}
theorem compare_is (ha : BS G v la) (hb : BS G u lb) : CtrP prog 342 [v, u] G (.int .i64 (Lib.compareBytes la lb)) := by
  refine fn_enter 8 func342 rfl ntmps342 rfl ?_
  intro w0
  refine gn 9 ?_
  refine oX (e_cmpS rfl rfl rfl ha hb) ?_
  refine gn 4 ?_
  refine r_fn1 results342 rfl ?_
  exact ⟨rfl, rfl⟩
end
/-- A bucket's rows as bytes. -/
def rws (fs : List En) : List UInt8 := fs.flatMap fun x => x.d ++ lowB x.o 8
theorem rws_length {n : Nat} : ∀ (fs : List En), (∀ x ∈ fs, x.d.length = n) → (rws fs).length = fs.length * (n + 8)
  | [], _ => by simp [rws]
  | a :: fs, h => by
    have ih := rws_length fs fun x hx => h x (.tail _ hx)
    simp only [rws, List.flatMap_cons, List.length_append, lowB_length, List.length_cons] at ih ⊢
    rw [ih, h a (.head _), Nat.succ_mul]; omega
end Go.Proofs

/- spec.sortedBytes; spec.IndexBody; spec.IndexBytes; What is cut off of an index within its numbers; The parts of an index, read; A part written; The parts of an index with codes, read; Rows of numbers, sorted in memory: comparisons, insertion sort; Rows of numbers, sorted in memory: heaps; Rows of numbers, sorted in memory: the pivot. (A part of the proof of this: for every input laws.FnWrOptions returns true and its arguments read as they did, the listed package variables being what the program lays) -/
import Derived.Test.YtochgglejmfelaaGreatDoorLSlZ
import Derived.Test.YtochgglejmfelaaGreatDoorL08
import Derived.Test.YtochgglejmfelaaGreatDoorL06
import Derived.Test.YtochgglejmfelaaGreatDoorL03
set_option linter.unusedVariables false
set_option linter.unusedSimpArgs false
namespace Go.Proofs
open Go Go.Sl Tryz
set_option maxRecDepth 100000
set_option maxHeartbeats 2000000
theorem sortedBytes_is {G HB : HP} {v vl : Value} {l : List En} {m : Nat} {xs : List Value} (ho : Osl 5 1 v m xs HB) (h : EnS G vl l) (hl : l.length ≤ 100) (hd : ∀ x ∈ l, x.d.length ≤ 200) (hm : m ≤ 500000000) :
    Ctr prog 71 [v, vl] G HB (fun r H' => Osl 5 1 r (m + (sortedB l).length) (xs ++ B (sortedB l)) H') := by
  refine fn_enter 62 func71 rfl ntmps71 rfl ?_
  intro w0
  refine gn 8 ?_
  refine oL (lC (widths_is h (by omega) (fun x hx => by have := hd x hx; omega)) rfl .nil) ?_
  rintro ⟨vw, Hw⟩ hw
  rcases hw.openV with ⟨rfl, rfl, h0⟩ | ⟨gw, capw, restw, low, hiw, rfl, rfl, a2, a3, a4, a5⟩
  · simp only [List.nil_append]
    refine gn 9 ?_
    refine oL (lC (low_is (k := 4) ho (by decide) (by omega)) rfl (by simpa using Sel.app HB [])) ?_
    rintro ⟨v1, HB1⟩ ho1
    simp only [List.append_nil]
    refine gn 6 ?_
    refine oL (lC (byDigest_is h (by omega)) rfl .nil) ?_
    rintro ⟨vs, Hs⟩ hs
    refine gn 12 ?_
    refine c_rounds 1 ?_
    refine gn 19 ?_
    refine WR.less (fun _ _ h => h) (List.sublist_append_right _ _) ?_
    refine r_fn1 results71 rfl ?_
    have e : sortedB l = lowB 0 4 := by simp [sortedB, h0]
    rw [e, lowB_length]
    exact ho1
  · skip
    have hwl := widths_len l
    refine gn 9 ?_
    refine o_perm (List.perm_append_comm (l₁ := [_])) ?_
    refine oL (lC (low_is (k := 4) ho (by decide) (by omega)) rfl (Sel.app HB _)) ?_
    rintro ⟨v1, HB1⟩ ho1
    simp only at ho1 ⊢
    refine gn 6 ?_
    refine oL (lC (byDigest_is h (by omega)) rfl .nil) ?_
    rintro ⟨vs, Hs⟩ hs
    simp only at hs ⊢
    have hno : ∀ u w, Osl 56 5 u l.length (cells5 (stable l)) w → (u = .slice none 0 0 ∧ w = [] ∧ l = []) ∨ ∃ g cap rest lo hi, u = .slice (some ⟨g, 0, none⟩) l.length cap ∧ w = [(g, .cells (cells5 (stable l) ++ rest).toArray 56 (lo, hi))] ∧ l.length ≤ cap ∧ cap < 9223372036854775808 := by
      intro u w hu
      generalize hN : l.length = N at hu
      generalize hX : cells5 (stable l) = X at hu
      cases hu with
      | nil => exact .inl ⟨rfl, rfl, List.length_eq_zero_iff.1 hN⟩
      | own b1 b2 b3 b4 b5 => exact .inr ⟨_, _, _, _, _, rfl, rfl, b3, b4⟩
    rcases hno vs Hs hs with ⟨rfl, rfl, hnil⟩ | ⟨gq, capd, restd, lod, hid, rfl, rfl, b3, b4⟩
    · have hw0 : (widths l).length = 0 := by subst hnil; simpa using hwl
      rw [hw0] at ho1 ⊢
      refine gn 12 ?_
      refine c_rounds 1 ?_
      refine gn 19 ?_
      refine WR.less (fun _ _ h => h) (List.sublist_append_left HB1 [_]) ?_
      refine r_fn1 results71 rfl ?_
      have e : sortedB l = lowB 0 4 := by simp [sortedB, List.length_eq_zero_iff.1 hw0]
      rw [e, lowB_length]
      simpa using ho1
    · skip
      have hst : (stable l).length = l.length := stable_length l
      have hd' : ∀ x ∈ stable l, x.d.length ≤ 200 := fun x hx => hd x ((stable_perm l).mem_iff.1 hx)
      refine gn 12 ?_
      refine c_loop (X := Nat × Value × HP) (fun y => [(0, y.2.1), (6, .slice (some ⟨gq, 0, none⟩) l.length capd), (21, .slice (some ⟨gw, 0, none⟩) (widths l).length capw), (22, .int .i64 (widths l).length), (23, .int .i64 y.1)]) (fun y => (gq, .cells (cells5 (stable l) ++ restd).toArray 56 (lod, hid)) :: (gw, VB .i64 (widths l) restw 3 low hiw) :: y.2.2)
        (fun y => y.1 ≤ (widths l).length ∧ Osl 5 1 y.2.1 (m + 4 + (((widths l).take y.1).flatMap (partB (stable l))).length) (xs ++ B (lowB ((widths l).length : Nat) 4) ++ B (((widths l).take y.1).flatMap (partB (stable l)))) y.2.2) (fun y => (widths l).length - y.1) (0, v1, HB1) ⟨Nat.zero_le _, by simpa [B] using ho1⟩ aK (List.Perm.cons _ (List.perm_append_comm (l₂ := [_]))) ?_
      rintro ⟨i, v', HB'⟩ ⟨hi, ho'⟩
      simp only at hi ho' ⊢
      refine gn 6 ?_
      refine c_ifp rfl (fun h2 => ?_) (fun h2 => ?_)
      · have hi2 : i < (widths l).length := by omega
        have hnx := flat_take (f := partB (stable l)) hi2
        obtain ⟨xw, hxw, hwe⟩ := widths_mem.1 (gd_mem hi2)
        have hxd := hd xw hxw
        have hfl := flat_length ((widths l).take i) (partB (stable l)) 21000 (fun n => partB_length _ n hd' (by omega))
        have hfl2 : ((widths l).take i).length * 21000 ≤ 100 * 21000 := Nat.mul_le_mul_right _ (by simp; omega)
        generalize hwi : gd (widths l) i = wi at hnx hwe
        refine gr 25 ?_
        rw [hwi]
        refine c_loop (X := Nat × Value × HP) (fun z => [(0, v'), (6, .slice (some ⟨gq, 0, none⟩) l.length capd), (8, .int .i64 wi), (9, z.2.1), (21, .slice (some ⟨gw, 0, none⟩) (widths l).length capw), (22, .int .i64 (widths l).length), (23, .int .i64 i), (27, .slice (some ⟨gq, 0, none⟩) l.length capd), (28, .int .i64 l.length), (29, .int .i64 z.1)])
          (fun z => (gq, .cells (cells5 (stable l) ++ restd).toArray 56 (lod, hid)) :: (gw, VB .i64 (widths l) restw 3 low hiw) :: (z.2.2 ++ HB'))
          (fun z => z.1 ≤ l.length ∧ Osl 5 1 z.2.1 (rowsB ((stable l).take z.1) wi).length (B (rowsB ((stable l).take z.1) wi)) z.2.2) (fun z => l.length - z.1) (0, .slice none 0 0, []) ⟨Nat.zero_le _, .nil⟩ aK (.refl _) ?_
        rintro ⟨j, vr, HR⟩ ⟨hj, hr⟩
        simp only at hj hr ⊢
        refine gn 6 ?_
        refine c_ifp rfl (fun h4 => ?_) (fun h4 => ?_)
        · have hj2 : j < (stable l).length := by omega
          have hcut : CutL (cells5 (stable l) ++ restd) (0 + j * 5) 5 (cE (stable l)[j]) := by rw [Nat.zero_add]; exact cells5_cut hj2 restd
          have hrx := rowsB_take (n := wi) hj2
          have hxj := hd' _ (List.getElem_mem hj2)
          have hrl := rowsB_length ((stable l).take j) wi 200 (fun x hx => hd' x (List.mem_of_mem_take hx))
          have hrl2 : ((stable l).take j).length * 208 ≤ 100 * 208 := Nat.mul_le_mul_right _ (by simp; omega)
          generalize (stable l)[j] = x at hcut hrx hxj
          obtain ⟨xv, xc, xh, xd, xo⟩ := x
          simp only [cE] at hcut hrx hxj
          refine gn 7 ?_
          refine oX (e_loada isAgg56 sizeOf56 rfl (.inl (.head _)) hcut) ?_
          refine oZ ?_; intro g11 _
          refine oL (l_storea sizeOf56 rfl rfl rfl (by simp [Value.oneCell']) .head (.take (.take (.take (.take (.take .done))))) nofrs0) ?_
          intro _ _
          refine gn 12 ?_
          refine c_ifp rfl (fun h5 => ?_) (fun h5 => ?_)
          · rw [if_pos h5] at hrx
            refine c_regiond ([(g11, C [.int .u64 xv, .int .u64 xc, .int .u64 xh, S xd, .int .u64 xo] 56)]) (by kernel_rfl) (.cons_cons _ (List.nil_sublist _)) ?_
            refine rd [0, 1, 2, 3, 5, 6] ?_
            refine dL 4 rfl (l_append (sz := 1) (HB := HR) underlying72 (info_of typeInfo5) rfl rfl rfl rfl rfl rfl hr (perm_mid [_, _, _] HR HB') (.str underlying9 rfl) (by show _ * 1 ≤ _; omega) (by omega)) ?_
            rintro ⟨v2, HR2⟩ hr2
            simp only at hr2 ⊢
            refine dL 7 rfl (lC (low_is (k := 8) hr2 (by decide) (by omega)) rfl (Sel.app HR2 _)) ?_
            rintro ⟨v3, HR3⟩ hr3
            simp only at hr3 ⊢
            refine ld [8] ?_
            refine gn 7 ?_
            refine n_round' (y := (j, vr, HR)) (j + 1, v3, HR3) (by show l.length - (j + 1) < l.length - j; omega) ⟨by show j + 1 ≤ l.length; omega, ?_⟩ aK _ (perm_mid [_, _, _] HR3 HB').symm (.cons _ (List.Sublist.refl _))
            simp only [hrx]
            rw [List.length_append, List.length_append, lowB_length, B_append, B_append, ← List.append_assoc, ← Nat.add_assoc]
            exact hr3
          · rw [if_neg h5, List.append_nil] at hrx
            refine gn 7 ?_
            refine n_round' (y := (j, vr, HR)) (j + 1, vr, HR) (by show l.length - (j + 1) < l.length - j; omega) ⟨by show j + 1 ≤ l.length; omega, ?_⟩ aK _ (.refl _) (.cons _ (List.Sublist.refl _))
            simp only [hrx]
            exact hr
        · skip
          have hje : (stable l).take j = stable l := List.take_of_length_le (by omega)
          rw [hje] at hr
          have hrl := rowsB_length (stable l) wi 200 hd'
          have hrl2 : (stable l).length * 208 ≤ 100 * 208 := Nat.mul_le_mul_right _ (by omega)
          refine gn 11 ?_
          refine oL (lC (low_is (n := wi + 8) (k := 4) ho' (by decide) (by omega)) rfl (Sel.appR ([_, _] ++ HR) HB')) ?_
          rintro ⟨v2, HB2⟩ ho2
          simp only at ho2 ⊢
          refine gn 8 ?_
          refine oL (lC (low_is (k := 8) ho2 (by decide) (by omega)) rfl (Sel.app HB2 _)) ?_
          rintro ⟨v3, HB3⟩ ho3
          simp only at ho3 ⊢
          refine gn 1 ?_
          refine oL (l_append (sz := 1) (HB := HB3) underlying72 (info_of typeInfo5) rfl rfl rfl rfl rfl rfl ho3 (.refl _) (hr.sv underlying72 (by simp; intro a b hab; exact .inr (.inr (.inr hab))) (B_one _)) (by show _ * 1 ≤ _; omega) (by omega)) ?_
          rintro ⟨v4, HB4⟩ ho4
          simp only at ho4 ⊢
          refine gn 8 ?_
          refine n_round' (y := (i, v', HB')) (i + 1, v4, HB4) (by show (widths l).length - (i + 1) < (widths l).length - i; omega) ⟨by show i + 1 ≤ (widths l).length; omega, ?_⟩ aK _ List.perm_append_comm (.cons_cons _ (.cons_cons _ (List.sublist_append_right _ _)))
          simp only [hnx, partB]
          rw [List.length_append, List.length_append, List.length_append, lowB_length, lowB_length, B_append, B_append, B_append, ← List.append_assoc, ← List.append_assoc, ← List.append_assoc, ← Nat.add_assoc, ← Nat.add_assoc, ← Nat.add_assoc]
          exact ho4
      · skip
        refine gn 12 ?_
        refine WR.less (fun _ _ h => h) (.cons _ (.cons _ (List.Sublist.refl _))) ?_
        refine r_fn1 results71 rfl ?_
        have : i = (widths l).length := by omega
        subst this
        rw [List.take_length] at ho'
        have e : m + (sortedB l).length = m + 4 + ((widths l).flatMap (partB (stable l))).length := by simp [sortedB, lowB_length]; omega
        rw [e, sortedB, B_append, ← List.append_assoc]
        exact ho'
end Go.Proofs
namespace Go.Sl
open Go
theorem B_inj {a b : List UInt8} (h : B a = B b) : a = b := by
  induction a generalizing b with
  | nil => cases b with
    | nil => rfl
    | cons y b => simp [B] at h
  | cons x a ih => cases b with
    | nil => simp [B] at h
    | cons y b =>
      simp only [B, List.map_cons, List.cons.injEq, Value.int.injEq, true_and] at h
      rw [ih (show B a = B b from h.2), UInt8.toNat_inj.1 (by omega : x.toNat = y.toNat)]
/-- A string of bytes that a slice holds. -/
theorem e_bsO {x : Cx} {s : Slots} {H HB : HP} {d n : Nat} {p : Operand} {ty t t' e : TypeId} {pos : String} {af : Array Edge} {gd' : Option (Nat × Bool)} {v : Value} {bs : List UInt8} (hU : x.P.underlying t = some (.slice e)) (hU8 : x.P.underlying e = some (.int .u8)) (hU' : x.P.underlying t' = some .string) (ho : Osl e 1 v n (B bs) HB) (hm : ∀ p ∈ HB, p ∈ H) (hp : ev s p = some v) :
    Ex x s H ⟨some d, .convert t t' p, ty, pos, af, gd'⟩ (S bs) := by
  generalize hX : B bs = X at ho
  cases ho with
  | nil =>
    obtain rfl : bs = [] := B_inj (b := []) hX
    exact e_bsn hU hU8 hU' hp
  | @own g n cap lo hi xs rest a1 a2 a3 a4 a5 =>
    subst hX
    refine e_bs hU hU8 hU' hp (.inl (hm _ (.head _))) ?_
    have := CutL.of (l := B bs ++ rest) (i := 0) (n := n) (by simp; omega)
    simpa [← (show (B bs).length = n by omega)] using this
end Go.Sl
namespace Go.Proofs
open Go Go.Sl Tryz
set_option maxRecDepth 100000
set_option maxHeartbeats 2000000
theorem osl_ens {G HB : HP} {v : Value} {l : List En} (ho : Osl 56 5 v l.length (cells5 l) HB) : EnS (G ++ HB) v l := by
  generalize hN : l.length = N at ho
  generalize hX : cells5 l = X at ho
  cases ho with
  | nil =>
    obtain rfl := List.length_eq_zero_iff.1 hN
    exact .none
  | own a1 a2 a3 a4 a5 =>
    subst hX
    refine .blk (List.mem_append_right _ (.head _)) hN (fun i h => ?_)
    rw [Nat.zero_add]
    exact cells5_cut h _
def codeB (l : List En) (c : Int) : List UInt8 := lowB c 8 ++ sortedB (codedL l c)
def bodyB (l : List En) (kind : Int) : List UInt8 := if kind = 1024 then sortedB l else lowB ((codes l).length : Nat) 4 ++ (codes l).flatMap (codeB l)
theorem codedL_len (l : List En) (c : Int) : (codedL l c).length ≤ l.length := List.length_filter_le _ _
theorem codedL_mem {l : List En} {c : Int} {x : En} (h : x ∈ codedL l c) : x ∈ l := (List.mem_filter.1 h).1
theorem codeB_length (l : List En) (c : Int) (hd : ∀ x ∈ l, x.d.length ≤ 200) (hl : l.length ≤ 100) : (codeB l c).length ≤ 2200008 := by
  have := sortedB_length (codedL l c) (fun x hx => hd x (codedL_mem hx)) (Nat.le_trans (codedL_len l c) hl)
  simp only [codeB, List.length_append, lowB_length]
  omega
theorem codes_len (l : List En) : (codes l).length ≤ l.length := by
  rw [codes, srt_length]
  exact Nat.le_trans (distI_length _) (by simp [hcs])
theorem body_is {G : HP} {vl : Value} {l : List En} {kind : Int} (h : EnS G vl l) (hl : l.length ≤ 100) (hd : ∀ x ∈ l, x.d.length ≤ 200) :
    CtrP prog 38 [vl, .int .u64 kind] G (S (bodyB l kind)) := by
  refine fn_enter 36 func38 rfl ntmps38 rfl ?_
  intro w0
  refine gn 12 ?_
  refine c_ifp rfl (fun h1 => ?_) (fun h1 => ?_)
  · refine gn 3 ?_
    refine oL (lC (sortedBytes_is .nil h hl hd (by decide)) rfl .nil) ?_
    rintro ⟨v, HB⟩ ho
    simp only [Nat.zero_add, List.nil_append] at ho ⊢
    refine oX (e_bsO underlying72 underlying5 underlying9 ho (by simp) rfl) ?_
    refine gn 4 ?_
    refine WR.less (fun _ _ h => h) (List.nil_sublist _) ?_
    refine r_fn1 results38 rfl ?_
    exact ⟨by rw [bodyB, if_pos h1], rfl⟩
  · skip
    have hcl := codes_len l
    refine gn 5 ?_
    refine oL (lC (codes_is h (by omega)) rfl .nil) ?_
    rintro ⟨vc, Hc⟩ hvc
    rcases hvc.openV with ⟨rfl, rfl, h0⟩ | ⟨gc, capc, restc, loc, hic, rfl, rfl, a2, a3, a4, a5⟩
    · simp only [List.nil_append]
      refine gn 8 ?_
      refine oL (lC (low_is (k := 4) .nil (by decide) (by decide)) rfl .nil) ?_
      rintro ⟨v1, HB1⟩ ho1
      simp only [Nat.zero_add, List.nil_append] at ho1 ⊢
      refine gn 12 ?_
      refine c_rounds 1 ?_
      refine gn 15 ?_
      refine oX (e_bsO underlying72 underlying5 underlying9 ho1 (by simp) rfl) ?_
      refine gn 4 ?_
      refine WR.less (fun _ _ h => h) (List.nil_sublist _) ?_
      refine r_fn1 results38 rfl ?_
      exact ⟨by rw [bodyB, if_neg h1, h0]; simp, rfl⟩
    · skip
      refine gn 8 ?_
      refine oL (lC (low_is (k := 4) .nil (by decide) (by decide)) rfl .nil) ?_
      rintro ⟨v1, HB1⟩ ho1
      simp only [Nat.zero_add, List.nil_append] at ho1 ⊢
      refine gn 12 ?_
      refine c_loop (X := Nat × Value × HP) (fun y => [(0, vl), (6, y.2.1), (20, .slice (some ⟨gc, 0, none⟩) (codes l).length capc), (21, .int .i64 (codes l).length), (22, .int .i64 y.1)]) (fun y => (gc, VB .u64 (codes l) restc 23 loc hic) :: y.2.2)
        (fun y => y.1 ≤ (codes l).length ∧ Osl 5 1 y.2.1 (4 + (((codes l).take y.1).flatMap (codeB l)).length) (B (lowB ((codes l).length : Nat) 4 ++ ((codes l).take y.1).flatMap (codeB l))) y.2.2) (fun y => (codes l).length - y.1) (0, v1, HB1) ⟨Nat.zero_le _, by simpa using ho1⟩ aK (List.perm_append_comm (l₂ := [_])) ?_
      rintro ⟨i, v', HB'⟩ ⟨hi, ho'⟩
      simp only at hi ho' ⊢
      refine gn 6 ?_
      refine c_ifp rfl (fun h2 => ?_) (fun h2 => ?_)
      · have hi2 : i < (codes l).length := by omega
        have hnx := flat_take (f := codeB l) hi2
        have hfl := flat_length ((codes l).take i) (codeB l) 2200008 (fun n => codeB_length l n hd hl)
        have hfl2 : ((codes l).take i).length * 2200008 ≤ 100 * 2200008 := Nat.mul_le_mul_right _ (by simp; omega)
        generalize hwi : gd (codes l) i = ci at hnx
        have hcb := codeB_length l ci hd hl
        refine gr 14 ?_
        rw [hwi]
        refine oL (lC (low_is (k := 8) ho' (by decide) (by omega)) rfl (Sel.appR [_] HB')) ?_
        rintro ⟨v2, HB2⟩ ho2
        simp only at ho2 ⊢
        refine gn 2 ?_
        refine oL (lC (coded_is h (by omega)) rfl .nil) ?_
        rintro ⟨vk, Hk⟩ hk
        simp only at hk ⊢
        refine oL (lJ (HJ := Hk) (sortedBytes_is ho2 (osl_ens hk) (Nat.le_trans (codedL_len l ci) hl) (fun x hx => hd x (codedL_mem hx)) (by omega)) rfl (Hr := Hk ++ [_]) (by simpa using Sel.mid Hk HB2 [_]) (fun p hp => List.mem_append_left _ hp)) ?_
        rintro ⟨v3, HB3⟩ ho3
        simp only at ho3 ⊢
        refine gn 8 ?_
        refine n_round' (y := (i, v', HB')) (i + 1, v3, HB3) (by show (codes l).length - (i + 1) < (codes l).length - i; omega) ⟨by show i + 1 ≤ (codes l).length; omega, ?_⟩ aK ((Hk ++ [_]) ++ HB3) List.perm_append_comm (by rw [List.append_assoc]; exact List.sublist_append_right _ _)
        simp only [hnx, codeB]
        rw [List.length_append, List.length_append, lowB_length, ← List.append_assoc, ← List.append_assoc, B_append, B_append (_ ++ _) (lowB _ _), ← Nat.add_assoc, ← Nat.add_assoc]
        exact ho3
      · skip
        have : i = (codes l).length := by omega
        subst this
        rw [List.take_length] at ho'
        refine gn 8 ?_
        refine oX (e_bsO underlying72 underlying5 underlying9 ho' (fun _ h => .tail _ h) rfl) ?_
        refine gn 4 ?_
        refine WR.less (fun _ _ h => h) (List.nil_sublist _) ?_
        refine r_fn1 results38 rfl ?_
        exact ⟨by rw [bodyB, if_neg h1], rfl⟩
end Go.Proofs
namespace Go.Proofs
open Go Go.Sl Tryz
set_option maxRecDepth 100000
set_option maxHeartbeats 2000000
theorem varint_1024 {G : HP} : Ctr prog 37 [.int .u64 1024] G [] (fun r H' => Osl 5 1 r 2 (B [128, 8]) H') := by
  refine fn_enter 19 func37 rfl ntmps37 rfl ?_
  intro w0
  refine gn 12 ?_
  refine c_rounds 2 ?_
  refine gn 17 ?_
  refine oL (l_bs1 runUnderlying72 sizeOf5 zeroValue5 rfl rfl rfl) ?_; intro g10 _
  refine oL (l_append (sz := 1) (HB := []) underlying72 (info_of typeInfo5) rfl rfl rfl rfl rfl rfl .nil (.refl _) (.blk underlying72 (.inl (.head _)) (.take .done) (by simp [Value.oneCell'])) (by show _ * 1 ≤ _; omega) (by omega)) ?_
  rintro ⟨v2, HB2⟩ ho2
  simp only at ho2 ⊢
  refine gn 9 ?_
  refine n_rounds ?_
  refine gn 18 ?_
  refine oL (l_bs1 runUnderlying72 sizeOf5 zeroValue5 rfl rfl rfl) ?_; intro g17 _
  refine oL (l_append (sz := 1) (HB := HB2) underlying72 (info_of typeInfo5) rfl rfl rfl rfl rfl rfl ho2 (perm_mid [_] HB2 _) (.blk underlying72 (.inl (.head _)) (.take .done) (by simp [Value.oneCell'])) (by show _ * 1 ≤ _; omega) (by omega)) ?_
  rintro ⟨v3, HB3⟩ ho3
  simp only at ho3 ⊢
  refine gn 4 ?_
  refine WR.less (fun _ _ h => h) (List.sublist_append_left _ _) ?_
  refine r_fn1 results37 rfl ?_
  exact ho3
theorem varint_1025 {G : HP} : Ctr prog 37 [.int .u64 1025] G [] (fun r H' => Osl 5 1 r 2 (B [129, 8]) H') := by
  refine fn_enter 19 func37 rfl ntmps37 rfl ?_
  intro w0
  refine gn 12 ?_
  refine c_rounds 2 ?_
  refine gn 17 ?_
  refine oL (l_bs1 runUnderlying72 sizeOf5 zeroValue5 rfl rfl rfl) ?_; intro g10 _
  refine oL (l_append (sz := 1) (HB := []) underlying72 (info_of typeInfo5) rfl rfl rfl rfl rfl rfl .nil (.refl _) (.blk underlying72 (.inl (.head _)) (.take .done) (by simp [Value.oneCell'])) (by show _ * 1 ≤ _; omega) (by omega)) ?_
  rintro ⟨v2, HB2⟩ ho2
  simp only at ho2 ⊢
  refine gn 9 ?_
  refine n_rounds ?_
  refine gn 18 ?_
  refine oL (l_bs1 runUnderlying72 sizeOf5 zeroValue5 rfl rfl rfl) ?_; intro g17 _
  refine oL (l_append (sz := 1) (HB := HB2) underlying72 (info_of typeInfo5) rfl rfl rfl rfl rfl rfl ho2 (perm_mid [_] HB2 _) (.blk underlying72 (.inl (.head _)) (.take .done) (by simp [Value.oneCell'])) (by show _ * 1 ≤ _; omega) (by omega)) ?_
  rintro ⟨v3, HB3⟩ ho3
  simp only at ho3 ⊢
  refine gn 4 ?_
  refine WR.less (fun _ _ h => h) (List.sublist_append_left _ _) ?_
  refine r_fn1 results37 rfl ?_
  exact ho3
theorem bodyB_length (l : List En) (kind : Int) (hd : ∀ x ∈ l, x.d.length ≤ 200) (hl : l.length ≤ 100) : (bodyB l kind).length ≤ 300000000 := by
  have h1 := sortedB_length l hd hl
  have h2 := flat_length (codes l) (codeB l) 2200008 (fun n => codeB_length l n hd hl)
  have h3 := codes_len l
  have h4 : (codes l).length * 2200008 ≤ 100 * 2200008 := Nat.mul_le_mul_right _ (by omega)
  unfold bodyB
  split
  · omega
  · simp only [List.length_append, lowB_length]; omega
/-- What begins an index. -/
def kindB (kind : Int) : List UInt8 := if kind = 1024 then [128, 8] else [129, 8]
def indexB (l : List En) (kind : Int) : List UInt8 := kindB kind ++ bodyB l kind
theorem kindB_length (kind : Int) : (kindB kind).length = 2 := by unfold kindB; split <;> rfl
theorem varint_kind {G : HP} {kind : Int} (hk : kind = 1024 ∨ kind = 1025) : Ctr prog 37 [.int .u64 kind] G [] (fun r H' => Osl 5 1 r 2 (B (kindB kind)) H') := by
  rcases hk with rfl | rfl
  · exact varint_1024
  · exact varint_1025
theorem indexBytes_is {G : HP} {vl : Value} {l : List En} {kind : Int} (h : EnS G vl l) (hl : l.length ≤ 100) (hd : ∀ x ∈ l, x.d.length ≤ 200) (hk : kind = 1024 ∨ kind = 1025) :
    CtrP prog 15 [vl, .int .u64 kind] G (S (indexB l kind)) := by
  have hbl := bodyB_length l kind hd hl
  have hkl := kindB_length kind
  refine fn_enter 12 func15 rfl ntmps15 rfl ?_
  intro w0
  refine gn 6 ?_
  refine c_regiond ([]) (by kernel_rfl) (by first | exact List.Sublist.refl _ | exact List.nil_sublist _ | (repeat constructor)) ?_
  refine ld [0, 3, 4] ?_
  refine dL 1 rfl (lC (varint_kind hk) rfl .nil) ?_
  rintro ⟨vv, HBv⟩ hv
  simp only at hv ⊢
  refine d_l2 2 5 (by kernel_rfl) rfl rfl rfl rfl (l_q rfl (e_bsO underlying72 underlying5 underlying9 hv (by simp) rfl)) (l_call call38 (body_is h hl hd) rfl rfl .nil) (fun _ _ _ h => by cases h) (fun _ _ _ h => by cases h) ?_ ?_
  · intro _ _
    refine dL 5 rfl (lC (body_is h hl hd) rfl .nil) ?_
    rintro ⟨r, H'⟩ ⟨rfl, rfl⟩
    simp only [List.nil_append]
    refine dX 6 rfl (e_sadd rfl rfl (by omega)) ?_
    refine ld [7] ?_
    refine gn 3 ?_
    refine WR.less (fun _ _ h => h) (List.nil_sublist _) ?_
    refine r_fn1 results15 rfl ?_
    exact ⟨rfl, rfl⟩
  · skip
    rintro ⟨r, H'⟩ ⟨rfl, rfl⟩
    simp only [List.nil_append]
    refine d_le 2 (by kernel_rfl) rfl rfl rfl rfl (fun _ h => by cases h) (e_bsO underlying72 underlying5 underlying9 hv (by simp) rfl) ?_
    refine dX 6 rfl (e_sadd rfl rfl (by omega)) ?_
    refine ld [7] ?_
    refine gn 3 ?_
    refine WR.less (fun _ _ h => h) (List.nil_sublist _) ?_
    refine r_fn1 results15 rfl ?_
    exact ⟨rfl, rfl⟩
end Go.Proofs
namespace Go.Proofs
open Go Go.Sl
theorem lowb_nat (k i : Nat) : (lowb (k : Nat) i).toNat = k / 2 ^ (8 * i) % 256 := by
  unfold lowb
  have h : ((k : Nat) : Int) / 2 ^ (8 * i) % 256 = ((k / 2 ^ (8 * i) % 256 : Nat) : Int) := by simp
  rw [h, Int.toNat_natCast, UInt8.toNat_ofNat']
  omega
theorem codes_mem {l : List En} {a : Int} : a ∈ codes l ↔ ∃ x ∈ l, x.h = a := by
  rw [codes, srt_mem, distI_mem, hcs, List.mem_map]
end Go.Proofs
namespace Go.Proofs
open Go Go.Sl Tryz
set_option maxRecDepth 100000
set_option maxHeartbeats 1000000
/-- A part: the width of its rows, the rows. -/
abbrev Part := Nat × List UInt8
def pbB (p : Part) : List UInt8 := lowB (p.1 : Nat) 4 ++ (lowB (p.2.length : Nat) 8 ++ p.2)
theorem pbB_length (p : Part) : (pbB p).length = 12 + p.2.length := by simp [pbB, lowB_length]; omega
theorem le_lowB8 (k : Nat) (h : k < 18446744073709551616) : le (lowB (k : Nat) 8) = k := by
  have e : lowB (k : Nat) 8 = [lowb (k : Nat) 0, lowb (k : Nat) 1, lowb (k : Nat) 2, lowb (k : Nat) 3, lowb (k : Nat) 4, lowb (k : Nat) 5, lowb (k : Nat) 6, lowb (k : Nat) 7] := rfl
  rw [e]
  simp only [le, lowb_nat]
  omega
/-- A part in memory: its rows' block, the part. -/
abbrev Mpart := Nat × Part
def MV (ts : List Mpart) : List (Int × Value) := ts.map fun t => ((t.2.1 : Nat), .agg #[.int .u32 (t.2.1 : Nat), .int .u64 (t.2.2.length / t.2.1 : Nat), .slice (some ⟨t.1, 0, none⟩) t.2.2.length t.2.2.length])
def MB (ts : List Mpart) : HP := ts.map fun t => (t.1, C (B t.2.2) 5)
theorem MV_none {ts : List Mpart} {w : Nat} (h : w ∉ ts.map fun t => t.2.1) : mget (MV ts) (w : Nat) = none := by
  induction ts with
  | nil => rfl
  | cons t ts ih =>
    simp only [List.map_cons, List.mem_cons, not_or] at h
    simp only [MV, List.map_cons, mget]
    rw [if_neg (by omega)]
    exact ih h.2
/-- What a part may be. -/
structure PartOk (p : Part) : Prop where
  h1 : 8 ≤ p.1
  h2 : p.1 ≤ 33554432
  h3 : 0 < p.2.length
theorem drop_at {a b bs : List UInt8} {p : Nat} (h : bs = a ++ b) (hp : a.length = p) : bs.drop p = b := by
  subst hp; subst h; simp
theorem flat_split {ps : List Part} {i : Nat} (h : i < ps.length) : ps.flatMap pbB = (ps.take i).flatMap pbB ++ (pbB ps[i] ++ (ps.drop (i + 1)).flatMap pbB) := by
  have e : ps = ps.take i ++ (ps[i] :: ps.drop (i + 1)) := by simp
  conv => lhs; rw [e]
  rw [List.flatMap_append, List.flatMap_cons]
theorem flat_succ {ps : List Part} {i : Nat} (h : i < ps.length) : (ps.take (i + 1)).flatMap pbB = (ps.take i).flatMap pbB ++ pbB ps[i] := by
  rw [List.take_succ_eq_append_getElem h, List.flatMap_append]; simp
end Go.Proofs
namespace Go.Proofs
open Go Go.Sl Tryz
set_option maxRecDepth 100000
set_option maxHeartbeats 1000000
section
variable {G : HP} {g gb gd : Nat} {bs d : List UInt8} {HB : HP} {lr : Int} {v : Value}
theorem swiM_is {w : Nat} {q : Int} (hb : Bb v bs HB) (hg : (g, C [.int .u32 w, .int .u64 q, .slice (some ⟨gd, 0, none⟩) d.length d.length] 448) ∈ G) (hd : (gd, DB d [] 0 0) ∈ G) (h0 : 0 < d.length) (h1 : d.length < 536870912) (h2 : bs.length < 536870912) :
    Ctr prog 340 [.pointer (some ⟨g, 0, none⟩), .iface 89 (.pointer (some ⟨gb, 0, none⟩))] G ((gb, Bu v lr) :: HB) (fun r H' => ∃ (z : Int) (v' : Value) (HB' : HP), r = .tuple #[.int .u64 z, .nilIface] ∧ Bb v' (bs ++ pbB (w, d)) HB' ∧ H' = (gb, Bu v' 0) :: HB') := by
  refine fn_enter 53 func340 rfl ntmps340 rfl ?_
  intro w0
  refine gn 19 ?_
  refine oL (lC (w32_is (k := w) hb (by omega)) rfl (.cons .head (by simpa using Sel.app HB []))) ?_
  rintro ⟨r, H'⟩ ⟨rfl, v1, HB1, hb1, rfl⟩
  simp only [List.cons_append, List.append_nil]
  refine gn 29 ?_
  refine oL (lC (w64_is (k := d.length) hb1 (by simp [lowB_length]; omega)) rfl (.cons .head (by simpa using Sel.app HB1 []))) ?_
  rintro ⟨r, H'⟩ ⟨rfl, v2, HB2, hb2, rfl⟩
  simp only [List.cons_append, List.append_nil]
  refine gn 20 ?_
  refine c_regiong [8] (by kernel_rfl) ?_
  refine lg [0, 1, 2, 3, 1004, 5, 6, 7] ?_
  refine gL 8 rfl (lI (write_is hb2 hd rfl h0 (by omega) (by simp [lowB_length]; omega) (by intro h; simp [lowB] at h) (Nat.le_refl _)) rfl rfl (.cons .head (by simpa using Sel.app HB2 []))) ?_
  rintro ⟨r, H'⟩ ⟨v3, HB3, rfl, hb3, rfl⟩
  simp only [List.cons_append, List.append_nil]
  refine ld [9, 10, 11, 12, 13] ?_
  refine gn 14 ?_
  refine r_fn (l := [.tmp 4, .tmp 5]) results340 rfl rfl ?_
  refine ⟨_, v3, HB3, rfl, ?_, rfl⟩
  simpa [pbB] using hb3
end
end Go.Proofs
namespace Go.Proofs
open Go Go.Sl Tryz
set_option maxRecDepth 100000
set_option maxHeartbeats 1000000
/-- A code and its parts. -/
abbrev Cpart := Nat × List Part
def pmB (ps : List Part) : List UInt8 := lowB (ps.length : Nat) 4 ++ ps.flatMap pbB
def pcB (c : Cpart) : List UInt8 := lowB (c.1 : Nat) 8 ++ pmB c.2
theorem pmB_length (ps : List Part) : (pmB ps).length = 4 + (ps.flatMap pbB).length := by simp [pmB, lowB_length]
theorem pcB_length (c : Cpart) : (pcB c).length = 12 + (c.2.flatMap pbB).length := by simp [pcB, pmB_length, lowB_length]; omega
/-- A code's parts in memory: the block, the map's block, the code, the parts. -/
structure Mcode where
  gc : Nat
  gx : Nat
  code : Nat
  ts : List Mpart
def Mcode.hp (m : Mcode) : HP := (m.gc, C [.map (some m.gx), .int .u64 m.code] 437) :: (m.gx, Mo .u32 (MV m.ts)) :: MB m.ts
def KV (cs : List Mcode) : List (Int × Value) := cs.map fun m => ((m.code : Nat), .pointer (some ⟨m.gc, 0, none⟩))
def KB (cs : List Mcode) : HP := cs.flatMap Mcode.hp
theorem KV_snoc (cs : List Mcode) (m : Mcode) : KV (cs ++ [m]) = KV cs ++ KV [m] := by simp [KV]
theorem KB_snoc (cs : List Mcode) (m : Mcode) : KB (cs ++ [m]) = KB cs ++ m.hp := by simp [KB]
theorem KV_none {cs : List Mcode} {c : Nat} (h : c ∉ cs.map fun t => t.code) : mget (KV cs) (c : Nat) = none := by
  induction cs with
  | nil => rfl
  | cons t cs ih =>
    simp only [List.map_cons, List.mem_cons, not_or] at h
    simp only [KV, List.map_cons, mget]
    rw [if_neg (by omega)]
    exact ih h.2
theorem cflat_split {cs : List Cpart} {i : Nat} (h : i < cs.length) : cs.flatMap pcB = (cs.take i).flatMap pcB ++ (pcB cs[i] ++ (cs.drop (i + 1)).flatMap pcB) := by
  have e : cs = cs.take i ++ (cs[i] :: cs.drop (i + 1)) := by simp
  conv => lhs; rw [e]
  rw [List.flatMap_append, List.flatMap_cons]
theorem cflat_succ {cs : List Cpart} {i : Nat} (h : i < cs.length) : (cs.take (i + 1)).flatMap pcB = (cs.take i).flatMap pcB ++ pcB cs[i] := by
  rw [List.take_succ_eq_append_getElem h, List.flatMap_append]; simp
theorem Rem.app (A : HP) {B B' : HP} {p : Nat × Obj} (h : Rem B p B') : Rem (A ++ B) p (A ++ B') := by
  induction A with
  | nil => exact h
  | cons _ _ ih => exact .tail ih
section
variable {G : HP} {gr gs gm gx gc gX em n cap i0 lo hi : Nat} {bs pre post : List UInt8} {rest zs : List Value}
theorem put_is {gh c : Nat} {ks : List (Int × Value)} {z : Value} (hz : mget ks (c : Nat) = none) :
    Ctr prog 317 [.pointer (some ⟨gh, 0, none⟩), .pointer (some ⟨gc, 0, none⟩)] G [(gX, Mo .u64 ks), (gc, C [z, .int .u64 c] 437), (gh, C [.map (some gX)] em)] (fun _ H' => H' = [(gX, Mo .u64 (ks ++ [(((c : Nat) : Int), Value.pointer (some ⟨gc, 0, none⟩))])), (gc, C [z, .int .u64 c] 437), (gh, C [.map (some gX)] em)]) := by
  refine fn_enter 12 func317 rfl ntmps317 rfl ?_
  intro w0
  refine c_regiong [8] (by kernel_rfl) ?_
  refine lg [0, 1, 1002, 3, 4, 5, 1006, 7] ?_
  refine gL 8 rfl (l_mapup runUnderlying330 runUnderlying23 rfl rfl rfl .head) ?_
  intro _ _
  rw [mset_new _ hz]
  refine gn 1 ?_
  refine n_fn0 results317 ?_
  rfl
end
end Go.Proofs
namespace Go.Proofs.A4
open Go Go.Sl Tryz
set_option maxRecDepth 100000
set_option maxHeartbeats 1000000
section
variable {G : HP} {g n cap lo hi : Nat} {rest : List Value} {l : List Int}
theorem nan_is {a : Int} : CtrP prog 384 [.int .u32 a] G (.bool false) := by
  refine fn_enter 6 func384 rfl ntmps384 rfl ?_
  intro w0
  refine gn 14 ?_
  refine r_fn1 results384 rfl ?_
  simp
theorem less_is {a b : Int} : CtrP prog 376 [.int .u32 a, .int .u32 b] G (.bool (decide (a < b))) := by
  refine fn_enter 17 func376 rfl ntmps376 rfl ?_
  intro w0
  refine gn 8 ?_
  refine o_pure rfl call384 (nan_is) rfl rfl ?_
  refine gn 14 ?_
  refine r_fn1 results376 rfl ?_
  exact ⟨rfl, rfl⟩
theorem ins_is {a b : Nat} (hn : l.length = n) (hf : n ≤ lo ∨ hi = 0) (h1 : n ≤ 100000) (hab : a ≤ b) (hb : b ≤ n) :
    Ctr prog 370 [.slice (some ⟨g, 0, none⟩) n cap, .int .i64 a, .int .i64 b] G [(g, VB .u32 l rest 212 lo hi)] (fun r H' => r = .tuple #[] ∧ ∃ l', (PR a b l l' ∧ SR a b l') ∧ H' = [(g, VB .u32 l' rest 212 lo hi)]) := by
  refine fn_enter 49 func370 rfl ntmps370 rfl ?_
  intro w0
  refine gn 8 ?_
  refine c_loop (X := List Int × Nat) (fun y => [(0, .slice (some ⟨g, 0, none⟩) n cap), (1, .int .i64 a), (2, .int .i64 b), (6, .int .i64 (a + 1 + y.2 : Nat))]) (fun y => [(g, VB .u32 y.1 rest 212 lo hi)]) (fun y => PR a b l y.1 ∧ SR a (a + 1 + y.2) y.1 ∧ (y.2 = 0 ∨ a + 1 + y.2 ≤ b)) (fun y => b - y.2) (l, 0) ⟨.refl, .small (by omega), .inl rfl⟩ aK (.refl _) ?_
  rintro ⟨m, i⟩ ⟨hp, hs, hi0⟩
  simp only at hp hs hi0 ⊢
  refine gn 8 ?_
  refine c_ifp rfl (fun h2 => ?_) (fun h2 => ?_)
  · refine gn 11 ?_
    refine c_loop (X := List Int × Nat) (fun y => [(0, .slice (some ⟨g, 0, none⟩) n cap), (1, .int .i64 a), (2, .int .i64 b), (6, .int .i64 (a + 1 + i : Nat)), (7, .int .i64 y.2)]) (fun y => [(g, VB .u32 y.1 rest 212 lo hi)]) (fun y => PR a b l y.1 ∧ Ins a y.2 (a + 1 + i + 1) y.1 ∧ a ≤ y.2 ∧ y.2 ≤ a + 1 + i) (fun y => y.2) (m, a + 1 + i) ⟨hp, .start hs, by omega, Nat.le_refl _⟩ aK (.refl _) ?_
    rintro ⟨q, j⟩ ⟨hq, hi, haj, hj⟩
    simp only at hq hi haj hj ⊢
    have hl := hq.len
    refine gn 7 ?_
    refine q_splitp 19 rfl (fun h3 => ?_) (fun h3 => ?_)
    · refine gr 9 ?_
      refine q_pure rfl call376 (less_is) rfl rfl ?_
      refine gn 3 ?_
      refine c_if rfl (fun h4 => ?_) (fun h4 => ?_)
      · refine gn 4 ?_
        refine c_regiong [15, 17] (by kernel_rfl) ?_
        refine rg [0, 1, 2, 3, 4, 5, 6, 7, 8, 1009, 10, 11, 12, 1013, 14] ?_
        refine gR 15 ?_
        intro _ _
        refine ld [16] ?_
        refine dR 17 ?_
        intro _ _
        refine gn 8 ?_
        have hjl : j < q.length := by omega
        refine n_round' (y := (q, j)) (swp q j (j - 1), j - 1) (by show j - 1 < j; omega) ?_ aK _ (.refl _) (List.Sublist.refl _)
        exact ⟨hq.swap (by omega) (by omega) (by omega) (by omega) (by omega), hi.step (of_decide_eq_true h4) (by omega) (by omega) (by omega), by show a ≤ j - 1; omega, by show j - 1 ≤ a + 1 + i; omega⟩
      · skip
        refine gn 11 ?_
        refine n_round' (y := (m, i)) (q, i + 1) (by show b - (i + 1) < b - i; omega) ?_ aK _ (.refl _) (List.Sublist.refl _)
        exact ⟨hq, hi.stop (.inr (of_decide_eq_false h4)), .inr (by show a + 1 + (i + 1) ≤ b; omega)⟩
    · skip
      refine gn 25 ?_
      refine n_round' (y := (m, i)) (q, i + 1) (by show b - (i + 1) < b - i; omega) ?_ aK _ (.refl _) (List.Sublist.refl _)
      exact ⟨hq, hi.stop (.inl (by omega)), .inr (by show a + 1 + (i + 1) ≤ b; omega)⟩
  · skip
    refine gn 4 ?_
    refine n_fn0 results370 ?_
    exact ⟨rfl, m, ⟨hp, hs.less (Nat.le_refl _) (by omega)⟩, rfl⟩
end
end Go.Proofs.A4
namespace Go.Proofs.A4
open Go Go.Sl Tryz
set_option maxRecDepth 100000
set_option maxHeartbeats 1000000
section
variable {G : HP} {g n cap lo hi : Nat} {rest : List Value} {l : List Int}
theorem sift_is {f s h : Nat} (hn : l.length = n) (hf : n ≤ lo ∨ hi = 0) (h1 : n ≤ 100000) (hb : f + h ≤ n) (hs : s ≤ h) (hp : Hp f (s + 1) h l) :
    Ctr prog 381 [.slice (some ⟨g, 0, none⟩) n cap, .int .i64 s, .int .i64 h, .int .i64 f] G [(g, VB .u32 l rest 212 lo hi)] (fun r H' => r = .tuple #[] ∧ ∃ l', (PR (f + s) (f + h) l l' ∧ Hp f s h l') ∧ H' = [(g, VB .u32 l' rest 212 lo hi)]) := by
  refine fn_enter 76 func381 rfl ntmps381 rfl ?_
  intro w0
  refine gn 7 ?_
  refine c_loop (X := List Int × Nat) (fun y => [(0, .slice (some ⟨g, 0, none⟩) n cap), (2, .int .i64 h), (3, .int .i64 f), (8, .int .i64 y.2)]) (fun y => [(g, VB .u32 y.1 rest 212 lo hi)]) (fun y => PR (f + s) (f + h) l y.1 ∧ HQ f s h y.2 y.1 ∧ (y.2 = s ∨ y.2 < h)) (fun y => 2 * h - y.2) (l, s) ⟨.refl, .start hp, .inl rfl⟩ aK (.refl _) ?_
  rintro ⟨m, i⟩ ⟨hm, hq, hi0⟩
  simp only at hm hq hi0 ⊢
  have hl := hm.len
  have hsi := hq.le
  refine gn 17 ?_
  refine c_ifp rfl (fun h2 => ?_) (fun h2 => ?_)
  · refine gn 5 ?_
    refine n_fn0 results381 ?_
    exact ⟨rfl, m, ⟨hm, hq.stop fun c h3 h4 => by omega⟩, rfl⟩
  · skip
    refine gn 3 ?_
    refine c_cut (X := Nat) (fun c => [(0, .slice (some ⟨g, 0, none⟩) n cap), (2, .int .i64 h), (3, .int .i64 f), (8, .int .i64 i), (9, .int .i64 c)]) (fun _ => [(g, VB .u32 m rest 212 lo hi)]) (fun d => (d = 2 * i + 1 ∨ d = 2 * i + 2) ∧ d < h ∧ ∀ c, c = 2 * i + 1 ∨ c = 2 * i + 2 → c < h → gd m (f + c) ≤ gd m (f + d)) ?_ ?_
    · skip
      refine gn 7 ?_
      refine q_splitp 21 rfl (fun h3 => ?_) (fun h3 => ?_)
      · refine gr 13 ?_
        refine q_pure rfl call376 (less_is) rfl rfl ?_
        refine gn 3 ?_
        refine c_if rfl (fun h4 => ?_) (fun h4 => ?_)
        · have h4' := of_decide_eq_true h4
          refine gn 5 ?_
          refine n_cut (2 * i + 2) ⟨.inr rfl, by omega, fun c h5 h6 => ?_⟩ aK (.refl _)
          rcases h5 with rfl | rfl
          · rw [← Nat.add_assoc f]; exact Int.le_of_lt h4'
          · exact Int.le_refl _
        · have h4' := of_decide_eq_false h4
          refine gn 1 ?_
          refine n_cut (2 * i + 1) ⟨.inl rfl, by omega, fun c h5 h6 => ?_⟩ aK (.refl _)
          rcases h5 with rfl | rfl
          · exact Int.le_refl _
          · exact Int.not_lt.1 h4'
      · skip
        refine gn 19 ?_
        refine n_cut (2 * i + 1) ⟨.inl rfl, by omega, fun c h5 h6 => ?_⟩ aK (.refl _)
        rcases h5 with rfl | rfl
        · exact Int.le_refl _
        · omega
    · rintro d ⟨hd, hdh, hmax⟩
      refine gr 16 ?_
      refine q_pure rfl call376 (less_is) rfl rfl ?_
      refine gn 3 ?_
      refine c_if rfl (fun h5 => ?_) (fun h5 => ?_)
      · have h5' : ¬ gd m (f + i) < gd m (f + d) := by simpa using h5
        refine gn 1 ?_
        refine r_fn0 results381 ?_
        exact ⟨rfl, m, ⟨hm, hq.stop fun c h6 h7 => Int.le_trans (hmax c h6 h7) (Int.not_lt.1 h5')⟩, rfl⟩
      · skip
        have h5' : gd m (f + i) < gd m (f + d) := by simpa using h5
        refine gn 3 ?_
        refine c_regiong [21, 23] (by kernel_rfl) ?_
        refine rg [0, 1, 2, 3, 4, 5, 6, 7, 8, 9, 10, 11, 12, 1013, 14, 15, 16, 17, 18, 1019, 20] ?_
        refine gR 21 ?_
        intro _ _
        refine ld [22] ?_
        refine dR 23 ?_
        intro _ _
        refine gn 7 ?_
        refine n_round' (y := (m, i)) (swp m (f + i) (f + d), d) (by show 2 * h - d < 2 * h - i; omega) ?_ aK _ (.refl _) (List.Sublist.refl _)
        exact ⟨hm.swap (by omega) (by omega) (by omega) (by omega) (by omega), hq.step hd hdh (by omega) hmax h5', .inr hdh⟩
theorem heap_is {a b : Nat} (hn : l.length = n) (hf : n ≤ lo ∨ hi = 0) (h1 : n ≤ 100000) (hab : a < b) (hb : b ≤ n) :
    Ctr prog 371 [.slice (some ⟨g, 0, none⟩) n cap, .int .i64 a, .int .i64 b] G [(g, VB .u32 l rest 212 lo hi)] (fun r H' => r = .tuple #[] ∧ ∃ l', (PR a b l l' ∧ SR a b l') ∧ H' = [(g, VB .u32 l' rest 212 lo hi)]) := by
  obtain ⟨h, rfl⟩ : ∃ h, b = a + h := ⟨b - a, by omega⟩
  refine fn_enter 56 func371 rfl ntmps371 rfl ?_
  intro w0
  refine gn 29 ?_
  simp only [Nat.add_sub_cancel_left]
  refine c_loop (X := List Int × Int) (fun y => [(0, .slice (some ⟨g, 0, none⟩) n cap), (6, .int .i64 a), (7, .int .i64 (0 : Nat)), (8, .int .i64 h), (9, .int .i64 y.2)]) (fun y => [(g, VB .u32 y.1 rest 212 lo hi)]) (fun y => PR a (a + h) l y.1 ∧ -1 ≤ y.2 ∧ y.2 < h ∧ Hp a (y.2 + 1).toNat h y.1) (fun y => (y.2 + 1).toNat) (l, ((h - 1 : Nat) : Int) / 2) ⟨.refl, by omega, by omega, .none (by omega)⟩ aK (.refl _) ?_
  rintro ⟨m, i⟩ ⟨hm, hi0, hi1, hp⟩
  simp only at hm hi0 hi1 hp ⊢
  have hl := hm.len
  refine gn 7 ?_
  refine c_ifp rfl (fun h2 => ?_) (fun h2 => ?_)
  · obtain ⟨k, rfl⟩ := Int.eq_ofNat_of_zero_le h2
    refine gn 9 ?_
    refine oL (lC (sift_is (f := a) (s := k) (h := h) (hl.trans hn) hf h1 hb (by omega) hp) rfl (.cons .head .nil)) ?_
    rintro ⟨r, H'⟩ ⟨rfl, m', ⟨hp1, hp2⟩, rfl⟩
    simp only [List.cons_append, List.nil_append]
    refine gn 8 ?_
    refine n_round' (y := (m, (k : Int))) (m', (k : Int) - 1) (by show ((k : Int) - 1 + 1).toNat < ((k : Int) + 1).toNat; omega) ?_ aK _ (.refl _) (List.Sublist.refl _)
    refine ⟨hm.trans (hp1.mono (by omega) (Nat.le_refl _) (by omega)), by show -1 ≤ (k : Int) - 1; omega, by show (k : Int) - 1 < h; omega, ?_⟩
    show Hp a ((k : Int) - 1 + 1).toNat h m'
    rw [show ((k : Int) - 1 + 1).toNat = k by omega]
    exact hp2
  · skip
    have hp0 : Hp a 0 h m := by rw [show (i + 1).toNat = 0 by omega] at hp; exact hp
    refine gn 13 ?_
    refine c_loop (X := List Int × Int) (fun y => [(0, .slice (some ⟨g, 0, none⟩) n cap), (6, .int .i64 a), (7, .int .i64 (0 : Nat)), (10, .int .i64 y.2)]) (fun y => [(g, VB .u32 y.1 rest 212 lo hi)]) (fun y => PR a (a + h) l y.1 ∧ -1 ≤ y.2 ∧ y.2 < h ∧ Pop a (y.2 + 1).toNat h y.1) (fun y => (y.2 + 1).toNat) (m, ((h - 1 : Nat) : Int)) ⟨hm, by omega, by omega, by show Pop a (((h - 1 : Nat) : Int) + 1).toNat h m; rw [show (((h - 1 : Nat) : Int) + 1).toNat = h by omega]; exact .start hp0⟩ aK (.refl _) ?_
    clear hm hi0 hi1 hp hl hp0 h2
    rintro ⟨m, i⟩ ⟨hm, hi0, hi1, hp⟩
    simp only at hm hi0 hi1 hp ⊢
    have hl := hm.len
    refine gn 7 ?_
    refine c_ifp rfl (fun h2 => ?_) (fun h2 => ?_)
    · obtain ⟨k, rfl⟩ := Int.eq_ofNat_of_zero_le h2
      rw [show ((k : Int) + 1).toNat = k + 1 by omega] at hp
      refine gn 5 ?_
      refine c_regiong [17, 19] (by kernel_rfl) ?_
      refine rg [0, 1, 2, 3, 4, 5, 6, 7, 8, 9, 10, 1011, 12, 13, 14, 1015, 16] ?_
      refine gR 17 ?_
      intro _ _
      refine ld [18] ?_
      refine dR 19 ?_
      intro _ _
      refine gn 7 ?_
      have hp1 := hp.swap (by omega) (by omega)
      trace_state
      refine oL (lC (sift_is (f := a) (s := 0) (h := k) (l := swp m a (a + k)) (by rw [swp_length]; omega) hf h1 (by omega) (Nat.zero_le _) hp1.heap) rfl (.cons .head .nil)) ?_
      rintro ⟨r, H'⟩ ⟨rfl, m', ⟨hp2, hp3⟩, rfl⟩
      simp only [List.cons_append, List.nil_append]
      refine gn 8 ?_
      have hsw : PR a (a + h) m (swp m a (a + k)) := .one (by omega) (by omega) (by omega) (by omega) (by omega)
      refine n_round' (y := (m, (k : Int))) (m', (k : Int) - 1) (by show ((k : Int) - 1 + 1).toNat < ((k : Int) + 1).toNat; omega) ?_ aK _ (.refl _) (List.Sublist.refl _)
      refine ⟨(hm.trans hsw).trans (hp2.mono (by omega) (by omega) (by rw [swp_length]; omega)), by show -1 ≤ (k : Int) - 1; omega, by show (k : Int) - 1 < h; omega, ?_⟩
      show Pop a ((k : Int) - 1 + 1).toNat h m'
      rw [show ((k : Int) - 1 + 1).toNat = k by omega]
      exact hp1.sift hp2 hp3
    · skip
      refine gn 4 ?_
      refine n_fn0 results371 ?_
      rw [show (i + 1).toNat = 0 by omega] at hp
      exact ⟨rfl, m, ⟨hm, hp.done⟩, rfl⟩
end
end Go.Proofs.A4
namespace Go.Proofs.A4
open Go Go.Sl Tryz
set_option maxRecDepth 100000
set_option maxHeartbeats 1000000
section
variable {G : HP} {g n cap lo hi gz u v : Nat} {rest : List Value} {l : List Int} {z : Int}
theorem ord_is {a b : Nat} (hn : l.length = n) (h1 : n ≤ 100000) (ha : u ≤ a ∧ a < v) (hb : u ≤ b ∧ b < v) (hv : v ≤ n) :
    Ctr prog 385 [.slice (some ⟨g, 0, none⟩) n cap, .int .i64 a, .int .i64 b, .pointer (some ⟨gz, 0, none⟩)] G [(g, VB .u32 l rest 212 lo hi), (gz, C [.int .i64 z] 3)] (fun r H' => ∃ (x y : Nat) (z' : Int), r = .tuple #[.int .i64 x, .int .i64 y] ∧ (u ≤ x ∧ x < v) ∧ (u ≤ y ∧ y < v) ∧ H' = [(g, VB .u32 l rest 212 lo hi), (gz, C [.int .i64 z'] 3)]) := by
  refine fn_enter 28 func385 rfl ntmps385 rfl ?_
  intro w0
  refine gr 17 ?_
  refine q_pure rfl call376 (less_is) rfl rfl ?_
  refine gn 2 ?_
  refine c_if rfl (fun h2 => ?_) (fun h2 => ?_)
  · refine gr 7 ?_
    refine oR ?_
    intro _ _
    refine gn 11 ?_
    refine r_fn (l := [.tmp 8, .tmp 9]) results385 rfl rfl ?_
    exact ⟨b, a, _, rfl, hb, ha, rfl⟩
  · skip
    refine gn 11 ?_
    refine r_fn (l := [.tmp 8, .tmp 9]) results385 rfl rfl ?_
    exact ⟨a, b, _, rfl, ha, hb, rfl⟩
theorem med_is {a b c : Nat} (hn : l.length = n) (h1 : n ≤ 100000) (ha : u ≤ a ∧ a < v) (hb : u ≤ b ∧ b < v) (hc : u ≤ c ∧ c < v) (hv : v ≤ n) :
    Ctr prog 383 [.slice (some ⟨g, 0, none⟩) n cap, .int .i64 a, .int .i64 b, .int .i64 c, .pointer (some ⟨gz, 0, none⟩)] G [(g, VB .u32 l rest 212 lo hi), (gz, C [.int .i64 z] 3)] (fun r H' => ∃ (x : Nat) (z' : Int), r = .int .i64 x ∧ (u ≤ x ∧ x < v) ∧ H' = [(g, VB .u32 l rest 212 lo hi), (gz, C [.int .i64 z'] 3)]) := by
  refine fn_enter 36 func383 rfl ntmps383 rfl ?_
  intro w0
  refine gn 11 ?_
  refine oL (lC (ord_is hn h1 ha hb hv) rfl (.cons .head (.cons .head .nil))) ?_
  rintro ⟨r, H'⟩ ⟨x0, y0, z0, rfl, hx0, hy0, rfl⟩
  simp only [List.cons_append, List.nil_append]
  refine gn 13 ?_
  refine oL (lC (ord_is hn h1 hy0 hc hv) rfl (.cons .head (.cons .head .nil))) ?_
  rintro ⟨r, H'⟩ ⟨x1, y1, z1, rfl, hx1, hy1, rfl⟩
  simp only [List.cons_append, List.nil_append]
  refine gn 13 ?_
  refine oL (lC (ord_is hn h1 hx0 hx1 hv) rfl (.cons .head (.cons .head .nil))) ?_
  rintro ⟨r, H'⟩ ⟨x2, y2, z2, rfl, hx2, hy2, rfl⟩
  simp only [List.cons_append, List.nil_append]
  refine gn 14 ?_
  refine r_fn1 results383 rfl ?_
  exact ⟨_, _, rfl, hy2, rfl⟩
theorem adj_is {a : Nat} (hn : l.length = n) (h1 : n ≤ 100000) (ha : u + 1 ≤ a ∧ a + 1 < v) (hv : v ≤ n) :
    Ctr prog 382 [.slice (some ⟨g, 0, none⟩) n cap, .int .i64 a, .pointer (some ⟨gz, 0, none⟩)] G [(g, VB .u32 l rest 212 lo hi), (gz, C [.int .i64 z] 3)] (fun r H' => ∃ (x : Nat) (z' : Int), r = .int .i64 x ∧ (u ≤ x ∧ x < v) ∧ H' = [(g, VB .u32 l rest 212 lo hi), (gz, C [.int .i64 z'] 3)]) := by
  obtain ⟨a, rfl⟩ : ∃ a', a = a' + 1 := ⟨a - 1, by omega⟩
  refine fn_enter 15 func382 rfl ntmps382 rfl ?_
  intro w0
  refine gn 14 ?_
  refine oL (lC (med_is (a := a) (b := a + 1) (c := a + 2) (u := u) (v := v) hn h1 (by omega) (by omega) (by omega) hv) rfl (.cons .head (.cons .head .nil))) ?_
  rintro ⟨r, H'⟩ ⟨x, z', rfl, hx, rfl⟩
  simp only [List.cons_append, List.nil_append]
  refine gn 4 ?_
  refine r_fn1 results382 rfl ?_
  exact ⟨_, _, rfl, hx, rfl⟩
theorem piv_is {a b : Nat} (hn : l.length = n) (h1 : n ≤ 100000) (hab : a + 8 ≤ b) (hb : b ≤ n) :
    Ctr prog 373 [.slice (some ⟨g, 0, none⟩) n cap, .int .i64 a, .int .i64 b] G [(g, VB .u32 l rest 212 lo hi)] (fun r H' => ∃ (x : Nat) (z' : Int), r = .tuple #[.int .i64 x, .int .i64 z'] ∧ (a ≤ x ∧ x < b) ∧ H' = [(g, VB .u32 l rest 212 lo hi)]) := by
  obtain ⟨h, rfl⟩ : ∃ h, b = a + h := ⟨b - a, by omega⟩
  refine fn_enter 57 func373 rfl ntmps373 rfl ?_
  intro w0
  refine gn 16 ?_
  refine oZ ?_; intro g9 _
  refine gn 39 ?_
  have e1 : (a : Int) + ((a + h - a : Nat) : Int) / 4 * 1 = ((a + h / 4 : Nat) : Int) := by omega
  have e2 : (a : Int) + ((a + h - a : Nat) : Int) / 4 * 2 = ((a + h / 4 * 2 : Nat) : Int) := by omega
  have e3 : (a : Int) + ((a + h - a : Nat) : Int) / 4 * 3 = ((a + h / 4 * 3 : Nat) : Int) := by omega
  rw [e1, e2, e3]
  refine c_ifp rfl (fun h2 => ?_) (fun h2 => ?_)
  · refine c_cut (X := Nat × Int) (fun y => [(11, .int .i64 y.1), (9, .pointer (some ⟨g9, 0, none⟩))]) (fun y => [(g, VB .u32 l rest 212 lo hi), (g9, C [.int .i64 y.2] 3)]) (fun y => a ≤ y.1 ∧ y.1 < a + h) ?_ ?_
    · skip
      refine gn 1 ?_
      refine c_cut (X := Nat × Nat × Nat × Int) (fun y => [(0, .slice (some ⟨g, 0, none⟩) n cap), (9, .pointer (some ⟨g9, 0, none⟩)), (10, .int .i64 y.1), (11, .int .i64 y.2.1), (12, .int .i64 y.2.2.1)]) (fun y => [(g, VB .u32 l rest 212 lo hi), (g9, C [.int .i64 y.2.2.2] 3)]) (fun y => (a ≤ y.1 ∧ y.1 < a + h) ∧ (a ≤ y.2.1 ∧ y.2.1 < a + h) ∧ (a ≤ y.2.2.1 ∧ y.2.2.1 < a + h)) ?_ ?_
      · skip
        refine gn 6 ?_
        refine c_ifp rfl (fun h3 => ?_) (fun h3 => ?_)
        · refine gn 4 ?_
          refine oL (lC (adj_is (u := a) (v := a + h) hn h1 (by omega) hb) rfl (.cons (.tail .head) (.cons .head .nil))) ?_
          rintro ⟨r, H'⟩ ⟨x1, z1, rfl, hx1, rfl⟩
          simp only [List.cons_append, List.nil_append]
          refine gn 7 ?_
          refine oL (lC (adj_is (u := a) (v := a + h) hn h1 (by omega) hb) rfl (.cons .head (.cons .head .nil))) ?_
          rintro ⟨r, H'⟩ ⟨x2, z2, rfl, hx2, rfl⟩
          simp only [List.cons_append, List.nil_append]
          refine gn 6 ?_
          refine oL (lC (adj_is (u := a) (v := a + h) hn h1 (by omega) hb) rfl (.cons .head (.cons .head .nil))) ?_
          rintro ⟨r, H'⟩ ⟨x3, z3, rfl, hx3, rfl⟩
          simp only [List.cons_append, List.nil_append]
          refine gn 2 ?_
          exact n_cut (x1, x2, x3, z3) ⟨hx1, hx2, hx3⟩ aK (.refl _)
        · skip
          refine gn 1 ?_
          exact n_cut (a + h / 4, a + h / 4 * 2, a + h / 4 * 3, 0) ⟨by show a ≤ a + h / 4 ∧ a + h / 4 < a + h; omega, by show a ≤ a + h / 4 * 2 ∧ a + h / 4 * 2 < a + h; omega, by show a ≤ a + h / 4 * 3 ∧ a + h / 4 * 3 < a + h; omega⟩ aK (List.Perm.swap _ _ _)
      · rintro ⟨x1, x2, x3, z3⟩ ⟨hx1, hx2, hx3⟩
        simp only at hx1 hx2 hx3 ⊢
        refine gn 6 ?_
        refine oL (lC (med_is (u := a) (v := a + h) hn h1 hx1 hx2 hx3 hb) rfl (.cons .head (.cons .head .nil))) ?_
        rintro ⟨r, H'⟩ ⟨x4, z4, rfl, hx4, rfl⟩
        simp only [List.cons_append, List.nil_append]
        refine gn 2 ?_
        exact n_cut (x4, z4) hx4 aK (.refl _)
    · rintro ⟨x4, z4⟩ hx4
      simp only at hx4 ⊢
      refine gr 13 ?_
      refine c_if rfl (fun h5 => ?_) (fun h5 => ?_)
      · refine gn 8 ?_
        refine WR.sel (.cons .head .nil) ?_
        refine r_fn (l := [.tmp 6, .tmp 7]) results373 rfl rfl ?_
        exact ⟨_, _, rfl, hx4, rfl⟩
      · skip
        refine gn 6 ?_
        refine c_if rfl (fun h6 => ?_) (fun h6 => ?_)
        · refine gn 8 ?_
          refine WR.sel (.cons .head .nil) ?_
          refine r_fn (l := [.tmp 6, .tmp 7]) results373 rfl rfl ?_
          exact ⟨_, _, rfl, hx4, rfl⟩
        · skip
          refine gn 8 ?_
          refine WR.sel (.cons .head .nil) ?_
          refine r_fn (l := [.tmp 6, .tmp 7]) results373 rfl rfl ?_
          exact ⟨_, _, rfl, hx4, rfl⟩
  · exact absurd h2 (by omega)
end
end Go.Proofs.A4

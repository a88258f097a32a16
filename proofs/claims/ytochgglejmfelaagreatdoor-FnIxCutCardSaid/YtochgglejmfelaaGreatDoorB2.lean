/- spec.IndexBody, spec.Varint and spec.IndexBytes, exactly. -/
import Derived.Test.YtochgglejmfelaaGreatDoorB1
namespace Go.Sl
open Go
theorem B_inj {a b : List UInt8} (h : B a = B b) : a = b := by
  induction a generalizing b with
  | nil => cases b with
    | nil => rfl
    | cons y b => simp [B] at h
  | cons x a ih => cases b with
    | nil => simp [B] at h
    | cons y b =>
      simp only [B, List.map_cons, List.cons.injEq, Value.int.injEq, true_and] at h
      rw [ih (show B a = B b from h.2), UInt8.toNat_inj.1 (by omega : x.toNat = y.toNat)]
/-- A string of bytes that a slice holds. -/
theorem e_bsO {x : Cx} {s : Slots} {H HB : HP} {d n : Nat} {p : Operand} {ty t t' e : TypeId} {pos : String} {af : Array Edge} {gd' : Option (Nat × Bool)} {v : Value} {bs : List UInt8} (hU : x.P.underlying t = some (.slice e)) (hU8 : x.P.underlying e = some (.int .u8)) (hU' : x.P.underlying t' = some .string) (ho : Osl e 1 v n (B bs) HB) (hm : ∀ p ∈ HB, p ∈ H) (hp : ev s p = some v) :
    Ex x s H ⟨some d, .convert t t' p, ty, pos, af, gd'⟩ (S bs) := by
  generalize hX : B bs = X at ho
  cases ho with
  | nil =>
    obtain rfl : bs = [] := B_inj (b := []) hX
    exact e_bsn hU hU8 hU' hp
  | @own g n cap lo hi xs rest a1 a2 a3 a4 a5 =>
    subst hX
    refine e_bs hU hU8 hU' hp (.inl (hm _ (.head _))) ?_
    have := CutL.of (l := B bs ++ rest) (i := 0) (n := n) (by simp; omega)
    simpa [← (show (B bs).length = n by omega)] using this
end Go.Sl
namespace Go.Proofs
open Go Go.Sl
set_option maxRecDepth 100000
set_option maxHeartbeats 2000000
theorem osl_ens {G HB : HP} {v : Value} {l : List En} (ho : Osl 56 5 v l.length (cells5 l) HB) : EnS (G ++ HB) v l := by
  generalize hN : l.length = N at ho
  generalize hX : cells5 l = X at ho
  cases ho with
  | nil =>
    obtain rfl := List.length_eq_zero_iff.1 hN
    exact .none
  | own a1 a2 a3 a4 a5 =>
    subst hX
    refine .blk (List.mem_append_right _ (.head _)) hN (fun i h => ?_)
    rw [Nat.zero_add]
    exact cells5_cut h _
def codeB (l : List En) (c : Int) : List UInt8 := lowB c 8 ++ sortedB (codedL l c)
def bodyB (l : List En) (kind : Int) : List UInt8 := if kind = 1024 then sortedB l else lowB ((codes l).length : Nat) 4 ++ (codes l).flatMap (codeB l)
theorem codedL_len (l : List En) (c : Int) : (codedL l c).length ≤ l.length := List.length_filter_le _ _
theorem codedL_mem {l : List En} {c : Int} {x : En} (h : x ∈ codedL l c) : x ∈ l := (List.mem_filter.1 h).1
theorem codeB_length (l : List En) (c : Int) (hd : ∀ x ∈ l, x.d.length ≤ 200) (hl : l.length ≤ 100) : (codeB l c).length ≤ 2200008 := by
  have := sortedB_length (codedL l c) (fun x hx => hd x (codedL_mem hx)) (Nat.le_trans (codedL_len l c) hl)
  simp only [codeB, List.length_append, lowB_length]
  omega
theorem codes_len (l : List En) : (codes l).length ≤ l.length := by
  rw [codes, srt_length]
  exact Nat.le_trans (distI_length _) (by simp [hcs])
theorem body_is {G : HP} {vl : Value} {l : List En} {kind : Int} (h : EnS G vl l) (hl : l.length ≤ 100) (hd : ∀ x ∈ l, x.d.length ≤ 200) :
    CtrP Tryz.prog 38 [vl, .int .u64 kind] G (S (bodyB l kind)) := by
  refine fn_enter 36 Tryz.func38 rfl Tryz.ntmps38 rfl ?_
  intro w0
  refine c_seq ?_
  refine c_region ?_
  refine o_e rfl rfl rfl (e_assign rfl) ?_
  refine o_nil ?_
  refine n_code ?_
  refine c_seq ?_
  refine c_seq ?_
  refine c_region ?_
  refine o_e rfl rfl rfl (e_move rfl) ?_
  refine o_e rfl rfl rfl (e_eql rfl rfl) ?_
  refine o_nil ?_
  refine n_code ?_
  refine c_ifp rfl (fun h1 => ?_) (fun h1 => ?_)
  · refine c_seq ?_
    refine c_region ?_
    refine o_e rfl rfl rfl (e_move rfl) ?_
    refine o_l rfl (l_call Tryz.call71 (sortedBytes_is .nil h hl hd (by decide)) rfl rfl .nil) ?_
    rintro ⟨v, HB⟩ ho
    simp only [Nat.zero_add, List.nil_append] at ho ⊢
    refine o_e rfl rfl rfl (e_bsO Tryz.underlying72 Tryz.underlying5 Tryz.underlying9 ho (by simp) rfl) ?_
    refine o_e rfl rfl rfl (e_assign rfl) ?_
    refine o_nil ?_
    refine n_code ?_
    refine c_ret ?_
    refine WR.less (fun _ _ h => h) (List.nil_sublist _) ?_
    refine r_fn1 Tryz.results38 rfl ?_
    exact ⟨by rw [bodyB, if_pos h1], rfl⟩
  · skip
    have hcl := codes_len l
    refine c_skip ?_
    refine n_code ?_
    refine c_seq ?_
    refine c_region ?_
    refine o_e rfl rfl rfl (e_move rfl) ?_
    refine o_l rfl (l_call Tryz.call72 (codes_is h (by omega)) rfl rfl .nil) ?_
    rintro ⟨vc, Hc⟩ hvc
    rcases hvc.openV with ⟨rfl, rfl, h0⟩ | ⟨gc, capc, restc, loc, hic, rfl, rfl, a2, a3, a4, a5⟩
    · simp only [List.nil_append]
      refine o_e rfl rfl rfl (e_assign rfl) ?_
      refine o_nil ?_
      refine n_code ?_
      refine c_seq ?_
      refine c_region ?_
      refine o_e rfl rfl rfl (e_move rfl) ?_
      first | refine o_e rfl rfl rfl (e_lenl Tryz.runUnderlying29 rfl) ?_ | refine o_e rfl rfl rfl (e_lenO Tryz.runUnderlying29 (by assumption) rfl) ?_
      first | refine o_e rfl rfl rfl (e_convn Tryz.runUnderlying3 Tryz.runUnderlying23 rfl (by simp only [inR]; omega)) ?_ | refine o_e rfl rfl rfl (e_conv Tryz.runUnderlying3 Tryz.runUnderlying23 rfl) ?_
      refine o_l rfl (l_call Tryz.call73 (low_is (k := 4) .nil (by decide) (by decide)) rfl rfl .nil) ?_
      rintro ⟨v1, HB1⟩ ho1
      simp only [Nat.zero_add, List.nil_append] at ho1 ⊢
      refine o_e rfl rfl rfl (e_assign rfl) ?_
      refine o_nil ?_
      refine n_code ?_
      refine c_seq ?_
      refine c_seq ?_
      refine c_region ?_
      refine o_e rfl rfl rfl (e_move rfl) ?_
      first | refine o_e rfl rfl rfl (e_lenl Tryz.runUnderlying29 rfl) ?_ | refine o_e rfl rfl rfl (e_lenO Tryz.runUnderlying29 (by assumption) rfl) ?_
      refine o_e rfl rfl rfl (e_move rfl) ?_
      refine o_nil ?_
      refine n_code ?_
      refine c_block ?_
      refine c_rounds 1 ?_
      refine c_seq ?_
      refine c_region ?_
      refine o_e rfl rfl rfl (e_lss rfl rfl) ?_
      refine o_nil ?_
      refine n_code ?_
      refine c_seq ?_
      refine c_else rfl ?_
      refine c_exit ?_; refine x_code ?_; refine x_upto ?_; refine x_here ?_
      refine n_code ?_
      refine c_seq ?_
      refine c_region ?_
      refine o_e rfl rfl rfl (e_move rfl) ?_
      refine o_e rfl rfl rfl (e_bsO Tryz.underlying72 Tryz.underlying5 Tryz.underlying9 ho1 (by simp) rfl) ?_
      refine o_e rfl rfl rfl (e_assign rfl) ?_
      refine o_nil ?_
      refine n_code ?_
      refine c_ret ?_
      refine WR.less (fun _ _ h => h) (List.nil_sublist _) ?_
      refine r_fn1 Tryz.results38 rfl ?_
      exact ⟨by rw [bodyB, if_neg h1, h0]; simp, rfl⟩
    · skip
      refine o_e rfl rfl rfl (e_assign rfl) ?_
      refine o_nil ?_
      refine n_code ?_
      refine c_seq ?_
      refine c_region ?_
      refine o_e rfl rfl rfl (e_move rfl) ?_
      first | refine o_e rfl rfl rfl (e_lenl Tryz.runUnderlying29 rfl) ?_ | refine o_e rfl rfl rfl (e_lenO Tryz.runUnderlying29 (by assumption) rfl) ?_
      first | refine o_e rfl rfl rfl (e_convn Tryz.runUnderlying3 Tryz.runUnderlying23 rfl (by simp only [inR]; omega)) ?_ | refine o_e rfl rfl rfl (e_conv Tryz.runUnderlying3 Tryz.runUnderlying23 rfl) ?_
      refine o_l rfl (l_call Tryz.call73 (low_is (k := 4) .nil (by decide) (by decide)) rfl rfl .nil) ?_
      rintro ⟨v1, HB1⟩ ho1
      simp only [Nat.zero_add, List.nil_append] at ho1 ⊢
      refine o_e rfl rfl rfl (e_assign rfl) ?_
      refine o_nil ?_
      refine n_code ?_
      refine c_seq ?_
      refine c_seq ?_
      refine c_region ?_
      refine o_e rfl rfl rfl (e_move rfl) ?_
      first | refine o_e rfl rfl rfl (e_lenl Tryz.runUnderlying29 rfl) ?_ | refine o_e rfl rfl rfl (e_lenO Tryz.runUnderlying29 (by assumption) rfl) ?_
      refine o_e rfl rfl rfl (e_move rfl) ?_
      refine o_nil ?_
      refine n_code ?_
      refine c_block ?_
      refine c_loop (X := Nat × Value × HP) (fun y => [(0, vl), (6, y.2.1), (20, .slice (some ⟨gc, 0, none⟩) (codes l).length capc), (21, .int .i64 (codes l).length), (22, .int .i64 y.1)]) (fun y => (gc, VB .u64 (codes l) restc 23 loc hic) :: y.2.2)
        (fun y => y.1 ≤ (codes l).length ∧ Osl 5 1 y.2.1 (4 + (((codes l).take y.1).flatMap (codeB l)).length) (B (lowB ((codes l).length : Nat) 4 ++ ((codes l).take y.1).flatMap (codeB l))) y.2.2) (fun y => (codes l).length - y.1) (0, v1, HB1) ⟨Nat.zero_le _, by simpa using ho1⟩ (sub_cons rfl (sub_cons rfl (sub_cons rfl (sub_cons rfl (sub_cons rfl sub_nil))))) (List.perm_append_comm (l₂ := [_])) ?_
      rintro ⟨i, v', HB'⟩ ⟨hi, ho'⟩
      simp only at hi ho' ⊢
      refine c_seq ?_
      refine c_region ?_
      refine o_e rfl rfl rfl (e_lss rfl rfl) ?_
      refine o_nil ?_
      refine n_code ?_
      refine c_seq ?_
      refine c_ifp rfl (fun h2 => ?_) (fun h2 => ?_)
      · have hi2 : i < (codes l).length := by omega
        have hnx := flat_take (f := codeB l) hi2
        have hfl := flat_length ((codes l).take i) (codeB l) 2200008 (fun n => codeB_length l n hd hl)
        have hfl2 : ((codes l).take i).length * 2200008 ≤ 100 * 2200008 := Nat.mul_le_mul_right _ (by simp; omega)
        generalize hwi : gd (codes l) i = ci at hnx
        have hcb := codeB_length l ci hd hl
        refine c_skip ?_
        refine n_code ?_
        refine c_seq ?_
        refine c_block ?_
        refine c_seq ?_
        refine c_region ?_
        first | refine o_e rfl rfl rfl (e_ian Tryz.runUnderlying29 Tryz.sizeOf23 rfl rfl (by omega)) ?_ | refine o_e rfl rfl rfl (e_ia Tryz.runUnderlying29 Tryz.sizeOf23 rfl rfl (by omega) (by omega)) ?_
        first | refine o_e rfl rfl rfl (e_ld Tryz.isAgg23 rfl (by first | exact .inr (by assumption) | exact .inl (by repeat (first | exact List.Mem.head _ | refine List.Mem.tail _ ?_))) (by omega)) ?_ | refine o_e rfl rfl rfl (e_load Tryz.isAgg23 rfl (by first | exact .inr (by assumption) | exact .inl (by repeat (first | exact List.Mem.head _ | refine List.Mem.tail _ ?_))) (by first | rfl | assumption)) ?_
        refine o_e rfl rfl rfl (e_assign rfl) ?_
        refine o_nil ?_
        refine n_code ?_
        refine c_region ?_
        refine o_e rfl rfl rfl (e_move rfl) ?_
        refine o_e rfl rfl rfl (e_move rfl) ?_
        rw [hwi]
        refine o_l rfl (l_call Tryz.call73 (low_is (k := 8) ho' (by decide) (by omega)) rfl rfl (Sel.appR [_] HB')) ?_
        rintro ⟨v2, HB2⟩ ho2
        simp only at ho2 ⊢
        refine o_e rfl rfl rfl (e_move rfl) ?_
        refine o_e rfl rfl rfl (e_move rfl) ?_
        refine o_l rfl (l_call Tryz.call74 (coded_is h (by omega)) rfl rfl .nil) ?_
        rintro ⟨vk, Hk⟩ hk
        simp only at hk ⊢
        refine o_l rfl (l_callj (HJ := Hk) Tryz.call71 (sortedBytes_is ho2 (osl_ens hk) (Nat.le_trans (codedL_len l ci) hl) (fun x hx => hd x (codedL_mem hx)) (by omega)) rfl rfl (Hr := Hk ++ [_]) (by simpa using Sel.mid Hk HB2 [_]) (fun p hp => List.mem_append_left _ hp)) ?_
        rintro ⟨v3, HB3⟩ ho3
        simp only at ho3 ⊢
        refine o_e rfl rfl rfl (e_assign rfl) ?_
        refine o_nil ?_
        refine n_block ?_
        refine n_code ?_
        refine c_region ?_
        first | refine o_e rfl rfl rfl (e_addN rfl rfl (by omega)) ?_ | refine o_e rfl rfl rfl (e_addn rfl rfl (by simp only [inR]; omega)) ?_ | refine o_e rfl rfl rfl (e_add rfl rfl) ?_
        refine o_e rfl rfl rfl (e_move rfl) ?_
        refine o_nil ?_
        refine n_round' (y := (i, v', HB')) (i + 1, v3, HB3) (by show (codes l).length - (i + 1) < (codes l).length - i; omega) ⟨by show i + 1 ≤ (codes l).length; omega, ?_⟩ (sub_cons rfl (sub_cons rfl (sub_cons rfl (sub_cons rfl (sub_cons rfl sub_nil))))) ((Hk ++ [_]) ++ HB3) List.perm_append_comm (by rw [List.append_assoc]; exact List.sublist_append_right _ _)
        simp only [hnx, codeB]
        rw [List.length_append, List.length_append, lowB_length, ← List.append_assoc, ← List.append_assoc, B_append, B_append (_ ++ _) (lowB _ _), ← Nat.add_assoc, ← Nat.add_assoc]
        exact ho3
      · skip
        have : i = (codes l).length := by omega
        subst this
        rw [List.take_length] at ho'
        refine c_exit ?_; refine x_code ?_; refine x_upto ?_; refine x_here ?_
        refine n_code ?_
        refine c_seq ?_
        refine c_region ?_
        refine o_e rfl rfl rfl (e_move rfl) ?_
        refine o_e rfl rfl rfl (e_bsO Tryz.underlying72 Tryz.underlying5 Tryz.underlying9 ho' (fun _ h => .tail _ h) rfl) ?_
        refine o_e rfl rfl rfl (e_assign rfl) ?_
        refine o_nil ?_
        refine n_code ?_
        refine c_ret ?_
        refine WR.less (fun _ _ h => h) (List.nil_sublist _) ?_
        refine r_fn1 Tryz.results38 rfl ?_
        exact ⟨by rw [bodyB, if_neg h1], rfl⟩
end Go.Proofs
namespace Go.Proofs
open Go Go.Sl
set_option maxRecDepth 100000
set_option maxHeartbeats 2000000
theorem varint_1024 {G : HP} : Ctr Tryz.prog 37 [.int .u64 1024] G [] (fun r H' => Osl 5 1 r 2 (B [128, 8]) H') := by
  refine fn_enter 19 Tryz.func37 rfl Tryz.ntmps37 rfl ?_
  intro w0
  refine c_seq ?_
  refine c_region ?_
  refine o_e rfl rfl rfl (e_assign rfl) ?_
  refine o_nil ?_
  refine n_code ?_
  refine c_seq ?_
  refine c_region ?_
  refine o_e rfl rfl rfl (e_assign rfl) ?_
  refine o_nil ?_
  refine n_code ?_
  refine c_seq ?_
  refine c_block ?_
  refine c_rounds 2 ?_
  refine c_seq ?_
  refine c_seq ?_
  refine c_region ?_
  refine o_e rfl rfl rfl (e_move rfl) ?_
  refine o_e rfl rfl rfl (e_geq rfl rfl) ?_
  refine o_nil ?_
  refine n_code ?_
  refine c_then rfl ?_
  refine c_skip ?_
  refine n_code ?_
  refine c_block ?_
  refine c_seq ?_
  refine c_region ?_
  refine o_e rfl rfl rfl (e_move rfl) ?_
  refine o_e rfl rfl rfl (e_move rfl) ?_
  first | refine o_e rfl rfl rfl (e_convn Tryz.runUnderlying23 Tryz.runUnderlying5 rfl (by simp only [inR]; omega)) ?_ | refine o_e rfl rfl rfl (e_conv Tryz.runUnderlying23 Tryz.runUnderlying5 rfl) ?_
  refine o_e rfl rfl rfl (e_or rfl rfl) ?_
  refine o_l rfl (l_bs1 Tryz.runUnderlying72 Tryz.sizeOf5 Tryz.zeroValue5 rfl rfl rfl) ?_; intro g10 _
  refine o_l rfl (l_append (sz := 1) (HB := []) Tryz.underlying72 (info_of Tryz.typeInfo5) rfl rfl rfl rfl rfl rfl .nil (.refl _) (.blk Tryz.underlying72 (.inl (.head _)) (.take .done) (by simp [Value.oneCell'])) (by show _ * 1 ≤ _; omega) (by omega)) ?_
  rintro ⟨v2, HB2⟩ ho2
  simp only at ho2 ⊢
  refine o_e rfl rfl rfl (e_assign rfl) ?_
  refine o_nil ?_
  refine n_code ?_
  refine c_region ?_
  refine o_e rfl rfl rfl (e_move rfl) ?_
  refine o_e rfl rfl rfl (e_shr rfl rfl (by omega)) ?_
  refine o_e rfl rfl rfl (e_assign rfl) ?_
  refine o_nil ?_
  refine n_block ?_
  refine n_rounds ?_
  refine c_seq ?_
  refine c_seq ?_
  refine c_region ?_
  refine o_e rfl rfl rfl (e_move rfl) ?_
  refine o_e rfl rfl rfl (e_geq rfl rfl) ?_
  refine o_nil ?_
  refine n_code ?_
  refine c_else rfl ?_
  refine c_exit ?_; refine x_code ?_; refine x_upto ?_; refine x_here ?_
  refine n_code ?_
  refine c_seq ?_
  refine c_region ?_
  refine o_e rfl rfl rfl (e_move rfl) ?_
  refine o_e rfl rfl rfl (e_move rfl) ?_
  first | refine o_e rfl rfl rfl (e_convn Tryz.runUnderlying23 Tryz.runUnderlying5 rfl (by simp only [inR]; omega)) ?_ | refine o_e rfl rfl rfl (e_conv Tryz.runUnderlying23 Tryz.runUnderlying5 rfl) ?_
  refine o_l rfl (l_bs1 Tryz.runUnderlying72 Tryz.sizeOf5 Tryz.zeroValue5 rfl rfl rfl) ?_; intro g17 _
  refine o_l rfl (l_append (sz := 1) (HB := HB2) Tryz.underlying72 (info_of Tryz.typeInfo5) rfl rfl rfl rfl rfl rfl ho2 (perm_mid [_] HB2 _) (.blk Tryz.underlying72 (.inl (.head _)) (.take .done) (by simp [Value.oneCell'])) (by show _ * 1 ≤ _; omega) (by omega)) ?_
  rintro ⟨v3, HB3⟩ ho3
  simp only at ho3 ⊢
  refine o_e rfl rfl rfl (e_assign rfl) ?_
  refine o_nil ?_
  refine n_code ?_
  refine c_ret ?_
  refine WR.less (fun _ _ h => h) (List.sublist_append_left _ _) ?_
  refine r_fn1 Tryz.results37 rfl ?_
  exact ho3
theorem varint_1025 {G : HP} : Ctr Tryz.prog 37 [.int .u64 1025] G [] (fun r H' => Osl 5 1 r 2 (B [129, 8]) H') := by
  refine fn_enter 19 Tryz.func37 rfl Tryz.ntmps37 rfl ?_
  intro w0
  refine c_seq ?_
  refine c_region ?_
  refine o_e rfl rfl rfl (e_assign rfl) ?_
  refine o_nil ?_
  refine n_code ?_
  refine c_seq ?_
  refine c_region ?_
  refine o_e rfl rfl rfl (e_assign rfl) ?_
  refine o_nil ?_
  refine n_code ?_
  refine c_seq ?_
  refine c_block ?_
  refine c_rounds 2 ?_
  refine c_seq ?_
  refine c_seq ?_
  refine c_region ?_
  refine o_e rfl rfl rfl (e_move rfl) ?_
  refine o_e rfl rfl rfl (e_geq rfl rfl) ?_
  refine o_nil ?_
  refine n_code ?_
  refine c_then rfl ?_
  refine c_skip ?_
  refine n_code ?_
  refine c_block ?_
  refine c_seq ?_
  refine c_region ?_
  refine o_e rfl rfl rfl (e_move rfl) ?_
  refine o_e rfl rfl rfl (e_move rfl) ?_
  first | refine o_e rfl rfl rfl (e_convn Tryz.runUnderlying23 Tryz.runUnderlying5 rfl (by simp only [inR]; omega)) ?_ | refine o_e rfl rfl rfl (e_conv Tryz.runUnderlying23 Tryz.runUnderlying5 rfl) ?_
  refine o_e rfl rfl rfl (e_or rfl rfl) ?_
  refine o_l rfl (l_bs1 Tryz.runUnderlying72 Tryz.sizeOf5 Tryz.zeroValue5 rfl rfl rfl) ?_; intro g10 _
  refine o_l rfl (l_append (sz := 1) (HB := []) Tryz.underlying72 (info_of Tryz.typeInfo5) rfl rfl rfl rfl rfl rfl .nil (.refl _) (.blk Tryz.underlying72 (.inl (.head _)) (.take .done) (by simp [Value.oneCell'])) (by show _ * 1 ≤ _; omega) (by omega)) ?_
  rintro ⟨v2, HB2⟩ ho2
  simp only at ho2 ⊢
  refine o_e rfl rfl rfl (e_assign rfl) ?_
  refine o_nil ?_
  refine n_code ?_
  refine c_region ?_
  refine o_e rfl rfl rfl (e_move rfl) ?_
  refine o_e rfl rfl rfl (e_shr rfl rfl (by omega)) ?_
  refine o_e rfl rfl rfl (e_assign rfl) ?_
  refine o_nil ?_
  refine n_block ?_
  refine n_rounds ?_
  refine c_seq ?_
  refine c_seq ?_
  refine c_region ?_
  refine o_e rfl rfl rfl (e_move rfl) ?_
  refine o_e rfl rfl rfl (e_geq rfl rfl) ?_
  refine o_nil ?_
  refine n_code ?_
  refine c_else rfl ?_
  refine c_exit ?_; refine x_code ?_; refine x_upto ?_; refine x_here ?_
  refine n_code ?_
  refine c_seq ?_
  refine c_region ?_
  refine o_e rfl rfl rfl (e_move rfl) ?_
  refine o_e rfl rfl rfl (e_move rfl) ?_
  first | refine o_e rfl rfl rfl (e_convn Tryz.runUnderlying23 Tryz.runUnderlying5 rfl (by simp only [inR]; omega)) ?_ | refine o_e rfl rfl rfl (e_conv Tryz.runUnderlying23 Tryz.runUnderlying5 rfl) ?_
  refine o_l rfl (l_bs1 Tryz.runUnderlying72 Tryz.sizeOf5 Tryz.zeroValue5 rfl rfl rfl) ?_; intro g17 _
  refine o_l rfl (l_append (sz := 1) (HB := HB2) Tryz.underlying72 (info_of Tryz.typeInfo5) rfl rfl rfl rfl rfl rfl ho2 (perm_mid [_] HB2 _) (.blk Tryz.underlying72 (.inl (.head _)) (.take .done) (by simp [Value.oneCell'])) (by show _ * 1 ≤ _; omega) (by omega)) ?_
  rintro ⟨v3, HB3⟩ ho3
  simp only at ho3 ⊢
  refine o_e rfl rfl rfl (e_assign rfl) ?_
  refine o_nil ?_
  refine n_code ?_
  refine c_ret ?_
  refine WR.less (fun _ _ h => h) (List.sublist_append_left _ _) ?_
  refine r_fn1 Tryz.results37 rfl ?_
  exact ho3
theorem bodyB_length (l : List En) (kind : Int) (hd : ∀ x ∈ l, x.d.length ≤ 200) (hl : l.length ≤ 100) : (bodyB l kind).length ≤ 300000000 := by
  have h1 := sortedB_length l hd hl
  have h2 := flat_length (codes l) (codeB l) 2200008 (fun n => codeB_length l n hd hl)
  have h3 := codes_len l
  have h4 : (codes l).length * 2200008 ≤ 100 * 2200008 := Nat.mul_le_mul_right _ (by omega)
  unfold bodyB
  split
  · omega
  · simp only [List.length_append, lowB_length]; omega
/-- What begins an index. -/
def kindB (kind : Int) : List UInt8 := if kind = 1024 then [128, 8] else [129, 8]
def indexB (l : List En) (kind : Int) : List UInt8 := kindB kind ++ bodyB l kind
theorem kindB_length (kind : Int) : (kindB kind).length = 2 := by unfold kindB; split <;> rfl
theorem varint_kind {G : HP} {kind : Int} (hk : kind = 1024 ∨ kind = 1025) : Ctr Tryz.prog 37 [.int .u64 kind] G [] (fun r H' => Osl 5 1 r 2 (B (kindB kind)) H') := by
  rcases hk with rfl | rfl
  · exact varint_1024
  · exact varint_1025
theorem indexBytes_is {G : HP} {vl : Value} {l : List En} {kind : Int} (h : EnS G vl l) (hl : l.length ≤ 100) (hd : ∀ x ∈ l, x.d.length ≤ 200) (hk : kind = 1024 ∨ kind = 1025) :
    CtrP Tryz.prog 15 [vl, .int .u64 kind] G (S (indexB l kind)) := by
  have hbl := bodyB_length l kind hd hl
  have hkl := kindB_length kind
  refine fn_enter 12 Tryz.func15 rfl Tryz.ntmps15 rfl ?_
  intro w0
  refine c_seq ?_
  refine c_region ?_
  refine o_e rfl rfl rfl (e_assign rfl) ?_
  refine o_nil ?_
  refine n_code ?_
  refine c_seq ?_
  refine c_regiond ([]) (by kernel_rfl) (by first | exact List.Sublist.refl _ | exact List.nil_sublist _ | (repeat constructor)) ?_
  refine d_e 0 (fun _ _ _ _ _ h => h) rfl (by kernel_rfl) (by kernel_rfl) (by kernel_rfl) rfl rfl rfl (e_move rfl) ?_
  refine d_e 3 (fun _ _ _ _ _ h => h) rfl (by kernel_rfl) (by kernel_rfl) (by kernel_rfl) rfl rfl rfl (e_move rfl) ?_
  refine d_e 4 (fun _ _ _ _ _ h => h) rfl (by kernel_rfl) (by kernel_rfl) (by kernel_rfl) rfl rfl rfl (e_move rfl) ?_
  refine d_l 1 (by kernel_rfl) rfl rfl (l_call Tryz.call37 (varint_kind hk) rfl rfl .nil) (by first | exact fun _ _ => hs_nil | (intro y hy p hp; simp only [List.mem_cons, List.mem_append, List.not_mem_nil, or_false, false_or] at hp ⊢; first | exact hp.elim | (simp only [hp, true_or, or_true]) | (rcases hp with rfl | rfl | rfl <;> simp))) ?_
  rintro ⟨vv, HBv⟩ hv
  simp only at hv ⊢
  refine d_l2 2 5 (by kernel_rfl) rfl rfl rfl rfl (l_q rfl (e_bsO Tryz.underlying72 Tryz.underlying5 Tryz.underlying9 hv (by simp) rfl)) (l_call Tryz.call38 (body_is h hl hd) rfl rfl .nil) (fun _ _ _ h => by cases h) (fun _ _ _ h => by cases h) ?_ ?_
  · intro _ _
    refine d_l 5 (by kernel_rfl) rfl rfl (l_call Tryz.call38 (body_is h hl hd) rfl rfl .nil) (by first | exact fun _ _ => hs_nil | (intro y hy p hp; simp only [List.mem_cons, List.mem_append, List.not_mem_nil, or_false, false_or] at hp ⊢; first | exact hp.elim | (simp only [hp, true_or, or_true]) | (rcases hp with rfl | rfl | rfl <;> simp))) ?_
    rintro ⟨r, H'⟩ ⟨rfl, rfl⟩
    simp only [List.nil_append]
    refine d_e 6 (fun _ _ _ _ _ h => h) rfl (by kernel_rfl) (by kernel_rfl) (by kernel_rfl) rfl rfl rfl (e_sadd rfl rfl (by omega)) ?_
    refine d_e 7 (fun _ _ _ _ _ h => h) rfl (by kernel_rfl) (by kernel_rfl) (by kernel_rfl) rfl rfl rfl (e_assign rfl) ?_
    refine d_nil (by kernel_rfl) ?_
    refine n_code ?_
    refine c_ret ?_
    refine WR.less (fun _ _ h => h) (List.nil_sublist _) ?_
    refine r_fn1 Tryz.results15 rfl ?_
    exact ⟨rfl, rfl⟩
  · skip
    rintro ⟨r, H'⟩ ⟨rfl, rfl⟩
    simp only [List.nil_append]
    refine d_le 2 (by kernel_rfl) rfl rfl rfl rfl (fun _ h => by cases h) (e_bsO Tryz.underlying72 Tryz.underlying5 Tryz.underlying9 hv (by simp) rfl) ?_
    refine d_e 6 (fun _ _ _ _ _ h => h) rfl (by kernel_rfl) (by kernel_rfl) (by kernel_rfl) rfl rfl rfl (e_sadd rfl rfl (by omega)) ?_
    refine d_e 7 (fun _ _ _ _ _ h => h) rfl (by kernel_rfl) (by kernel_rfl) (by kernel_rfl) rfl rfl rfl (e_assign rfl) ?_
    refine d_nil (by kernel_rfl) ?_
    refine n_code ?_
    refine c_ret ?_
    refine WR.less (fun _ _ h => h) (List.nil_sublist _) ?_
    refine r_fn1 Tryz.results15 rfl ?_
    exact ⟨rfl, rfl⟩
end Go.Proofs
namespace Go.Proofs
open Go Go.Sl
abbrev e1 : En := ⟨1, 85, 0, [97], 7⟩
theorem w_e1 : widths [e1] = [1] := by
  rw [widths, srt_small (by decide)]; rfl
theorem c_e1 : codes [e1] = [0] := by
  rw [codes, srt_small (by decide)]; rfl
theorem s_e1 : sortedB [e1] = [1, 0, 0, 0, 9, 0, 0, 0, 9, 0, 0, 0, 0, 0, 0, 0, 97, 7, 0, 0, 0, 0, 0, 0, 0] := by
  rw [sortedB, w_e1, stable_small (by decide)]; rfl
theorem ib_1024 : indexB [e1] 1024 = [128, 8, 1, 0, 0, 0, 9, 0, 0, 0, 9, 0, 0, 0, 0, 0, 0, 0, 97, 7, 0, 0, 0, 0, 0, 0, 0] := by
  rw [indexB, bodyB, if_pos rfl, s_e1]; rfl
theorem ib_1025 : indexB [e1] 1025 = [129, 8, 1, 0, 0, 0, 0, 0, 0, 0, 0, 0, 0, 0, 1, 0, 0, 0, 9, 0, 0, 0, 9, 0, 0, 0, 0, 0, 0, 0, 97, 7, 0, 0, 0, 0, 0, 0, 0] := by
  rw [indexB, bodyB, if_neg (by decide), c_e1]
  have h : codeB [e1] 0 = lowB 0 8 ++ sortedB [e1] := rfl
  rw [List.flatMap_cons, h, s_e1]; rfl
theorem one_index {G : HP} {p : Nat} {kind : Int} {bs : List UInt8} (hk : kind = 1024 ∨ kind = 1025) (hb : indexB [e1] kind = bs) :
    CtrE Tryz.prog 15 [Value.slice (some ⟨p, 0, none⟩) 1 1, Value.int .u64 kind] G [(p, C (cE e1) 56)] (T := Unit) (fun _ => True) (fun _ => S bs) (fun _ => [(p, C (cE e1) 56)]) := fun w hG hH hn hd => by
  have h := indexBytes_is (G := G ++ [(p, C (cE e1) 56)]) (vl := Value.slice (some ⟨p, 0, none⟩) 1 1) (l := [e1]) (kind := kind) (.blk (List.mem_append_right _ (.head _)) rfl (fun i hi => by
    obtain rfl : i = 0 := by simp at hi; exact hi
    exact .take (.take (.take (.take (.take .done)))))) (by decide) (by decide) hk
  refine (h w (fun p hp => (List.mem_append.1 hp).elim (hG p) (hH p)) (fun _ h => by cases h) (by simp [keys]) (fun _ h => by cases h)).mono ?_
  rintro e w' ⟨v, H', rfl, ⟨rfl, rfl⟩, _, _, hf, _⟩
  refine ⟨_, _, rfl, ⟨(), trivial, by rw [hb], rfl⟩, fun p hp => ?_, hn, hf.mono (fun _ h => by cases h), fun g hg => .inl hg⟩
  rw [hf.keep _ (hH.lt (List.mem_map_of_mem hp)) (fun h => by cases h)]
  exact hH p hp
end Go.Proofs

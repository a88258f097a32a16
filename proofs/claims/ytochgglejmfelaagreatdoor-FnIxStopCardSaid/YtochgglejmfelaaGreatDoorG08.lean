/- spec.IndexBody; spec.IndexBytes; What is cut off of an index within its numbers; The parts of an index, read; The parts of an index with codes, read; What stands in an index, as parts; Identifiers made and taken apart; Regions that draw their order in a function with a deferred closure, whose results lie in two blocks; impl.cidIn; an identifier's bytes, version, multihash. (A part of the proof of this: for every input laws.FnIxStop returns true and its arguments read as they did, the listed package variables being what the program lays.) -/
import Derived.Test.YtochgglejmfelaaGreatDoorG02
import Derived.Test.YtochgglejmfelaaGreatDoorG07
import Derived.Test.YtochgglejmfelaaGreatDoorG04
import Derived.Test.YtochgglejmfelaaGreatDoorG05
namespace Go.Sl
open Go
theorem B_inj {a b : List UInt8} (h : B a = B b) : a = b := by
  induction a generalizing b with
  | nil => cases b with
    | nil => rfl
    | cons y b => simp [B] at h
  | cons x a ih => cases b with
    | nil => simp [B] at h
    | cons y b =>
      simp only [B, List.map_cons, List.cons.injEq, Value.int.injEq, true_and] at h
      rw [ih (show B a = B b from h.2), UInt8.toNat_inj.1 (by omega : x.toNat = y.toNat)]
/-- A string of bytes that a slice holds. -/
theorem e_bsO {x : Cx} {s : Slots} {H HB : HP} {d n : Nat} {p : Operand} {ty t t' e : TypeId} {pos : String} {af : Array Edge} {gd' : Option (Nat × Bool)} {v : Value} {bs : List UInt8} (hU : x.P.underlying t = some (.slice e)) (hU8 : x.P.underlying e = some (.int .u8)) (hU' : x.P.underlying t' = some .string) (ho : Osl e 1 v n (B bs) HB) (hm : ∀ p ∈ HB, p ∈ H) (hp : ev s p = some v) :
    Ex x s H ⟨some d, .convert t t' p, ty, pos, af, gd'⟩ (S bs) := by
  generalize hX : B bs = X at ho
  cases ho with
  | nil =>
    obtain rfl : bs = [] := B_inj (b := []) hX
    exact e_bsn hU hU8 hU' hp
  | @own g n cap lo hi xs rest a1 a2 a3 a4 a5 =>
    subst hX
    refine e_bs hU hU8 hU' hp (.inl (hm _ (.head _))) ?_
    have := CutL.of (l := B bs ++ rest) (i := 0) (n := n) (by simp; omega)
    simpa [← (show (B bs).length = n by omega)] using this
end Go.Sl
namespace Go.Proofs
open Go Go.Sl Tryz
set_option maxRecDepth 100000
set_option maxHeartbeats 2000000
theorem osl_ens {G HB : HP} {v : Value} {l : List En} (ho : Osl 56 5 v l.length (cells5 l) HB) : EnS (G ++ HB) v l := by
  generalize hN : l.length = N at ho
  generalize hX : cells5 l = X at ho
  cases ho with
  | nil =>
    obtain rfl := List.length_eq_zero_iff.1 hN
    exact .none
  | own a1 a2 a3 a4 a5 =>
    subst hX
    refine .blk (List.mem_append_right _ (.head _)) hN (fun i h => ?_)
    rw [Nat.zero_add]
    exact cells5_cut h _
def codeB (l : List En) (c : Int) : List UInt8 := lowB c 8 ++ sortedB (codedL l c)
def bodyB (l : List En) (kind : Int) : List UInt8 := if kind = 1024 then sortedB l else lowB ((codes l).length : Nat) 4 ++ (codes l).flatMap (codeB l)
theorem codedL_len (l : List En) (c : Int) : (codedL l c).length ≤ l.length := List.length_filter_le _ _
theorem codedL_mem {l : List En} {c : Int} {x : En} (h : x ∈ codedL l c) : x ∈ l := (List.mem_filter.1 h).1
theorem codeB_length (l : List En) (c : Int) (hd : ∀ x ∈ l, x.d.length ≤ 200) (hl : l.length ≤ 100) : (codeB l c).length ≤ 2200008 := by
  have := sortedB_length (codedL l c) (fun x hx => hd x (codedL_mem hx)) (Nat.le_trans (codedL_len l c) hl)
  simp only [codeB, List.length_append, lowB_length]
  omega
theorem codes_len (l : List En) : (codes l).length ≤ l.length := by
  rw [codes, srt_length]
  exact Nat.le_trans (distI_length _) (by simp [hcs])
theorem body_is {G : HP} {vl : Value} {l : List En} {kind : Int} (h : EnS G vl l) (hl : l.length ≤ 100) (hd : ∀ x ∈ l, x.d.length ≤ 200) :
    CtrP Tryz.prog 38 [vl, .int .u64 kind] G (S (bodyB l kind)) := by
  refine fn_enter 36 func38 rfl ntmps38 rfl ?_
  intro w0
  refine cR <| oA rfl <| oN <| c_seq <| cR <| oM rfl <| oX (e_eql rfl rfl) <| oN ?_
  refine c_ifp rfl (fun h1 => ?_) (fun h1 => ?_)
  · refine cR <| oM rfl ?_
    refine o_l rfl (l_call call71 (sortedBytes_is .nil h hl hd (by decide)) rfl rfl .nil) ?_
    rintro ⟨v, HB⟩ ho
    simp only [Nat.zero_add, List.nil_append] at ho ⊢
    refine oX (e_bsO underlying72 underlying5 underlying9 ho (by simp) rfl) ?_
    refine oA rfl <| oN <| c_ret ?_
    refine WR.less (fun _ _ h => h) (List.nil_sublist _) ?_
    refine r_fn1 results38 rfl ?_
    exact ⟨by rw [bodyB, if_pos h1], rfl⟩
  · skip
    have hcl := codes_len l
    refine c_skip <| n_code <| cR <| oM rfl ?_
    refine o_l rfl (l_call call72 (codes_is h (by omega)) rfl rfl .nil) ?_
    rintro ⟨vc, Hc⟩ hvc
    rcases hvc.openV with ⟨rfl, rfl, h0⟩ | ⟨gc, capc, restc, loc, hic, rfl, rfl, a2, a3, a4, a5⟩
    · simp only [List.nil_append]
      refine oA rfl <| oN <| cR <| oM rfl <| oX (e_lenl runUnderlying29 rfl) <| oX (e_convn runUnderlying3 runUnderlying23 rfl (by simp only [inR]; omega)) ?_
      refine o_l rfl (l_call call73 (low_is (k := 4) .nil (by decide) (by decide)) rfl rfl .nil) ?_
      rintro ⟨v1, HB1⟩ ho1
      simp only [Nat.zero_add, List.nil_append] at ho1 ⊢
      refine oA rfl <| oN <| c_seq <| cR <| oM rfl <| oX (e_lenl runUnderlying29 rfl) <| oM rfl <| oN <| c_block ?_
      refine c_rounds 1 ?_
      refine cR <| oX (e_lss rfl rfl) <| oN <| c_seq <| c_else rfl ?_
      refine c_exit ?_; refine x_code ?_; refine x_upto ?_; refine x_here ?_
      refine n_code <| cR <| oM rfl ?_
      refine oX (e_bsO underlying72 underlying5 underlying9 ho1 (by simp) rfl) ?_
      refine oA rfl <| oN <| c_ret ?_
      refine WR.less (fun _ _ h => h) (List.nil_sublist _) ?_
      refine r_fn1 results38 rfl ?_
      exact ⟨by rw [bodyB, if_neg h1, h0]; simp, rfl⟩
    · skip
      refine oA rfl <| oN <| cR <| oM rfl <| oX (e_lenl runUnderlying29 rfl) <| oX (e_convn runUnderlying3 runUnderlying23 rfl (by simp only [inR]; omega)) ?_
      refine o_l rfl (l_call call73 (low_is (k := 4) .nil (by decide) (by decide)) rfl rfl .nil) ?_
      rintro ⟨v1, HB1⟩ ho1
      simp only [Nat.zero_add, List.nil_append] at ho1 ⊢
      refine oA rfl <| oN <| c_seq <| cR <| oM rfl <| oX (e_lenl runUnderlying29 rfl) <| oM rfl <| oN <| c_block ?_
      refine c_loop (X := Nat × Value × HP) (fun y => [(0, vl), (6, y.2.1), (20, .slice (some ⟨gc, 0, none⟩) (codes l).length capc), (21, .int .i64 (codes l).length), (22, .int .i64 y.1)]) (fun y => (gc, VB .u64 (codes l) restc 23 loc hic) :: y.2.2)
        (fun y => y.1 ≤ (codes l).length ∧ Osl 5 1 y.2.1 (4 + (((codes l).take y.1).flatMap (codeB l)).length) (B (lowB ((codes l).length : Nat) 4 ++ ((codes l).take y.1).flatMap (codeB l))) y.2.2) (fun y => (codes l).length - y.1) (0, v1, HB1) ⟨Nat.zero_le _, by simpa using ho1⟩ (sub_cons rfl (sub_cons rfl (sub_cons rfl (sub_cons rfl (sub_cons rfl sub_nil))))) (List.perm_append_comm (l₂ := [_])) ?_
      rintro ⟨i, v', HB'⟩ ⟨hi, ho'⟩
      simp only at hi ho' ⊢
      refine cR <| oX (e_lss rfl rfl) <| oN <| c_seq ?_
      refine c_ifp rfl (fun h2 => ?_) (fun h2 => ?_)
      · have hi2 : i < (codes l).length := by omega
        have hnx := flat_take (f := codeB l) hi2
        have hfl := flat_length ((codes l).take i) (codeB l) 2200008 (fun n => codeB_length l n hd hl)
        have hfl2 : ((codes l).take i).length * 2200008 ≤ 100 * 2200008 := Nat.mul_le_mul_right _ (by simp; omega)
        generalize hwi : gd (codes l) i = ci at hnx
        have hcb := codeB_length l ci hd hl
        refine c_skip <| n_code <| c_seq <| c_block <| cR <| oX (e_ian runUnderlying29 sizeOf23 rfl rfl (by omega)) <| oX (e_ld isAgg23 rfl (.inl M0) (by omega)) <| oA rfl <| oN <| c_region <| oM rfl <| oM rfl ?_
        rw [hwi]
        refine o_l rfl (l_call call73 (low_is (k := 8) ho' (by decide) (by omega)) rfl rfl (Sel.appR [_] HB')) ?_
        rintro ⟨v2, HB2⟩ ho2
        simp only at ho2 ⊢
        refine oM rfl <| oM rfl ?_
        refine o_l rfl (l_call call74 (coded_is h (by omega)) rfl rfl .nil) ?_
        rintro ⟨vk, Hk⟩ hk
        simp only at hk ⊢
        refine o_l rfl (l_callj (HJ := Hk) call71 (sortedBytes_is ho2 (osl_ens hk) (Nat.le_trans (codedL_len l ci) hl) (fun x hx => hd x (codedL_mem hx)) (by omega)) rfl rfl (Hr := Hk ++ [_]) (by simpa using Sel.mid Hk HB2 [_]) (fun p hp => List.mem_append_left _ hp)) ?_
        rintro ⟨v3, HB3⟩ ho3
        simp only at ho3 ⊢
        refine oA rfl <| o_nil <| n_block <| n_code <| c_region <| oX (e_addn rfl rfl (by simp only [inR]; omega)) <| oM rfl <| o_nil ?_
        refine n_round' (y := (i, v', HB')) (i + 1, v3, HB3) (by show (codes l).length - (i + 1) < (codes l).length - i; omega) ⟨by show i + 1 ≤ (codes l).length; omega, ?_⟩ (sub_cons rfl (sub_cons rfl (sub_cons rfl (sub_cons rfl (sub_cons rfl sub_nil))))) ((Hk ++ [_]) ++ HB3) List.perm_append_comm (by rw [List.append_assoc]; exact List.sublist_append_right _ _)
        simp only [hnx, codeB]
        rw [List.length_append, List.length_append, lowB_length, ← List.append_assoc, ← List.append_assoc, B_append, B_append (_ ++ _) (lowB _ _), ← Nat.add_assoc, ← Nat.add_assoc]
        exact ho3
      · skip
        have : i = (codes l).length := by omega
        subst this
        rw [List.take_length] at ho'
        refine c_exit ?_; refine x_code ?_; refine x_upto ?_; refine x_here ?_
        refine n_code <| cR <| oM rfl ?_
        refine oX (e_bsO underlying72 underlying5 underlying9 ho' (fun _ h => .tail _ h) rfl) ?_
        refine oA rfl <| oN <| c_ret ?_
        refine WR.less (fun _ _ h => h) (List.nil_sublist _) ?_
        refine r_fn1 results38 rfl ?_
        exact ⟨by rw [bodyB, if_neg h1], rfl⟩
end Go.Proofs
namespace Go.Proofs
open Go Go.Sl Tryz
set_option maxRecDepth 100000
set_option maxHeartbeats 2000000
theorem varint_1024 {G : HP} : Ctr Tryz.prog 37 [.int .u64 1024] G [] (fun r H' => Osl 5 1 r 2 (B [128, 8]) H') := by
  refine fn_enter 19 func37 rfl ntmps37 rfl ?_
  intro w0
  refine cR <| oA rfl <| oN <| cR <| oA rfl <| oN <| c_seq <| c_block ?_
  refine c_rounds 2 ?_
  refine c_seq <| cR <| oM rfl <| oX (e_geq rfl rfl) <| oN <| c_then rfl <| c_skip <| n_code <| c_block <| cR <| oM rfl <| oM rfl <| oX (e_conv runUnderlying23 runUnderlying5 rfl) <| oX (e_or rfl rfl) ?_
  refine o_l rfl (l_bs1 runUnderlying72 sizeOf5 zeroValue5 rfl rfl rfl) ?_; intro g10 _
  refine o_l rfl (l_append (sz := 1) (HB := []) underlying72 (info_of typeInfo5) rfl rfl rfl rfl rfl rfl .nil (.refl _) (.blk underlying72 (.inl M0) (.take .done) (by simp [Value.oneCell'])) (by show _ * 1 ≤ _; omega) (by omega)) ?_
  rintro ⟨v2, HB2⟩ ho2
  simp only at ho2 ⊢
  refine oA rfl <| oN <| c_region <| oM rfl <| oX (e_shr rfl rfl (by omega)) <| oA rfl <| o_nil <| n_block ?_
  refine n_rounds ?_
  refine c_seq <| cR <| oM rfl <| oX (e_geq rfl rfl) <| oN <| c_else rfl ?_
  refine c_exit ?_; refine x_code ?_; refine x_upto ?_; refine x_here ?_
  refine n_code <| cR <| oM rfl <| oM rfl <| oX (e_conv runUnderlying23 runUnderlying5 rfl) ?_
  refine o_l rfl (l_bs1 runUnderlying72 sizeOf5 zeroValue5 rfl rfl rfl) ?_; intro g17 _
  refine o_l rfl (l_append (sz := 1) (HB := HB2) underlying72 (info_of typeInfo5) rfl rfl rfl rfl rfl rfl ho2 (perm_mid [_] HB2 _) (.blk underlying72 (.inl M0) (.take .done) (by simp [Value.oneCell'])) (by show _ * 1 ≤ _; omega) (by omega)) ?_
  rintro ⟨v3, HB3⟩ ho3
  simp only at ho3 ⊢
  refine oA rfl <| oN <| c_ret ?_
  refine WR.less (fun _ _ h => h) (List.sublist_append_left _ _) ?_
  refine r_fn1 results37 rfl ?_
  exact ho3
theorem varint_1025 {G : HP} : Ctr Tryz.prog 37 [.int .u64 1025] G [] (fun r H' => Osl 5 1 r 2 (B [129, 8]) H') := by
  refine fn_enter 19 func37 rfl ntmps37 rfl ?_
  intro w0
  refine cR <| oA rfl <| oN <| cR <| oA rfl <| oN <| c_seq <| c_block ?_
  refine c_rounds 2 ?_
  refine c_seq <| cR <| oM rfl <| oX (e_geq rfl rfl) <| oN <| c_then rfl <| c_skip <| n_code <| c_block <| cR <| oM rfl <| oM rfl <| oX (e_conv runUnderlying23 runUnderlying5 rfl) <| oX (e_or rfl rfl) ?_
  refine o_l rfl (l_bs1 runUnderlying72 sizeOf5 zeroValue5 rfl rfl rfl) ?_; intro g10 _
  refine o_l rfl (l_append (sz := 1) (HB := []) underlying72 (info_of typeInfo5) rfl rfl rfl rfl rfl rfl .nil (.refl _) (.blk underlying72 (.inl M0) (.take .done) (by simp [Value.oneCell'])) (by show _ * 1 ≤ _; omega) (by omega)) ?_
  rintro ⟨v2, HB2⟩ ho2
  simp only at ho2 ⊢
  refine oA rfl <| oN <| c_region <| oM rfl <| oX (e_shr rfl rfl (by omega)) <| oA rfl <| o_nil <| n_block ?_
  refine n_rounds ?_
  refine c_seq <| cR <| oM rfl <| oX (e_geq rfl rfl) <| oN <| c_else rfl ?_
  refine c_exit ?_; refine x_code ?_; refine x_upto ?_; refine x_here ?_
  refine n_code <| cR <| oM rfl <| oM rfl <| oX (e_conv runUnderlying23 runUnderlying5 rfl) ?_
  refine o_l rfl (l_bs1 runUnderlying72 sizeOf5 zeroValue5 rfl rfl rfl) ?_; intro g17 _
  refine o_l rfl (l_append (sz := 1) (HB := HB2) underlying72 (info_of typeInfo5) rfl rfl rfl rfl rfl rfl ho2 (perm_mid [_] HB2 _) (.blk underlying72 (.inl M0) (.take .done) (by simp [Value.oneCell'])) (by show _ * 1 ≤ _; omega) (by omega)) ?_
  rintro ⟨v3, HB3⟩ ho3
  simp only at ho3 ⊢
  refine oA rfl <| oN <| c_ret ?_
  refine WR.less (fun _ _ h => h) (List.sublist_append_left _ _) ?_
  refine r_fn1 results37 rfl ?_
  exact ho3
theorem bodyB_length (l : List En) (kind : Int) (hd : ∀ x ∈ l, x.d.length ≤ 200) (hl : l.length ≤ 100) : (bodyB l kind).length ≤ 300000000 := by
  have h1 := sortedB_length l hd hl
  have h2 := flat_length (codes l) (codeB l) 2200008 (fun n => codeB_length l n hd hl)
  have h3 := codes_len l
  have h4 : (codes l).length * 2200008 ≤ 100 * 2200008 := Nat.mul_le_mul_right _ (by omega)
  unfold bodyB
  split
  · omega
  · simp only [List.length_append, lowB_length]; omega
/-- What begins an index. -/
def kindB (kind : Int) : List UInt8 := if kind = 1024 then [128, 8] else [129, 8]
def indexB (l : List En) (kind : Int) : List UInt8 := kindB kind ++ bodyB l kind
theorem kindB_length (kind : Int) : (kindB kind).length = 2 := by unfold kindB; split <;> rfl
theorem varint_kind {G : HP} {kind : Int} (hk : kind = 1024 ∨ kind = 1025) : Ctr Tryz.prog 37 [.int .u64 kind] G [] (fun r H' => Osl 5 1 r 2 (B (kindB kind)) H') := by
  rcases hk with rfl | rfl
  · exact varint_1024
  · exact varint_1025
theorem indexBytes_is {G : HP} {vl : Value} {l : List En} {kind : Int} (h : EnS G vl l) (hl : l.length ≤ 100) (hd : ∀ x ∈ l, x.d.length ≤ 200) (hk : kind = 1024 ∨ kind = 1025) :
    CtrP Tryz.prog 15 [vl, .int .u64 kind] G (S (indexB l kind)) := by
  have hbl := bodyB_length l kind hd hl
  have hkl := kindB_length kind
  refine fn_enter 12 func15 rfl ntmps15 rfl ?_
  intro w0
  refine cR <| oA rfl <| oN <| c_seq ?_
  refine c_regiond ([]) (by kernel_rfl) (by first | exact List.Sublist.refl _ | exact List.nil_sublist _ | (repeat constructor)) ?_
  refine dX 0 rfl (e_move rfl) <| dX 3 rfl (e_move rfl) <| dX 4 rfl (e_move rfl) ?_
  refine d_l 1 (by kernel_rfl) rfl rfl (l_call call37 (varint_kind hk) rfl rfl .nil) (fun _ _ => hs_nil) ?_
  rintro ⟨vv, HBv⟩ hv
  simp only at hv ⊢
  refine d_l2 2 5 (by kernel_rfl) rfl rfl rfl rfl (l_q rfl (e_bsO underlying72 underlying5 underlying9 hv (by simp) rfl)) (l_call call38 (body_is h hl hd) rfl rfl .nil) (fun _ _ _ h => by cases h) (fun _ _ _ h => by cases h) ?_ ?_
  · intro _ _
    refine d_l 5 (by kernel_rfl) rfl rfl (l_call call38 (body_is h hl hd) rfl rfl .nil) (fun _ _ => hs_nil) ?_
    rintro ⟨r, H'⟩ ⟨rfl, rfl⟩
    simp only [List.nil_append]
    refine dX 6 rfl (e_sadd rfl rfl (by omega)) <| dX 7 rfl (e_assign rfl) <| dN <| n_code <| c_ret ?_
    refine WR.less (fun _ _ h => h) (List.nil_sublist _) ?_
    refine r_fn1 results15 rfl ?_
    exact ⟨rfl, rfl⟩
  · skip
    rintro ⟨r, H'⟩ ⟨rfl, rfl⟩
    simp only [List.nil_append]
    refine d_le 2 (by kernel_rfl) rfl rfl rfl rfl (fun _ h => by cases h) (e_bsO underlying72 underlying5 underlying9 hv (by simp) rfl) ?_
    refine dX 6 rfl (e_sadd rfl rfl (by omega)) <| dX 7 rfl (e_assign rfl) <| dN <| n_code <| c_ret ?_
    refine WR.less (fun _ _ h => h) (List.nil_sublist _) ?_
    refine r_fn1 results15 rfl ?_
    exact ⟨rfl, rfl⟩
end Go.Proofs
namespace Go.Proofs
open Go Go.Sl
theorem lowb_nat (k i : Nat) : (lowb (k : Nat) i).toNat = k / 2 ^ (8 * i) % 256 := by
  unfold lowb
  have h : ((k : Nat) : Int) / 2 ^ (8 * i) % 256 = ((k / 2 ^ (8 * i) % 256 : Nat) : Int) := by simp
  rw [h, Int.toNat_natCast, UInt8.toNat_ofNat']
  omega
theorem le_lowB (k : Nat) (h : k < 4294967296) : le (lowB (k : Nat) 4) = k := by
  have e : lowB (k : Nat) 4 = [lowb (k : Nat) 0, lowb (k : Nat) 1, lowb (k : Nat) 2, lowb (k : Nat) 3] := rfl
  rw [e]
  simp only [le, lowb_nat]
  omega
theorem num_take {s : List UInt8} {m i : Nat} (h : i + 4 ≤ m) : num (s.take m) i = num s i := by
  unfold num
  rw [List.drop_take, List.take_take, Nat.min_eq_left (by omega)]
theorem num_at {p q : List UInt8} {k : Nat} (h : k < 4294967296) : num (p ++ (lowB (k : Nat) 4 ++ q)) p.length = k := by
  unfold num
  rw [List.drop_left, List.take_left' (lowB_length _ _), le_lowB k h]
def cutN (l : List En) (kind : Int) : Nat := if l = [] then 6 else if kind = 1025 then 30 else 18
theorem sortedB_head {l : List En} (hl : l ≠ []) (h100 : l.length ≤ 100) : ∃ (k : Nat) (q : List UInt8), sortedB l = lowB (k : Nat) 4 ++ q ∧ 1 ≤ k ∧ k ≤ 100 ∧ 12 ≤ q.length := by
  refine ⟨(widths l).length, _, rfl, ?_, Nat.le_trans (widths_len l) h100, ?_⟩
  · obtain ⟨x, hx⟩ := List.exists_mem_of_ne_nil l hl
    have : (x.d.length : Int) ∈ widths l := widths_mem.2 ⟨x, hx, rfl⟩
    exact List.length_pos_of_mem this
  · obtain ⟨x, hx⟩ := List.exists_mem_of_ne_nil l hl
    have : (x.d.length : Int) ∈ widths l := widths_mem.2 ⟨x, hx, rfl⟩
    cases hw : widths l with
    | nil => rw [hw] at this; cases this
    | cons a W => simp only [List.flatMap_cons, List.length_append, partB, lowB_length]; omega
theorem sortedB_nil : sortedB [] = lowB 0 4 := by simp [sortedB, widths_nil]
theorem codes_mem {l : List En} {a : Int} : a ∈ codes l ↔ ∃ x ∈ l, x.h = a := by
  rw [codes, srt_mem, distI_mem, hcs, List.mem_map]
theorem bodyB_head {l : List En} (hl : l ≠ []) (h100 : l.length ≤ 100) : ∃ (k : Nat) (q : List UInt8), bodyB l 1025 = lowB (k : Nat) 4 ++ q ∧ 1 ≤ k ∧ k ≤ 100 ∧ ∃ (c q1 : List UInt8) (k2 : Nat), q = c ++ (lowB (k2 : Nat) 4 ++ q1) ∧ c.length = 8 ∧ 1 ≤ k2 ∧ k2 ≤ 100 ∧ 12 ≤ q1.length := by
  obtain ⟨x, hx⟩ := List.exists_mem_of_ne_nil l hl
  have hm : x.h ∈ codes l := codes_mem.2 ⟨x, hx, rfl⟩
  refine ⟨(codes l).length, _, by rw [bodyB, if_neg (by decide)], List.length_pos_of_mem hm, Nat.le_trans (codes_len l) h100, ?_⟩
  cases hc : codes l with
  | nil => rw [hc] at hm; cases hm
  | cons a Cs =>
    have ha : a ∈ codes l := by rw [hc]; exact .head _
    obtain ⟨y, hy, hya⟩ := codes_mem.1 ha
    have hne : codedL l a ≠ [] := by
      intro e
      have : y ∈ codedL l a := List.mem_filter.2 ⟨hy, by simp [hya]⟩
      rw [e] at this; cases this
    obtain ⟨k2, q2, e2, h1, h2, h3⟩ := sortedB_head hne (Nat.le_trans (codedL_len l a) h100)
    refine ⟨lowB a 8, q2 ++ Cs.flatMap (codeB l), k2, ?_, lowB_length _ _, h1, h2, by rw [List.length_append]; omega⟩
    simp only [List.flatMap_cons, codeB, e2, List.append_assoc]
theorem cut_of {l : List En} {kind : Int} {m : Nat} (h100 : l.length ≤ 100) (hk : kind = 1024 ∨ kind = 1025) (hm : m < cutN l kind) : cutN l kind ≤ (indexB l kind).length ∧ Cut ((indexB l kind).take m) := by
  have h0 : ∀ (b : UInt8) (t : List UInt8), 128 ≤ b.toNat → m < 2 → Cut ((b :: 8 :: t).take m) := by
    intro b t hb h2
    match m, h2 with
    | 0, _ => exact .none rfl
    | 1, _ => exact .one rfl hb
  by_cases hl : l = []
  · subst hl
    simp only [cutN, if_true] at hm ⊢
    rcases hk with rfl | rfl
    · have e : indexB [] 1024 = 128 :: 8 :: lowB 0 4 := by simp [indexB, kindB, bodyB, sortedB_nil]
      rw [e]
      refine ⟨by simp [lowB_length], ?_⟩
      by_cases h2 : m < 2
      · exact h0 _ _ (by decide) h2
      · refine .s (tl := (lowB 0 4).take (m - 2)) (by rw [show m = (m - 2) + 2 by omega]; rfl) (by simp; omega) (fun h => ?_)
        simp at h; omega
    · have e : indexB [] 1025 = 129 :: 8 :: lowB 0 4 := by simp [indexB, kindB, bodyB, codes_nil]
      rw [e]
      refine ⟨by simp [lowB_length], ?_⟩
      by_cases h2 : m < 2
      · exact h0 _ _ (by decide) h2
      · refine .m (tl := (lowB 0 4).take (m - 2)) (by rw [show m = (m - 2) + 2 by omega]; rfl) (by simp; omega) (fun h => ?_) (fun h => ?_)
        · simp at h; omega
        · simp at h; omega
  · rcases hk with rfl | rfl
    · obtain ⟨k, q, e, h1, h2, h3⟩ := sortedB_head hl h100
      have e' : indexB l 1024 = [128, 8] ++ (lowB (k : Nat) 4 ++ q) := by rw [indexB, kindB, if_pos rfl, bodyB, if_pos rfl, e]
      simp only [cutN, if_neg hl, if_neg (show ¬ (1024 : Int) = 1025 by decide)] at hm ⊢
      have hn := num_at (p := [128, 8]) (q := q) (k := k) (by omega)
      rw [e']
      refine ⟨by simp [lowB_length]; omega, ?_⟩
      by_cases h4 : m < 2
      · exact h0 _ _ (by decide) h4
      · refine .s (tl := (lowB (k : Nat) 4 ++ q).take (m - 2)) (by rw [show m = (m - 2) + 2 by omega]; rfl) (by simp; omega) (fun h => ?_)
        have hm6 : 6 ≤ m := by simp at h; omega
        rw [num_take (by omega), show (2 : Nat) = ([128, 8] : List UInt8).length from rfl, hn]
        omega
    · obtain ⟨k, q, e, h1, h2, c, q1, k2, e2, hc8, h5, h6, h7⟩ := bodyB_head hl h100
      have e' : indexB l 1025 = [129, 8] ++ (lowB (k : Nat) 4 ++ q) := by rw [indexB, kindB, if_neg (by decide), e]
      simp only [cutN, if_neg hl, if_true] at hm ⊢
      have hn := num_at (p := [129, 8]) (q := q) (k := k) (by omega)
      have hn2 := num_at (p := [129, 8] ++ (lowB (k : Nat) 4 ++ c)) (q := q1) (k := k2) (by omega)
      have e3 : ([129, 8] ++ (lowB (k : Nat) 4 ++ c)) ++ (lowB (k2 : Nat) 4 ++ q1) = [129, 8] ++ (lowB (k : Nat) 4 ++ q) := by rw [e2]; simp
      have e4 : ([129, 8] ++ (lowB (k : Nat) 4 ++ c) : List UInt8).length = 14 := by simp [lowB_length, hc8]
      rw [e3, e4] at hn2
      rw [e']
      refine ⟨by rw [e2]; simp [lowB_length, hc8]; omega, ?_⟩
      by_cases h4 : m < 2
      · exact h0 _ _ (by decide) h4
      · refine .m (tl := (lowB (k : Nat) 4 ++ q).take (m - 2)) (by rw [show m = (m - 2) + 2 by omega]; rfl) (by simp; omega) (fun h => ?_) (fun h => ?_)
        · have hm6 : 6 ≤ m := by simp at h; omega
          rw [num_take (by omega), show (2 : Nat) = ([129, 8] : List UInt8).length from rfl, hn]
          omega
        · have hm18 : 18 ≤ m := by simp at h; omega
          rw [num_take (by omega), hn2]
          omega
end Go.Proofs
namespace Go.Proofs
open Go Go.Sl Tryz
set_option maxRecDepth 100000
set_option maxHeartbeats 1000000
/-- A part: the width of its rows, the rows. -/
abbrev Part := Nat × List UInt8
def pbB (p : Part) : List UInt8 := lowB (p.1 : Nat) 4 ++ (lowB (p.2.length : Nat) 8 ++ p.2)
theorem pbB_length (p : Part) : (pbB p).length = 12 + p.2.length := by simp [pbB, lowB_length]; omega
theorem le_lowB8 (k : Nat) (h : k < 18446744073709551616) : le (lowB (k : Nat) 8) = k := by
  have e : lowB (k : Nat) 8 = [lowb (k : Nat) 0, lowb (k : Nat) 1, lowb (k : Nat) 2, lowb (k : Nat) 3, lowb (k : Nat) 4, lowb (k : Nat) 5, lowb (k : Nat) 6, lowb (k : Nat) 7] := rfl
  rw [e]
  simp only [le, lowb_nat]
  omega
/-- A part in memory: its rows' block, the part. -/
abbrev Mpart := Nat × Part
def MV (ts : List Mpart) : List (Int × Value) := ts.map fun t => ((t.2.1 : Nat), .agg #[.int .u32 (t.2.1 : Nat), .int .u64 (t.2.2.length / t.2.1 : Nat), .slice (some ⟨t.1, 0, none⟩) t.2.2.length t.2.2.length])
def MB (ts : List Mpart) : HP := ts.map fun t => (t.1, C (B t.2.2) 5)
theorem MV_snoc (ts : List Mpart) (t : Mpart) : MV (ts ++ [t]) = MV ts ++ MV [t] := by simp [MV]
theorem MB_snoc (ts : List Mpart) (t : Mpart) : MB (ts ++ [t]) = MB ts ++ MB [t] := by simp [MB]
theorem MV_none {ts : List Mpart} {w : Nat} (h : w ∉ ts.map fun t => t.2.1) : mget (MV ts) (w : Nat) = none := by
  induction ts with
  | nil => rfl
  | cons t ts ih =>
    simp only [List.map_cons, List.mem_cons, not_or] at h
    simp only [MV, List.map_cons, mget]
    rw [if_neg (by omega)]
    exact ih h.2
/-- What a part may be. -/
structure PartOk (p : Part) : Prop where
  h1 : 8 ≤ p.1
  h2 : p.1 ≤ 33554432
  h3 : 0 < p.2.length
theorem drop_at {a b bs : List UInt8} {p : Nat} (h : bs = a ++ b) (hp : a.length = p) : bs.drop p = b := by
  subst hp; subst h; simp
theorem flat_split {ps : List Part} {i : Nat} (h : i < ps.length) : ps.flatMap pbB = (ps.take i).flatMap pbB ++ (pbB ps[i] ++ (ps.drop (i + 1)).flatMap pbB) := by
  have e : ps = ps.take i ++ (ps[i] :: ps.drop (i + 1)) := by simp
  conv => lhs; rw [e]
  rw [List.flatMap_append, List.flatMap_cons]
theorem flat_succ {ps : List Part} {i : Nat} (h : i < ps.length) : (ps.take (i + 1)).flatMap pbB = (ps.take i).flatMap pbB ++ pbB ps[i] := by
  rw [List.take_succ_eq_append_getElem h, List.flatMap_append]; simp
section
variable {G : HP} {gr gs gm gx em n cap i0 lo hi : Nat} {bs pre post : List UInt8} {rest zs : List Value} {ps : List Part}
theorem mwi_ok (hD : (gs, DB bs rest lo hi) ∈ G) (hn : bs.length = n) (hc : n ≤ cap) (h63 : cap < 9223372036854775808) (hn40 : n ≤ 1099511627776) (hbs : bs = pre ++ (lowB (ps.length : Nat) 4 ++ (ps.flatMap pbB ++ post))) (hpre : pre.length = i0) (hK : ps.length ≤ 1000) (hok : ∀ p ∈ ps, PartOk p) (hnd : (ps.map (·.1)).Nodup) :
    Ctr Tryz.prog 332 [.pointer (some ⟨gm, 0, none⟩), RV gr] G [(gr, RB gs n cap i0), (gm, C (.map (some gx) :: zs) em), (gx, Mo .u32 [])] (fun r H' => r = .nilIface ∧ ∃ ts : List Mpart, ts.map (·.2) = ps ∧ H' = (gr, RB gs n cap (i0 + 4 + (ps.flatMap pbB).length)) :: (gm, C (.map (some gx) :: zs) em) :: (gx, Mo .u32 (MV ts)) :: MB ts) := by
  have hlen : i0 + (4 + ((ps.flatMap pbB).length + post.length)) = n := by rw [← hn, hbs]; simp [lowB_length, hpre]
  have h4 : le ((bs.drop i0).take 4) = ps.length := by
    rw [drop_at hbs hpre, List.take_left' (lowB_length _ _), le_lowB _ (by omega)]
  refine fn_enter 75 func332 rfl ntmps332 rfl ?_
  intro w0
  refine cR <| oA rfl <| oN <| cR <| oM rfl <| o_pure rfl call164 (toSeek_is) rfl rfl <| oA rfl <| oN <| cR ?_
  refine o_l rfl (l_alloc zeroValue212 rfl rfl) ?_; intro g6 _
  refine oN <| c_seq <| cR <| oM rfl ?_
  refine o_l rfl (l_call call321 (read32_is hD hn hc h63 (show i0 + 4 ≤ n by omega) .head) rfl rfl (.cons (.tail .head) (.cons .head .nil))) ?_
  rintro ⟨r, H'⟩ ⟨rfl, rfl⟩
  simp only [List.cons_append, List.nil_append]
  rw [h4]
  refine oA rfl <| oN <| cR <| oM rfl <| oX (e_nnen runUnderlying80 rfl) <| oN <| cL rfl <| cR ?_
  refine oX (e_load isAgg212 rfl (by first | exact .inr (by assumption) | exact .inl (by repeat (first | exact List.Mem.head _ | refine List.Mem.tail _ ?_))) rfl) ?_
  refine oX (e_convn runUnderlying212 runUnderlying21 rfl (by simp only [inR]; omega)) <| oA rfl <| oN <| cR <| oM rfl ?_
  refine o_l rfl (l_calli0 call290 (by intro w; kernel_rfl) (seek_is (i := i0 + 4) (by omega)) rfl rfl rfl (.cons .head .nil)) ?_
  rintro ⟨r, H'⟩ ⟨rfl, rfl⟩
  simp only [List.cons_append, List.nil_append]
  refine oM rfl <| oX (e_extract rfl rfl) <| oX (e_extract rfl rfl) <| oA rfl <| oA rfl <| oN <| c_seq <| cR <| oM rfl <| oX (e_nnen runUnderlying80 rfl) <| oN <| cL rfl <| c_seq <| cR <| oM rfl <| oX (e_lss rfl rfl) <| oN ?_
  refine c_ifp rfl (fun h2 => ?_) (fun h2 => ?_)
  · exact absurd h2 (by omega)
  · skip
    refine c_skip <| n_code <| c_seq <| cR <| oA rfl <| oN <| c_block ?_
    refine c_loop (X := List Mpart × Nat × Int) (fun y => [(0, .pointer (some ⟨gm, 0, none⟩)), (1, RV gr), (5, RV gr), (8, .int .i32 ps.length), (9, .int .i64 y.2.2), (11, .int .i64 y.2.1)]) (fun y => [(gr, RB gs n cap (i0 + 4 + ((ps.take y.2.1).flatMap pbB).length)), (g6, C [.int .u32 ps.length] 212), (gm, C (.map (some gx) :: zs) em), (gx, Mo .u32 (MV y.1))] ++ MB y.1) (fun y => y.2.1 ≤ ps.length ∧ y.1.map (·.2) = ps.take y.2.1 ∧ 0 ≤ y.2.2 ∧ y.2.2 ≤ ((y.2.1 : Int) + 1) * 1099511627776) (fun y => ps.length - y.2.1) ([], 0, (i0 + 4 : Nat)) ⟨by simp, by simp, by simp; omega, by simp; omega⟩ (sub_cons rfl (sub_cons rfl (sub_cons rfl (sub_cons rfl (sub_cons rfl (sub_cons rfl sub_nil)))))) (by simp [MB, MV]) ?_
    rintro ⟨ts, i, sm⟩ ⟨hi, hts, hs0, hs1⟩
    simp only at hi hts hs0 hs1 ⊢
    refine c_seq <| cR <| oM rfl <| oM rfl <| oX (e_convn runUnderlying21 runUnderlying3 rfl (by simp only [inR]; omega)) <| oX (e_lss rfl rfl) <| oN ?_
    refine c_ifp rfl (fun h3 => ?_) (fun h3 => ?_)
    · have h3' : i < ps.length := by omega
      obtain ⟨hw1, hw2, hR0⟩ := hok _ (List.getElem_mem h3')
      have hfl := congrArg List.length (flat_split h3')
      have hfs := congrArg List.length (flat_succ h3')
      simp only [List.length_append, pbB_length] at hfl hfs
      have hdr : bs.drop (i0 + 4 + ((ps.take i).flatMap pbB).length) = lowB (ps[i].1 : Nat) 4 ++ (lowB (ps[i].2.length : Nat) 8 ++ (ps[i].2 ++ ((ps.drop (i + 1)).flatMap pbB ++ post))) := by
        refine drop_at (a := pre ++ (lowB (ps.length : Nat) 4 ++ (ps.take i).flatMap pbB)) ?_ (by simp [lowB_length, hpre]; omega)
        rw [hbs, flat_split h3']
        simp [pbB]
      generalize hw : ps[i].1 = w at *
      generalize hd : ps[i].2 = d at *
      generalize hoff : i0 + 4 + ((ps.take i).flatMap pbB).length = o at *
      refine c_skip <| n_code <| c_seq <| c_block <| cR <| oX (e_build (vs := [.int .u32 0, .int .u64 0, .slice none 0 0]) runUnderlying448 zeroValue448 (.cons sizeOf212 (.cons sizeOf23 (.cons sizeOf72 .nil))) rfl (by kernel_rfl)) ?_
      refine o_l rfl (l_alloc zeroValue448 rfl rfl) ?_; intro g12 _
      refine o_l rfl (l_storea sizeOf448 rfl rfl rfl (by simp [Value.oneCell']) .head (.take (.take (.take .done))) nofrs0) ?_
      intro _ _
      refine oN <| c_seq <| cR <| oM rfl ?_
      have e1 : le ((bs.drop o).take 4) = w := by rw [hdr, List.take_left' (lowB_length _ _), le_lowB _ (by omega)]
      have e2 : le ((bs.drop (o + 4)).take 8) = d.length := by rw [← List.drop_drop, hdr, drop_at rfl (lowB_length _ _), List.take_left' (lowB_length _ _), le_lowB8 _ (by omega)]
      have e3 : (bs.drop (o + 12)).take d.length = d := by rw [← List.drop_drop, hdr, ← List.append_assoc, drop_at rfl (by simp [lowB_length]), List.take_left' rfl]
      refine o_l rfl (l_call call341 (swi_ok (i := o) (w := w) (R := d.length) hD hn hc h63 hw1 hw2 hR0 e1 e2 (by omega) (by omega)) rfl rfl (.cons (.tail .head) (.cons .head .nil))) ?_
      rintro ⟨r, H'⟩ ⟨rfl, gb, rfl⟩
      simp only [List.cons_append, List.nil_append]
      rw [e3]
      refine oA rfl <| oN <| cR <| oM rfl <| oX (e_nnen runUnderlying80 rfl) <| oN <| cL rfl <| cR <| oM rfl ?_
      refine o_l rfl (l_calli0 call290 (by intro w; kernel_rfl) (seek_is (i := o + 12 + d.length) (by omega)) rfl rfl rfl (.cons .head .nil)) ?_
      rintro ⟨r, H'⟩ ⟨rfl, rfl⟩
      simp only [List.cons_append, List.nil_append]
      refine oM rfl <| oX (e_extract rfl rfl) <| oX (e_extract rfl rfl) <| oA rfl <| oA rfl <| oN <| c_seq <| cR <| oM rfl <| oX (e_nnen runUnderlying80 rfl) <| oN <| cL rfl <| cR <| oM rfl <| oA rfl <| oN <| cR <| oM rfl <| oM rfl <| oX (e_addn rfl rfl (by simp only [inR]; omega)) <| oA rfl <| oN <| c_seq <| cR <| oM rfl <| oM rfl <| oX (e_lss rfl rfl) <| oN ?_
      refine c_ifp rfl (fun h5 => ?_) (fun h5 => ?_)
      · exact absurd h5 (by omega)
      · skip
        refine c_skip <| n_code <| c_regiong [6] (by kernel_rfl) <| gM 0 rfl (e_move rfl) <| gM 1 rfl (e_nilCheck rfl) ?_
        refine gE 2 rfl (e_load isAgg327 rfl (by first | exact .inr (by assumption) | exact .inl (by repeat (first | exact List.Mem.head _ | refine List.Mem.tail _ ?_))) rfl) ?_
        refine gM 3 rfl (e_fak 0 runUnderlying448 rfl sizeOf212 rfl rfl rfl) ?_
        refine gE 4 rfl (e_load isAgg212 rfl (by first | exact .inr (by assumption) | exact .inl (by repeat (first | exact List.Mem.head _ | refine List.Mem.tail _ ?_))) rfl) ?_
        refine gE 5 rfl (e_loada isAgg448 sizeOf448 rfl (by first | exact .inr (by assumption) | exact .inl (by repeat (first | exact List.Mem.head _ | refine List.Mem.tail _ ?_))) (by first | assumption | repeat constructor)) ?_
        refine g_l 6 (by kernel_rfl) rfl rfl rfl (l_mapup runUnderlying327 runUnderlying212 rfl rfl rfl (.tail (.tail (.tail (.tail (.tail .head)))))) ?_
        intro _ _
        have hnone : mget (MV ts) (w : Nat) = none := by
          refine MV_none fun hm => ?_
          have hm' : w ∈ (ps.take i).map (·.1) := by
            rw [← hts, List.map_map]; exact hm
          obtain ⟨k, hk, he⟩ := List.getElem_of_mem hm'
          simp only [List.length_map, List.length_take] at hk
          simp only [List.getElem_map, List.getElem_take] at he
          rw [Nat.min_eq_left hi] at hk
          exact List.pairwise_iff_getElem.1 hnd k i (by simp; omega) (by simpa using h3') hk (by simp [he, hw])
        rw [mset_new _ hnone]
        refine dN <| n_block <| n_code <| c_region <| oM rfl <| oX (e_addn rfl rfl (by simp only [inR]; omega)) <| oA rfl <| o_nil ?_
        have e4 : (i0 + 4 + ((ps.take (i + 1)).flatMap pbB).length) = o + 12 + d.length := by rw [hfs]; omega
        refine n_round' (y := (ts, i, sm)) (ts ++ [(gb, w, d)], i + 1, sm + ((o + 12 + d.length : Nat) : Int)) (by show ps.length - (i + 1) < ps.length - i; omega) ?_ (sub_cons rfl (sub_cons rfl (sub_cons rfl (sub_cons rfl (sub_cons rfl (sub_cons rfl sub_nil)))))) _ ((List.perm_append_comm (l₁ := [_, _])).cons _) ?_
        · refine ⟨by show i + 1 ≤ ps.length; omega, ?_, by show 0 ≤ sm + ((o + 12 + d.length : Nat) : Int); omega, by show sm + ((o + 12 + d.length : Nat) : Int) ≤ (((i + 1 : Nat) : Int) + 1) * 1099511627776; omega⟩
          show (ts ++ [(gb, w, d)]).map (·.2) = ps.take (i + 1)
          rw [List.map_append, hts, List.take_succ_eq_append_getElem h3', ← hw, ← hd]
          rfl
        · show ([(gr, RB gs n cap (i0 + 4 + ((ps.take (i + 1)).flatMap pbB).length)), (g6, C [.int .u32 ps.length] 212), (gm, C (.map (some gx) :: zs) em), (gx, Mo .u32 (MV (ts ++ [(gb, w, d)])))] ++ MB (ts ++ [(gb, w, d)])).Sublist _
          rw [MV_snoc, MB_snoc, e4]
          refine List.Sublist.cons_cons _ (List.Sublist.cons_cons _ (List.Sublist.cons_cons _ (List.Sublist.cons_cons _ ?_)))
          show (MB ts ++ MB [(gb, w, d)]).Sublist (MB ts ++ [(g12, _), (gb, C (B d) 5)])
          exact List.Sublist.append (List.Sublist.refl _) (List.sublist_cons_self _ _)
    · skip
      refine c_exit ?_; refine x_code ?_; refine x_upto ?_; refine x_here ?_
      refine n_code <| cR <| oA rfl <| oN <| c_ret ?_
      refine WR.sel (.cons .head (.cons (.tail .head) (.cons (.tail .head) (Sel.appR [_] (MB ts))))) ?_
      refine r_fn1 results332 rfl ?_
      obtain rfl : i = ps.length := by omega
      exact ⟨rfl, ts, by simpa using hts, by simp⟩
end
end Go.Proofs
namespace Go.Proofs
open Go Go.Sl Tryz
set_option maxRecDepth 100000
set_option maxHeartbeats 1000000
/-- A code and its parts. -/
abbrev Cpart := Nat × List Part
def pmB (ps : List Part) : List UInt8 := lowB (ps.length : Nat) 4 ++ ps.flatMap pbB
def pcB (c : Cpart) : List UInt8 := lowB (c.1 : Nat) 8 ++ pmB c.2
theorem pmB_length (ps : List Part) : (pmB ps).length = 4 + (ps.flatMap pbB).length := by simp [pmB, lowB_length]
theorem pcB_length (c : Cpart) : (pcB c).length = 12 + (c.2.flatMap pbB).length := by simp [pcB, pmB_length, lowB_length]; omega
/-- A code's parts in memory: the block, the map's block, the code, the parts. -/
structure Mcode where
  gc : Nat
  gx : Nat
  code : Nat
  ts : List Mpart
def Mcode.un (m : Mcode) : Cpart := (m.code, m.ts.map (·.2))
def Mcode.hp (m : Mcode) : HP := (m.gc, C [.map (some m.gx), .int .u64 m.code] 437) :: (m.gx, Mo .u32 (MV m.ts)) :: MB m.ts
def KV (cs : List Mcode) : List (Int × Value) := cs.map fun m => ((m.code : Nat), .pointer (some ⟨m.gc, 0, none⟩))
def KB (cs : List Mcode) : HP := cs.flatMap Mcode.hp
theorem KV_snoc (cs : List Mcode) (m : Mcode) : KV (cs ++ [m]) = KV cs ++ KV [m] := by simp [KV]
theorem KB_snoc (cs : List Mcode) (m : Mcode) : KB (cs ++ [m]) = KB cs ++ m.hp := by simp [KB]
theorem KV_none {cs : List Mcode} {c : Nat} (h : c ∉ cs.map fun t => t.code) : mget (KV cs) (c : Nat) = none := by
  induction cs with
  | nil => rfl
  | cons t cs ih =>
    simp only [List.map_cons, List.mem_cons, not_or] at h
    simp only [KV, List.map_cons, mget]
    rw [if_neg (by omega)]
    exact ih h.2
/-- What a code's parts may be. -/
structure CodeOk (c : Cpart) : Prop where
  hc : c.1 < 18446744073709551616
  hK : c.2.length ≤ 1000
  hok : ∀ p ∈ c.2, PartOk p
  hnd : (c.2.map (·.1)).Nodup
theorem cflat_split {cs : List Cpart} {i : Nat} (h : i < cs.length) : cs.flatMap pcB = (cs.take i).flatMap pcB ++ (pcB cs[i] ++ (cs.drop (i + 1)).flatMap pcB) := by
  have e : cs = cs.take i ++ (cs[i] :: cs.drop (i + 1)) := by simp
  conv => lhs; rw [e]
  rw [List.flatMap_append, List.flatMap_cons]
theorem cflat_succ {cs : List Cpart} {i : Nat} (h : i < cs.length) : (cs.take (i + 1)).flatMap pcB = (cs.take i).flatMap pcB ++ pcB cs[i] := by
  rw [List.take_succ_eq_append_getElem h, List.flatMap_append]; simp
theorem Rem.app (A : HP) {B B' : HP} {p : Nat × Obj} (h : Rem B p B') : Rem (A ++ B) p (A ++ B') := by
  induction A with
  | nil => exact h
  | cons _ _ ih => exact .tail ih
section
variable {G : HP} {gr gs gm gx gc gX em n cap i0 lo hi : Nat} {bs pre post : List UInt8} {rest zs : List Value}
theorem mwc_ok {ps : List Part} {c : Nat} (hD : (gs, DB bs rest lo hi) ∈ G) (hn : bs.length = n) (hc : n ≤ cap) (h63 : cap < 9223372036854775808) (hn40 : n ≤ 1099511627776) (hbs : bs.drop i0 = pcB (c, ps) ++ post) (hi0 : i0 ≤ n) (hok : CodeOk (c, ps)) :
    Ctr Tryz.prog 322 [.pointer (some ⟨gc, 0, none⟩), RV gr] G [(gr, RB gs n cap i0), (gc, C [.map (some gx), .int .u64 0] 437), (gx, Mo .u32 [])] (fun r H' => r = .nilIface ∧ ∃ ts : List Mpart, ts.map (·.2) = ps ∧ H' = (gr, RB gs n cap (i0 + (pcB (c, ps)).length)) :: (⟨gc, gx, c, ts⟩ : Mcode).hp) := by
  obtain ⟨hc64, hK, hokp, hnd⟩ := hok
  have hlen := congrArg List.length hbs
  simp only [List.length_append, List.length_drop, pcB_length, hn] at hlen
  have h8 : le ((bs.drop i0).take 8) = c := by
    rw [hbs, pcB, List.append_assoc, List.take_left' (lowB_length _ _), le_lowB8 _ hc64]
  have hsplit : bs = (bs.take i0 ++ lowB (c : Nat) 8) ++ (lowB (ps.length : Nat) 4 ++ (ps.flatMap pbB ++ post)) := by
    conv => lhs; rw [← List.take_append_drop i0 bs, hbs]
    simp [pcB, pmB]
  refine fn_enter 23 func322 rfl ntmps322 rfl ?_
  intro w0
  refine cR <| oA rfl <| oN <| c_seq <| cR <| oM rfl <| oM rfl <| oC rfl <| oX (e_fak 1 runUnderlying437 rfl sizeOf23 rfl rfl rfl) ?_
  refine o_l rfl (l_call call331 (read64_is (off := 0 + 1) hD hn hc h63 (show i0 + 8 ≤ n by omega) (.tail .head)) rfl rfl (.cons .head (.cons .head .nil))) ?_
  rintro ⟨r, H'⟩ ⟨rfl, rfl⟩
  simp only [List.cons_append, List.nil_append]
  rw [h8]
  refine oA rfl <| oN <| cR <| oM rfl <| oX (e_nnen runUnderlying80 rfl) <| oN <| cL rfl <| cR <| oM rfl <| oC rfl <| oX (e_fak 0 runUnderlying437 rfl sizeOf327 rfl rfl rfl) <| oM rfl ?_
  refine o_l rfl (l_call call332 (mwi_ok (i0 := i0 + 8) hD hn hc h63 hn40 hsplit (by simp [lowB_length]; omega) hK hokp hnd) rfl rfl (.cons .head (.cons .head (.cons .head .nil)))) ?_
  rintro ⟨r, H'⟩ ⟨rfl, ts, hts, rfl⟩
  simp only [List.cons_append]
  refine oA rfl <| oN <| c_ret ?_
  refine r_fn1 results322 rfl ?_
  refine ⟨rfl, ts, hts, ?_⟩
  rw [pcB_length]
  simp only [Mcode.hp]
  rw [show i0 + 8 + 4 + (ps.flatMap pbB).length = i0 + (12 + (ps.flatMap pbB).length) by omega, List.append_nil]
theorem put_is {gh c : Nat} {ks : List (Int × Value)} {z : Value} (hz : mget ks (c : Nat) = none) :
    Ctr Tryz.prog 317 [.pointer (some ⟨gh, 0, none⟩), .pointer (some ⟨gc, 0, none⟩)] G [(gX, Mo .u64 ks), (gc, C [z, .int .u64 c] 437), (gh, C [.map (some gX)] em)] (fun _ H' => H' = [(gX, Mo .u64 (ks ++ [(((c : Nat) : Int), Value.pointer (some ⟨gc, 0, none⟩))])), (gc, C [z, .int .u64 c] 437), (gh, C [.map (some gX)] em)]) := by
  refine fn_enter 12 func317 rfl ntmps317 rfl ?_
  intro w0
  refine c_regiong [8] (by kernel_rfl) <| gM 0 rfl (e_move rfl) <| gM 1 rfl (e_nilCheck rfl) ?_
  refine gE 2 rfl (e_load isAgg330 rfl (by first | exact .inr (by assumption) | exact .inl (by repeat (first | exact List.Mem.head _ | refine List.Mem.tail _ ?_))) rfl) ?_
  refine gM 3 rfl (e_move rfl) <| gM 4 rfl (e_nilCheck rfl) <| gM 5 rfl (e_fak 1 runUnderlying437 rfl sizeOf23 rfl rfl rfl) ?_
  refine gE 6 rfl (e_load isAgg23 rfl (by first | exact .inr (by assumption) | exact .inl (by repeat (first | exact List.Mem.head _ | refine List.Mem.tail _ ?_))) rfl) ?_
  refine gM 7 rfl (e_move rfl) ?_
  refine g_l 8 (by kernel_rfl) rfl rfl rfl (l_mapup runUnderlying330 runUnderlying23 rfl rfl rfl .head) ?_
  intro _ _
  rw [mset_new _ hz]
  refine dN ?_
  refine n_fn0 results317 ?_
  rfl
theorem mhi_ok {gh : Nat} {cs : List Cpart} (hD : (gs, DB bs rest lo hi) ∈ G) (hn : bs.length = n) (hc : n ≤ cap) (h63 : cap < 9223372036854775808) (hn40 : n ≤ 1099511627776) (hbs : bs = pre ++ (lowB (cs.length : Nat) 4 ++ (cs.flatMap pcB ++ post))) (hpre : pre.length = i0) (hK : cs.length ≤ 1000) (hok : ∀ c ∈ cs, CodeOk c) (hnd : (cs.map (·.1)).Nodup) :
    Ctr Tryz.prog 312 [.pointer (some ⟨gh, 0, none⟩), RV gr] G [(gr, RB gs n cap i0), (gh, C [.map (some gX)] em), (gX, Mo .u64 [])] (fun r H' => r = .nilIface ∧ ∃ ms : List Mcode, ms.map Mcode.un = cs ∧ H' = (gr, RB gs n cap (i0 + 4 + (cs.flatMap pcB).length)) :: (gh, C [.map (some gX)] em) :: (gX, Mo .u64 (KV ms)) :: KB ms) := by
  have hlen : i0 + (4 + ((cs.flatMap pcB).length + post.length)) = n := by rw [← hn, hbs]; simp [lowB_length, hpre]
  have h4 : le ((bs.drop i0).take 4) = cs.length := by
    rw [drop_at hbs hpre, List.take_left' (lowB_length _ _), le_lowB _ (by omega)]
  refine fn_enter 73 func312 rfl ntmps312 rfl ?_
  intro w0
  refine cR <| oA rfl <| oN <| cR <| oM rfl <| o_pure rfl call164 (toSeek_is) rfl rfl <| oA rfl <| oN <| cR ?_
  refine o_l rfl (l_alloc zeroValue212 rfl rfl) ?_; intro g6 _
  refine oN <| c_seq <| cR <| oM rfl ?_
  refine o_l rfl (l_call call321 (read32_is hD hn hc h63 (show i0 + 4 ≤ n by omega) .head) rfl rfl (.cons (.tail .head) (.cons .head .nil))) ?_
  rintro ⟨r, H'⟩ ⟨rfl, rfl⟩
  simp only [List.cons_append, List.nil_append]
  rw [h4]
  refine oA rfl <| oN <| cR <| oM rfl <| oX (e_nnen runUnderlying80 rfl) <| oN <| cL rfl <| cR ?_
  refine oX (e_load isAgg212 rfl (by first | exact .inr (by assumption) | exact .inl (by repeat (first | exact List.Mem.head _ | refine List.Mem.tail _ ?_))) rfl) ?_
  refine oX (e_convn runUnderlying212 runUnderlying21 rfl (by simp only [inR]; omega)) <| oA rfl <| oN <| cR <| oM rfl ?_
  refine o_l rfl (l_calli0 call290 (by intro w; kernel_rfl) (seek_is (i := i0 + 4) (by omega)) rfl rfl rfl (.cons .head .nil)) ?_
  rintro ⟨r, H'⟩ ⟨rfl, rfl⟩
  simp only [List.cons_append, List.nil_append]
  refine oM rfl <| oX (e_extract rfl rfl) <| oX (e_extract rfl rfl) <| oA rfl <| oA rfl <| oN <| c_seq <| cR <| oM rfl <| oX (e_nnen runUnderlying80 rfl) <| oN <| cL rfl <| c_seq <| cR <| oM rfl <| oX (e_lss rfl rfl) <| oN ?_
  refine c_ifp rfl (fun h2 => ?_) (fun h2 => ?_)
  · exact absurd h2 (by omega)
  · skip
    refine c_skip <| n_code <| c_seq <| cR <| oA rfl <| oN <| c_block ?_
    refine c_loop (X := List Mcode × Nat × Int) (fun y => [(0, .pointer (some ⟨gh, 0, none⟩)), (1, RV gr), (5, RV gr), (8, .int .i32 cs.length), (9, .int .i64 y.2.2), (11, .int .i64 y.2.1)]) (fun y => [(gr, RB gs n cap (i0 + 4 + ((cs.take y.2.1).flatMap pcB).length)), (g6, C [.int .u32 cs.length] 212), (gh, C [.map (some gX)] em), (gX, Mo .u64 (KV y.1))] ++ KB y.1) (fun y => y.2.1 ≤ cs.length ∧ y.1.map Mcode.un = cs.take y.2.1 ∧ 0 ≤ y.2.2 ∧ y.2.2 ≤ ((y.2.1 : Int) + 1) * 1099511627776) (fun y => cs.length - y.2.1) ([], 0, (i0 + 4 : Nat)) ⟨by simp, by simp, by simp; omega, by simp; omega⟩ (sub_cons rfl (sub_cons rfl (sub_cons rfl (sub_cons rfl (sub_cons rfl (sub_cons rfl sub_nil)))))) (by simp [KB, KV]) ?_
    rintro ⟨ms, i, sm⟩ ⟨hi, hms, hs0, hs1⟩
    simp only at hi hms hs0 hs1 ⊢
    refine c_seq <| cR <| oM rfl <| oM rfl <| oX (e_convn runUnderlying21 runUnderlying3 rfl (by simp only [inR]; omega)) <| oX (e_lss rfl rfl) <| oN ?_
    refine c_ifp rfl (fun h3 => ?_) (fun h3 => ?_)
    · have h3' : i < cs.length := by omega
      have hco := hok _ (List.getElem_mem h3')
      have hfl := congrArg List.length (cflat_split h3')
      have hfs := congrArg List.length (cflat_succ h3')
      simp only [List.length_append] at hfl hfs
      have hdr : bs.drop (i0 + 4 + ((cs.take i).flatMap pcB).length) = pcB cs[i] ++ ((cs.drop (i + 1)).flatMap pcB ++ post) := by
        refine drop_at (a := pre ++ (lowB (cs.length : Nat) 4 ++ (cs.take i).flatMap pcB)) ?_ (by simp [lowB_length, hpre]; omega)
        rw [hbs, cflat_split h3']
        simp
      have hnn : cs[i].1 ∉ ms.map fun t => t.code := by
        intro hm
        have hm' : cs[i].1 ∈ (cs.take i).map (·.1) := by
          rw [← hms, List.map_map]; exact hm
        obtain ⟨k, hk, he⟩ := List.getElem_of_mem hm'
        simp only [List.length_map, List.length_take] at hk
        simp only [List.getElem_map, List.getElem_take] at he
        rw [Nat.min_eq_left hi] at hk
        exact List.pairwise_iff_getElem.1 hnd k i (by simp; omega) (by simpa using h3') hk (by simp [he])
      generalize hw : cs[i] = c at *
      obtain ⟨c, ps⟩ := c
      generalize hoff : i0 + 4 + ((cs.take i).flatMap pcB).length = o at *
      refine c_skip <| n_code <| c_seq <| c_block <| cR ?_
      refine o_l rfl (l_call call315 newMWC_is rfl rfl .nil) ?_
      rintro ⟨r, H'⟩ ⟨gc, gx, rfl, rfl⟩
      simp only [List.cons_append, List.nil_append]
      refine oA rfl <| oN <| c_seq <| cR <| oM rfl <| oM rfl ?_
      refine o_l rfl (l_call call322 (mwc_ok (i0 := o) hD hn hc h63 hn40 hdr (by omega) hco) rfl rfl (.cons (.tail (.tail .head)) (.cons .head (.cons .head .nil)))) ?_
      rintro ⟨r, H'⟩ ⟨rfl, ts, hts, rfl⟩
      simp only [List.cons_append, Mcode.hp]
      refine oA rfl <| oN <| cR <| oM rfl <| oX (e_nnen runUnderlying80 rfl) <| oN <| cL rfl <| cR <| oM rfl ?_
      refine o_l rfl (l_calli0 call290 (by intro w; kernel_rfl) (seek_is (i := o + (pcB (c, ps)).length) (by omega)) rfl rfl rfl (.cons .head .nil)) ?_
      rintro ⟨r, H'⟩ ⟨rfl, rfl⟩
      simp only [List.cons_append, List.nil_append]
      refine oM rfl <| oX (e_extract rfl rfl) <| oX (e_extract rfl rfl) <| oA rfl <| oA rfl <| oN <| c_seq <| cR <| oM rfl <| oX (e_nnen runUnderlying80 rfl) <| oN <| cL rfl <| cR <| oM rfl <| oA rfl <| oN <| cR <| oM rfl <| oM rfl <| oX (e_addn rfl rfl (by simp only [inR]; omega)) <| oA rfl <| oN <| c_seq <| cR <| oM rfl <| oM rfl <| oX (e_lss rfl rfl) <| oN ?_
      refine c_ifp rfl (fun h5 => ?_) (fun h5 => ?_)
      · exact absurd h5 (by omega)
      · skip
        refine c_skip <| n_code <| c_region <| oM rfl <| oM rfl ?_
        refine o_l rfl (l_call call317 (put_is (KV_none hnn)) rfl rfl (.cons (.tail (.tail (.tail (Rem.app _ (.tail (.tail .head)))))) (.cons (.tail .head) (.cons (.tail (.tail (Rem.app _ (.tail .head)))) .nil)))) ?_
        rintro ⟨r, H'⟩ rfl
        simp only [List.cons_append, List.nil_append]
        refine o_nil <| n_block <| n_code <| c_region <| oM rfl <| oX (e_addn rfl rfl (by simp only [inR]; omega)) <| oA rfl <| o_nil ?_
        have e4 : (i0 + 4 + ((cs.take (i + 1)).flatMap pcB).length) = o + (pcB (c, ps)).length := by rw [hfs]; omega
        refine n_round' (y := (ms, i, sm)) (ms ++ [⟨gc, gx, c, ts⟩], i + 1, sm + ((o + (pcB (c, ps)).length : Nat) : Int)) (by show cs.length - (i + 1) < cs.length - i; omega) ?_ (sub_cons rfl (sub_cons rfl (sub_cons rfl (sub_cons rfl (sub_cons rfl (sub_cons rfl sub_nil)))))) _ (((Sel.cons (.tail (.tail (.tail .head))) (.cons (.tail (.tail (.tail (.tail (Rem.app _ .head))))) (.cons (.tail (.tail .head)) (.cons .head .nil)))).perm).trans (List.Perm.append_left _ (List.perm_append_comm (l₁ := _ :: _ :: MB ts) (l₂ := KB ms)))) ?_
        · refine ⟨by show i + 1 ≤ cs.length; omega, ?_, by show 0 ≤ sm + ((o + (pcB (c, ps)).length : Nat) : Int); omega, by show sm + ((o + (pcB (c, ps)).length : Nat) : Int) ≤ (((i + 1 : Nat) : Int) + 1) * 1099511627776; omega⟩
          show (ms ++ [(⟨gc, gx, c, ts⟩ : Mcode)]).map Mcode.un = cs.take (i + 1)
          rw [List.map_append, hms, List.take_succ_eq_append_getElem h3', hw, ← hts]
          rfl
        · show ([(gr, RB gs n cap (i0 + 4 + ((cs.take (i + 1)).flatMap pcB).length)), (g6, C [.int .u32 cs.length] 212), (gh, C [.map (some gX)] em), (gX, Mo .u64 (KV (ms ++ [⟨gc, gx, c, ts⟩])))] ++ KB (ms ++ [⟨gc, gx, c, ts⟩])).Sublist _
          rw [KV_snoc, KB_snoc, e4]
          exact List.Sublist.refl _
    · skip
      refine c_exit ?_; refine x_code ?_; refine x_upto ?_; refine x_here ?_
      refine n_code <| cR <| oA rfl <| oN <| c_ret ?_
      refine WR.sel (.cons .head (.cons (.tail .head) (.cons (.tail .head) (Sel.appR [_] (KB ms))))) ?_
      refine r_fn1 results312 rfl ?_
      obtain rfl : i = cs.length := by omega
      exact ⟨rfl, ms, by simpa using hms, by simp⟩
end
end Go.Proofs
namespace Go.Proofs
open Go Go.Sl Tryz
/-- What a number of an entry may be. -/
structure EnFit (x : En) : Prop where
  v0 : 0 ≤ x.v
  v1 : x.v < 18446744073709551616
  c0 : 0 ≤ x.c
  c1 : x.c < 18446744073709551616
  h0 : 0 ≤ x.h
  h1 : x.h < 18446744073709551616
  o0 : 0 ≤ x.o
  o1 : x.o < 18446744073709551616
def partOf (st : List En) (n : Int) : Part := (n.toNat + 8, rowsB st n)
def parts (l : List En) : List Part := (widths l).map (partOf (stable l))
def kparts (l : List En) : List Cpart := (codes l).map fun c => (c.toNat, parts (codedL l c))
theorem pbB_partOf {st : List En} {n : Int} (h : 0 ≤ n) : pbB (partOf st n) = partB st n := by
  obtain ⟨k, rfl⟩ := Int.eq_ofNat_of_zero_le h
  simp [pbB, partOf, partB]
theorem widths_nonneg {l : List En} {n : Int} (h : n ∈ widths l) : 0 ≤ n := by
  obtain ⟨x, _, rfl⟩ := widths_mem.1 h
  omega
theorem flatMap_congr' {α β : Type} {l : List α} {f g : α → List β} (h : ∀ a ∈ l, f a = g a) : l.flatMap f = l.flatMap g := by
  induction l with
  | nil => rfl
  | cons a l ih => simp only [List.flatMap_cons]; rw [h a (.head _), ih fun b hb => h b (.tail _ hb)]
theorem sortedB_parts (l : List En) : sortedB l = pmB (parts l) := by
  simp only [sortedB, pmB, parts, List.length_map, List.flatMap_map]
  congr 1
  exact flatMap_congr' fun n hn => (pbB_partOf (widths_nonneg hn)).symm
theorem codes_nonneg {l : List En} (hf : ∀ x ∈ l, EnFit x) {n : Int} (h : n ∈ codes l) : 0 ≤ n := by
  obtain ⟨x, hx, rfl⟩ := codes_mem.1 h
  exact (hf x hx).h0
theorem bodyB_S (l : List En) : bodyB l 1024 = lowB ((parts l).length : Nat) 4 ++ (parts l).flatMap pbB := by
  rw [bodyB, if_pos rfl, sortedB_parts]; rfl
theorem bodyB_M {l : List En} (hf : ∀ x ∈ l, EnFit x) : bodyB l 1025 = lowB ((kparts l).length : Nat) 4 ++ (kparts l).flatMap pcB := by
  rw [bodyB, if_neg (by decide)]
  simp only [kparts, List.length_map, List.flatMap_map]
  congr 1
  refine flatMap_congr' fun c hc => ?_
  obtain ⟨k, rfl⟩ := Int.eq_ofNat_of_zero_le (codes_nonneg hf hc)
  simp only [codeB, pcB, sortedB_parts]
  rfl
theorem srt_nodup {l : List Int} (h : l.Nodup) : (srt l).Nodup := (List.mergeSort_perm l _).symm.nodup h
theorem widths_nodup (l : List En) : (widths l).Nodup := srt_nodup (distI_nodup _)
theorem codes_nodup (l : List En) : (codes l).Nodup := srt_nodup (distI_nodup _)
theorem nodup_map_on {α β : Type} {f : α → β} : ∀ {l : List α}, (∀ a ∈ l, ∀ b ∈ l, f a = f b → a = b) → l.Nodup → (l.map f).Nodup
  | [], _, _ => by simp
  | a :: l, hf, h => by
    rw [List.nodup_cons] at h
    rw [List.map_cons, List.nodup_cons]
    refine ⟨fun hm => ?_, nodup_map_on (fun x hx y hy => hf x (.tail _ hx) y (.tail _ hy)) h.2⟩
    obtain ⟨b, hb, he⟩ := List.mem_map.1 hm
    exact h.1 (hf b (.tail _ hb) a (.head _) he ▸ hb)
theorem parts_nodup (l : List En) : ((parts l).map (·.1)).Nodup := by
  rw [parts, List.map_map]
  refine nodup_map_on (fun a ha b hb h => ?_) (widths_nodup l)
  have h1 := widths_nonneg ha
  have h2 := widths_nonneg hb
  simp only [Function.comp, partOf] at h
  omega
theorem kparts_nodup {l : List En} (hf : ∀ x ∈ l, EnFit x) : ((kparts l).map (·.1)).Nodup := by
  rw [kparts, List.map_map]
  refine nodup_map_on (fun a ha b hb h => ?_) (codes_nodup l)
  have h1 := codes_nonneg hf ha
  have h2 := codes_nonneg hf hb
  simp only [Function.comp] at h
  omega
theorem parts_ok {l : List En} (hd : ∀ x ∈ l, x.d.length ≤ 200) : ∀ p ∈ parts l, PartOk p := by
  intro p hp
  obtain ⟨n, hn, rfl⟩ := List.mem_map.1 hp
  obtain ⟨x, hx, rfl⟩ := widths_mem.1 hn
  have h200 := hd x hx
  refine ⟨by simp [partOf], by simp [partOf]; omega, ?_⟩
  have hxs : x ∈ stable l := (stable_perm l).mem_iff.2 hx
  have : (x.d ++ lowB x.o 8).length ≤ (rowsB (stable l) (x.d.length : Nat)).length := by
    have hs : x ∈ (stable l).filter fun y => decide ((y.d.length : Int) = (x.d.length : Nat)) := List.mem_filter.2 ⟨hxs, by simp⟩
    obtain ⟨s, t, he⟩ := List.append_of_mem hs
    rw [rowsB, he]
    simp
    omega
  simp only [List.length_append, lowB_length] at this
  simp only [partOf]
  omega
theorem parts_len {l : List En} : (parts l).length ≤ l.length := by rw [parts, List.length_map]; exact widths_len l
theorem kparts_len {l : List En} : (kparts l).length ≤ l.length := by rw [kparts, List.length_map]; exact codes_len l
theorem kparts_ok {l : List En} (hl : l.length ≤ 1000) (hf : ∀ x ∈ l, EnFit x) (hd : ∀ x ∈ l, x.d.length ≤ 200) : ∀ c ∈ kparts l, CodeOk c := by
  intro c hc
  obtain ⟨k, hk, rfl⟩ := List.mem_map.1 hc
  obtain ⟨x, hx, rfl⟩ := codes_mem.1 hk
  have h1 := (hf x hx).h0
  have h2 := (hf x hx).h1
  exact ⟨by show x.h.toNat < _; omega, Nat.le_trans parts_len (Nat.le_trans (codedL_len _ _) hl), parts_ok fun y hy => hd y (codedL_mem hy), parts_nodup _⟩
end Go.Proofs
namespace Go.Proofs
open Go Go.Sl Tryz
set_option maxRecDepth 100000
set_option maxHeartbeats 1000000
theorem _root_.Go.Sl.TlOk.osl {y : Tl} {e : TypeId} (h : TlOk 1 0 y) : Osl e 1 (.slice (some ⟨y.g, 0, none⟩) 0 y.cap) 0 [] [(y.g, Ob [] y e)] :=
  .own (xs := []) (rest := y.rest) rfl h.rest (Nat.zero_le _) h.lt h.mark
section
variable {G : HP} {g gd gm h c n off cap lo hi : Nat} {bs d mh : List UInt8} {l rest : List Value} {e : TypeId} {fr : Nat × Nat}
theorem newV1_is (hc : c < 18446744073709551616) (hD : (gm, C (B mh) 5) ∈ G) (hn : mh.length = n) (h0 : 0 < n) (hn1 : n ≤ 100000) :
    CtrP Tryz.prog 135 [.int .u64 (c : Nat), .slice (some ⟨gm, 0, none⟩) n n] G (.agg #[S (1 :: (uv c ++ mh))]) := by
  have hp := uv_pos c
  have h10 := uv_le c
  have hcutm : CutL (B mh) 0 n (B mh) := by
    have := CutL.of (l := B mh) (i := 0) (n := n) (by rw [B_length]; omega)
    rwa [List.drop_zero, List.take_of_length_le (by rw [B_length]; omega)] at this
  refine fn_enter 37 func135 rfl ntmps135 rfl ?_
  intro w0
  refine cR ?_
  refine o_l rfl (l_alloc zeroValue111 rfl rfl) ?_; intro g4 _
  refine oN <| cR <| oM rfl <| oX (e_lenl runUnderlying178 rfl) <| oA rfl <| oN <| cR ?_
  refine o_l rfl (l_alloc zeroValue307 rfl rfl) ?_; intro g6 _
  refine oN <| cR <| oM rfl ?_
  refine o_l rfl (l_call call185 (usize_is hc) rfl rfl .nil) ?_
  rintro ⟨r, H'⟩ ⟨rfl, rfl⟩
  simp only [List.nil_append]
  refine oX (e_addn rfl rfl (by simp only [inR]; omega)) <| oM rfl <| oX (e_addn rfl rfl (by simp only [inR]; omega)) ?_
  refine o_l rfl (l_call call187 (sGrow_is (m := 1 + (uv c).length + n) (by omega) (by omega)) rfl (by show some _ = some _; congr 3) (.cons .head .nil)) ?_
  rintro ⟨r, H'⟩ ⟨y, hy, rfl, rfl⟩
  simp only [List.cons_append, List.nil_append]
  refine oN <| cR ?_
  refine o_l rfl (l_call call188 (swb_is (bs := []) (b := 1) hy.osl (by omega)) rfl rfl (.cons .head (.cons .head .nil))) ?_
  rintro ⟨r, H'⟩ ⟨v1, HB1, ho1, rfl, rfl⟩
  simp only [List.cons_append, List.nil_append] at ho1 ⊢
  refine oN <| cR ?_
  refine o_l rfl (l_alloc zeroValue310 rfl rfl) ?_; intro g7 _
  refine oN <| cR <| oX (e_sa_n runUnderlying310 sizeOf5 rfl) <| oM rfl ?_
  refine o_l rfl (l_call call77 (vputg_is (pre := []) (old := List.replicate 10 (.int .u8 0)) (off := 0) (lo := 0) (hi := 0) hc rfl (by omega) (Nat.le_refl _) (by omega) (by rw [List.length_replicate]; omega) (.inr rfl)) rfl rfl (.cons .head .nil)) ?_
  rintro ⟨r, H'⟩ ⟨rfl, rfl⟩
  simp only [List.cons_append, List.nil_append]
  refine oA rfl <| oN <| cR <| oM rfl <| oX (e_sa_h runUnderlying310 sizeOf5 rfl rfl (by omega) (by omega)) ?_
  simp only [Int.toNat_natCast]
  refine o_l rfl (l_callj (HJ := [(g7, C (B (uv c) ++ (List.replicate 10 (.int .u8 0)).drop (uv c).length) 310)]) call189 (swr_is (ds := uv c) (m := (uv c).length) ho1 (by omega) (by omega) (List.mem_append_right _ (.head _)) (by have := CutL.of (l := B (uv c) ++ (List.replicate 10 (.int .u8 0)).drop (uv c).length) (i := 0) (n := (uv c).length) (by rw [List.length_append, B_length]; omega); rwa [List.drop_zero, List.take_left' (B_length _)] at this) hp) rfl rfl (.cons (.tail .head) (Sel.mid [_] HB1 _)) (by intro p hp; exact List.mem_append_left _ hp)) ?_
  rintro ⟨r, H'⟩ ⟨v2, HB2, ho2, rfl, rfl⟩
  simp only [List.cons_append, List.nil_append] at ho2 ⊢
  refine oN <| cR <| oM rfl ?_
  refine o_l rfl (l_call call189 (swr_is (ds := mh) (m := n) ho2 (by omega) (by omega) hD hcutm h0) rfl rfl (.cons .head (Sel.app HB2 _))) ?_
  rintro ⟨r, H'⟩ ⟨v3, HB3, ho3, rfl, rfl⟩
  simp only [List.cons_append, List.nil_append] at ho3 ⊢
  refine oM rfl <| oX (e_extract rfl rfl) <| oX (e_extract rfl rfl) <| oA rfl <| oA rfl <| oN <| c_seq <| cR <| oM rfl <| oM rfl <| oX (e_neq rfl rfl) <| oN ?_
  refine c_ifp rfl (fun h1 => ?_) (fun h1 => ?_)
  · exact absurd rfl h1
  · skip
    refine c_skip <| n_code <| cR ?_
    refine o_l rfl (l_call call190 (sstr_is ho3 (by omega)) rfl rfl (.cons .head (Sel.app HB3 _))) ?_
    rintro ⟨r, H'⟩ ⟨rfl, rfl⟩
    simp only [List.cons_append, List.nil_append]
    refine oX (e_build (vs := [S (1 :: (uv c ++ mh))]) runUnderlying111 zeroValue111 (.cons sizeOf9 .nil) rfl rfl) ?_
    refine o_l rfl (l_storea sizeOf111 rfl rfl rfl (by simp [Value.oneCell']) (.tail (.tail .head)) (.take .done) nofrs0) ?_
    intro _ _
    refine oN <| c_ret ?_
    refine r_fnx results135 (.cella isAgg111 sizeOf111 rfl (by first | exact .inr (by assumption) | exact .inl (by repeat (first | exact List.Mem.head _ | refine List.Mem.tail _ ?_))) (.take .done) .nil) .nil rfl ?_
    exact ⟨rfl, rfl⟩
theorem tryV0_is (hD : (gm, C (B (mhB 18 d)) 5) ∈ G) (hd : d.length = 32) :
    CtrP Tryz.prog 186 [.slice (some ⟨gm, 0, none⟩) (mhB 18 d).length (mhB 18 d).length] G (.tuple #[.agg #[S (mhB 18 d)], .nilIface]) := by
  have hn : (mhB 18 d).length = 34 := by rw [mhB_length, hd]; rfl
  have hcutm : CutL (B (mhB 18 d)) 0 (mhB 18 d).length (B (mhB 18 d)) := by
    have := CutL.of (l := B (mhB 18 d)) (i := 0) (n := (mhB 18 d).length) (by rw [B_length]; omega)
    rwa [List.drop_zero, List.take_of_length_le (by rw [B_length]; omega)] at this
  refine fn_enter 36 func186 rfl ntmps186 rfl ?_
  intro w0
  refine cR ?_
  refine o_l rfl (l_alloc zeroValue111 rfl rfl) ?_; intro g2 _
  refine oA rfl <| oN <| cR <| oM rfl ?_
  refine o_l rfl (l_call call92 (Decode_is (h := 18) (d := d) (by omega) (by omega) hD hcutm (Nat.le_refl _) (by omega)) rfl rfl .nil) ?_
  rintro ⟨r, H'⟩ ⟨g9, v, rfl, -, hb, rfl⟩
  simp only [List.cons_append, List.nil_append]
  refine oM rfl <| oX (e_extract rfl rfl) <| oX (e_extract rfl rfl) <| oA rfl <| oA rfl <| oN <| c_seq <| cR <| oM rfl <| oX (e_nnen runUnderlying80 rfl) <| oN <| cL rfl <| c_seq <| cR <| oM rfl <| oC rfl <| oX (e_fak 0 runUnderlying181 rfl sizeOf23 rfl rfl rfl) <| oX (e_load isAgg23 rfl (.inl M0) rfl) <| oX (e_neq rfl rfl) <| oM rfl ?_
  refine o_splitp 22 rfl (fun h1 => ?_) (fun h1 => ?_)
  · exact absurd rfl h1
  · skip
    refine oM rfl <| oC rfl <| oX (e_fak 2 runUnderlying181 rfl sizeOf3 rfl rfl rfl) <| oX (e_load isAgg3 rfl (.inl M0) rfl) <| oX (e_neq rfl rfl) <| oX (e_pick_f rfl rfl) <| oN ?_
    refine c_ifp rfl (fun h2 => ?_) (fun h2 => ?_)
    · exact absurd h2 (by omega)
    · skip
      refine c_skip <| n_code <| cR <| oM rfl <| oX (e_bs underlying178 underlying5 underlying9 rfl (.inr hD) hcutm) <| oX (e_build (vs := [S (mhB 18 d)]) runUnderlying111 zeroValue111 (.cons sizeOf9 .nil) rfl rfl) ?_
      refine o_l rfl (l_storea sizeOf111 rfl rfl rfl (by simp [Value.oneCell']) (.tail .head) (.take .done) nofrs0) ?_
      intro _ _
      refine oA rfl <| oN <| c_ret ?_
      refine r_fnx results186 (.cella isAgg111 sizeOf111 rfl (by first | exact .inr (by assumption) | exact .inl (by repeat (first | exact List.Mem.head _ | refine List.Mem.tail _ ?_))) (.take .done) (.tmp rfl .nil)) .nil rfl ?_
      exact ⟨rfl, rfl⟩
theorem newV0_is (hD : (gm, C (B (mhB 18 d)) 5) ∈ G) (hd : d.length = 32) :
    CtrP Tryz.prog 134 [.slice (some ⟨gm, 0, none⟩) (mhB 18 d).length (mhB 18 d).length] G (.agg #[S (mhB 18 d)]) := by
  refine fn_enter 14 func134 rfl ntmps134 rfl ?_
  intro w0
  refine cR ?_
  refine o_l rfl (l_alloc zeroValue111 rfl rfl) ?_; intro g2 _
  refine oN <| cR <| oM rfl ?_
  refine o_l rfl (l_call call186 (tryV0_is hD hd) rfl rfl .nil) ?_
  rintro ⟨r, H'⟩ ⟨rfl, rfl⟩
  simp only [List.nil_append]
  refine oM rfl <| oX (e_extract rfl rfl) <| oX (e_extract rfl rfl) ?_
  refine o_l rfl (l_alloc zeroValue111 rfl rfl) ?_; intro g3 _
  refine o_l rfl (l_storea sizeOf111 rfl rfl rfl (by simp [Value.oneCell']) .head (.take .done) nofrs0) ?_
  intro _ _
  refine oA rfl <| oN <| c_seq <| cR <| oM rfl <| oX (e_nnen runUnderlying80 rfl) <| oN <| cL rfl <| cR ?_
  refine oX (e_loada isAgg111 sizeOf111 rfl (.inl M0) (by first | assumption | repeat constructor)) ?_
  refine o_l rfl (l_storea sizeOf111 rfl rfl rfl (by simp [Value.oneCell']) (.tail .head) (.take .done) nofrs0) ?_
  intro _ _
  refine oN <| c_ret ?_
  refine r_fnx results134 (.cella isAgg111 sizeOf111 rfl (by first | exact .inr (by assumption) | exact .inl (by repeat (first | exact List.Mem.head _ | refine List.Mem.tail _ ?_))) (.take .done) .nil) .nil rfl ?_
  exact ⟨rfl, rfl⟩
end
end Go.Proofs
namespace Go.Sl
open Go
theorem results_put {fn : Func} {a b d : Nat} {t u : TypeId} (hr : fn.results = #[.cell a t, .cell b u]) (ha : d ≠ a) (hb : d ≠ b) (tm : Array Value) (v : Value) : results fn (tm.setIfInBounds d v) = results fn tm := by
  have h : ∀ k, d ≠ k → (tm.setIfInBounds d v)[k]?.getD undef = tm[k]?.getD undef := fun k hk => by
    rw [Array.getElem?_setIfInBounds, if_neg hk]
  unfold results
  rw [hr]
  simp [h a ha, h b hb]
theorem Leaves.congr {P : Program} {fn : Func} {t1 t2 : Array Value} {R : Ending → World → Prop} (h : results fn t1 = results fn t2) : ∀ (ds : List Deferred) (u : FrameMode) (w : World), Leaves P fn t1 R ds u w → Leaves P fn t2 R ds u w := by
  have e : Leaves P fn t1 R = Leaves P fn t2 R := by
    funext ds
    induction ds with
    | nil => funext u w; cases u <;> simp only [Leaves, h]
    | cons d ds ih => funext u w; simp only [Leaves, ih]
  intro ds u w hl
  rwa [← e]
section
variable {x : Cx} {ops : Array Oper} {k : List KI} {s : Slots} {H : HP}
theorem d_eD (i : Nat) {o : Oper} {d : Nat} {v : Value} {HS : HP} {fuel : Nat} {listed : Array Bool} (hQ : ∀ c a w v, x.Q (.panic c) (Act.put a (some d) v) w → x.Q (.panic c) a w) (hi : ops[i]? = some o) (hs0 : Region.noSelect ops = true) (hf : Region.free .any ops listed i = true) (hr : (Region.ready .any ops listed).contains i = true)
    (hw : wantS ops s o = some true) (hd : o.dst = some d) (hN : Nat.blt d x.N = true) (he : Ex x s HS o v) (h : DO x ops k HS fuel (listed.setIfInBounds i true) ((d, v) :: s) H) : DO x ops k HS (fuel + 1) listed s H := fun a w hs hS => by
  have hN' : d < x.N := by simpa [Nat.blt_eq] using hN
  refine wpAnyH_take hi hs0 hf hr (fun c a w hq => by rw [kp_panic] at hq ⊢; rw [hd] at hq; exact hQ _ _ _ _ hq) (.inl ⟨want_of hs hw, fun w' hw' => he a w' (hS.of_sw hw')⟩) (hS.sw fun _ hp => hp) ?_
  rw [hd]
  exact h _ w (hs.put _ hN') (hS.put _ hN')
theorem q_defer {P : Program} {fn : Func} {R : Ending → World → Prop} {a b d : Nat} {t u : TypeId} (hr : fn.results = #[.cell a t, .cell b u]) (ha : d ≠ a) (hb : d ≠ b) : ∀ (c : List PanicEntry) (ac : Act) (w : World) (v : Value), bodyPostD P fn R (.panic c) (Act.put ac (some d) v) w → bodyPostD P fn R (.panic c) ac w := by
  intro c ac w v h
  exact Leaves.congr (results_put hr ha hb ac.tmps v) ac.defers _ w h
end
end Go.Sl
namespace Go.Proofs
open Go Go.Sl Tryz
set_option maxRecDepth 100000
set_option maxHeartbeats 1000000
/-- An identifier's bytes. -/
def cidB (x : En) : List UInt8 := if x.v = 0 then mhB 18 x.d else 1 :: (uv x.c.toNat ++ mhB x.h.toNat x.d)
section
variable {G : HP} {x : En}
theorem cidIn_is (ht : Tidy x) (hf : EnFit x) (hd : x.d.length ≤ 200) : CtrP Tryz.prog 68 [.agg (cC x).toArray] G (.tuple #[.agg #[S (cidB x)], .bool true]) := by
  obtain ⟨v, c, h, d, o⟩ := x
  obtain ⟨_, _, hc0, hc1, hh0, hh1, _, _⟩ := hf
  simp only at hc0 hc1 hh0 hh1 hd
  simp only [Tidy] at ht
  obtain ⟨c, rfl⟩ := Int.eq_ofNat_of_zero_le hc0
  obtain ⟨h, rfl⟩ := Int.eq_ofNat_of_zero_le hh0
  have hlp := uv_pos h
  have hmh : (mhB h d).length ≤ 220 := by rw [mhB_length]; have := uv_le h; have := uv_le d.length; omega
  have hmh0 : 0 < (mhB h d).length := by rw [mhB_length]; omega
  simp only [cC]
  refine fn_enterD 32 func68 rfl ntmps68 rfl ?_
  intro w0
  refine cR ?_
  refine o_l rfl (l_box rfl rfl rfl) ?_; intro g1 _
  refine o_l rfl (l_alloc zeroValue111 rfl rfl) ?_; intro g2 _
  refine o_l rfl (l_alloc zeroValue4 rfl rfl) ?_; intro g3 _
  refine oN <| cR <| oX (e_func rfl rfl) <| o_defer rfl <| oN <| cR <| oX (e_fak 3 runUnderlying25 rfl sizeOf9 rfl rfl rfl) ?_
  refine oX (e_load isAgg9 rfl (by first | exact .inr (by assumption) | exact .inl (by repeat (first | exact List.Mem.head _ | refine List.Mem.tail _ ?_))) rfl) ?_
  refine o_l rfl (l_sbc underlying9 underlying72 underlying5 rfl rfl (by simp; omega) rfl rfl) ?_
  rintro ⟨gs, cap, rest, lo, hi⟩ hy
  refine oX (e_fak 2 runUnderlying25 rfl sizeOf23 rfl rfl rfl) ?_
  refine oX (e_load isAgg23 rfl (by first | exact .inr (by assumption) | exact .inl (by repeat (first | exact List.Mem.head _ | refine List.Mem.tail _ ?_))) rfl) ?_
  refine o_l rfl (l_callj (HJ := [(gs, DB d rest lo hi)]) call133 (enc_is (h := h) (by omega) (List.mem_append_right _ (.head _)) rfl (by omega)) rfl rfl .nil (by simp)) ?_
  rintro ⟨r, H'⟩ ⟨gm, rfl, rfl⟩
  simp only [List.cons_append, List.nil_append]
  refine oM rfl <| oX (e_extract rfl rfl) <| oX (e_extract rfl rfl) <| oA rfl <| oA rfl <| oN <| c_seq <| cR <| oX (e_fak 0 runUnderlying25 rfl sizeOf23 rfl rfl rfl) ?_
  refine oX (e_load isAgg23 rfl (by first | exact .inr (by assumption) | exact .inl (by repeat (first | exact List.Mem.head _ | refine List.Mem.tail _ ?_))) rfl) ?_
  refine oN <| c_block <| cR <| oX (e_eql rfl rfl) <| oA rfl <| oN ?_
  rcases ht with ⟨rfl, h1, h2, h3⟩ | ⟨rfl, h1, h2⟩
  · have h1' : c = 112 := by omega
    have h2' : h = 18 := by omega
    subst h1' h2'
    refine c_ifp rfl (fun h4 => ?_) (fun h4 => ?_)
    · refine c_seq <| c_regiond ([(gm, C (B (mhB 18 d)) 5), (g1, C [.int .u64 0, .int .u64 112, .int .u64 18, S d] 25)]) (by kernel_rfl) (.cons_cons _ (.cons _ (.cons _ (.cons _ (.cons_cons _ .slnil))))) <| d_eD 0 (q_defer results68 (by decide) (by decide)) rfl (by kernel_rfl) (by kernel_rfl) (by kernel_rfl) rfl rfl rfl (e_move rfl) <| d_eD 2 (q_defer results68 (by decide) (by decide)) rfl (by kernel_rfl) (by kernel_rfl) (by kernel_rfl) rfl rfl rfl (e_fak 1 runUnderlying25 rfl sizeOf23 rfl rfl rfl) ?_
      refine d_eD 3 (q_defer results68 (by decide) (by decide)) rfl (by kernel_rfl) (by kernel_rfl) (by kernel_rfl) rfl rfl rfl (e_load isAgg23 rfl (.inl M1) rfl) <| d_eD 4 (q_defer results68 (by decide) (by decide)) rfl (by kernel_rfl) (by kernel_rfl) (by kernel_rfl) rfl rfl rfl (e_eql rfl rfl) ?_
      refine d_l 1 (by kernel_rfl) rfl rfl (l_callj (HJ := [(gm, C (B (mhB 18 d)) 5)]) call134 (newV0_is (List.mem_append_right _ (.head _)) h3) rfl rfl .nil (by simp)) (by rintro ⟨r, H'⟩ ⟨rfl, rfl⟩ p hp; simp only [List.mem_cons, List.not_mem_nil, or_false, List.nil_append] at hp ⊢; rcases hp with rfl | rfl <;> simp) ?_
      rintro ⟨r, H'⟩ ⟨rfl, rfl⟩
      simp only [List.nil_append]
      refine d_l 5 (by kernel_rfl) rfl rfl (l_storea sizeOf111 rfl rfl rfl (by simp [Value.oneCell']) (.tail (.tail (.tail .head))) (.take .done) nofrs0) (by intro _ _ p hp; simp only [List.mem_cons, List.not_mem_nil, or_false] at hp ⊢; rcases hp with rfl | rfl <;> simp) ?_
      intro _ _
      refine d_l 6 (by kernel_rfl) rfl rfl (l_store sizeOf4 rfl rfl rfl (.tail (.tail .head)) .head nofr0) (by intro _ _ p hp; simp only [List.mem_cons, List.not_mem_nil, or_false] at hp ⊢; rcases hp with rfl | rfl <;> simp) ?_
      intro _ _
      refine dN <| n_code <| c_ret ?_
      refine r_fnxD (idle132 _ _) results68 (.cella isAgg111 sizeOf111 rfl (by first | exact .inr (by assumption) | exact .inl (by repeat (first | exact List.Mem.head _ | refine List.Mem.tail _ ?_))) (.take .done) (.cell isAgg4 rfl (by first | exact .inr (by assumption) | exact .inl (by repeat (first | exact List.Mem.head _ | refine List.Mem.tail _ ?_))) rfl .nil)) .nil rfl ?_
      exact ⟨rfl, rfl⟩
    · skip
      exact absurd rfl h4
  · skip
    refine c_ifp rfl (fun h4 => ?_) (fun h4 => ?_)
    · exact absurd h4 (by decide)
    · skip
      refine cR <| oX (e_eql rfl rfl) <| oA rfl <| oN ?_
      refine c_ifp rfl (fun h5 => ?_) (fun h5 => ?_)
      · refine cR <| oX (e_fak 1 runUnderlying25 rfl sizeOf23 rfl rfl rfl) ?_
        refine oX (e_load isAgg23 rfl (by first | exact .inr (by assumption) | exact .inl (by repeat (first | exact List.Mem.head _ | refine List.Mem.tail _ ?_))) rfl) ?_
        refine oM rfl ?_
        refine o_l rfl (l_callj (HJ := [(gm, C (B (mhB h d)) 5)]) call135 (newV1_is (c := c) (by omega) (List.mem_append_right _ (.head _)) rfl hmh0 (by omega)) rfl rfl .nil (by simp)) ?_
        rintro ⟨r, H'⟩ ⟨rfl, rfl⟩
        simp only [List.nil_append]
        refine o_l rfl (l_storea sizeOf111 rfl rfl rfl (by simp [Value.oneCell']) (.tail (.tail (.tail .head))) (.take .done) nofrs0) ?_
        intro _ _
        refine o_l rfl (l_store sizeOf4 rfl rfl rfl (.tail (.tail .head)) .head (by omega)) ?_; intro _ _
        refine oN <| c_ret ?_
        refine r_fnxD (idle132 _ _) results68 (.cella isAgg111 sizeOf111 rfl (by first | exact .inr (by assumption) | exact .inl (by repeat (first | exact List.Mem.head _ | refine List.Mem.tail _ ?_))) (.take .done) (.cell isAgg4 rfl (by first | exact .inr (by assumption) | exact .inl (by repeat (first | exact List.Mem.head _ | refine List.Mem.tail _ ?_))) rfl .nil)) .nil rfl ?_
        exact ⟨rfl, rfl⟩
      · exact absurd rfl h5
end
end Go.Proofs

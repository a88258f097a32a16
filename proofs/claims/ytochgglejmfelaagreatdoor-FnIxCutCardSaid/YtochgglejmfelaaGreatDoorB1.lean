/- spec.Codes and spec.sortedBytes, exactly. -/
import Derived.Test.YtochgglejmfelaaGreatDoorA9
import Derived.Test.YtochgglejmfelaaGreatDoorA4
import Derived.Test.YtochgglejmfelaaGreatDoorA5
namespace Go.Proofs
open Go Go.Sl
set_option maxRecDepth 100000
set_option maxHeartbeats 1000000
def hcs (l : List En) : List Int := l.map fun x => x.h
def codes (l : List En) : List Int := srt (distI (hcs l))
theorem hcs_take {l : List En} {i : Nat} (h : i < l.length) : distI (hcs (l.take (i + 1))) = addN (distI (hcs (l.take i))) l[i].h := by
  have := distI_take (l := hcs l) (i := i) (by simpa [hcs] using h)
  simpa [hcs, List.map_take] using this
theorem codes_nil : codes [] = [] := by simp [codes, hcs, distI, srt]
theorem srt_small {l : List Int} (h : l.length ≤ 1) : srt l = l := by
  match l, h with
  | [], _ => simp [srt]
  | [a], _ => simp [srt]
theorem codes_is {G : HP} {v : Value} {l : List En} (h : EnS G v l) (hl : l.length ≤ 1000) :
    Ctr Tryz.prog 72 [v] G [] (fun r H' => Osl 23 1 r (codes l).length (V .u64 (codes l)) H') := by
  cases h with
  | none =>
    refine fn_enter 36 Tryz.func72 rfl Tryz.ntmps72 rfl ?_
    intro w0
    refine c_seq ?_
    refine c_region ?_
    refine o_e rfl rfl rfl (e_assign rfl) ?_
    refine o_nil ?_
    refine n_code ?_
    refine c_seq ?_
    refine c_region ?_
    refine o_l rfl (l_alloc Tryz.zeroValue29 rfl rfl) ?_; intro g3 _
    refine o_nil ?_
    refine n_code ?_
    refine c_seq ?_
    refine c_region ?_
    refine o_l rfl (l_mkmap rfl .u64) ?_
    intro gm _
    refine o_e rfl rfl rfl (e_assign rfl) ?_
    refine o_nil ?_
    refine n_code ?_
    refine c_seq ?_
    refine c_seq ?_
    refine c_region ?_
    refine o_e rfl rfl rfl (e_move rfl) ?_
    refine o_e rfl rfl rfl (e_lenl Tryz.runUnderlying22 rfl) ?_
    refine o_e rfl rfl rfl (e_move rfl) ?_
    refine o_nil ?_
    refine n_code ?_
    refine c_block ?_
    refine c_rounds 1 ?_
    refine c_seq ?_
    refine c_region ?_
    refine o_e rfl rfl rfl (e_lss rfl rfl) ?_
    refine o_nil ?_
    refine n_code ?_
    refine c_seq ?_
    refine c_else rfl ?_
    refine c_exit ?_; refine x_code ?_; refine x_upto ?_; refine x_here ?_
    refine n_code ?_
    refine c_seq ?_
    refine c_region ?_
    refine o_e rfl rfl rfl (e_load Tryz.isAgg29 rfl (by first | exact .inr (by assumption) | exact .inl (by repeat (first | exact List.Mem.head _ | refine List.Mem.tail _ ?_))) (by first | rfl | assumption)) ?_
    refine o_e rfl rfl rfl (e_mkif Tryz.runUnderlying29 rfl rfl) ?_
    refine o_e rfl rfl rfl (e_func rfl rfl) ?_
    refine o_l rfl (l_call Tryz.call34 (slice_01 (by decide)) rfl rfl .nil) ?_
    rintro ⟨r, H'⟩ ⟨rfl, rfl⟩
    simp only [List.nil_append]
    refine o_nil ?_
    refine n_code ?_
    refine c_seq ?_
    refine c_region ?_
    refine o_e rfl rfl rfl (e_load Tryz.isAgg29 rfl (by first | exact .inr (by assumption) | exact .inl (by repeat (first | exact List.Mem.head _ | refine List.Mem.tail _ ?_))) (by first | rfl | assumption)) ?_
    refine o_e rfl rfl rfl (e_assign rfl) ?_
    refine o_nil ?_
    refine n_code ?_
    refine c_ret ?_
    refine WR.less (fun _ _ h => h) (List.nil_sublist _) ?_
    refine r_fn1 Tryz.results72 rfl ?_
    rw [codes_nil]
    exact .nil
  | @blk l L g off n cap e fr hm hn hc =>
    refine fn_enter 36 Tryz.func72 rfl Tryz.ntmps72 rfl ?_
    intro w0
    refine c_seq ?_
    refine c_region ?_
    refine o_e rfl rfl rfl (e_assign rfl) ?_
    refine o_nil ?_
    refine n_code ?_
    refine c_seq ?_
    refine c_region ?_
    refine o_l rfl (l_alloc Tryz.zeroValue29 rfl rfl) ?_; intro g3 _
    refine o_nil ?_
    refine n_code ?_
    refine c_seq ?_
    refine c_region ?_
    refine o_l rfl (l_mkmap rfl .u64) ?_
    intro gm _
    refine o_e rfl rfl rfl (e_assign rfl) ?_
    refine o_nil ?_
    refine n_code ?_
    refine c_seq ?_
    refine c_seq ?_
    refine c_region ?_
    refine o_e rfl rfl rfl (e_move rfl) ?_
    refine o_e rfl rfl rfl (e_lenl Tryz.runUnderlying22 rfl) ?_
    refine o_e rfl rfl rfl (e_move rfl) ?_
    refine o_nil ?_
    refine n_code ?_
    refine c_block ?_
    refine c_loop (X := Nat × Value × HP) (fun y => [(3, .pointer (some ⟨g3, 0, none⟩)), (4, .map (some gm)), (8, .slice (some ⟨g, off, none⟩) n cap), (9, .int .i64 n), (10, .int .i64 y.1)]) (fun y => (gm, Mo .u64 (MT (distI (hcs (l.take y.1))))) :: (g3, C [y.2.1] 29) :: y.2.2) (fun y => y.1 ≤ n ∧ Osl 23 1 y.2.1 (distI (hcs (l.take y.1))).length (V .u64 (distI (hcs (l.take y.1)))) y.2.2) (fun y => n - y.1) (0, .slice none 0 0, []) ⟨Nat.zero_le _, .nil⟩ (sub_cons rfl (sub_cons rfl (sub_cons rfl (sub_cons rfl (sub_cons rfl sub_nil))))) (.refl _) ?_
    rintro ⟨i, v', HB'⟩ ⟨hi, ho⟩
    simp only at hi ho ⊢
    refine c_seq ?_
    refine c_region ?_
    refine o_e rfl rfl rfl (e_lss rfl rfl) ?_
    refine o_nil ?_
    refine n_code ?_
    refine c_seq ?_
    refine c_ifp rfl (fun h2 => ?_) (fun h2 => ?_)
    · have hi2 : i < l.length := by omega
      have hci := hc i hi2
      have hnx := hcs_take hi2
      have hlen : (distI (hcs (l.take i))).length ≤ 1000 := Nat.le_trans (distI_length _) (by simp [hcs]; omega)
      generalize l[i] = x at hci hnx
      obtain ⟨xv, xc, xh, xd, xo⟩ := x
      simp only [cE] at hci hnx
      generalize hacc : distI (hcs (l.take i)) = acc at ho hnx hlen ⊢
      refine c_skip ?_
      refine n_code ?_
      refine c_seq ?_
      refine c_block ?_
      refine c_seq ?_
      refine c_region ?_
      first | refine o_e rfl rfl rfl (e_ian Tryz.runUnderlying22 Tryz.sizeOf56 rfl rfl (by omega)) ?_ | refine o_e rfl rfl rfl (e_ia Tryz.runUnderlying22 Tryz.sizeOf56 rfl rfl (by omega) (by omega)) ?_
      refine o_e rfl rfl rfl (e_loada Tryz.isAgg56 Tryz.sizeOf56 rfl (.inr hm) hci) ?_
      refine o_l rfl (l_alloc Tryz.zeroValue56 rfl rfl) ?_; intro g6 _
      refine o_l rfl (l_storea Tryz.sizeOf56 rfl rfl rfl (by simp [Value.oneCell']) .head (.take (.take (.take (.take (.take .done))))) nofrs0) ?_
      intro _ _
      refine o_nil ?_
      refine n_code ?_
      refine c_seq ?_
      refine c_region ?_
      refine o_e rfl rfl rfl (e_move rfl) ?_
      refine o_e rfl rfl rfl (e_fak 0 Tryz.runUnderlying56 rfl Tryz.sizeOf25 rfl rfl rfl) ?_
      refine o_e rfl rfl rfl (e_fak 2 Tryz.runUnderlying25 rfl Tryz.sizeOf23 rfl rfl rfl) ?_
      refine o_e rfl rfl rfl (e_load Tryz.isAgg23 rfl (by first | exact .inr (by assumption) | exact .inl (by repeat (first | exact List.Mem.head _ | refine List.Mem.tail _ ?_))) (by first | rfl | assumption)) ?_
      refine o_e rfl rfl rfl (e_lookMT Tryz.runUnderlying227 Tryz.runUnderlying23 Tryz.zeroValue4 rfl rfl (.inl (.tail _ (.head _)))) ?_
      refine o_e rfl rfl rfl (e_not rfl) ?_
      refine o_nil ?_
      refine n_code ?_
      refine c_if rfl (fun h3 => ?_) (fun h3 => ?_)
      · have h3' : ¬ (xh ∈ acc) := by simpa using h3
        rw [show addN acc xh = acc ++ [xh] by simp [addN, h3']] at hnx
        refine c_seq ?_
        refine c_region ?_
        refine o_e rfl rfl rfl (e_move rfl) ?_
        refine o_e rfl rfl rfl (e_fak 0 Tryz.runUnderlying56 rfl Tryz.sizeOf25 rfl rfl rfl) ?_
        refine o_e rfl rfl rfl (e_fak 2 Tryz.runUnderlying25 rfl Tryz.sizeOf23 rfl rfl rfl) ?_
        refine o_e rfl rfl rfl (e_load Tryz.isAgg23 rfl (by first | exact .inr (by assumption) | exact .inl (by repeat (first | exact List.Mem.head _ | refine List.Mem.tail _ ?_))) (by first | rfl | assumption)) ?_
        refine o_l rfl (l_mapup Tryz.runUnderlying227 Tryz.runUnderlying23 rfl rfl rfl (.tail .head)) ?_
        intro _ _
        rw [mset_MT h3']
        refine o_nil ?_
        refine n_code ?_
        refine c_region ?_
        refine o_e rfl rfl rfl (e_load Tryz.isAgg29 rfl (by first | exact .inr (by assumption) | exact .inl (by repeat (first | exact List.Mem.head _ | refine List.Mem.tail _ ?_))) (by first | rfl | assumption)) ?_
        refine o_e rfl rfl rfl (e_fak 0 Tryz.runUnderlying56 rfl Tryz.sizeOf25 rfl rfl rfl) ?_
        refine o_e rfl rfl rfl (e_fak 2 Tryz.runUnderlying25 rfl Tryz.sizeOf23 rfl rfl rfl) ?_
        refine o_e rfl rfl rfl (e_load Tryz.isAgg23 rfl (by first | exact .inr (by assumption) | exact .inl (by repeat (first | exact List.Mem.head _ | refine List.Mem.tail _ ?_))) (by first | rfl | assumption)) ?_
        refine o_l rfl (l_bs1 Tryz.runUnderlying29 Tryz.sizeOf23 Tryz.zeroValue23 rfl rfl rfl) ?_; intro g28 _
        refine o_l rfl (l_append (sz := 1) Tryz.underlying29 (info_of Tryz.typeInfo23) rfl rfl rfl rfl rfl rfl ho (List.perm_append_comm (l₁ := [_, _, _, _])) (.blk Tryz.underlying29 (.inl (.head _)) (.take .done) (by simp [Value.oneCell'])) (by show _ * 8 ≤ _; omega) (by omega)) ?_
        rintro ⟨v2, HB2⟩ ho2
        refine o_perm (List.perm_append_comm (l₂ := [_, _, _, _])) ?_
        refine o_l rfl (l_store Tryz.sizeOf29 rfl rfl ho2.one (.tail (.tail (.tail .head))) .head (by omega)) ?_
        intro _ _
        refine o_nil ?_
        refine n_block ?_
        refine n_code ?_
        refine c_region ?_
        first | refine o_e rfl rfl rfl (e_addN rfl rfl (by omega)) ?_ | refine o_e rfl rfl rfl (e_addn rfl rfl (by simp only [inR]; omega)) ?_ | refine o_e rfl rfl rfl (e_add rfl rfl) ?_
        refine o_e rfl rfl rfl (e_move rfl) ?_
        refine o_nil ?_
        refine n_round' (y := (i, v', HB')) (i + 1, v2, HB2) (by show n - (i + 1) < n - i; omega) ?_ (sub_cons rfl (sub_cons rfl (sub_cons rfl (sub_cons rfl (sub_cons rfl sub_nil))))) _ (.refl _) ?_
        · refine ⟨by show i + 1 ≤ n; omega, ?_⟩
          simp only [hnx]
          simpa using ho2
        · simp only [hnx]
          exact .cons _ (.cons _ (.cons_cons _ (.cons_cons _ (List.Sublist.refl _))))
      · have h3' : xh ∈ acc := by simpa using h3
        rw [show addN acc xh = acc by simp [addN, h3']] at hnx
        refine c_skip ?_
        refine n_block ?_
        refine n_code ?_
        refine c_region ?_
        first | refine o_e rfl rfl rfl (e_addN rfl rfl (by omega)) ?_ | refine o_e rfl rfl rfl (e_addn rfl rfl (by simp only [inR]; omega)) ?_ | refine o_e rfl rfl rfl (e_add rfl rfl) ?_
        refine o_e rfl rfl rfl (e_move rfl) ?_
        refine o_nil ?_
        refine n_round' (y := (i, v', HB')) (i + 1, v', HB') (by show n - (i + 1) < n - i; omega) ?_ (sub_cons rfl (sub_cons rfl (sub_cons rfl (sub_cons rfl (sub_cons rfl sub_nil))))) _ (.refl _) ?_
        · refine ⟨by show i + 1 ≤ n; omega, ?_⟩
          simp only [hnx]
          exact ho
        · simp only [hnx]
          exact .cons _ (List.Sublist.refl _)
    · skip
      have : i = l.length := by omega
      subst this
      have hlen : (distI (hcs l)).length ≤ 1000 := Nat.le_trans (distI_length _) (by simp [hcs]; omega)
      rw [List.take_length] at ho ⊢
      refine c_exit ?_; refine x_code ?_; refine x_upto ?_; refine x_here ?_
      refine n_code ?_
      refine c_seq ?_
      refine c_region ?_
      refine o_e rfl rfl rfl (e_load Tryz.isAgg29 rfl (by first | exact .inr (by assumption) | exact .inl (by repeat (first | exact List.Mem.head _ | refine List.Mem.tail _ ?_))) (by first | rfl | assumption)) ?_
      refine o_e rfl rfl rfl (e_mkif Tryz.runUnderlying29 rfl rfl) ?_
      refine o_e rfl rfl rfl (e_func rfl rfl) ?_
      rcases ho.openV with ⟨rfl, rfl, h0⟩ | ⟨g2, cap2, rest, lo, hi, rfl, rfl, a2, a3, a4, a5⟩
      · refine o_l rfl (l_call Tryz.call34 (slice_01 (by decide)) rfl rfl .nil) ?_
        rintro ⟨r, H'⟩ ⟨rfl, rfl⟩
        simp only [List.nil_append]
        refine o_nil ?_
        refine n_code ?_
        refine c_seq ?_
        refine c_region ?_
        refine o_e rfl rfl rfl (e_load Tryz.isAgg29 rfl (by first | exact .inr (by assumption) | exact .inl (by repeat (first | exact List.Mem.head _ | refine List.Mem.tail _ ?_))) (by first | rfl | assumption)) ?_
        refine o_e rfl rfl rfl (e_assign rfl) ?_
        refine o_nil ?_
        refine n_code ?_
        refine c_ret ?_
        refine WR.less (fun _ _ h => h) (List.nil_sublist _) ?_
        refine r_fn1 Tryz.results72 rfl ?_
        rw [codes, h0, srt, List.mergeSort_nil]
        exact .nil
      · skip
        by_cases h1 : (distI (hcs l)).length ≤ 1
        · skip
          refine o_l rfl (l_call Tryz.call34 (slice_01 h1) rfl rfl .nil) ?_
          rintro ⟨r, H'⟩ ⟨rfl, rfl⟩
          simp only [List.nil_append]
          refine o_nil ?_
          refine n_code ?_
          refine c_seq ?_
          refine c_region ?_
          refine o_e rfl rfl rfl (e_load Tryz.isAgg29 rfl (by first | exact .inr (by assumption) | exact .inl (by repeat (first | exact List.Mem.head _ | refine List.Mem.tail _ ?_))) (by first | rfl | assumption)) ?_
          refine o_e rfl rfl rfl (e_assign rfl) ?_
          refine o_nil ?_
          refine n_code ?_
          refine c_ret ?_
          refine WR.sel (.cons (.tail (.tail .head)) .nil) ?_
          refine r_fn1 Tryz.results72 rfl ?_
          rw [codes, srt_small h1]
          exact .own (by simp) a2 a3 a4 a5
        · skip
          refine o_l rfl (l_call Tryz.call34 (slice_is less138 (fun _ _ => Tryz.call138 _ _) rfl (by omega) (by omega) (by omega)) rfl rfl (.cons (.tail .head) (.cons (.tail .head) .nil))) ?_
          rintro ⟨r, H'⟩ ⟨rfl, rfl⟩
          simp only [List.cons_append, List.nil_append]
          refine o_nil ?_
          refine n_code ?_
          refine c_seq ?_
          refine c_region ?_
          refine o_e rfl rfl rfl (e_load Tryz.isAgg29 rfl (by first | exact .inr (by assumption) | exact .inl (by repeat (first | exact List.Mem.head _ | refine List.Mem.tail _ ?_))) (by first | rfl | assumption)) ?_
          refine o_e rfl rfl rfl (e_assign rfl) ?_
          refine o_nil ?_
          refine n_code ?_
          refine c_ret ?_
          refine WR.sel (.cons (.tail .head) .nil) ?_
          refine r_fn1 Tryz.results72 rfl ?_
          rw [show (distI (hcs l)).length = (codes l).length by rw [codes, srt_length]] at a2 a3 ⊢
          exact .own (by simp) a2 a3 a4 a5
end Go.Proofs
namespace Go.Proofs
open Go Go.Sl
set_option maxRecDepth 100000
set_option maxHeartbeats 1000000
def rowsB (st : List En) (n : Int) : List UInt8 := (st.filter fun x => decide ((x.d.length : Int) = n)).flatMap fun x => x.d ++ lowB x.o 8
def partB (st : List En) (n : Int) : List UInt8 := lowB (n + 8) 4 ++ (lowB ((rowsB st n).length : Nat) 8 ++ rowsB st n)
def sortedB (l : List En) : List UInt8 := lowB ((widths l).length : Nat) 4 ++ (widths l).flatMap (partB (stable l))
theorem rowsB_take {st : List En} {n : Int} {i : Nat} (h : i < st.length) : rowsB (st.take (i + 1)) n = rowsB (st.take i) n ++ if (st[i].d.length : Int) = n then st[i].d ++ lowB st[i].o 8 else [] := by
  simp only [rowsB]
  rw [List.take_succ_eq_append_getElem h, List.filter_append, List.flatMap_append]
  congr 1
  by_cases hc : (st[i].d.length : Int) = n <;> simp [hc]
theorem rowsB_length (st : List En) (n : Int) (k : Nat) (hd : ∀ x ∈ st, x.d.length ≤ k) : (rowsB st n).length ≤ st.length * (k + 8) := by
  induction st with
  | nil => simp [rowsB]
  | cons x st ih =>
    have h1 := ih (fun y hy => hd y (.tail _ hy))
    have h2 := hd x (.head _)
    have e : rowsB (x :: st) n = (if (x.d.length : Int) = n then x.d ++ lowB x.o 8 else []) ++ rowsB st n := by
      simp only [rowsB, List.filter_cons]
      by_cases hc : (x.d.length : Int) = n <;> simp [hc]
    rw [e, List.length_append, List.length_cons, Nat.add_mul]
    have : (if (x.d.length : Int) = n then x.d ++ lowB x.o 8 else []).length ≤ k + 8 := by
      split
      · simp [lowB_length]; omega
      · simp
    omega
theorem partB_length (st : List En) (n : Int) (hd : ∀ x ∈ st, x.d.length ≤ 200) (hl : st.length ≤ 100) : (partB st n).length ≤ 21000 := by
  have := rowsB_length st n 200 hd
  have h2 : st.length * 208 ≤ 100 * 208 := Nat.mul_le_mul_right _ hl
  simp only [partB, List.length_append, lowB_length]
  omega
theorem flat_length (W : List Int) (f : Int → List UInt8) (k : Nat) (h : ∀ n, (f n).length ≤ k) : (W.flatMap f).length ≤ W.length * k := by
  induction W with
  | nil => simp
  | cons a W ih => simp only [List.flatMap_cons, List.length_append, List.length_cons, Nat.add_mul]; have := h a; omega
theorem flat_take {W : List Int} {f : Int → List UInt8} {i : Nat} (h : i < W.length) : (W.take (i + 1)).flatMap f = (W.take i).flatMap f ++ f (gd W i) := by
  rw [List.take_succ_eq_append_getElem h, List.flatMap_append]
  simp [gd, h]
theorem widths_mem {l : List En} {a : Int} : a ∈ widths l ↔ ∃ x ∈ l, (x.d.length : Int) = a := by
  rw [widths, srt_mem, distI_mem, lens, List.mem_map]
theorem widths_len (l : List En) : (widths l).length ≤ l.length := by
  rw [widths, srt_length]
  exact Nat.le_trans (distI_length _) (by simp [lens])
theorem gd_mem {l : List Int} {i : Nat} (h : i < l.length) : gd l i ∈ l := by
  have : gd l i = l[i] := by simp [gd, h]
  rw [this]; exact List.getElem_mem h
theorem sortedB_length (l : List En) (hd : ∀ x ∈ l, x.d.length ≤ 200) (hl : l.length ≤ 100) : (sortedB l).length ≤ 2200000 := by
  have h1 := flat_length (widths l) (partB (stable l)) 21000 (fun n => partB_length _ n (fun x hx => hd x ((stable_perm l).mem_iff.1 hx)) (by rw [stable_length]; exact hl))
  have h2 := widths_len l
  have h3 : (widths l).length * 21000 ≤ 100 * 21000 := Nat.mul_le_mul_right _ (by omega)
  simp only [sortedB, List.length_append, lowB_length]
  omega
end Go.Proofs
namespace Go.Proofs
open Go Go.Sl
set_option maxRecDepth 100000
set_option maxHeartbeats 2000000
theorem sortedBytes_is {G HB : HP} {v vl : Value} {l : List En} {m : Nat} {xs : List Value} (ho : Osl 5 1 v m xs HB) (h : EnS G vl l) (hl : l.length ≤ 100) (hd : ∀ x ∈ l, x.d.length ≤ 200) (hm : m ≤ 500000000) :
    Ctr Tryz.prog 71 [v, vl] G HB (fun r H' => Osl 5 1 r (m + (sortedB l).length) (xs ++ B (sortedB l)) H') := by
  refine fn_enter 62 Tryz.func71 rfl Tryz.ntmps71 rfl ?_
  intro w0
  refine c_seq ?_
  refine c_region ?_
  refine o_e rfl rfl rfl (e_assign rfl) ?_
  refine o_nil ?_
  refine n_code ?_
  refine c_seq ?_
  refine c_region ?_
  refine o_e rfl rfl rfl (e_move rfl) ?_
  refine o_l rfl (l_call Tryz.call136 (widths_is h (by omega) (fun x hx => by have := hd x hx; omega)) rfl rfl .nil) ?_
  rintro ⟨vw, Hw⟩ hw
  rcases hw.openV with ⟨rfl, rfl, h0⟩ | ⟨gw, capw, restw, low, hiw, rfl, rfl, a2, a3, a4, a5⟩
  · simp only [List.nil_append]
    refine o_e rfl rfl rfl (e_assign rfl) ?_
    refine o_nil ?_
    refine n_code ?_
    refine c_seq ?_
    refine c_region ?_
    refine o_e rfl rfl rfl (e_move rfl) ?_
    refine o_e rfl rfl rfl (e_move rfl) ?_
    first | refine o_e rfl rfl rfl (e_lenl Tryz.runUnderlying99 rfl) ?_ | refine o_e rfl rfl rfl (e_lenO Tryz.runUnderlying99 (by assumption) rfl) ?_
    first | refine o_e rfl rfl rfl (e_convn Tryz.runUnderlying3 Tryz.runUnderlying23 rfl (by simp only [inR]; omega)) ?_ | refine o_e rfl rfl rfl (e_conv Tryz.runUnderlying3 Tryz.runUnderlying23 rfl) ?_
    refine o_l rfl (l_call Tryz.call73 (low_is (k := 4) ho (by decide) (by omega)) rfl rfl (by simpa using Sel.app HB [])) ?_
    rintro ⟨v1, HB1⟩ ho1
    simp only [List.append_nil]
    refine o_e rfl rfl rfl (e_assign rfl) ?_
    refine o_nil ?_
    refine n_code ?_
    refine c_seq ?_
    refine c_region ?_
    refine o_e rfl rfl rfl (e_move rfl) ?_
    refine o_l rfl (l_call Tryz.call137 (byDigest_is h (by omega)) rfl rfl .nil) ?_
    rintro ⟨vs, Hs⟩ hs
    refine o_e rfl rfl rfl (e_assign rfl) ?_
    refine o_nil ?_
    refine n_code ?_
    refine c_seq ?_
    refine c_seq ?_
    refine c_region ?_
    refine o_e rfl rfl rfl (e_move rfl) ?_
    first | refine o_e rfl rfl rfl (e_lenl Tryz.runUnderlying99 rfl) ?_ | refine o_e rfl rfl rfl (e_lenO Tryz.runUnderlying99 (by assumption) rfl) ?_
    refine o_e rfl rfl rfl (e_move rfl) ?_
    refine o_nil ?_
    refine n_code ?_
    refine c_block ?_
    refine c_rounds 1 ?_
    refine c_seq ?_
    refine c_region ?_
    refine o_e rfl rfl rfl (e_lss rfl rfl) ?_
    refine o_nil ?_
    refine n_code ?_
    refine c_seq ?_
    refine c_else rfl ?_
    refine c_exit ?_; refine x_code ?_; refine x_upto ?_; refine x_here ?_
    refine n_code ?_
    refine c_seq ?_
    refine c_region ?_
    refine o_e rfl rfl rfl (e_move rfl) ?_
    refine o_e rfl rfl rfl (e_assign rfl) ?_
    refine o_nil ?_
    refine n_code ?_
    refine c_ret ?_
    refine WR.less (fun _ _ h => h) (List.sublist_append_right _ _) ?_
    refine r_fn1 Tryz.results71 rfl ?_
    have e : sortedB l = lowB 0 4 := by simp [sortedB, h0]
    rw [e, lowB_length]
    exact ho1
  · skip
    have hwl := widths_len l
    refine o_e rfl rfl rfl (e_assign rfl) ?_
    refine o_nil ?_
    refine n_code ?_
    refine c_seq ?_
    refine c_region ?_
    refine o_e rfl rfl rfl (e_move rfl) ?_
    refine o_e rfl rfl rfl (e_move rfl) ?_
    first | refine o_e rfl rfl rfl (e_lenl Tryz.runUnderlying99 rfl) ?_ | refine o_e rfl rfl rfl (e_lenO Tryz.runUnderlying99 (by assumption) rfl) ?_
    first | refine o_e rfl rfl rfl (e_convn Tryz.runUnderlying3 Tryz.runUnderlying23 rfl (by simp only [inR]; omega)) ?_ | refine o_e rfl rfl rfl (e_conv Tryz.runUnderlying3 Tryz.runUnderlying23 rfl) ?_
    refine o_perm (List.perm_append_comm (l₁ := [_])) ?_
    refine o_l rfl (l_call Tryz.call73 (low_is (k := 4) ho (by decide) (by omega)) rfl rfl (Sel.app HB _)) ?_
    rintro ⟨v1, HB1⟩ ho1
    simp only at ho1 ⊢
    refine o_e rfl rfl rfl (e_assign rfl) ?_
    refine o_nil ?_
    refine n_code ?_
    refine c_seq ?_
    refine c_region ?_
    refine o_e rfl rfl rfl (e_move rfl) ?_
    refine o_l rfl (l_call Tryz.call137 (byDigest_is h (by omega)) rfl rfl .nil) ?_
    rintro ⟨vs, Hs⟩ hs
    simp only at hs ⊢
    have hno : ∀ u w, Osl 56 5 u l.length (cells5 (stable l)) w → (u = .slice none 0 0 ∧ w = [] ∧ l = []) ∨ ∃ g cap rest lo hi, u = .slice (some ⟨g, 0, none⟩) l.length cap ∧ w = [(g, .cells (cells5 (stable l) ++ rest).toArray 56 (lo, hi))] ∧ l.length ≤ cap ∧ cap < 9223372036854775808 := by
      intro u w hu
      generalize hN : l.length = N at hu
      generalize hX : cells5 (stable l) = X at hu
      cases hu with
      | nil => exact .inl ⟨rfl, rfl, List.length_eq_zero_iff.1 hN⟩
      | own b1 b2 b3 b4 b5 => exact .inr ⟨_, _, _, _, _, rfl, rfl, b3, b4⟩
    rcases hno vs Hs hs with ⟨rfl, rfl, hnil⟩ | ⟨gq, capd, restd, lod, hid, rfl, rfl, b3, b4⟩
    · have hw0 : (widths l).length = 0 := by subst hnil; simpa using hwl
      rw [hw0] at ho1 ⊢
      refine o_e rfl rfl rfl (e_assign rfl) ?_
      refine o_nil ?_
      refine n_code ?_
      refine c_seq ?_
      refine c_seq ?_
      refine c_region ?_
      refine o_e rfl rfl rfl (e_move rfl) ?_
      first | refine o_e rfl rfl rfl (e_lenl Tryz.runUnderlying99 rfl) ?_ | refine o_e rfl rfl rfl (e_lenO Tryz.runUnderlying99 (by assumption) rfl) ?_
      refine o_e rfl rfl rfl (e_move rfl) ?_
      refine o_nil ?_
      refine n_code ?_
      refine c_block ?_
      refine c_rounds 1 ?_
      refine c_seq ?_
      refine c_region ?_
      refine o_e rfl rfl rfl (e_lss rfl rfl) ?_
      refine o_nil ?_
      refine n_code ?_
      refine c_seq ?_
      refine c_else rfl ?_
      refine c_exit ?_; refine x_code ?_; refine x_upto ?_; refine x_here ?_
      refine n_code ?_
      refine c_seq ?_
      refine c_region ?_
      refine o_e rfl rfl rfl (e_move rfl) ?_
      refine o_e rfl rfl rfl (e_assign rfl) ?_
      refine o_nil ?_
      refine n_code ?_
      refine c_ret ?_
      refine WR.less (fun _ _ h => h) (List.sublist_append_left HB1 [_]) ?_
      refine r_fn1 Tryz.results71 rfl ?_
      have e : sortedB l = lowB 0 4 := by simp [sortedB, List.length_eq_zero_iff.1 hw0]
      rw [e, lowB_length]
      simpa using ho1
    · skip
      have hst : (stable l).length = l.length := stable_length l
      have hd' : ∀ x ∈ stable l, x.d.length ≤ 200 := fun x hx => hd x ((stable_perm l).mem_iff.1 hx)
      refine o_e rfl rfl rfl (e_assign rfl) ?_
      refine o_nil ?_
      refine n_code ?_
      refine c_seq ?_
      refine c_seq ?_
      refine c_region ?_
      refine o_e rfl rfl rfl (e_move rfl) ?_
      first | refine o_e rfl rfl rfl (e_lenl Tryz.runUnderlying99 rfl) ?_ | refine o_e rfl rfl rfl (e_lenO Tryz.runUnderlying99 (by assumption) rfl) ?_
      refine o_e rfl rfl rfl (e_move rfl) ?_
      refine o_nil ?_
      refine n_code ?_
      refine c_block ?_
      refine c_loop (X := Nat × Value × HP) (fun y => [(0, y.2.1), (6, .slice (some ⟨gq, 0, none⟩) l.length capd), (21, .slice (some ⟨gw, 0, none⟩) (widths l).length capw), (22, .int .i64 (widths l).length), (23, .int .i64 y.1)]) (fun y => (gq, .cells (cells5 (stable l) ++ restd).toArray 56 (lod, hid)) :: (gw, VB .i64 (widths l) restw 3 low hiw) :: y.2.2)
        (fun y => y.1 ≤ (widths l).length ∧ Osl 5 1 y.2.1 (m + 4 + (((widths l).take y.1).flatMap (partB (stable l))).length) (xs ++ B (lowB ((widths l).length : Nat) 4) ++ B (((widths l).take y.1).flatMap (partB (stable l)))) y.2.2) (fun y => (widths l).length - y.1) (0, v1, HB1) ⟨Nat.zero_le _, by simpa [B] using ho1⟩ (sub_cons rfl (sub_cons rfl (sub_cons rfl (sub_cons rfl (sub_cons rfl sub_nil))))) (List.Perm.cons _ (List.perm_append_comm (l₂ := [_]))) ?_
      rintro ⟨i, v', HB'⟩ ⟨hi, ho'⟩
      simp only at hi ho' ⊢
      refine c_seq ?_
      refine c_region ?_
      refine o_e rfl rfl rfl (e_lss rfl rfl) ?_
      refine o_nil ?_
      refine n_code ?_
      refine c_seq ?_
      refine c_ifp rfl (fun h2 => ?_) (fun h2 => ?_)
      · have hi2 : i < (widths l).length := by omega
        have hnx := flat_take (f := partB (stable l)) hi2
        obtain ⟨xw, hxw, hwe⟩ := widths_mem.1 (gd_mem hi2)
        have hxd := hd xw hxw
        have hfl := flat_length ((widths l).take i) (partB (stable l)) 21000 (fun n => partB_length _ n hd' (by omega))
        have hfl2 : ((widths l).take i).length * 21000 ≤ 100 * 21000 := Nat.mul_le_mul_right _ (by simp; omega)
        generalize hwi : gd (widths l) i = wi at hnx hwe
        refine c_skip ?_
        refine n_code ?_
        refine c_seq ?_
        refine c_block ?_
        refine c_seq ?_
        refine c_region ?_
        first | refine o_e rfl rfl rfl (e_ian Tryz.runUnderlying99 Tryz.sizeOf3 rfl rfl (by omega)) ?_ | refine o_e rfl rfl rfl (e_ia Tryz.runUnderlying99 Tryz.sizeOf3 rfl rfl (by omega) (by omega)) ?_
        first | refine o_e rfl rfl rfl (e_ld Tryz.isAgg3 rfl (by first | exact .inr (by assumption) | exact .inl (by repeat (first | exact List.Mem.head _ | refine List.Mem.tail _ ?_))) (by omega)) ?_ | refine o_e rfl rfl rfl (e_load Tryz.isAgg3 rfl (by first | exact .inr (by assumption) | exact .inl (by repeat (first | exact List.Mem.head _ | refine List.Mem.tail _ ?_))) (by first | rfl | assumption)) ?_
        refine o_e rfl rfl rfl (e_assign rfl) ?_
        refine o_nil ?_
        refine n_code ?_
        refine c_seq ?_
        refine c_region ?_
        refine o_e rfl rfl rfl (e_assign rfl) ?_
        refine o_nil ?_
        refine n_code ?_
        refine c_seq ?_
        refine c_seq ?_
        refine c_region ?_
        refine o_e rfl rfl rfl (e_move rfl) ?_
        first | refine o_e rfl rfl rfl (e_lenl Tryz.runUnderlying22 rfl) ?_ | refine o_e rfl rfl rfl (e_lenO Tryz.runUnderlying22 (by assumption) rfl) ?_
        refine o_e rfl rfl rfl (e_move rfl) ?_
        refine o_nil ?_
        refine n_code ?_
        refine c_block ?_
        rw [hwi]
        refine c_loop (X := Nat × Value × HP) (fun z => [(0, v'), (6, .slice (some ⟨gq, 0, none⟩) l.length capd), (8, .int .i64 wi), (9, z.2.1), (21, .slice (some ⟨gw, 0, none⟩) (widths l).length capw), (22, .int .i64 (widths l).length), (23, .int .i64 i), (27, .slice (some ⟨gq, 0, none⟩) l.length capd), (28, .int .i64 l.length), (29, .int .i64 z.1)])
          (fun z => (gq, .cells (cells5 (stable l) ++ restd).toArray 56 (lod, hid)) :: (gw, VB .i64 (widths l) restw 3 low hiw) :: (z.2.2 ++ HB'))
          (fun z => z.1 ≤ l.length ∧ Osl 5 1 z.2.1 (rowsB ((stable l).take z.1) wi).length (B (rowsB ((stable l).take z.1) wi)) z.2.2) (fun z => l.length - z.1) (0, .slice none 0 0, []) ⟨Nat.zero_le _, .nil⟩ (sub_cons rfl (sub_cons rfl (sub_cons rfl (sub_cons rfl (sub_cons rfl (sub_cons rfl (sub_cons rfl (sub_cons rfl (sub_cons rfl (sub_cons rfl sub_nil)))))))))) (.refl _) ?_
        rintro ⟨j, vr, HR⟩ ⟨hj, hr⟩
        simp only at hj hr ⊢
        refine c_seq ?_
        refine c_region ?_
        refine o_e rfl rfl rfl (e_lss rfl rfl) ?_
        refine o_nil ?_
        refine n_code ?_
        refine c_seq ?_
        refine c_ifp rfl (fun h4 => ?_) (fun h4 => ?_)
        · have hj2 : j < (stable l).length := by omega
          have hcut : CutL (cells5 (stable l) ++ restd) (0 + j * 5) 5 (cE (stable l)[j]) := by rw [Nat.zero_add]; exact cells5_cut hj2 restd
          have hrx := rowsB_take (n := wi) hj2
          have hxj := hd' _ (List.getElem_mem hj2)
          have hrl := rowsB_length ((stable l).take j) wi 200 (fun x hx => hd' x (List.mem_of_mem_take hx))
          have hrl2 : ((stable l).take j).length * 208 ≤ 100 * 208 := Nat.mul_le_mul_right _ (by simp; omega)
          generalize (stable l)[j] = x at hcut hrx hxj
          obtain ⟨xv, xc, xh, xd, xo⟩ := x
          simp only [cE] at hcut hrx hxj
          refine c_skip ?_
          refine n_code ?_
          refine c_seq ?_
          refine c_block ?_
          refine c_seq ?_
          refine c_region ?_
          first | refine o_e rfl rfl rfl (e_ian Tryz.runUnderlying22 Tryz.sizeOf56 rfl rfl (by omega)) ?_ | refine o_e rfl rfl rfl (e_ia Tryz.runUnderlying22 Tryz.sizeOf56 rfl rfl (by omega) (by omega)) ?_
          refine o_e rfl rfl rfl (e_loada Tryz.isAgg56 Tryz.sizeOf56 rfl (.inl (.head _)) hcut) ?_
          refine o_l rfl (l_alloc Tryz.zeroValue56 rfl rfl) ?_; intro g11 _
          refine o_l rfl (l_storea Tryz.sizeOf56 rfl rfl rfl (by simp [Value.oneCell']) .head (.take (.take (.take (.take (.take .done))))) nofrs0) ?_
          intro _ _
          refine o_nil ?_
          refine n_code ?_
          refine c_seq ?_
          refine c_region ?_
          refine o_e rfl rfl rfl (e_fak 0 Tryz.runUnderlying56 rfl Tryz.sizeOf25 rfl rfl rfl) ?_
          refine o_e rfl rfl rfl (e_fak 3 Tryz.runUnderlying25 rfl Tryz.sizeOf9 rfl rfl rfl) ?_
          refine o_e rfl rfl rfl (e_load Tryz.isAgg9 rfl (by first | exact .inr (by assumption) | exact .inl (by repeat (first | exact List.Mem.head _ | refine List.Mem.tail _ ?_))) (by first | rfl | assumption)) ?_
          refine o_e rfl rfl rfl (e_lens Tryz.runUnderlying9 rfl) ?_
          refine o_e rfl rfl rfl (e_move rfl) ?_
          refine o_e rfl rfl rfl (e_eql rfl rfl) ?_
          refine o_nil ?_
          refine n_code ?_
          refine c_ifp rfl (fun h5 => ?_) (fun h5 => ?_)
          · rw [if_pos h5] at hrx
            refine c_regiond ([(g11, C [.int .u64 xv, .int .u64 xc, .int .u64 xh, S xd, .int .u64 xo] 56)]) (by kernel_rfl) (.cons_cons _ (List.nil_sublist _)) ?_
            refine d_e 0 (fun _ _ _ _ _ h => h) rfl (by kernel_rfl) (by kernel_rfl) (by kernel_rfl) rfl rfl rfl (e_move rfl) ?_
            refine d_e 1 (fun _ _ _ _ _ h => h) rfl (by kernel_rfl) (by kernel_rfl) (by kernel_rfl) rfl rfl rfl (e_fak 0 Tryz.runUnderlying56 rfl Tryz.sizeOf25 rfl rfl rfl) ?_
            refine d_e 2 (fun _ _ _ _ _ h => h) rfl (by kernel_rfl) (by kernel_rfl) (by kernel_rfl) rfl rfl rfl (e_fak 3 Tryz.runUnderlying25 rfl Tryz.sizeOf9 rfl rfl rfl) ?_
            refine d_e 3 (fun _ _ _ _ _ h => h) rfl (by kernel_rfl) (by kernel_rfl) (by kernel_rfl) rfl rfl rfl (e_load Tryz.isAgg9 rfl (by first | exact .inr (by assumption) | exact .inl (by repeat (first | exact List.Mem.head _ | refine List.Mem.tail _ ?_))) (by first | rfl | assumption)) ?_
            refine d_e 5 (fun _ _ _ _ _ h => h) rfl (by kernel_rfl) (by kernel_rfl) (by kernel_rfl) rfl rfl rfl (e_fak 4 Tryz.runUnderlying56 rfl Tryz.sizeOf23 rfl rfl rfl) ?_
            first | refine d_e 6 (fun _ _ _ _ _ h => h) rfl (by kernel_rfl) (by kernel_rfl) (by kernel_rfl) rfl rfl rfl (e_ld Tryz.isAgg23 rfl (by first | exact .inr (by assumption) | exact .inl (by repeat (first | exact List.Mem.head _ | refine List.Mem.tail _ ?_))) (by omega)) ?_ | refine d_e 6 (fun _ _ _ _ _ h => h) rfl (by kernel_rfl) (by kernel_rfl) (by kernel_rfl) rfl rfl rfl (e_load Tryz.isAgg23 rfl (by first | exact .inr (by assumption) | exact .inl (by repeat (first | exact List.Mem.head _ | refine List.Mem.tail _ ?_))) (by first | rfl | assumption)) ?_
            refine d_l 4 (by kernel_rfl) rfl rfl (l_append (sz := 1) (HB := HR) Tryz.underlying72 (info_of Tryz.typeInfo5) rfl rfl rfl rfl rfl rfl hr (perm_mid [_, _, _] HR HB') (.str Tryz.underlying9 rfl) (by show _ * 1 ≤ _; omega) (by omega)) (by first | exact fun _ _ => hs_nil | (intro y hy p hp; simp only [List.mem_cons, List.mem_append, List.not_mem_nil, or_false, false_or] at hp ⊢; first | exact hp.elim | (simp only [hp, true_or, or_true]) | (rcases hp with rfl | rfl | rfl <;> simp))) ?_
            rintro ⟨v2, HR2⟩ hr2
            simp only at hr2 ⊢
            refine d_l 7 (by kernel_rfl) rfl rfl (l_call Tryz.call73 (low_is (k := 8) hr2 (by decide) (by omega)) rfl rfl (Sel.app HR2 _)) (by first | exact fun _ _ => hs_nil | (intro y hy p hp; simp only [List.mem_cons, List.mem_append, List.not_mem_nil, or_false, false_or] at hp ⊢; first | exact hp.elim | (simp only [hp, true_or, or_true]) | (rcases hp with rfl | rfl | rfl <;> simp))) ?_
            rintro ⟨v3, HR3⟩ hr3
            simp only at hr3 ⊢
            refine d_e 8 (fun _ _ _ _ _ h => h) rfl (by kernel_rfl) (by kernel_rfl) (by kernel_rfl) rfl rfl rfl (e_assign rfl) ?_
            refine d_nil (by kernel_rfl) ?_
            refine n_block ?_
            refine n_code ?_
            refine c_region ?_
            first | refine o_e rfl rfl rfl (e_addN rfl rfl (by omega)) ?_ | refine o_e rfl rfl rfl (e_addn rfl rfl (by simp only [inR]; omega)) ?_ | refine o_e rfl rfl rfl (e_add rfl rfl) ?_
            refine o_e rfl rfl rfl (e_move rfl) ?_
            refine o_nil ?_
            refine n_round' (y := (j, vr, HR)) (j + 1, v3, HR3) (by show l.length - (j + 1) < l.length - j; omega) ⟨by show j + 1 ≤ l.length; omega, ?_⟩ (sub_cons rfl (sub_cons rfl (sub_cons rfl (sub_cons rfl (sub_cons rfl (sub_cons rfl (sub_cons rfl (sub_cons rfl (sub_cons rfl (sub_cons rfl sub_nil)))))))))) _ (perm_mid [_, _, _] HR3 HB').symm (.cons _ (List.Sublist.refl _))
            simp only [hrx]
            rw [List.length_append, List.length_append, lowB_length, B_append, B_append, ← List.append_assoc, ← Nat.add_assoc]
            exact hr3
          · rw [if_neg h5, List.append_nil] at hrx
            refine c_skip ?_
            refine n_block ?_
            refine n_code ?_
            refine c_region ?_
            first | refine o_e rfl rfl rfl (e_addN rfl rfl (by omega)) ?_ | refine o_e rfl rfl rfl (e_addn rfl rfl (by simp only [inR]; omega)) ?_ | refine o_e rfl rfl rfl (e_add rfl rfl) ?_
            refine o_e rfl rfl rfl (e_move rfl) ?_
            refine o_nil ?_
            refine n_round' (y := (j, vr, HR)) (j + 1, vr, HR) (by show l.length - (j + 1) < l.length - j; omega) ⟨by show j + 1 ≤ l.length; omega, ?_⟩ (sub_cons rfl (sub_cons rfl (sub_cons rfl (sub_cons rfl (sub_cons rfl (sub_cons rfl (sub_cons rfl (sub_cons rfl (sub_cons rfl (sub_cons rfl sub_nil)))))))))) _ (.refl _) (.cons _ (List.Sublist.refl _))
            simp only [hrx]
            exact hr
        · skip
          have hje : (stable l).take j = stable l := List.take_of_length_le (by omega)
          rw [hje] at hr
          have hrl := rowsB_length (stable l) wi 200 hd'
          have hrl2 : (stable l).length * 208 ≤ 100 * 208 := Nat.mul_le_mul_right _ (by omega)
          refine c_exit ?_; refine x_code ?_; refine x_upto ?_; refine x_here ?_
          refine n_code ?_
          refine c_seq ?_
          refine c_region ?_
          refine o_e rfl rfl rfl (e_move rfl) ?_
          refine o_e rfl rfl rfl (e_move rfl) ?_
          first | refine o_e rfl rfl rfl (e_addN rfl rfl (by omega)) ?_ | refine o_e rfl rfl rfl (e_addn rfl rfl (by simp only [inR]; omega)) ?_ | refine o_e rfl rfl rfl (e_add rfl rfl) ?_
          first | refine o_e rfl rfl rfl (e_convn Tryz.runUnderlying3 Tryz.runUnderlying23 rfl (by simp only [inR]; omega)) ?_ | refine o_e rfl rfl rfl (e_conv Tryz.runUnderlying3 Tryz.runUnderlying23 rfl) ?_
          refine o_l rfl (l_call Tryz.call73 (low_is (n := wi + 8) (k := 4) ho' (by decide) (by omega)) rfl rfl (Sel.appR ([_, _] ++ HR) HB')) ?_
          rintro ⟨v2, HB2⟩ ho2
          simp only at ho2 ⊢
          refine o_e rfl rfl rfl (e_assign rfl) ?_
          refine o_nil ?_
          refine n_code ?_
          refine c_region ?_
          refine o_e rfl rfl rfl (e_move rfl) ?_
          refine o_e rfl rfl rfl (e_move rfl) ?_
          first | refine o_e rfl rfl rfl (e_lenl Tryz.runUnderlying72 rfl) ?_ | refine o_e rfl rfl rfl (e_lenO Tryz.runUnderlying72 (by assumption) rfl) ?_
          first | refine o_e rfl rfl rfl (e_convn Tryz.runUnderlying3 Tryz.runUnderlying23 rfl (by simp only [inR]; omega)) ?_ | refine o_e rfl rfl rfl (e_conv Tryz.runUnderlying3 Tryz.runUnderlying23 rfl) ?_
          refine o_l rfl (l_call Tryz.call73 (low_is (k := 8) ho2 (by decide) (by omega)) rfl rfl (Sel.app HB2 _)) ?_
          rintro ⟨v3, HB3⟩ ho3
          simp only at ho3 ⊢
          refine o_e rfl rfl rfl (e_move rfl) ?_
          refine o_l rfl (l_append (sz := 1) (HB := HB3) Tryz.underlying72 (info_of Tryz.typeInfo5) rfl rfl rfl rfl rfl rfl ho3 (.refl _) (hr.sv Tryz.underlying72 (by simp; intro a b hab; exact .inr (.inr (.inr hab))) (B_one _)) (by show _ * 1 ≤ _; omega) (by omega)) ?_
          rintro ⟨v4, HB4⟩ ho4
          simp only at ho4 ⊢
          refine o_e rfl rfl rfl (e_assign rfl) ?_
          refine o_nil ?_
          refine n_block ?_
          refine n_code ?_
          refine c_region ?_
          first | refine o_e rfl rfl rfl (e_addN rfl rfl (by omega)) ?_ | refine o_e rfl rfl rfl (e_addn rfl rfl (by simp only [inR]; omega)) ?_ | refine o_e rfl rfl rfl (e_add rfl rfl) ?_
          refine o_e rfl rfl rfl (e_move rfl) ?_
          refine o_nil ?_
          refine n_round' (y := (i, v', HB')) (i + 1, v4, HB4) (by show (widths l).length - (i + 1) < (widths l).length - i; omega) ⟨by show i + 1 ≤ (widths l).length; omega, ?_⟩ (sub_cons rfl (sub_cons rfl (sub_cons rfl (sub_cons rfl (sub_cons rfl sub_nil))))) _ List.perm_append_comm (.cons_cons _ (.cons_cons _ (List.sublist_append_right _ _)))
          simp only [hnx, partB]
          rw [List.length_append, List.length_append, List.length_append, lowB_length, lowB_length, B_append, B_append, B_append, ← List.append_assoc, ← List.append_assoc, ← List.append_assoc, ← Nat.add_assoc, ← Nat.add_assoc, ← Nat.add_assoc]
          exact ho4
      · skip
        refine c_exit ?_; refine x_code ?_; refine x_upto ?_; refine x_here ?_
        refine n_code ?_
        refine c_seq ?_
        refine c_region ?_
        refine o_e rfl rfl rfl (e_move rfl) ?_
        refine o_e rfl rfl rfl (e_assign rfl) ?_
        refine o_nil ?_
        refine n_code ?_
        refine c_ret ?_
        refine WR.less (fun _ _ h => h) (.cons _ (.cons _ (List.Sublist.refl _))) ?_
        refine r_fn1 Tryz.results71 rfl ?_
        have : i = (widths l).length := by omega
        subst this
        rw [List.take_length] at ho'
        have e : m + (sortedB l).length = m + 4 + ((widths l).flatMap (partB (stable l))).length := by simp [sortedB, lowB_length]; omega
        rw [e, sortedB, B_append, ← List.append_assoc]
        exact ho'
end Go.Proofs

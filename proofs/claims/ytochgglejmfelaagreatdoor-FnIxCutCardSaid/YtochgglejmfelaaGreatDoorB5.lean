/- laws.FnIxCut in terms of memory: it returns true. -/
import Derived.Test.YtochgglejmfelaaGreatDoorB2
import Derived.Test.YtochgglejmfelaaGreatDoorB4
import Derived.Test.YtochgglejmfelaaGreatDoorA5
namespace Go.Proofs
open Go Go.Sl
theorem lowb_nat (k i : Nat) : (lowb (k : Nat) i).toNat = k / 2 ^ (8 * i) % 256 := by
  unfold lowb
  have h : ((k : Nat) : Int) / 2 ^ (8 * i) % 256 = ((k / 2 ^ (8 * i) % 256 : Nat) : Int) := by simp
  rw [h, Int.toNat_natCast, UInt8.toNat_ofNat']
  omega
theorem le_lowB (k : Nat) (h : k < 4294967296) : le (lowB (k : Nat) 4) = k := by
  have e : lowB (k : Nat) 4 = [lowb (k : Nat) 0, lowb (k : Nat) 1, lowb (k : Nat) 2, lowb (k : Nat) 3] := rfl
  rw [e]
  simp only [le, lowb_nat]
  omega
theorem num_take {s : List UInt8} {m i : Nat} (h : i + 4 ≤ m) : num (s.take m) i = num s i := by
  unfold num
  rw [List.drop_take, List.take_take, Nat.min_eq_left (by omega)]
theorem num_at {p q : List UInt8} {k : Nat} (h : k < 4294967296) : num (p ++ (lowB (k : Nat) 4 ++ q)) p.length = k := by
  unfold num
  rw [List.drop_left, List.take_left' (lowB_length _ _), le_lowB k h]
def cutN (l : List En) (kind : Int) : Nat := if l = [] then 6 else if kind = 1025 then 30 else 18
theorem sortedB_head {l : List En} (hl : l ≠ []) (h100 : l.length ≤ 100) : ∃ (k : Nat) (q : List UInt8), sortedB l = lowB (k : Nat) 4 ++ q ∧ 1 ≤ k ∧ k ≤ 100 ∧ 12 ≤ q.length := by
  refine ⟨(widths l).length, _, rfl, ?_, Nat.le_trans (widths_len l) h100, ?_⟩
  · obtain ⟨x, hx⟩ := List.exists_mem_of_ne_nil l hl
    have : (x.d.length : Int) ∈ widths l := widths_mem.2 ⟨x, hx, rfl⟩
    exact List.length_pos_of_mem this
  · obtain ⟨x, hx⟩ := List.exists_mem_of_ne_nil l hl
    have : (x.d.length : Int) ∈ widths l := widths_mem.2 ⟨x, hx, rfl⟩
    cases hw : widths l with
    | nil => rw [hw] at this; cases this
    | cons a W => simp only [List.flatMap_cons, List.length_append, partB, lowB_length]; omega
theorem sortedB_nil : sortedB [] = lowB 0 4 := by simp [sortedB, widths_nil]
theorem codes_mem {l : List En} {a : Int} : a ∈ codes l ↔ ∃ x ∈ l, x.h = a := by
  rw [codes, srt_mem, distI_mem, hcs, List.mem_map]
theorem bodyB_head {l : List En} (hl : l ≠ []) (h100 : l.length ≤ 100) : ∃ (k : Nat) (q : List UInt8), bodyB l 1025 = lowB (k : Nat) 4 ++ q ∧ 1 ≤ k ∧ k ≤ 100 ∧ ∃ (c q1 : List UInt8) (k2 : Nat), q = c ++ (lowB (k2 : Nat) 4 ++ q1) ∧ c.length = 8 ∧ 1 ≤ k2 ∧ k2 ≤ 100 ∧ 12 ≤ q1.length := by
  obtain ⟨x, hx⟩ := List.exists_mem_of_ne_nil l hl
  have hm : x.h ∈ codes l := codes_mem.2 ⟨x, hx, rfl⟩
  refine ⟨(codes l).length, _, by rw [bodyB, if_neg (by decide)], List.length_pos_of_mem hm, Nat.le_trans (codes_len l) h100, ?_⟩
  cases hc : codes l with
  | nil => rw [hc] at hm; cases hm
  | cons a Cs =>
    have ha : a ∈ codes l := by rw [hc]; exact .head _
    obtain ⟨y, hy, hya⟩ := codes_mem.1 ha
    have hne : codedL l a ≠ [] := by
      intro e
      have : y ∈ codedL l a := List.mem_filter.2 ⟨hy, by simp [hya]⟩
      rw [e] at this; cases this
    obtain ⟨k2, q2, e2, h1, h2, h3⟩ := sortedB_head hne (Nat.le_trans (codedL_len l a) h100)
    refine ⟨lowB a 8, q2 ++ Cs.flatMap (codeB l), k2, ?_, lowB_length _ _, h1, h2, by rw [List.length_append]; omega⟩
    simp only [List.flatMap_cons, codeB, e2, List.append_assoc]
theorem cut_of {l : List En} {kind : Int} {m : Nat} (h100 : l.length ≤ 100) (hk : kind = 1024 ∨ kind = 1025) (hm : m < cutN l kind) : cutN l kind ≤ (indexB l kind).length ∧ Cut ((indexB l kind).take m) := by
  have h0 : ∀ (b : UInt8) (t : List UInt8), 128 ≤ b.toNat → m < 2 → Cut ((b :: 8 :: t).take m) := by
    intro b t hb h2
    match m, h2 with
    | 0, _ => exact .none rfl
    | 1, _ => exact .one rfl hb
  by_cases hl : l = []
  · subst hl
    simp only [cutN, if_true] at hm ⊢
    rcases hk with rfl | rfl
    · have e : indexB [] 1024 = 128 :: 8 :: lowB 0 4 := by simp [indexB, kindB, bodyB, sortedB_nil]
      rw [e]
      refine ⟨by simp [lowB_length], ?_⟩
      by_cases h2 : m < 2
      · exact h0 _ _ (by decide) h2
      · refine .s (tl := (lowB 0 4).take (m - 2)) (by rw [show m = (m - 2) + 2 by omega]; rfl) (by simp; omega) (fun h => ?_)
        simp at h; omega
    · have e : indexB [] 1025 = 129 :: 8 :: lowB 0 4 := by simp [indexB, kindB, bodyB, codes_nil]
      rw [e]
      refine ⟨by simp [lowB_length], ?_⟩
      by_cases h2 : m < 2
      · exact h0 _ _ (by decide) h2
      · refine .m (tl := (lowB 0 4).take (m - 2)) (by rw [show m = (m - 2) + 2 by omega]; rfl) (by simp; omega) (fun h => ?_) (fun h => ?_)
        · simp at h; omega
        · simp at h; omega
  · rcases hk with rfl | rfl
    · obtain ⟨k, q, e, h1, h2, h3⟩ := sortedB_head hl h100
      have e' : indexB l 1024 = [128, 8] ++ (lowB (k : Nat) 4 ++ q) := by rw [indexB, kindB, if_pos rfl, bodyB, if_pos rfl, e]
      simp only [cutN, if_neg hl, if_neg (show ¬ (1024 : Int) = 1025 by decide)] at hm ⊢
      have hn := num_at (p := [128, 8]) (q := q) (k := k) (by omega)
      rw [e']
      refine ⟨by simp [lowB_length]; omega, ?_⟩
      by_cases h4 : m < 2
      · exact h0 _ _ (by decide) h4
      · refine .s (tl := (lowB (k : Nat) 4 ++ q).take (m - 2)) (by rw [show m = (m - 2) + 2 by omega]; rfl) (by simp; omega) (fun h => ?_)
        have hm6 : 6 ≤ m := by simp at h; omega
        rw [num_take (by omega), show (2 : Nat) = ([128, 8] : List UInt8).length from rfl, hn]
        omega
    · obtain ⟨k, q, e, h1, h2, c, q1, k2, e2, hc8, h5, h6, h7⟩ := bodyB_head hl h100
      have e' : indexB l 1025 = [129, 8] ++ (lowB (k : Nat) 4 ++ q) := by rw [indexB, kindB, if_neg (by decide), e]
      simp only [cutN, if_neg hl, if_true] at hm ⊢
      have hn := num_at (p := [129, 8]) (q := q) (k := k) (by omega)
      have hn2 := num_at (p := [129, 8] ++ (lowB (k : Nat) 4 ++ c)) (q := q1) (k := k2) (by omega)
      have e3 : ([129, 8] ++ (lowB (k : Nat) 4 ++ c)) ++ (lowB (k2 : Nat) 4 ++ q1) = [129, 8] ++ (lowB (k : Nat) 4 ++ q) := by rw [e2]; simp
      have e4 : ([129, 8] ++ (lowB (k : Nat) 4 ++ c) : List UInt8).length = 14 := by simp [lowB_length, hc8]
      rw [e3, e4] at hn2
      rw [e']
      refine ⟨by rw [e2]; simp [lowB_length, hc8]; omega, ?_⟩
      by_cases h4 : m < 2
      · exact h0 _ _ (by decide) h4
      · refine .m (tl := (lowB (k : Nat) 4 ++ q).take (m - 2)) (by rw [show m = (m - 2) + 2 by omega]; rfl) (by simp; omega) (fun h => ?_) (fun h => ?_)
        · have hm6 : 6 ≤ m := by simp at h; omega
          rw [num_take (by omega), show (2 : Nat) = ([129, 8] : List UInt8).length from rfl, hn]
          omega
        · have hm18 : 18 ≤ m := by simp at h; omega
          rw [num_take (by omega), hn2]
          omega
end Go.Proofs
namespace Go.Proofs
open Go Go.Sl
set_option maxRecDepth 100000
set_option maxHeartbeats 1000000
theorem e_min6 {x : Cx} {s : Slots} {H : HP} {d : Nat} {p : Operand} {ty : TypeId} {pos : String} {af : Array Edge} {gd' : Option (Nat × Bool)} {ats : Array TypeId} {n : Nat} (hp : ev s p = some (.int .i64 n)) :
    Ex x s H ⟨some d, .call { callee := .builtin .min, args := #[p, .const (.int .i64 6)], argTypes := ats }, ty, pos, af, gd'⟩ (.int .i64 (min n 6 : Nat)) := fun a w hs => by
  have h1 : (if (6 : Int) < (n : Nat) then (6 : Int) else (n : Nat)) = ((min n 6 : Nat) : Int) := by split <;> omega
  have h2 : a.eval (.const (.int .i64 6)) = .int .i64 6 := rfl
  simp [execOp, resolve, invoke, builtin, hs.eval hp, h2, Builtin.min_, Builtin.min2, h1]
theorem EnS.shape {H : HP} {v : Value} {l : List En} (h : EnS H v l) : ∃ A cap, v = .slice A l.length cap := by
  cases h with
  | none => exact ⟨_, _, rfl⟩
  | blk hm hn hc => subst hn; exact ⟨_, _, rfl⟩
theorem cut_law {G : HP} {v : Value} {l : List En} {kind : Int} {cut : Nat} {gE gU : Addr} (h : EnS G v l) (hl : l.length < 9223372036854775808) (hge : Ge G gE gU) (hone : ∀ k, k = 1024 ∨ k = 1025 → CtrP Tryz.prog 17 [.int .u64 k] G (.bool true)) (hc : cut < 65536) :
    Ctr Tryz.prog 4 [v, .int .u64 kind, .int .u16 cut] G [] (fun r _ => r = .bool true) := by
  obtain ⟨A, cap, rfl⟩ := h.shape
  refine fn_enter 47 Tryz.func4 rfl Tryz.ntmps4 rfl ?_
  intro w0
  refine c_seq ?_
  refine c_region ?_
  refine o_e rfl rfl rfl (e_assign rfl) ?_
  refine o_nil ?_
  refine n_code ?_
  refine c_seq ?_
  refine c_seq ?_
  refine c_region ?_
  refine o_e rfl rfl rfl (e_move rfl) ?_
  refine o_l rfl (l_call Tryz.call9 (fits7 h hl) rfl rfl .nil) ?_
  rintro ⟨r, H'⟩ ⟨b, rfl⟩
  refine o_less (fun _ _ h => h) (List.nil_sublist _) ?_
  refine o_e rfl rfl rfl (e_not rfl) ?_
  refine o_nil ?_
  refine n_code ?_
  refine c_if rfl (fun h1 => ?_) (fun h1 => ?_)
  · refine c_seq ?_
    refine c_region ?_
    refine o_e rfl rfl rfl (e_assign rfl) ?_
    refine o_nil ?_
    refine n_code ?_
    refine c_ret ?_
    refine r_fn1 Tryz.results4 rfl ?_
    rfl
  · skip
    refine c_skip ?_
    refine n_code ?_
    refine c_seq ?_
    refine c_seq ?_
    refine c_region ?_
    refine o_e rfl rfl rfl (e_move rfl) ?_
    refine o_e rfl rfl rfl (e_move rfl) ?_
    refine o_l rfl (l_call Tryz.call11 (good_is h hl) rfl rfl .nil) ?_
    rintro ⟨r, H'⟩ ⟨b, rfl, hb⟩
    refine o_less (fun _ _ h => h) (List.nil_sublist _) ?_
    refine o_e rfl rfl rfl (e_not rfl) ?_
    refine o_nil ?_
    refine n_code ?_
    refine c_if rfl (fun h2 => ?_) (fun h2 => ?_)
    · refine c_seq ?_
      refine c_region ?_
      refine o_e rfl rfl rfl (e_assign rfl) ?_
      refine o_nil ?_
      refine n_code ?_
      refine c_ret ?_
      refine r_fn1 Tryz.results4 rfl ?_
      rfl
    · skip
      obtain ⟨h100, hk, hx⟩ := hb (by simpa using h2)
      have hd : ∀ x ∈ l, x.d.length ≤ 200 := fun x hm => (hx x hm).1
      refine c_skip ?_
      refine n_code ?_
      refine c_seq ?_
      refine c_region ?_
      refine o_e rfl rfl rfl (e_move rfl) ?_
      refine o_e rfl rfl rfl (e_move rfl) ?_
      refine o_l rfl (l_call Tryz.call15 (indexBytes_is h h100 hd hk) rfl rfl .nil) ?_
      rintro ⟨r, H'⟩ ⟨rfl, rfl⟩
      simp only [List.nil_append]
      refine o_e rfl rfl rfl (e_assign rfl) ?_
      refine o_nil ?_
      refine n_code ?_
      refine c_seq ?_
      refine c_region ?_
      refine o_e rfl rfl rfl (e_move rfl) ?_
      refine o_e rfl rfl rfl (e_lens Tryz.runUnderlying9 rfl) ?_
      refine o_e rfl rfl rfl (e_min6 rfl) ?_
      refine o_e rfl rfl rfl (e_assign rfl) ?_
      refine o_nil ?_
      refine n_code ?_
      refine c_seq ?_
      refine c_seq ?_
      refine c_region ?_
      refine o_e rfl rfl rfl (e_move rfl) ?_
      first | refine o_e rfl rfl rfl (e_lenl Tryz.runUnderlying22 rfl) ?_ | refine o_e rfl rfl rfl (e_lenO Tryz.runUnderlying22 (by assumption) rfl) ?_
      refine o_e rfl rfl rfl (e_gtr rfl rfl) ?_
      refine o_nil ?_
      refine n_code ?_
      refine c_cut (X := Unit) (fun _ => [(1, .int .u64 kind), (2, .int .u16 cut), (7, S (indexB l kind)), (8, .int .i64 (cutN l kind))]) (fun _ => []) (fun _ => True) ?_ ?_
      · skip
        refine c_ifp rfl (fun h3 => ?_) (fun h3 => ?_)
        · have hne : l ≠ [] := by intro e; subst e; simp at h3
          refine c_seq ?_
          refine c_region ?_
          refine o_e rfl rfl rfl (e_assign rfl) ?_
          refine o_nil ?_
          refine n_code ?_
          refine c_seq ?_
          refine c_region ?_
          refine o_e rfl rfl rfl (e_move rfl) ?_
          refine o_e rfl rfl rfl (e_eql rfl rfl) ?_
          refine o_nil ?_
          refine n_code ?_
          refine c_ifp rfl (fun h4 => ?_) (fun h4 => ?_)
          · refine c_region ?_
            refine o_e rfl rfl rfl (e_assign rfl) ?_
            refine o_nil ?_
            exact n_cut () trivial (sub_cons rfl (sub_cons rfl (sub_cons rfl (sub_cons (by rw [cutN, if_neg hne, if_pos h4]; rfl) sub_nil)))) (.refl _)
          · skip
            refine c_skip ?_
            exact n_cut () trivial (sub_cons rfl (sub_cons rfl (sub_cons rfl (sub_cons (by rw [cutN, if_neg hne, if_neg h4]; rfl) sub_nil)))) (.refl _)
        · skip
          have he : l = [] := List.length_eq_zero_iff.1 (by omega)
          have h6 : 6 ≤ (indexB l kind).length := by
            have := (cut_of (l := l) (m := 0) h100 hk (by rw [cutN, if_pos he]; decide)).1
            rw [cutN, if_pos he] at this
            exact this
          refine c_skip ?_
          exact n_cut () trivial (sub_cons rfl (sub_cons rfl (sub_cons rfl (sub_cons (by rw [cutN, if_pos he]; exact congrArg (fun z : Nat => some (Value.int .i64 z)) (Nat.min_eq_right h6)) sub_nil)))) (.refl _)
      · rintro ⟨⟩ -
        refine n_code ?_
        have hN : 0 < cutN l kind ∧ cutN l kind ≤ 30 := by unfold cutN; split <;> (try split) <;> omega
        obtain ⟨hlen, -⟩ := cut_of (l := l) (kind := kind) (m := 0) h100 hk hN.1
        have hmod : (cut : Int) % (cutN l kind : Nat) < (cutN l kind : Nat) := Int.emod_lt_of_pos _ (by omega)
        have hmod0 : 0 ≤ (cut : Int) % (cutN l kind : Nat) := Int.emod_nonneg _ (by omega)
        have hcut := (cut_of (l := l) (kind := kind) (m := ((cut : Int) % (cutN l kind : Nat)).toNat) h100 hk (by omega)).2
        refine c_seq ?_
        refine c_region ?_
        refine o_e rfl rfl rfl (e_move rfl) ?_
        refine o_e rfl rfl rfl (e_move rfl) ?_
        first | refine o_e rfl rfl rfl (e_convn Tryz.runUnderlying37 Tryz.runUnderlying3 rfl (by simp only [inR]; omega)) ?_ | refine o_e rfl rfl rfl (e_conv Tryz.runUnderlying37 Tryz.runUnderlying3 rfl) ?_
        refine o_e rfl rfl rfl (e_move rfl) ?_
        first | refine o_e rfl rfl rfl (e_remn rfl rfl (by omega) (by omega)) ?_ | refine o_e rfl rfl rfl (e_rem rfl rfl (by omega)) ?_
        refine o_e rfl rfl rfl (e_ss_h Tryz.runUnderlying9 rfl rfl hmod0 (by omega)) ?_
        refine o_l rfl (l_call Tryz.call18 (again_err hge hcut) rfl rfl .nil) ?_
        rintro ⟨r, H'⟩ rfl
        refine o_less (fun _ _ h => h) (List.nil_sublist _) ?_
        refine o_e rfl rfl rfl (e_move rfl) ?_
        refine o_e rfl rfl rfl (e_extract rfl rfl) ?_
        refine o_e rfl rfl rfl (e_extract rfl rfl) ?_
        refine o_e rfl rfl rfl (e_extract rfl rfl) ?_
        refine o_e rfl rfl rfl (e_assign rfl) ?_
        refine o_e rfl rfl rfl (e_assign rfl) ?_
        refine o_e rfl rfl rfl (e_assign rfl) ?_
        refine o_nil ?_
        refine n_code ?_
        refine c_seq ?_
        refine c_region ?_
        refine o_e rfl rfl rfl (e_move rfl) ?_
        refine o_e rfl rfl rfl (e_not rfl) ?_
        refine o_e rfl rfl rfl (e_move rfl) ?_
        refine o_split 43 rfl (fun h5 => ?_) (fun h5 => ?_)
        · refine o_e rfl rfl rfl (e_move rfl) ?_
          refine o_l rfl (l_call Tryz.call17 (hone kind hk) rfl rfl .nil) ?_
          rintro ⟨r, H'⟩ ⟨rfl, rfl⟩
          simp only [List.nil_append]
          refine o_e rfl rfl rfl (e_pick_t rfl rfl) ?_
          refine o_e rfl rfl rfl (e_assign rfl) ?_
          refine o_nil ?_
          refine n_code ?_
          refine c_ret ?_
          refine r_fn1 Tryz.results4 rfl ?_
          rfl
        · cases h5
end Go.Proofs

/- The guards on sizes: they answer something; The statements' own guard: what it lets in; What entries these statements speak of; spec.Once answers something; laws.FnIxRead holds, in memory's terms. (A part of the proof of this: for every input laws.FnIxRead returns true and its arguments read as they did, the listed package variables being what the program lays.) -/
import Derived.Test.YtochgglejmfelaaGreatDoorG02
import Derived.Test.YtochgglejmfelaaGreatDoorG05
import Derived.Test.YtochgglejmfelaaGreatDoorG12
import Derived.Test.YtochgglejmfelaaGreatDoorG03
namespace Go.Proofs
open Go Go.Sl Tryz
set_option maxRecDepth 100000

theorem fits1 {G : HP} (x : En) : Ctr Tryz.prog 10 [.agg (cC x).toArray] G [] (fun r _ => ∃ b, r = .bool b) := by
  obtain ⟨v, c, h, d, o⟩ := x
  simp only [cC]
  refine fn_enter 7 func10 rfl ntmps10 rfl ?_
  intro w0
  refine cR ?_
  refine o_l rfl (l_box rfl rfl rfl) ?_; intro g1 _
  refine oA rfl <| oN <| c_seq <| cR <| oX (e_fa runUnderlying25 rfl sizeOf9 rfl rfl) <| oX (e_load isAgg9 rfl (.inl M0) rfl) <| oX (e_lens runUnderlying9 rfl) <| oX (e_gtr rfl rfl) <| oN ?_
  refine c_ifp rfl (fun h => ?_) (fun h => ?_)
  · refine cR <| oA rfl <| oN <| c_ret ?_
    refine r_fn1 results10 rfl ?_
    exact ⟨_, rfl⟩
  · skip
    refine c_skip <| n_code <| cR <| oA rfl <| oN <| c_ret ?_
    refine r_fn1 results10 rfl ?_
    exact ⟨_, rfl⟩
theorem fits8 {G : HP} (x : En) : Ctr Tryz.prog 33 [.agg (cE x).toArray] G [] (fun r _ => ∃ b, r = .bool b) := by
  have h1 := fits1 (G := G) x
  obtain ⟨v, c, h, d, o⟩ := x
  simp only [cE, cC] at h1 ⊢
  refine fn_enter 7 func33 rfl ntmps33 rfl ?_
  intro w0
  refine cR ?_
  refine o_l rfl (l_box rfl rfl rfl) ?_; intro g1 _
  refine oA rfl <| oN <| c_seq <| cR <| oX (e_fa runUnderlying56 rfl sizeOf25 rfl rfl) ?_
  refine oX (e_loada isAgg25 sizeOf25 rfl (.inl M0) (by first | assumption | repeat constructor)) ?_
  refine o_l rfl (l_call call10 (h1) rfl rfl .nil) ?_
  rintro ⟨r, H'⟩ ⟨b, rfl⟩
  refine oX (e_not rfl) <| oN ?_
  refine c_if rfl (fun hb => ?_) (fun hb => ?_)
  · refine cR <| oA rfl <| oN <| c_ret ?_
    refine r_fn1 results33 rfl ?_
    exact ⟨_, rfl⟩
  · skip
    refine c_skip <| n_code <| cR <| oA rfl <| oN <| c_ret ?_
    refine r_fn1 results33 rfl ?_
    exact ⟨_, rfl⟩
theorem fits7 {G : HP} {v : Value} {l : List En} (h : EnS G v l) (hl : l.length < 9223372036854775808) : Ctr Tryz.prog 9 [v] G [] (fun r _ => ∃ b, r = .bool b) := by
  cases h with
  | none =>
    refine fn_enter 18 func9 rfl ntmps9 rfl ?_
    intro w0
    refine cR <| oA rfl <| oN <| c_seq <| cR <| oM rfl <| oX (e_lenl runUnderlying22 rfl) <| oX (e_gtr rfl rfl) <| oN <| cL rfl <| c_seq <| cR <| oM rfl <| oX (e_lenl runUnderlying22 rfl) <| oM rfl <| oN <| c_block ?_
    refine c_rounds 1 ?_
    refine cR <| oX (e_lss rfl rfl) <| oN <| c_seq <| c_else rfl ?_
    refine c_exit ?_; refine x_code ?_; refine x_upto ?_; refine x_here ?_
    refine n_code <| cR <| oA rfl <| oN <| c_ret ?_
    refine r_fn1 results9 rfl ?_
    exact ⟨_, rfl⟩
  | @blk l L g off n cap e fr hm hn hc =>
    refine fn_enter 18 func9 rfl ntmps9 rfl ?_
    intro w0
    refine cR <| oA rfl <| oN <| c_seq <| cR <| oM rfl <| oX (e_lenl runUnderlying22 rfl) <| oX (e_gtr rfl rfl) <| oN ?_
    refine c_ifp rfl (fun h1 => ?_) (fun h1 => ?_)
    · refine cR <| oA rfl <| oN <| c_ret ?_
      refine r_fn1 results9 rfl ?_
      exact ⟨_, rfl⟩
    · skip
      refine c_skip <| n_code <| c_seq <| cR <| oM rfl <| oX (e_lenl runUnderlying22 rfl) <| oM rfl <| oN <| c_block ?_
      refine c_loop (X := Nat) (fun i => [(8, .slice (some ⟨g, off, none⟩) n cap), (9, .int .i64 n), (10, .int .i64 i)]) (fun _ => []) (fun i => i ≤ n) (fun i => n - i) 0 (Nat.zero_le _) (sub_cons rfl (sub_cons rfl (sub_cons rfl sub_nil))) (.refl _) ?_
      intro i hi
      refine cR <| oX (e_lss rfl rfl) <| oN <| c_seq ?_
      refine c_ifp rfl (fun h2 => ?_) (fun h2 => ?_)
      · have hi2 : i < l.length := by omega
        have hci := hc i hi2
        generalize l[i] = x at hci
        have h8 := fits8 (G := G) x
        obtain ⟨xv, xc, xh, xd, xo⟩ := x
        simp only [cE] at hci h8
        refine c_skip <| n_code <| c_seq <| c_block <| cR <| oX (e_ian runUnderlying22 sizeOf56 rfl rfl (by omega)) <| oX (e_loada isAgg56 sizeOf56 rfl (.inr hm) hci) ?_
        refine o_l rfl (l_alloc zeroValue56 rfl rfl) ?_; intro g4 _
        refine o_l rfl (l_storea sizeOf56 rfl rfl rfl (by simp [Value.oneCell']) .head (.take (.take (.take (.take (.take .done))))) nofrs0) ?_
        intro _ _
        refine oN <| cR ?_
        refine oX (e_loada isAgg56 sizeOf56 rfl (.inl M0) (by first | assumption | repeat constructor)) ?_
        refine o_l rfl (l_call call33 (h8) rfl rfl .nil) ?_
        rintro ⟨r, H'⟩ ⟨b, rfl⟩
        refine oX (e_not rfl) <| oN ?_
        refine c_if rfl (fun hb => ?_) (fun hb => ?_)
        · refine cR <| oA rfl <| oN <| c_ret ?_
          refine r_fn1 results9 rfl ?_
          exact ⟨_, rfl⟩
        · skip
          refine c_skip <| n_block <| n_code <| c_region <| oX (e_addn rfl rfl (by simp only [inR]; omega)) <| oM rfl <| o_nil ?_
          refine n_round' (i + 1) (by omega) (by omega) (sub_cons rfl (sub_cons rfl (sub_cons rfl sub_nil))) _ (.refl _) (List.nil_sublist _)
      · skip
        refine c_exit ?_; refine x_code ?_; refine x_upto ?_; refine x_here ?_
        refine n_code <| cR <| oA rfl <| oN <| c_ret ?_
        refine r_fn1 results9 rfl ?_
        exact ⟨_, rfl⟩
end Go.Proofs
namespace Go.Proofs
open Go Go.Sl Tryz
set_option maxRecDepth 100000

def Tidy (x : En) : Prop := (x.v = 0 ∧ x.c = 112 ∧ x.h = 18 ∧ x.d.length = 32) ∨ (x.v = 1 ∧ x.c < 9223372036854775808 ∧ x.h < 9223372036854775808)
instance (x : En) : Decidable (Tidy x) := by unfold Tidy; infer_instance
theorem tidy_is {G : HP} (x : En) : Ctr Tryz.prog 12 [.agg (cC x).toArray] G [] (fun r _ => r = .bool (decide (Tidy x))) := by
  obtain ⟨v, c, h, d, o⟩ := x
  simp only [cC]
  refine fn_enter 33 func12 rfl ntmps12 rfl ?_
  intro w0
  refine cR ?_
  refine o_l rfl (l_box rfl rfl rfl) ?_; intro g1 _
  refine oA rfl <| oN <| c_seq <| cR <| oX (e_fa runUnderlying25 rfl sizeOf23 rfl rfl) <| oX (e_load isAgg23 rfl (.inl M0) rfl) <| oX (e_eql rfl rfl) <| oN ?_
  refine c_ifp rfl (fun h1 => ?_) (fun h1 => ?_)
  · refine cR <| oX (e_fa runUnderlying25 rfl sizeOf23 rfl rfl) <| oX (e_load isAgg23 rfl (.inl M0) rfl) <| oX (e_eql rfl rfl) <| oM rfl ?_
    refine o_splitp 9 rfl (fun h2 => ?_) (fun h2 => ?_)
    · refine oX (e_fa runUnderlying25 rfl sizeOf23 rfl rfl) <| oX (e_load isAgg23 rfl (.inl M0) rfl) <| oX (e_eql rfl rfl) <| oX (e_pick_t rfl rfl) <| oM rfl ?_
      refine o_splitp 14 rfl (fun h3 => ?_) (fun h3 => ?_)
      · refine oX (e_fa runUnderlying25 rfl sizeOf9 rfl rfl) <| oX (e_load isAgg9 rfl (.inl M0) rfl) <| oX (e_lens runUnderlying9 rfl) <| oX (e_eql rfl rfl) <| oX (e_pick_t rfl rfl) <| oA rfl <| oN <| c_ret ?_
        refine r_fn1 results12 rfl ?_
        refine congrArg Value.bool ?_
        have : ((d.length : Int) = 32) ↔ d.length = 32 := by omega
        simp [Tidy, h1, h2, h3, this]
      · skip
        refine oS <| oS <| oS <| oS <| oX (e_pick_f rfl rfl) <| oA rfl <| oN <| c_ret ?_
        refine r_fn1 results12 rfl ?_
        simp [Tidy, h1, h2, h3]
    · skip
      refine oS <| oS <| oS <| oX (e_pick_f rfl rfl) <| oM rfl <| oS <| oS <| oS <| oS <| oX (e_pick_f rfl rfl) <| oA rfl <| oN <| c_ret ?_
      refine r_fn1 results12 rfl ?_
      simp [Tidy, h1, h2]
  · skip
    refine c_skip <| n_code <| cR <| oX (e_fa runUnderlying25 rfl sizeOf23 rfl rfl) <| oX (e_load isAgg23 rfl (.inl M0) rfl) <| oX (e_eql rfl rfl) <| oM rfl ?_
    refine o_splitp 23 rfl (fun h2 => ?_) (fun h2 => ?_)
    · refine oX (e_fa runUnderlying25 rfl sizeOf23 rfl rfl) <| oX (e_load isAgg23 rfl (.inl M0) rfl) <| oX (e_lss rfl rfl) <| oX (e_pick_t rfl rfl) <| oM rfl ?_
      refine o_splitp 28 rfl (fun h3 => ?_) (fun h3 => ?_)
      · refine oX (e_fa runUnderlying25 rfl sizeOf23 rfl rfl) <| oX (e_load isAgg23 rfl (.inl M0) rfl) <| oX (e_lss rfl rfl) <| oX (e_pick_t rfl rfl) <| oA rfl <| oN <| c_ret ?_
        refine r_fn1 results12 rfl ?_
        refine congrArg Value.bool ?_
        simp [Tidy, h2, h3]
      · skip
        refine oS <| oS <| oS <| oX (e_pick_f rfl rfl) <| oA rfl <| oN <| c_ret ?_
        refine r_fn1 results12 rfl ?_
        simp [Tidy, h1, h3]
    · skip
      refine oS <| oS <| oS <| oX (e_pick_f rfl rfl) <| oM rfl <| oS <| oS <| oS <| oX (e_pick_f rfl rfl) <| oA rfl <| oN <| c_ret ?_
      refine r_fn1 results12 rfl ?_
      simp [Tidy, h1, h2]
end Go.Proofs
namespace Go.Proofs
open Go Go.Sl Tryz
set_option maxRecDepth 100000

def Good (l : List En) (kind : Int) : Prop := l.length ≤ 100 ∧ (kind = 1024 ∨ kind = 1025) ∧ ∀ x ∈ l, x.d.length ≤ 200 ∧ Tidy x
theorem good_is {G : HP} {v : Value} {l : List En} {kind : Int} (h : EnS G v l) (hl : l.length < 9223372036854775808) : Ctr Tryz.prog 11 [v, .int .u64 kind] G [] (fun r _ => ∃ b, r = .bool b ∧ (b = true → Good l kind)) := by
  have hv : ∃ A n cap, v = .slice A n cap ∧ l.length = n := by
    cases h with
    | none => exact ⟨_, _, _, rfl, rfl⟩
    | blk hm hn hc => exact ⟨_, _, _, rfl, hn⟩
  obtain ⟨A, n, cap, rfl, hn0⟩ := hv
  refine fn_enter 36 func11 rfl ntmps11 rfl ?_
  intro w0
  refine cR <| oA rfl <| oN <| c_seq ?_
  refine c_cut (X := Unit) (fun _ => [(0, .slice A n cap)]) (fun _ => []) (fun _ => l.length ≤ 100 ∧ (kind = 1024 ∨ kind = 1025)) ?_ ?_
  · skip
    refine cR <| oM rfl <| oX (e_lenl runUnderlying22 rfl) <| oX (e_gtr rfl rfl) <| oM rfl ?_
    refine o_splitp 10 rfl (fun h1 => ?_) (fun h1 => ?_)
    · refine oS <| oS <| oS <| oS <| oS <| oS <| oX (e_pick_t rfl rfl) <| oN <| c_then rfl <| cR <| oA rfl <| oN <| c_ret ?_
      refine r_fn1 results11 rfl ?_
      exact ⟨_, rfl, by simp⟩
    · skip
      refine oM rfl <| oX (e_neq rfl rfl) <| oM rfl ?_
      refine o_splitp 13 rfl (fun h2 => ?_) (fun h2 => ?_)
      · refine oM rfl <| oX (e_neq rfl rfl) <| oX (e_pick_t rfl rfl) <| oX (e_pick_f rfl rfl) <| oN ?_
        refine c_ifp rfl (fun h3 => ?_) (fun h3 => ?_)
        · refine cR <| oA rfl <| oN <| c_ret ?_
          refine r_fn1 results11 rfl ?_
          exact ⟨_, rfl, by simp⟩
        · skip
          refine c_skip ?_
          exact n_cut () ⟨by omega, by omega⟩ (sub_cons rfl sub_nil) (.refl _)
      · skip
        refine oS <| oS <| oX (e_pick_f rfl rfl) <| oX (e_pick_f rfl rfl) <| oN <| c_else rfl <| c_skip ?_
        exact n_cut () ⟨by omega, by omega⟩ (sub_cons rfl sub_nil) (.refl _)
  · rintro ⟨⟩ ⟨hl1, hk⟩
    refine n_code <| c_seq <| cR <| oM rfl <| oX (e_lenl runUnderlying22 rfl) <| oM rfl <| oN <| c_block ?_
    cases h with
    | none =>
      refine c_rounds 1 ?_
      refine cR <| oX (e_lss rfl rfl) <| oN <| c_seq <| c_else rfl ?_
      refine c_exit ?_; refine x_code ?_; refine x_upto ?_; refine x_here ?_
      refine n_code <| cR <| oA rfl <| oN <| c_ret ?_
      refine r_fn1 results11 rfl ?_
      exact ⟨_, rfl, fun _ => ⟨by simp, by omega, by simp⟩⟩
    | @blk l L g off n cap e fr hm hn hc =>
      refine c_loop (X := Nat) (fun i => [(18, .slice (some ⟨g, off, none⟩) n cap), (19, .int .i64 n), (20, .int .i64 i)]) (fun _ => []) (fun i => i ≤ n ∧ ∀ j (h : j < l.length), j < i → l[j].d.length ≤ 200 ∧ Tidy l[j]) (fun i => n - i) 0 ⟨Nat.zero_le _, fun _ _ h => absurd h (Nat.not_lt_zero _)⟩ (sub_cons rfl (sub_cons rfl (sub_cons rfl sub_nil))) (.refl _) ?_
      rintro i ⟨hi, hok⟩
      refine cR <| oX (e_lss rfl rfl) <| oN <| c_seq ?_
      refine c_ifp rfl (fun h2 => ?_) (fun h2 => ?_)
      · have hi2 : i < l.length := by omega
        have hci := hc i hi2
        have hnext : ∀ x, l[i] = x → x.d.length ≤ 200 → Tidy x → ∀ j (h : j < l.length), j < i + 1 → l[j].d.length ≤ 200 ∧ Tidy l[j] := by
          intro x hx a1 a2 j hj hji
          by_cases e : j = i
          · subst e; rw [hx]; exact ⟨a1, a2⟩
          · exact hok j hj (by omega)
        generalize l[i] = x at hci hnext
        have ht := tidy_is (G := G) x
        have hnext := hnext x rfl
        obtain ⟨xv, xc, xh, xd, xo⟩ := x
        simp only [cE, cC] at hci ht hnext
        refine c_skip <| n_code <| c_seq <| c_block <| cR <| oX (e_ian runUnderlying22 sizeOf56 rfl rfl (by omega)) <| oX (e_loada isAgg56 sizeOf56 rfl (.inr hm) hci) ?_
        refine o_l rfl (l_alloc zeroValue56 rfl rfl) ?_; intro g6 _
        refine o_l rfl (l_storea sizeOf56 rfl rfl rfl (by simp [Value.oneCell']) .head (.take (.take (.take (.take (.take .done))))) nofrs0) ?_
        intro _ _
        refine oN <| cR <| oX (e_fa runUnderlying56 rfl sizeOf25 rfl rfl) <| oX (e_fa runUnderlying25 rfl sizeOf9 rfl rfl) <| oX (e_load isAgg9 rfl (.inl M0) rfl) <| oX (e_lens runUnderlying9 rfl) <| oX (e_gtr rfl rfl) <| oM rfl ?_
        refine o_splitp 29 rfl (fun h3 => ?_) (fun h3 => ?_)
        · refine oS <| oS <| oS <| oS <| oX (e_pick_t rfl rfl) <| oN <| c_then rfl <| cR <| oA rfl <| oN <| c_ret ?_
          refine r_fn1 results11 rfl ?_
          exact ⟨_, rfl, by simp⟩
        · skip
          refine oX (e_fa runUnderlying56 rfl sizeOf25 rfl rfl) ?_
          refine oX (e_loada isAgg25 sizeOf25 rfl (.inl M0) (by first | assumption | repeat constructor)) ?_
          refine o_l rfl (l_call call12 (ht) rfl rfl .nil) ?_
          rintro ⟨r, H'⟩ rfl
          refine oX (e_not rfl) <| oX (e_pick_f rfl rfl) <| oN ?_
          refine c_if rfl (fun h4 => ?_) (fun h4 => ?_)
          · refine cR <| oA rfl <| oN <| c_ret ?_
            refine r_fn1 results11 rfl ?_
            exact ⟨_, rfl, by simp⟩
          · skip
            refine c_skip <| n_block <| n_code <| c_region <| oX (e_addn rfl rfl (by simp only [inR]; omega)) <| oM rfl <| o_nil ?_
            refine n_round' (i + 1) (by omega) ⟨by omega, hnext (by omega) (by simpa using h4)⟩ (sub_cons rfl (sub_cons rfl (sub_cons rfl sub_nil))) _ (.refl _) (List.nil_sublist _)
      · skip
        refine c_exit ?_; refine x_code ?_; refine x_upto ?_; refine x_here ?_
        refine n_code <| cR <| oA rfl <| oN <| c_ret ?_
        refine r_fn1 results11 rfl ?_
        refine ⟨_, rfl, fun _ => ⟨hl1, hk, fun x hx => ?_⟩⟩
        obtain ⟨j, hj, rfl⟩ := List.getElem_of_mem hx
        exact hok j hj (by omega)
end Go.Proofs
namespace Go.Proofs
open Go Go.Sl Tryz
set_option maxRecDepth 100000
set_option maxHeartbeats 1000000
theorem once_is {G : HP} {v : Value} {l : List En} {kind : Int} (h : EnS G v l) (hl : l.length < 9223372036854775808) (hcap : ∀ A n cap, v = .slice A n cap → n ≤ cap) : Ctr Tryz.prog 19 [v, .int .u64 kind] G [] (fun r _ => ∃ b, r = .bool b) := by
  cases h with
  | @none A cap =>
    refine fn_enter 46 func19 rfl ntmps19 rfl ?_
    intro w0
    refine cR <| oA rfl <| oN <| c_seq <| cR <| oM rfl <| oX (e_lenl runUnderlying22 rfl) <| oM rfl <| oN <| c_block ?_
    refine c_rounds 1 ?_
    refine cR <| oX (e_lss rfl rfl) <| oN <| c_seq <| c_else rfl ?_
    refine c_exit ?_; refine x_code ?_; refine x_upto ?_; refine x_here ?_
    refine n_code <| cR <| oA rfl <| oN <| c_ret ?_
    refine r_fn1 results19 rfl ?_
    exact ⟨_, rfl⟩
  | @blk l L g off n cap e fr hm hn hc =>
    have hcap := hcap _ _ _ rfl
    refine fn_enter 46 func19 rfl ntmps19 rfl ?_
    intro w0
    refine cR <| oA rfl <| oN <| c_seq <| cR <| oM rfl <| oX (e_lenl runUnderlying22 rfl) <| oM rfl <| oN <| c_block ?_
    refine c_loop (X := Nat) (fun i => [(0, .slice (some ⟨g, off, none⟩) n cap), (1, .int .u64 kind), (9, .slice (some ⟨g, off, none⟩) n cap), (10, .int .i64 n), (11, .int .i64 i)]) (fun _ => []) (fun i => i ≤ n) (fun i => n - i) 0 (Nat.zero_le _) (sub_cons rfl (sub_cons rfl (sub_cons rfl (sub_cons rfl (sub_cons rfl sub_nil))))) (.refl _) ?_
    intro i hi
    refine cR <| oX (e_lss rfl rfl) <| oN <| c_seq ?_
    refine c_ifp rfl (fun h2 => ?_) (fun h2 => ?_)
    · have hi2 : i < l.length := by omega
      have hci := hc i hi2
      generalize l[i] = x at hci
      obtain ⟨xv, xc, xh, xd, xo⟩ := x
      simp only [cE] at hci
      refine c_skip <| n_code <| c_seq <| c_block <| cR <| oM rfl <| oX (e_ian runUnderlying22 sizeOf56 rfl rfl (by omega)) ?_
      refine oX (e_loada isAgg56 sizeOf56 rfl (.inr (by assumption)) (by first | assumption | repeat constructor)) ?_
      refine o_l rfl (l_alloc zeroValue56 rfl rfl) ?_; intro g6 _
      refine oA rfl ?_
      refine o_l rfl (l_storea sizeOf56 rfl rfl rfl (by simp [Value.oneCell']) .head (.take (.take (.take (.take (.take .done))))) nofrs0) ?_
      intro _ _
      refine oN <| cR <| oM rfl <| oM rfl <| oX (e_sl_h runUnderlying22 sizeOf56 rfl rfl (by omega) (by omega)) <| oX (e_lenl runUnderlying22 rfl) <| oM rfl <| oN <| c_block ?_
      refine c_loop (X := Nat) (fun j => [(0, .slice (some ⟨g, off, none⟩) n cap), (1, .int .u64 kind), (9, .slice (some ⟨g, off, none⟩) n cap), (10, .int .i64 n), (11, .int .i64 i), (6, .pointer (some ⟨g6, 0, none⟩)), (18, .slice (some ⟨g, off, none⟩) i cap), (19, .int .i64 i), (20, .int .i64 j)]) (fun _ => [(g6, C [.int .u64 xv, .int .u64 xc, .int .u64 xh, S xd, .int .u64 xo] 56)]) (fun j => j ≤ i) (fun j => i - j) 0 (Nat.zero_le _) (sub_cons rfl (sub_cons rfl (sub_cons rfl (sub_cons rfl (sub_cons rfl (sub_cons rfl (sub_cons rfl (sub_cons rfl (sub_cons rfl sub_nil))))))))) (.refl _) ?_
      intro j hj
      refine cR <| oX (e_lss rfl rfl) <| oN <| c_seq ?_
      refine c_ifp rfl (fun h3 => ?_) (fun h3 => ?_)
      · have hj2 : j < l.length := by omega
        have hcj := hc j hj2
        generalize l[j] = y at hcj
        obtain ⟨yv, yc, yh, yd, yo⟩ := y
        simp only [cE] at hcj
        refine c_skip <| n_code <| c_seq <| c_block <| cR <| oX (e_ian runUnderlying22 sizeOf56 rfl rfl (by omega)) ?_
        refine oX (e_loada isAgg56 sizeOf56 rfl (.inr (by assumption)) (by first | assumption | repeat constructor)) ?_
        refine o_l rfl (l_alloc zeroValue56 rfl rfl) ?_; intro g8 _
        refine o_l rfl (l_storea sizeOf56 rfl rfl rfl (by simp [Value.oneCell']) .head (.take (.take (.take (.take (.take .done))))) nofrs0) ?_
        intro _ _
        refine oN <| cR <| oX (e_fak 0 runUnderlying56 rfl sizeOf25 rfl rfl rfl) <| oX (e_fak 3 runUnderlying25 rfl sizeOf9 rfl rfl rfl) ?_
        refine oX (e_load isAgg9 rfl (by first | exact .inr (by assumption) | exact .inl (by repeat (first | exact List.Mem.head _ | refine List.Mem.tail _ ?_))) rfl) ?_
        refine oX (e_fak 0 runUnderlying56 rfl sizeOf25 rfl rfl rfl) <| oX (e_fak 3 runUnderlying25 rfl sizeOf9 rfl rfl rfl) <| oX (e_load isAgg9 rfl (.inl M0) rfl) <| oX (e_seq rfl rfl) <| oM rfl ?_
        refine o_splitp 31 rfl (fun h4 => ?_) (fun h4 => ?_)
        · refine oM rfl <| oX (e_eql rfl rfl) <| oM rfl ?_
          refine o_splitp 34 rfl (fun h5 => ?_) (fun h5 => ?_)
          · refine oS <| oS <| oS <| oS <| oS <| oS <| oS <| oX (e_pick_t rfl rfl) <| oX (e_pick_t rfl rfl) <| oN <| c_then rfl <| cR <| oA rfl <| oN <| c_ret ?_
            refine r_fn1 results19 rfl ?_
            exact ⟨_, rfl⟩
          · skip
            refine oX (e_fak 0 runUnderlying56 rfl sizeOf25 rfl rfl rfl) <| oX (e_fak 2 runUnderlying25 rfl sizeOf23 rfl rfl rfl) ?_
            refine oX (e_load isAgg23 rfl (by first | exact .inr (by assumption) | exact .inl (by repeat (first | exact List.Mem.head _ | refine List.Mem.tail _ ?_))) rfl) ?_
            refine oX (e_fak 0 runUnderlying56 rfl sizeOf25 rfl rfl rfl) <| oX (e_fak 2 runUnderlying25 rfl sizeOf23 rfl rfl rfl) <| oX (e_load isAgg23 rfl (.inl M0) rfl) <| oX (e_eql rfl rfl) <| oX (e_pick_f rfl rfl) <| oX (e_pick_t rfl rfl) <| oN ?_
            refine c_ifp rfl (fun h6 => ?_) (fun h6 => ?_)
            · refine cR <| oA rfl <| oN <| c_ret ?_
              refine r_fn1 results19 rfl ?_
              exact ⟨_, rfl⟩
            · skip
              refine c_skip <| n_block <| n_code <| c_region <| oX (e_addn rfl rfl (by simp only [inR]; omega)) <| oM rfl <| o_nil ?_
              refine n_round' (j + 1) (by omega) (by omega) (sub_cons rfl (sub_cons rfl (sub_cons rfl (sub_cons rfl (sub_cons rfl (sub_cons rfl (sub_cons rfl (sub_cons rfl (sub_cons rfl sub_nil))))))))) _ (.refl _) (List.sublist_cons_self _ _)
        · skip
          refine oS <| oS <| oS <| oS <| oS <| oS <| oS <| oS <| oS <| oS <| oS <| oX (e_pick_f rfl rfl) <| oN <| c_else rfl <| c_skip <| n_block <| n_code <| c_region <| oX (e_addn rfl rfl (by simp only [inR]; omega)) <| oM rfl <| o_nil ?_
          refine n_round' (j + 1) (by omega) (by omega) (sub_cons rfl (sub_cons rfl (sub_cons rfl (sub_cons rfl (sub_cons rfl (sub_cons rfl (sub_cons rfl (sub_cons rfl (sub_cons rfl sub_nil))))))))) _ (.refl _) (List.sublist_cons_self _ _)
      · skip
        refine c_exit ?_; refine x_code ?_; refine x_upto ?_; refine x_here ?_
        refine n_block <| n_code <| c_region <| oX (e_addn rfl rfl (by simp only [inR]; omega)) <| oM rfl <| o_nil ?_
        refine n_round' (i + 1) (by omega) (by omega) (sub_cons rfl (sub_cons rfl (sub_cons rfl (sub_cons rfl (sub_cons rfl sub_nil))))) _ (.refl _) (List.nil_sublist _)
    · skip
      refine c_exit ?_; refine x_code ?_; refine x_upto ?_; refine x_here ?_
      refine n_code <| cR <| oA rfl <| oN <| c_ret ?_
      refine r_fn1 results19 rfl ?_
      exact ⟨_, rfl⟩
end Go.Proofs
namespace Go.Proofs
open Go Go.Sl Tryz
set_option maxRecDepth 100000
set_option maxHeartbeats 1000000
theorem EnS.shape {H : HP} {v : Value} {l : List En} (h : EnS H v l) : ∃ A cap, v = .slice A l.length cap := by
  cases h with
  | none => exact ⟨_, _, rfl⟩
  | blk hm hn hc => subst hn; exact ⟨_, _, rfl⟩
theorem read_law {G : HP} {v : Value} {l : List En} {kind : Int} {behind : List UInt8} (h : EnS G v l) (hl : l.length < 9223372036854775808) (hcap : ∀ A n cap, v = .slice A n cap → n ≤ cap) (hfit : ∀ x ∈ l, EnFit x) (hone : ∀ k, k = 1024 ∨ k = 1025 → CtrP Tryz.prog 17 [.int .u64 k] G (.bool true)) :
    Ctr Tryz.prog 5 [v, .int .u64 kind, S behind] G [] (fun r _ => r = .bool true) := by
  obtain ⟨A, cap, rfl⟩ := h.shape
  refine fn_enter 78 func5 rfl ntmps5 rfl ?_
  intro w0
  refine cR <| oA rfl <| oN <| c_seq <| cR <| oM rfl ?_
  refine o_l rfl (l_call call9 (fits7 h hl) rfl rfl .nil) ?_
  rintro ⟨r, H'⟩ ⟨b, rfl⟩
  refine o_less (fun _ _ h => h) (List.nil_sublist _) ?_
  refine oX (e_not rfl) <| oM rfl ?_
  refine o_split 16 rfl (fun h0 => ?_) (fun h0 => ?_)
  · refine oS <| oS <| oS <| oX (e_pick_t rfl rfl) <| oN <| c_then rfl <| cR <| oA rfl <| oN <| c_ret ?_
    refine r_fn1 results5 rfl ?_
    rfl
  · skip
    refine oM rfl <| oX (e_lens runUnderlying9 rfl) <| oX (e_gtr rfl rfl) <| oX (e_pick_f rfl rfl) <| oN ?_
    refine c_ifp rfl (fun h1 => ?_) (fun h1 => ?_)
    · refine cR <| oA rfl <| oN <| c_ret ?_
      refine r_fn1 results5 rfl ?_
      rfl
    · skip
      refine c_skip <| n_code <| c_seq <| cR <| oM rfl <| oM rfl ?_
      refine o_l rfl (l_call call11 (good_is h hl) rfl rfl .nil) ?_
      rintro ⟨r, H'⟩ ⟨b, rfl, hb⟩
      refine o_less (fun _ _ h => h) (List.nil_sublist _) ?_
      refine oX (e_not rfl) <| oM rfl ?_
      refine o_split 25 rfl (fun h2 => ?_) (fun h2 => ?_)
      · refine oS <| oS <| oS <| oS <| oX (e_pick_t rfl rfl) <| oM rfl <| oS <| oS <| oS <| oX (e_pick_t rfl rfl) <| oN <| c_then rfl <| cR <| oA rfl <| oN <| c_ret ?_
        refine r_fn1 results5 rfl ?_
        rfl
      · skip
        obtain ⟨h100, hk, hx⟩ := hb (by simpa using h2)
        have hd : ∀ x ∈ l, x.d.length ≤ 200 := fun x hm => (hx x hm).1
        have hsm := bodyB_small l kind hd h100
        have hix : (indexB l kind).length ≤ 221000010 := by simp only [indexB, List.length_append, kindB_length]; omega
        refine oM rfl <| oM rfl ?_
        refine o_l rfl (l_call call19 (once_is h hl hcap) rfl rfl .nil) ?_
        rintro ⟨r, H'⟩ ⟨b2, rfl⟩
        refine o_less (fun _ _ h => h) (List.nil_sublist _) ?_
        refine oX (e_not rfl) <| oX (e_pick_f rfl rfl) <| oM rfl ?_
        refine o_split 31 rfl (fun h3 => ?_) (fun h3 => ?_)
        · refine oS <| oS <| oS <| oX (e_pick_t rfl rfl) <| oN <| c_then rfl <| cR <| oA rfl <| oN <| c_ret ?_
          refine r_fn1 results5 rfl ?_
          rfl
        · skip
          refine oM rfl <| oX (e_lens runUnderlying9 rfl) <| oX (e_gtr rfl rfl) <| oX (e_pick_f rfl rfl) <| oN ?_
          refine c_ifp rfl (fun h4 => ?_) (fun h4 => ?_)
          · refine cR <| oA rfl <| oN <| c_ret ?_
            refine r_fn1 results5 rfl ?_
            rfl
          · skip
            refine c_skip <| n_code <| cR <| oM rfl <| oM rfl ?_
            refine o_l rfl (l_call call15 (indexBytes_is h h100 hd hk) rfl rfl .nil) ?_
            rintro ⟨r, H'⟩ ⟨rfl, rfl⟩
            simp only [List.nil_append]
            refine oA rfl <| oN <| cR <| oM rfl <| oM rfl <| oX (e_sadd rfl rfl (by omega)) ?_
            refine o_l rfl (l_call call18 (again_ok h100 hfit hd hk (by omega)) rfl rfl .nil) ?_
            rintro ⟨r, H'⟩ ⟨rfl, rfl⟩
            simp only [List.nil_append]
            refine oM rfl <| oX (e_extract rfl rfl) <| oX (e_extract rfl rfl) <| oX (e_extract rfl rfl) <| oA rfl <| oA rfl <| oA rfl <| oN <| cR <| oM rfl <| oM rfl <| oX (e_sadd rfl rfl (by omega)) ?_
            refine o_l rfl (l_call call20 (codec_ok h100 hd hk (by omega)) rfl rfl .nil) ?_
            rintro ⟨r, H'⟩ ⟨rfl, rfl⟩
            simp only [List.nil_append]
            refine oM rfl <| oX (e_extract rfl rfl) <| oX (e_extract rfl rfl) <| oA rfl <| oA rfl <| oN <| cR <| oM rfl <| oM rfl ?_
            refine o_split 55 rfl (fun h5 => ?_) (fun h5 => ?_)
            · refine oM rfl <| oM rfl <| oX (e_lens runUnderlying9 rfl) <| oX (e_eql rfl rfl) <| oX (e_pick_t rfl rfl) <| oM rfl ?_
              refine o_splitp 61 rfl (fun h6 => ?_) (fun h6 => ?_)
              · refine oM rfl <| oM rfl <| oX (e_seq rfl rfl) <| oX (e_pick_t rfl rfl) <| oM rfl ?_
                refine o_splitp 66 rfl (fun h7 => ?_) (fun h7 => ?_)
                · refine oM rfl <| oX (e_pick_t rfl rfl) <| oM rfl ?_
                  refine o_split 69 rfl (fun h8 => ?_) (fun h8 => ?_)
                  · refine oM rfl <| oM rfl <| oX (e_eql rfl rfl) <| oX (e_pick_t rfl rfl) <| oM rfl ?_
                    refine o_splitp 74 rfl (fun h9 => ?_) (fun h9 => ?_)
                    · refine oM rfl ?_
                      refine o_l rfl (l_call call17 (hone kind hk) rfl rfl .nil) ?_
                      rintro ⟨r, H'⟩ ⟨rfl, rfl⟩
                      simp only [List.nil_append]
                      refine oX (e_pick_t rfl rfl) <| oA rfl <| oN <| c_ret ?_
                      refine r_fn1 results5 rfl ?_
                      rfl
                    · exact absurd rfl h9
                  · cases h8
                · exact absurd rfl h7
              · exact absurd rfl h6
            · cases h5
end Go.Proofs

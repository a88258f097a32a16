/- spec.Offsets: so many; laws.ixSame; laws.ixSame; how many offsets are told; What entries these statements speak of; laws.FnIxStop holds, in memory's terms. (A part of the proof of this: for every input laws.FnIxStop returns true and its arguments read as they did, the listed package variables being what the program lays.) -/
import Derived.Test.YtochgglejmfelaaGreatDoorG02
import Derived.Test.YtochgglejmfelaaGreatDoorG07
import Derived.Test.YtochgglejmfelaaGreatDoorG08
import Derived.Test.YtochgglejmfelaaGreatDoorG05
import Derived.Test.YtochgglejmfelaaGreatDoorG10
namespace Go.Proofs
open Go Go.Sl Tryz
set_option maxRecDepth 100000
set_option maxHeartbeats 1000000
theorem less35 : LessU 35 := by
  intro blk off c Bs size W G hs hc i j hi hj
  have ci := hc i hi
  have cj := hc j hj
  go_enter func35, ntmps35
  go_wp2
  go_quiet (fail)
  go_wp2
  go_ret
  exact ⟨rfl, nq, rfl⟩
/-- The entries that match an identifier. -/
def matchL (l : List En) (kind : Int) (x : En) : List En := l.filter fun y => decide (y.d = x.d) && (decide (kind = 1024) || decide (y.h = x.h))
theorem matchL_take {l : List En} {kind : Int} {x : En} {i : Nat} (h : i < l.length) : matchL (l.take (i + 1)) kind x = matchL (l.take i) kind x ++ if (decide (l[i].d = x.d) && (decide (kind = 1024) || decide (l[i].h = x.h))) = true then [l[i]] else [] := by
  simp only [matchL]
  rw [List.take_succ_eq_append_getElem h, List.filter_append]
  congr 1
  rw [List.filter_cons]
  split <;> rfl
theorem offsets_is {G : HP} {v : Value} {l : List En} {kind : Int} {x : En} (h : EnS G v l) (hl : l.length ≤ 1000) :
    Ctr Tryz.prog 13 [v, .int .u64 kind, .agg (cC x).toArray] G [] (fun r H' => ∃ xs : List Int, Osl 23 1 r (matchL l kind x).length (V .u64 xs) H') := by
  obtain ⟨cv, cc, ch, cd, co⟩ := x
  simp only [cC]
  cases h with
  | none =>
    refine fn_enter 45 func13 rfl ntmps13 rfl ?_
    intro w0
    refine cR ?_
    refine o_l rfl (l_box rfl rfl rfl) ?_; intro g5 _
    refine oA rfl <| oN <| cR ?_
    refine o_l rfl (l_alloc zeroValue29 rfl rfl) ?_; intro g7 _
    refine oN <| c_seq <| cR <| oM rfl <| oX (e_lenl runUnderlying22 rfl) <| oM rfl <| oN <| c_block ?_
    refine c_rounds 1 ?_
    refine cR <| oX (e_lss rfl rfl) <| oN <| c_seq <| c_else rfl ?_
    refine c_exit ?_; refine x_code ?_; refine x_upto ?_; refine x_here ?_
    refine n_code <| cR <| oX (e_load isAgg29 rfl (.inl M0) rfl) <| oX (e_mkif runUnderlying29 rfl rfl) <| oX (e_func rfl rfl) ?_
    refine o_l rfl (l_call call34 (slice_01 (by decide)) rfl rfl .nil) ?_
    rintro ⟨r, H'⟩ ⟨rfl, rfl⟩
    simp only [List.nil_append]
    refine oN <| cR <| oX (e_load isAgg29 rfl (.inl M0) rfl) <| oA rfl <| oN <| c_ret ?_
    refine WR.less (fun _ _ h => h) (List.nil_sublist _) ?_
    refine r_fn1 results13 rfl ?_
    exact ⟨[], .nil⟩
  | @blk l L g off n cap e fr hm hn hc =>
    refine fn_enter 45 func13 rfl ntmps13 rfl ?_
    intro w0
    refine cR ?_
    refine o_l rfl (l_box rfl rfl rfl) ?_; intro g5 _
    refine oA rfl <| oN <| cR ?_
    refine o_l rfl (l_alloc zeroValue29 rfl rfl) ?_; intro g7 _
    refine oN <| c_seq <| cR <| oM rfl <| oX (e_lenl runUnderlying22 rfl) <| oM rfl <| oN <| c_block ?_
    refine c_loop (X := Nat × Value × HP) (fun y => [(1, .int .u64 kind), (5, .pointer (some ⟨g5, 0, none⟩)), (7, .pointer (some ⟨g7, 0, none⟩)), (10, .slice (some ⟨g, off, none⟩) n cap), (11, .int .i64 n), (12, .int .i64 y.1)]) (fun y => (g7, C [y.2.1] 29) :: (g5, C [.int .u64 cv, .int .u64 cc, .int .u64 ch, S cd] 25) :: y.2.2) (fun y => y.1 ≤ n ∧ Osl 23 1 y.2.1 (matchL (l.take y.1) kind ⟨cv, cc, ch, cd, co⟩).length (V .u64 ((matchL (l.take y.1) kind ⟨cv, cc, ch, cd, co⟩).map (·.o))) y.2.2) (fun y => n - y.1) (0, .slice none 0 0, []) ⟨Nat.zero_le _, .nil⟩ (sub_cons rfl (sub_cons rfl (sub_cons rfl (sub_cons rfl (sub_cons rfl (sub_cons rfl sub_nil)))))) (.refl _) ?_
    rintro ⟨i, v', HB'⟩ ⟨hi, ho⟩
    simp only at hi ho ⊢
    refine cR <| oX (e_lss rfl rfl) <| oN <| c_seq ?_
    refine c_ifp rfl (fun h1 => ?_) (fun h1 => ?_)
    · have hi2 : i < l.length := by omega
      have hci := hc i hi2
      have hnx := matchL_take (kind := kind) (x := ⟨cv, cc, ch, cd, co⟩) hi2
      have hlen : (matchL (l.take i) kind ⟨cv, cc, ch, cd, co⟩).length ≤ l.length := Nat.le_trans (List.length_filter_le _ _) (by simp; omega)
      generalize l[i] = y at hci hnx
      obtain ⟨xv, xc, xh, xd, xo⟩ := y
      simp only [cE] at hci hnx
      refine c_skip <| n_code <| c_seq <| c_block <| cR <| oX (e_ian runUnderlying22 sizeOf56 rfl rfl (by omega)) ?_
      refine oX (e_loada isAgg56 sizeOf56 rfl (.inr (by assumption)) (by first | assumption | repeat constructor)) ?_
      refine o_l rfl (l_alloc zeroValue56 rfl rfl) ?_; intro g9 _
      refine o_l rfl (l_storea sizeOf56 rfl rfl rfl (by simp [Value.oneCell']) .head (.take (.take (.take (.take (.take .done))))) nofrs0) ?_
      intro _ _
      refine oN <| cR <| oX (e_fak 0 runUnderlying56 rfl sizeOf25 rfl rfl rfl) <| oX (e_fak 3 runUnderlying25 rfl sizeOf9 rfl rfl rfl) <| oX (e_load isAgg9 rfl (.inl M0) rfl) <| oX (e_fak 3 runUnderlying25 rfl sizeOf9 rfl rfl rfl) ?_
      refine oX (e_load isAgg9 rfl (by first | exact .inr (by assumption) | exact .inl (by repeat (first | exact List.Mem.head _ | refine List.Mem.tail _ ?_))) rfl) ?_
      refine oX (e_seq rfl rfl) <| oM rfl ?_
      refine o_splitp 22 rfl (fun h2 => ?_) (fun h2 => ?_)
      · refine oM rfl <| oX (e_eql rfl rfl) <| oM rfl ?_
        refine o_splitp 25 rfl (fun h3 => ?_) (fun h3 => ?_)
        · skip
          refine oS <| oS <| oS <| oS <| oS <| oS <| oX (e_pick_t rfl rfl) <| oX (e_pick_t rfl rfl) <| oN <| c_then rfl <| c_region ?_
          refine oX (e_load isAgg29 rfl (by first | exact .inr (by assumption) | exact .inl (by repeat (first | exact List.Mem.head _ | refine List.Mem.tail _ ?_))) rfl) ?_
          refine oX (e_fak 4 runUnderlying56 rfl sizeOf23 rfl rfl rfl) <| oX (e_load isAgg23 rfl (.inl M0) rfl) ?_
          refine o_l rfl (l_bs1 runUnderlying29 sizeOf23 zeroValue23 rfl rfl rfl) ?_; intro g37 _
          refine o_l rfl (l_append (sz := 1) underlying29 (info_of typeInfo23) rfl rfl rfl rfl rfl rfl ho (List.perm_append_comm (l₁ := [_, _, _, _])) (.blk (vs := [.int .u64 xo]) underlying29 (.inl M0) (.take .done) (by simp [Value.oneCell'])) (by show _ * 8 ≤ _; omega) (by omega)) ?_
          rintro ⟨v2, HB2⟩ ho2
          refine o_perm (List.perm_append_comm (l₂ := [_, _, _, _])) ?_
          refine o_l rfl (l_store sizeOf29 rfl rfl ho2.one (.tail (.tail .head)) .head (by omega)) ?_
          intro _ _
          refine o_nil <| n_block <| n_code <| c_region <| oX (e_addn rfl rfl (by simp only [inR]; omega)) <| oM rfl <| o_nil ?_
          refine n_round' (y := (i, v', HB')) (i + 1, v2, HB2) (by show n - (i + 1) < n - i; omega) ⟨by show i + 1 ≤ n; omega, ?_⟩ (sub_cons rfl (sub_cons rfl (sub_cons rfl (sub_cons rfl (sub_cons rfl (sub_cons rfl sub_nil)))))) _ (.refl _) (.cons _ (.cons _ (.refl _)))
          simp only [hnx]
          rw [if_pos (by simp [h2, h3])]
          simpa [V] using ho2
        · skip
          refine oX (e_fak 0 runUnderlying56 rfl sizeOf25 rfl rfl rfl) <| oX (e_fak 2 runUnderlying25 rfl sizeOf23 rfl rfl rfl) <| oX (e_load isAgg23 rfl (.inl M0) rfl) <| oX (e_fak 2 runUnderlying25 rfl sizeOf23 rfl rfl rfl) ?_
          refine oX (e_load isAgg23 rfl (by first | exact .inr (by assumption) | exact .inl (by repeat (first | exact List.Mem.head _ | refine List.Mem.tail _ ?_))) rfl) ?_
          refine oX (e_eql rfl rfl) <| oX (e_pick_f rfl rfl) <| oX (e_pick_t rfl rfl) <| oN ?_
          refine c_ifp rfl (fun h4 => ?_) (fun h4 => ?_)
          · skip
            refine c_region ?_
            refine oX (e_load isAgg29 rfl (by first | exact .inr (by assumption) | exact .inl (by repeat (first | exact List.Mem.head _ | refine List.Mem.tail _ ?_))) rfl) ?_
            refine oX (e_fak 4 runUnderlying56 rfl sizeOf23 rfl rfl rfl) <| oX (e_load isAgg23 rfl (.inl M0) rfl) ?_
            refine o_l rfl (l_bs1 runUnderlying29 sizeOf23 zeroValue23 rfl rfl rfl) ?_; intro g37 _
            refine o_l rfl (l_append (sz := 1) underlying29 (info_of typeInfo23) rfl rfl rfl rfl rfl rfl ho (List.perm_append_comm (l₁ := [_, _, _, _])) (.blk (vs := [.int .u64 xo]) underlying29 (.inl M0) (.take .done) (by simp [Value.oneCell'])) (by show _ * 8 ≤ _; omega) (by omega)) ?_
            rintro ⟨v2, HB2⟩ ho2
            refine o_perm (List.perm_append_comm (l₂ := [_, _, _, _])) ?_
            refine o_l rfl (l_store sizeOf29 rfl rfl ho2.one (.tail (.tail .head)) .head (by omega)) ?_
            intro _ _
            refine o_nil <| n_block <| n_code <| c_region <| oX (e_addn rfl rfl (by simp only [inR]; omega)) <| oM rfl <| o_nil ?_
            refine n_round' (y := (i, v', HB')) (i + 1, v2, HB2) (by show n - (i + 1) < n - i; omega) ⟨by show i + 1 ≤ n; omega, ?_⟩ (sub_cons rfl (sub_cons rfl (sub_cons rfl (sub_cons rfl (sub_cons rfl (sub_cons rfl sub_nil)))))) _ (.refl _) (.cons _ (.cons _ (.refl _)))
            simp only [hnx]
            rw [if_pos (by simp [h2, h4])]
            simpa [V] using ho2
          · skip
            refine c_skip <| n_block <| n_code <| c_region <| oX (e_addn rfl rfl (by simp only [inR]; omega)) <| oM rfl <| o_nil ?_
            refine n_round' (y := (i, v', HB')) (i + 1, v', HB') (by show n - (i + 1) < n - i; omega) ⟨by show i + 1 ≤ n; omega, ?_⟩ (sub_cons rfl (sub_cons rfl (sub_cons rfl (sub_cons rfl (sub_cons rfl (sub_cons rfl sub_nil)))))) _ (.refl _) (.cons _ (.refl _))
            simp only [hnx]
            rw [if_neg (by simp [h2, h3, h4]), List.append_nil]
            exact ho
      · skip
        refine oS <| oS <| oS <| oS <| oS <| oS <| oS <| oS <| oS <| oS <| oX (e_pick_f rfl rfl) <| oN <| c_else rfl <| c_skip <| n_block <| n_code <| c_region <| oX (e_addn rfl rfl (by simp only [inR]; omega)) <| oM rfl <| o_nil ?_
        refine n_round' (y := (i, v', HB')) (i + 1, v', HB') (by show n - (i + 1) < n - i; omega) ⟨by show i + 1 ≤ n; omega, ?_⟩ (sub_cons rfl (sub_cons rfl (sub_cons rfl (sub_cons rfl (sub_cons rfl (sub_cons rfl sub_nil)))))) _ (.refl _) (.cons _ (.refl _))
        simp only [hnx]
        rw [if_neg (by simp [h2]), List.append_nil]
        exact ho
    · skip
      have : i = l.length := by omega
      subst this
      rw [List.take_length] at ho
      have hlen : (matchL l kind ⟨cv, cc, ch, cd, co⟩).length ≤ 1000 := Nat.le_trans (List.length_filter_le _ _) hl
      generalize hM : matchL l kind ⟨cv, cc, ch, cd, co⟩ = M at *
      obtain ⟨ms, hms⟩ : ∃ ms, ms = M.map (·.o) := ⟨_, rfl⟩
      have hml : M.length = ms.length := by rw [hms, List.length_map]
      rw [hml] at hlen ⊢
      rw [hml, ← hms] at ho
      refine c_exit ?_; refine x_code ?_; refine x_upto ?_; refine x_here ?_
      refine n_code <| cR <| oX (e_load isAgg29 rfl (.inl M0) rfl) <| oX (e_mkif runUnderlying29 rfl rfl) <| oX (e_func rfl rfl) ?_
      rcases ho.openV with ⟨rfl, rfl, h0⟩ | ⟨g2, cap2, rest, lo, hi', rfl, rfl, a2, a3, a4, a5⟩
      · refine o_l rfl (l_call call34 (slice_01 (by decide)) rfl rfl .nil) ?_
        rintro ⟨r, H'⟩ ⟨rfl, rfl⟩
        simp only [List.nil_append]
        refine oN <| cR <| oX (e_load isAgg29 rfl (.inl M0) rfl) <| oA rfl <| oN <| c_ret ?_
        refine WR.less (fun _ _ h => h) (List.nil_sublist _) ?_
        refine r_fn1 results13 rfl ?_
        rw [h0]
        exact ⟨[], .nil⟩
      · skip
        by_cases h1 : ms.length ≤ 1
        · skip
          refine o_l rfl (l_call call34 (slice_01 h1) rfl rfl .nil) ?_
          rintro ⟨r, H'⟩ ⟨rfl, rfl⟩
          simp only [List.nil_append]
          refine oN <| cR <| oX (e_load isAgg29 rfl (.inl M0) rfl) <| oA rfl <| oN <| c_ret ?_
          refine WR.sel (.cons (.tail (.tail .head)) .nil) ?_
          refine r_fn1 results13 rfl ?_
          exact ⟨ms, .own (by simp) a2 a3 a4 a5⟩
        · skip
          refine o_l rfl (l_call call34 (slice_is less35 (fun _ _ => call35 _ _) rfl (by omega) (by omega) (by omega)) rfl rfl (.cons .head (.cons (.tail .head) .nil))) ?_
          rintro ⟨r, H'⟩ ⟨rfl, rfl⟩
          simp only [List.cons_append, List.nil_append]
          refine oN <| cR <| oX (e_load isAgg29 rfl (.inl M0) rfl) <| oA rfl <| oN <| c_ret ?_
          refine WR.sel (.cons (.tail .head) .nil) ?_
          refine r_fn1 results13 rfl ?_
          exact ⟨srt ms, .own (by simp [srt_length]) a2 a3 a4 a5⟩
end Go.Proofs
namespace Go.Proofs
open Go Go.Sl Tryz
set_option maxRecDepth 100000
set_option maxHeartbeats 1000000
theorem _root_.Go.Sl.Osl.shape {e : TypeId} {sz n : Nat} {v : Value} {xs : List Value} {H : HP} (h : Osl e sz v n xs H) : ∃ A cap, v = .slice A n cap ∧ n ≤ cap ∧ cap < 9223372036854775808 := by
  cases h with
  | nil => exact ⟨_, _, rfl, Nat.le_refl _, by omega⟩
  | own h1 h2 h3 h4 h5 => exact ⟨_, _, rfl, h3, h4⟩
/-- A slice value that holds these numbers. -/
inductive US (G : HP) : Value → List Int → Prop where
  | emp {A : Option Addr} {cap : Nat} : US G (.slice A 0 cap) []
  | blk {g n cap : Nat} {l : List Value} {e : TypeId} {fr : Nat × Nat} {os : List Int} (hm : (g, Obj.cells l.toArray e fr) ∈ G) (hn : os.length = n) (hc : ∀ i (h : i < os.length), l[0 + i * 1]? = some (.int .u64 os[i])) : US G (.slice (some ⟨g, 0, none⟩) n cap) os
theorem US.of {G H : HP} {A : Option Addr} {n cap k : Nat} {os : List Int} (h : Osl 23 1 (.slice A n cap) n (V .u64 os) H) (hs : ∀ p ∈ H, p ∈ G) (hk : k ≤ n) (hn : os.length = n) : US G (.slice A k cap) (os.take k) := by
  generalize hx : V .u64 os = xs at h
  cases h with
  | nil =>
    obtain rfl : k = 0 := by omega
    exact .emp
  | @own g _ _ lo hi xs rest h1 h2 h3 h4 h5 =>
    subst hx
    refine .blk (hs _ (.head _)) (by simp; omega) (fun i hi => ?_)
    have hi' : i < os.length := by simp at hi; omega
    rw [Nat.zero_add, Nat.mul_one, List.getElem?_append_left (by simpa using hi')]
    simp [V, hi']
theorem US.len {G : HP} {v : Value} {os : List Int} (h : US G v os) : ∃ A cap, v = .slice A os.length cap := by
  cases h with
  | emp => exact ⟨_, _, rfl⟩
  | blk hm hn hc => subst hn; exact ⟨_, _, rfl⟩
theorem US.big {G : HP} {A : Option Addr} {n cap : Nat} {os : List Int} (h : US G (.slice A n cap) os) (h0 : 0 < n) : ∃ (g : Nat) (l : List Value) (e : TypeId) (fr : Nat × Nat), A = some ⟨g, 0, none⟩ ∧ (g, Obj.cells l.toArray e fr) ∈ G ∧ ∀ i (h : i < os.length), l[0 + i * 1]? = some (.int .u64 os[i]) := by
  cases h with
  | emp => omega
  | blk hm hn hc => exact ⟨_, _, _, _, rfl, hm, hc⟩
theorem ixSame_is {G : HP} {v1 v2 : Value} {os : List Int} (h1 : US G v1 os) (h2 : US G v2 os) (hl : os.length ≤ 100000) : CtrP Tryz.prog 16 [v1, v2] G (.bool true) := by
  obtain ⟨A, cap, rfl⟩ := h1.len
  obtain ⟨A', cap', rfl⟩ := h2.len
  refine fn_enter 26 func16 rfl ntmps16 rfl ?_
  intro w0
  refine cR <| oA rfl <| oN <| c_seq <| cR <| oM rfl <| oX (e_lenl runUnderlying29 rfl) <| oM rfl <| oX (e_lenl runUnderlying29 rfl) <| oX (e_neq rfl rfl) <| oN ?_
  refine c_ifp rfl (fun h3 => ?_) (fun h3 => ?_)
  · exact absurd rfl h3
  · skip
    refine c_skip <| n_code <| c_seq <| cR <| oM rfl <| oX (e_lenl runUnderlying29 rfl) <| oM rfl <| oN <| c_block ?_
    by_cases h0 : os.length = 0
    · rw [h0]
      refine c_rounds 1 ?_
      refine cR <| oX (e_lss rfl rfl) <| oN <| c_seq <| c_else rfl ?_
      refine c_exit ?_; refine x_code ?_; refine x_upto ?_; refine x_here ?_
      refine n_code <| cR <| oA rfl <| oN <| c_ret ?_
      refine r_fn1 results16 rfl ?_
      exact ⟨rfl, rfl⟩
    · skip
      obtain ⟨g, l, e, fr, rfl, hm, hc⟩ := h1.big (by omega)
      obtain ⟨g', l', e', fr', rfl, hm', hc'⟩ := h2.big (by omega)
      refine c_loop (X := Nat) (fun i => [(0, .slice (some ⟨g, 0, none⟩) os.length cap), (1, .slice (some ⟨g', 0, none⟩) os.length cap'), (12, .int .i64 os.length), (13, .int .i64 i)]) (fun _ => []) (fun i => i ≤ os.length) (fun i => os.length - i) 0 (Nat.zero_le _) (sub_cons rfl (sub_cons rfl (sub_cons rfl (sub_cons rfl sub_nil)))) (.refl _) ?_
      intro i hi
      refine cR <| oX (e_lss rfl rfl) <| oN <| c_seq ?_
      refine c_ifp rfl (fun h4 => ?_) (fun h4 => ?_)
      · have hi2 : i < os.length := by omega
        have c1 := hc i hi2
        have c2 := hc' i hi2
        generalize os[i] = z at c1 c2
        refine c_skip <| n_code <| c_seq <| c_block <| cR <| oM rfl <| oA rfl <| oN <| c_seq <| cQ <| qM rfl <| qM rfl <| qX (e_ian runUnderlying29 sizeOf23 rfl rfl (by omega)) ?_
        refine qX (e_load isAgg23 rfl (.inr (by assumption)) (by assumption)) ?_
        refine qM rfl <| qM rfl <| qX (e_ian runUnderlying29 sizeOf23 rfl rfl (by omega)) ?_
        refine qX (e_load isAgg23 rfl (.inr (by assumption)) (by assumption)) ?_
        refine qX (e_neq rfl rfl) <| qN ?_
        refine c_ifp rfl (fun h5 => ?_) (fun h5 => ?_)
        · exact absurd rfl h5
        · skip
          refine c_skip <| n_block <| n_code <| c_region <| oX (e_addn rfl rfl (by simp only [inR]; omega)) <| oM rfl <| o_nil ?_
          refine n_round' (i + 1) (by omega) (by omega) (sub_cons rfl (sub_cons rfl (sub_cons rfl (sub_cons rfl sub_nil)))) _ (.refl _) (.refl _)
      · skip
        refine c_exit ?_; refine x_code ?_; refine x_upto ?_; refine x_here ?_
        refine n_code <| cR <| oA rfl <| oN <| c_ret ?_
        refine r_fn1 results16 rfl ?_
        exact ⟨rfl, rfl⟩
theorem told_len (l : List En) {kind : Int} (hk : kind = 1024 ∨ kind = 1025) (x : En) : (told l kind x).length = (matchL l kind x).length := by
  rw [told, List.length_map, run_count]
  rcases hk with rfl | rfl
  · have e : (fun y : En => decide (y.d = x.d) && (decide ((1024 : Int) = 1024) || decide (y.h = x.h))) = fun y => decide (y.d = x.d) := by funext y; simp
    rw [if_pos rfl, matchL, e]
  · have e : (fun y : En => decide (y.d = x.d) && (decide ((1025 : Int) = 1024) || decide (y.h = x.h))) = fun y => decide (y.d = x.d) && decide (y.h = x.h) := by funext y; simp
    rw [if_neg (by decide), codedL, List.filter_filter, matchL, e]
end Go.Proofs
namespace Go.Proofs
open Go Go.Sl Tryz
set_option maxRecDepth 100000

def Good (l : List En) (kind : Int) : Prop := l.length ≤ 100 ∧ (kind = 1024 ∨ kind = 1025) ∧ ∀ x ∈ l, x.d.length ≤ 200 ∧ Tidy x
theorem good_is {G : HP} {v : Value} {l : List En} {kind : Int} (h : EnS G v l) (hl : l.length < 9223372036854775808) : Ctr Tryz.prog 11 [v, .int .u64 kind] G [] (fun r _ => ∃ b, r = .bool b ∧ (b = true → Good l kind)) := by
  have hv : ∃ A n cap, v = .slice A n cap ∧ l.length = n := by
    cases h with
    | none => exact ⟨_, _, _, rfl, rfl⟩
    | blk hm hn hc => exact ⟨_, _, _, rfl, hn⟩
  obtain ⟨A, n, cap, rfl, hn0⟩ := hv
  refine fn_enter 36 func11 rfl ntmps11 rfl ?_
  intro w0
  refine cR <| oA rfl <| oN <| c_seq ?_
  refine c_cut (X := Unit) (fun _ => [(0, .slice A n cap)]) (fun _ => []) (fun _ => l.length ≤ 100 ∧ (kind = 1024 ∨ kind = 1025)) ?_ ?_
  · skip
    refine cR <| oM rfl <| oX (e_lenl runUnderlying22 rfl) <| oX (e_gtr rfl rfl) <| oM rfl ?_
    refine o_splitp 10 rfl (fun h1 => ?_) (fun h1 => ?_)
    · refine oS <| oS <| oS <| oS <| oS <| oS <| oX (e_pick_t rfl rfl) <| oN <| c_then rfl <| cR <| oA rfl <| oN <| c_ret ?_
      refine r_fn1 results11 rfl ?_
      exact ⟨_, rfl, by simp⟩
    · skip
      refine oM rfl <| oX (e_neq rfl rfl) <| oM rfl ?_
      refine o_splitp 13 rfl (fun h2 => ?_) (fun h2 => ?_)
      · refine oM rfl <| oX (e_neq rfl rfl) <| oX (e_pick_t rfl rfl) <| oX (e_pick_f rfl rfl) <| oN ?_
        refine c_ifp rfl (fun h3 => ?_) (fun h3 => ?_)
        · refine cR <| oA rfl <| oN <| c_ret ?_
          refine r_fn1 results11 rfl ?_
          exact ⟨_, rfl, by simp⟩
        · skip
          refine c_skip ?_
          exact n_cut () ⟨by omega, by omega⟩ (sub_cons rfl sub_nil) (.refl _)
      · skip
        refine oS <| oS <| oX (e_pick_f rfl rfl) <| oX (e_pick_f rfl rfl) <| oN <| c_else rfl <| c_skip ?_
        exact n_cut () ⟨by omega, by omega⟩ (sub_cons rfl sub_nil) (.refl _)
  · rintro ⟨⟩ ⟨hl1, hk⟩
    refine n_code <| c_seq <| cR <| oM rfl <| oX (e_lenl runUnderlying22 rfl) <| oM rfl <| oN <| c_block ?_
    cases h with
    | none =>
      refine c_rounds 1 ?_
      refine cR <| oX (e_lss rfl rfl) <| oN <| c_seq <| c_else rfl ?_
      refine c_exit ?_; refine x_code ?_; refine x_upto ?_; refine x_here ?_
      refine n_code <| cR <| oA rfl <| oN <| c_ret ?_
      refine r_fn1 results11 rfl ?_
      exact ⟨_, rfl, fun _ => ⟨by simp, by omega, by simp⟩⟩
    | @blk l L g off n cap e fr hm hn hc =>
      refine c_loop (X := Nat) (fun i => [(18, .slice (some ⟨g, off, none⟩) n cap), (19, .int .i64 n), (20, .int .i64 i)]) (fun _ => []) (fun i => i ≤ n ∧ ∀ j (h : j < l.length), j < i → l[j].d.length ≤ 200 ∧ Tidy l[j]) (fun i => n - i) 0 ⟨Nat.zero_le _, fun _ _ h => absurd h (Nat.not_lt_zero _)⟩ (sub_cons rfl (sub_cons rfl (sub_cons rfl sub_nil))) (.refl _) ?_
      rintro i ⟨hi, hok⟩
      refine cR <| oX (e_lss rfl rfl) <| oN <| c_seq ?_
      refine c_ifp rfl (fun h2 => ?_) (fun h2 => ?_)
      · have hi2 : i < l.length := by omega
        have hci := hc i hi2
        have hnext : ∀ x, l[i] = x → x.d.length ≤ 200 → Tidy x → ∀ j (h : j < l.length), j < i + 1 → l[j].d.length ≤ 200 ∧ Tidy l[j] := by
          intro x hx a1 a2 j hj hji
          by_cases e : j = i
          · subst e; rw [hx]; exact ⟨a1, a2⟩
          · exact hok j hj (by omega)
        generalize l[i] = x at hci hnext
        have ht := tidy_is (G := G) x
        have hnext := hnext x rfl
        obtain ⟨xv, xc, xh, xd, xo⟩ := x
        simp only [cE, cC] at hci ht hnext
        refine c_skip <| n_code <| c_seq <| c_block <| cR <| oX (e_ian runUnderlying22 sizeOf56 rfl rfl (by omega)) <| oX (e_loada isAgg56 sizeOf56 rfl (.inr hm) hci) ?_
        refine o_l rfl (l_alloc zeroValue56 rfl rfl) ?_; intro g6 _
        refine o_l rfl (l_storea sizeOf56 rfl rfl rfl (by simp [Value.oneCell']) .head (.take (.take (.take (.take (.take .done))))) nofrs0) ?_
        intro _ _
        refine oN <| cR <| oX (e_fa runUnderlying56 rfl sizeOf25 rfl rfl) <| oX (e_fa runUnderlying25 rfl sizeOf9 rfl rfl) <| oX (e_load isAgg9 rfl (.inl M0) rfl) <| oX (e_lens runUnderlying9 rfl) <| oX (e_gtr rfl rfl) <| oM rfl ?_
        refine o_splitp 29 rfl (fun h3 => ?_) (fun h3 => ?_)
        · refine oS <| oS <| oS <| oS <| oX (e_pick_t rfl rfl) <| oN <| c_then rfl <| cR <| oA rfl <| oN <| c_ret ?_
          refine r_fn1 results11 rfl ?_
          exact ⟨_, rfl, by simp⟩
        · skip
          refine oX (e_fa runUnderlying56 rfl sizeOf25 rfl rfl) ?_
          refine oX (e_loada isAgg25 sizeOf25 rfl (.inl M0) (by first | assumption | repeat constructor)) ?_
          refine o_l rfl (l_call call12 (ht) rfl rfl .nil) ?_
          rintro ⟨r, H'⟩ rfl
          refine oX (e_not rfl) <| oX (e_pick_f rfl rfl) <| oN ?_
          refine c_if rfl (fun h4 => ?_) (fun h4 => ?_)
          · refine cR <| oA rfl <| oN <| c_ret ?_
            refine r_fn1 results11 rfl ?_
            exact ⟨_, rfl, by simp⟩
          · skip
            refine c_skip <| n_block <| n_code <| c_region <| oX (e_addn rfl rfl (by simp only [inR]; omega)) <| oM rfl <| o_nil ?_
            refine n_round' (i + 1) (by omega) ⟨by omega, hnext (by omega) (by simpa using h4)⟩ (sub_cons rfl (sub_cons rfl (sub_cons rfl sub_nil))) _ (.refl _) (List.nil_sublist _)
      · skip
        refine c_exit ?_; refine x_code ?_; refine x_upto ?_; refine x_here ?_
        refine n_code <| cR <| oA rfl <| oN <| c_ret ?_
        refine r_fn1 results11 rfl ?_
        refine ⟨_, rfl, fun _ => ⟨hl1, hk, fun x hx => ?_⟩⟩
        obtain ⟨j, hj, rfl⟩ := List.getElem_of_mem hx
        exact hok j hj (by omega)
end Go.Proofs
namespace Go.Proofs
open Go Go.Sl Tryz
set_option maxRecDepth 100000
set_option maxHeartbeats 1000000
theorem EnS.shape {H : HP} {v : Value} {l : List En} (h : EnS H v l) : ∃ A cap, v = .slice A l.length cap := by
  cases h with
  | none => exact ⟨_, _, rfl⟩
  | blk hm hn hc => subst hn; exact ⟨_, _, rfl⟩
theorem e_minN {x : Cx} {s : Slots} {H : HP} {d : Nat} {p q : Operand} {ty : TypeId} {pos : String} {af : Array Edge} {gd' : Option (Nat × Bool)} {ats : Array TypeId} {m n : Nat} (hp : ev s p = some (.int .i64 m)) (hq : ev s q = some (.int .i64 n)) :
    Ex x s H ⟨some d, .call { callee := .builtin .min, args := #[p, q], argTypes := ats }, ty, pos, af, gd'⟩ (.int .i64 (min m n : Nat)) := fun a w hs => by
  simp [execOp, resolve, invoke, builtin, hs.eval hp, hs.eval hq, Builtin.min_, Builtin.min2]
  split <;> omega
theorem stop_law {G : HP} {v : Value} {l : List En} {kind : Int} {x : En} {most : Nat} {gN : Addr} {t4 : List Value} {e4 : TypeId} {f4 : Nat × Nat} (h : EnS G v l) (hl : l.length < 9223372036854775808) (hfl : ∀ y ∈ l, EnFit y) (hfx : EnFit x) (hm : most < 256) (hN : (4, Obj.cells (EV gN :: t4).toArray e4 f4) ∈ G)
    (hone : ∀ k, k = 1024 ∨ k = 1025 → CtrP Tryz.prog 17 [.int .u64 k] G (.bool true)) :
    Ctr Tryz.prog 3 [v, .int .u64 kind, .agg (cC x).toArray, .int .u8 (most : Nat)] G [] (fun r _ => r = .bool true) := by
  obtain ⟨A, cap, rfl⟩ := h.shape
  have hf1 := fits1 (G := G) x
  have hti := tidy_is (G := G) x
  have hof := offsets_is (kind := kind) (x := x) h
  have hal := fun (hl : l.length ≤ 100) (hdl : ∀ y ∈ l, y.d.length ≤ 200) (hk : kind = 1024 ∨ kind = 1025) (ht : Tidy x) (hd : x.d.length ≤ 200) (m : Nat) (hm0 : 0 < m) => all_is (G := G) (l := l) (kind := kind) (most := m) hl hfl hdl hk ht hfx hd hm0 hN
  obtain ⟨cx, hcx⟩ : ∃ cx, cx = cC x := ⟨_, rfl⟩
  have hcx4 : cx = [.int .u64 x.v, .int .u64 x.c, .int .u64 x.h, S x.d] := hcx
  rw [← hcx] at hf1 hti hof hal ⊢
  subst hcx4
  clear hcx
  refine fn_enter 103 func3 rfl ntmps3 rfl ?_
  intro w0
  refine cR ?_
  refine o_l rfl (l_box rfl rfl rfl) ?_; intro g6 _
  refine oA rfl <| oN <| c_seq <| cR <| oM rfl ?_
  refine o_l rfl (l_call call9 (fits7 h hl) rfl rfl .nil) ?_
  rintro ⟨r, H'⟩ ⟨b, rfl⟩
  refine o_less (fun _ _ h => h) (List.sublist_append_right _ _) ?_
  refine oX (e_not rfl) <| oM rfl ?_
  refine o_split 18 rfl (fun h1 => ?_) (fun h1 => ?_)
  · refine oS <| oS <| oS <| oX (e_pick_t rfl rfl) <| oN <| c_then rfl <| cR <| oA rfl <| oN <| c_ret ?_
    refine r_fn1 results3 rfl ?_
    rfl
  · skip
    refine oX (e_loada isAgg25 sizeOf25 rfl (.inl M0) (by first | assumption | repeat constructor)) ?_
    refine o_l rfl (l_call call10 hf1 rfl rfl .nil) ?_
    rintro ⟨r, H'⟩ ⟨b2, rfl⟩
    refine o_less (fun _ _ h => h) (List.sublist_append_right _ _) ?_
    refine oX (e_not rfl) <| oX (e_pick_f rfl rfl) <| oN ?_
    refine c_if rfl (fun h2 => ?_) (fun h2 => ?_)
    · refine cR <| oA rfl <| oN <| c_ret ?_
      refine r_fn1 results3 rfl ?_
      rfl
    · skip
      refine c_skip <| n_code <| c_seq <| cR <| oM rfl <| oM rfl ?_
      refine o_l rfl (l_call call11 (good_is h hl) rfl rfl .nil) ?_
      rintro ⟨r, H'⟩ ⟨b3, rfl, hb3⟩
      refine o_less (fun _ _ h => h) (List.sublist_append_right _ _) ?_
      refine oX (e_not rfl) <| oM rfl ?_
      refine o_split 27 rfl (fun h3 => ?_) (fun h3 => ?_)
      · refine oS <| oS <| oS <| oS <| oX (e_pick_t rfl rfl) <| oM rfl <| oS <| oS <| oS <| oX (e_pick_t rfl rfl) <| oM rfl <| oS <| oS <| oX (e_pick_t rfl rfl) <| oM rfl <| oS <| oS <| oX (e_pick_t rfl rfl) <| oN <| c_then rfl <| cR <| oA rfl <| oN <| c_ret ?_
        refine r_fn1 results3 rfl ?_
        rfl
      · skip
        obtain ⟨h100, hk, hx⟩ := hb3 (by simpa using h3)
        have hd : ∀ x ∈ l, x.d.length ≤ 200 := fun x hm => (hx x hm).1
        refine oX (e_fak 3 runUnderlying25 rfl sizeOf9 rfl rfl rfl) <| oX (e_load isAgg9 rfl (.inl M0) rfl) <| oX (e_lens runUnderlying9 rfl) <| oX (e_gtr rfl rfl) <| oX (e_pick_f rfl rfl) <| oM rfl ?_
        refine o_splitp 33 rfl (fun h4 => ?_) (fun h4 => ?_)
        · refine oS <| oS <| oS <| oX (e_pick_t rfl rfl) <| oM rfl <| oS <| oS <| oX (e_pick_t rfl rfl) <| oM rfl <| oS <| oS <| oX (e_pick_t rfl rfl) <| oN <| c_then rfl <| cR <| oA rfl <| oN <| c_ret ?_
          refine r_fn1 results3 rfl ?_
          rfl
        · skip
          refine oX (e_loada isAgg25 sizeOf25 rfl (.inl M0) (by first | assumption | repeat constructor)) ?_
          refine o_l rfl (l_call call12 hti rfl rfl .nil) ?_
          rintro ⟨r, H'⟩ rfl
          refine o_less (fun _ _ h => h) (List.sublist_append_right _ _) ?_
          refine oX (e_not rfl) <| oX (e_pick_f rfl rfl) <| oM rfl ?_
          refine o_split 38 rfl (fun h5 => ?_) (fun h5 => ?_)
          · refine oS <| oS <| oX (e_pick_t rfl rfl) <| oM rfl <| oS <| oS <| oX (e_pick_t rfl rfl) <| oN <| c_then rfl <| cR <| oA rfl <| oN <| c_ret ?_
            refine r_fn1 results3 rfl ?_
            rfl
          · skip
            have ht : Tidy x := by simpa using h5
            refine oM rfl <| oX (e_eql rfl rfl) <| oX (e_pick_f rfl rfl) <| oM rfl ?_
            refine o_splitp 42 rfl (fun h6 => ?_) (fun h6 => ?_)
            · refine oS <| oS <| oX (e_pick_t rfl rfl) <| oN <| c_then rfl <| cR <| oA rfl <| oN <| c_ret ?_
              refine r_fn1 results3 rfl ?_
              rfl
            · skip
              refine oM rfl <| oX (e_gtr rfl rfl) <| oX (e_pick_f rfl rfl) <| oN ?_
              refine c_ifp rfl (fun h7 => ?_) (fun h7 => ?_)
              · refine cR <| oA rfl <| oN <| c_ret ?_
                refine r_fn1 results3 rfl ?_
                rfl
              · skip
                have hal := hal h100 hd hk ht (by omega)
                refine c_skip <| n_code <| cR <| oM rfl <| oM rfl ?_
                refine oX (e_loada isAgg25 sizeOf25 rfl (.inl M0) (by first | assumption | repeat constructor)) ?_
                refine o_l rfl (l_call call13 (hof (by omega)) rfl rfl .nil) ?_
                rintro ⟨r, HW⟩ ⟨xs, how⟩
                obtain ⟨AW, cW, rfl, hw1, hw2⟩ := how.shape
                refine o_perm List.perm_append_comm ?_
                simp only [List.cons_append, List.nil_append]
                refine oA rfl <| oN <| c_seq <| c_regiond ([(g6, C [.int .u64 x.v, .int .u64 x.c, .int .u64 x.h, S x.d] 25)]) (by kernel_rfl) (.cons_cons _ (List.nil_sublist _)) <| dX 0 rfl (e_move rfl) <| dX 1 rfl (e_move rfl) ?_
                refine dX 3 rfl (e_loada isAgg25 sizeOf25 rfl (.inl M0) (by first | assumption | repeat constructor)) ?_
                refine dX 4 rfl (e_move rfl) <| dX 5 rfl (e_convn runUnderlying5 runUnderlying3 rfl (by simp only [inR]; omega)) ?_
                refine d_l 2 (by kernel_rfl) rfl rfl (l_call call15 (indexBytes_is h h100 hd hk) rfl rfl .nil) (by rintro ⟨r, H'⟩ ⟨rfl, rfl⟩ p hp; rcases List.mem_singleton.1 hp with rfl; exact .head _) ?_
                rintro ⟨r, H'⟩ ⟨rfl, rfl⟩
                simp only [List.nil_append]
                refine d_l 6 (by kernel_rfl) rfl rfl (l_call call14 (hal most (by omega)) rfl rfl .nil) (by rintro ⟨r, H'⟩ _ p hp; rcases List.mem_singleton.1 hp with rfl; exact List.mem_append_right _ (.head _)) ?_
                rintro ⟨r, HG⟩ ⟨vg, rfl, hog⟩
                obtain ⟨AG, cG, rfl, hg1, hg2⟩ := hog.shape
                refine dX 7 rfl (e_move rfl) <| dX 8 rfl (e_extract rfl rfl) <| dX 9 rfl (e_extract rfl rfl) <| dX 10 rfl (e_assign rfl) <| dX 11 rfl (e_assign rfl) <| dN <| n_code <| c_seq <| c_regiond ([(g6, C [.int .u64 x.v, .int .u64 x.c, .int .u64 x.h, S x.d] 25)]) (by kernel_rfl) (List.sublist_append_of_sublist_right (.cons_cons _ (List.nil_sublist _))) <| dX 0 rfl (e_move rfl) <| dX 1 rfl (e_move rfl) ?_
                refine dX 3 rfl (e_loada isAgg25 sizeOf25 rfl (.inl M0) (by first | assumption | repeat constructor)) ?_
                refine d_l 2 (by kernel_rfl) rfl rfl (l_call call15 (indexBytes_is h h100 hd hk) rfl rfl .nil) (by rintro ⟨r, H'⟩ ⟨rfl, rfl⟩ p hp; rcases List.mem_singleton.1 hp with rfl; exact List.mem_append_right _ (List.mem_append_right _ (.head _))) ?_
                rintro ⟨r, H'⟩ ⟨rfl, rfl⟩
                simp only [List.nil_append]
                refine d_l 4 (by kernel_rfl) rfl rfl (l_call call14 (hal 1000 (by omega)) rfl rfl .nil) (by rintro ⟨r, H'⟩ _ p hp; rcases List.mem_singleton.1 hp with rfl; exact List.mem_append_right _ (List.mem_append_right _ (.head _))) ?_
                rintro ⟨r, HA⟩ ⟨va, rfl, hoa⟩
                obtain ⟨AA, cA, rfl, ha1, ha2⟩ := hoa.shape
                refine dX 5 rfl (e_move rfl) <| dX 6 rfl (e_extract rfl rfl) <| dX 7 rfl (e_extract rfl rfl) <| dX 8 rfl (e_assign rfl) <| dX 9 rfl (e_assign rfl) <| dN <| n_code <| cR <| oM rfl <| oX (e_convn runUnderlying5 runUnderlying3 rfl (by simp only [inR]; omega)) <| oM rfl <| oX (e_lenl runUnderlying29 rfl) <| oX (e_minN rfl rfl) ?_
                have hTL := told_len l hk x
                have hT100 : (told l kind x).length ≤ 100 := by rw [hTL]; exact Nat.le_trans (List.length_filter_le _ _) h100
                generalize told l kind x = T at *
                have e1000 : T.take 1000 = T := List.take_of_length_le (by omega)
                have emin : T.take (min most T.length) = T.take most := by
                  by_cases hc : most ≤ T.length
                  · rw [Nat.min_eq_left hc]
                  · rw [Nat.min_eq_right (by omega), List.take_of_length_le (by omega : T.length ≤ most), List.take_length]
                rw [e1000] at hoa ha1 ⊢
                rw [← hTL] at how ⊢
                have hgl : (T.take most).length = min most T.length := List.length_take
                rw [hgl] at hog hg1 ⊢
                have hb0 : (decide (((if T = [] then (1 : Int) else 0)) = 0) == decide ((0 : Int) < (T.length : Nat))) = true := by cases T <;> simp
                refine oA rfl <| oN <| cR <| oM rfl <| oX (e_eql rfl rfl) <| oM rfl <| oX (e_lenl runUnderlying29 rfl) <| oX (e_gtr rfl rfl) <| oX (e_beq runUnderlying4 rfl rfl) <| oM rfl ?_
                refine o_split 79 rfl (fun h8 => ?_) (fun h8 => ?_)
                · refine oM rfl <| oX (e_lenl runUnderlying29 rfl) <| oM rfl <| oX (e_eql rfl rfl) <| oX (e_pick_t rfl rfl) <| oM rfl ?_
                  refine o_splitp 85 rfl (fun h9 => ?_) (fun h9 => ?_)
                  · refine oM rfl <| oX (e_lenl runUnderlying29 rfl) <| oM rfl <| oX (e_lenl runUnderlying29 rfl) <| oX (e_eql rfl rfl) <| oX (e_pick_t rfl rfl) <| oM rfl ?_
                    refine o_splitp 92 rfl (fun h10 => ?_) (fun h10 => ?_)
                    · refine oM rfl <| oM rfl <| oM rfl <| oX (e_sl_h runUnderlying29 sizeOf23 rfl rfl (by omega) (by omega)) ?_
                      refine o_l rfl (l_callj (HJ := HA ++ (HG ++ ((g6, C [.int .u64 x.v, .int .u64 x.c, .int .u64 x.h, S x.d] 25) :: HW))) call16 (ixSame_is (os := T.take most) (by have := US.of (G := G ++ (HA ++ (HG ++ ((g6, C [.int .u64 x.v, .int .u64 x.c, .int .u64 x.h, S x.d] 25) :: HW)))) hog (fun p hp => List.mem_append_right _ (List.mem_append_right _ (List.mem_append_left _ hp))) (Nat.le_refl _) hgl; rwa [List.take_take, Nat.min_eq_left (Nat.min_le_left _ _), emin] at this) (by have := US.of (G := G ++ (HA ++ (HG ++ ((g6, C [.int .u64 x.v, .int .u64 x.c, .int .u64 x.h, S x.d] 25) :: HW)))) (k := min most T.length) hoa (fun p hp => List.mem_append_right _ (List.mem_append_left _ hp)) (Nat.min_le_right _ _) rfl; rwa [emin] at this) (by rw [hgl]; omega)) rfl rfl .nil (fun p hp => hp)) ?_
                      rintro ⟨r, H'⟩ ⟨rfl, rfl⟩
                      simp only [List.nil_append]
                      refine oX (e_pick_t rfl rfl) <| oM rfl ?_
                      refine o_split 99 rfl (fun h11 => ?_) (fun h11 => ?_)
                      · refine oM rfl ?_
                        refine o_l rfl (l_call call17 (hone kind hk) rfl rfl .nil) ?_
                        rintro ⟨r, H'⟩ ⟨rfl, rfl⟩
                        simp only [List.nil_append]
                        refine oX (e_pick_t rfl rfl) <| oA rfl <| oN <| c_ret ?_
                        refine r_fn1 results3 rfl ?_
                        rfl
                      · cases h11
                    · exact absurd rfl h10
                  · exact absurd rfl h9
                · rw [hb0] at h8
                  cases h8
end Go.Proofs

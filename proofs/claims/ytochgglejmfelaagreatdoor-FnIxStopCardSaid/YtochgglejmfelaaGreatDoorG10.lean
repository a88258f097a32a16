/- A bucket's search; A bucket's offsets told; An index, read; The offsets of an identifier told: of an index by widths, of one by codes and widths; The offsets of an identifier told, of an index by codes and widths; Widths and codes stand in order; impl.IxAll of an index. (A part of the proof of this: for every input laws.FnIxStop returns true and its arguments read as they did, the listed package variables being what the program lays.) -/
import Derived.Test.YtochgglejmfelaaGreatDoorG02
import Derived.Test.YtochgglejmfelaaGreatDoorG09
import Derived.Test.YtochgglejmfelaaGreatDoorG04
import Derived.Test.YtochgglejmfelaaGreatDoorG08
namespace Go.Proofs
open Go Go.Sl Tryz
set_option maxRecDepth 100000
set_option maxHeartbeats 1000000
/-- A bucket in memory. -/
structure Bkt (G : HP) (gS gi n : Nat) (fs : List En) : Prop where
  hS : (gS, C [.int .u32 (n + 8 : Nat), .int .u64 fs.length, .slice (some ⟨gi, 0, none⟩) (fs.length * (n + 8)) (fs.length * (n + 8))] 448) ∈ G
  hi : (gi, C (B (rws fs)) 5) ∈ G
  hd : ∀ x ∈ fs, x.d.length = n
  hn : n ≤ 1000
  hl : fs.length ≤ 1000
theorem Bkt.mono {G G' : HP} {gS gi n : Nat} {fs : List En} (h : Bkt G gS gi n fs) (hs : ∀ p ∈ G, p ∈ G') : Bkt G' gS gi n fs := ⟨hs _ h.hS, hs _ h.hi, h.hd, h.hn, h.hl⟩
section
variable {G : HP} {gS gi n i c : Nat} {fs : List En} {d : List UInt8} {A : Option Addr}
theorem Bkt.mul (h : Bkt G gS gi n fs) (hi : i ≤ fs.length) : i * (n + 8) ≤ 1008000 := by
  have h1 : i * (n + 8) ≤ 1000 * 1008 := Nat.mul_le_mul (by have := h.hl; omega) (by have := h.hn; omega)
  omega
theorem Bkt.row (h : Bkt G gS gi n fs) (hi : i < fs.length) : BS G (.slice (some ⟨gi, i * (n + 8), none⟩) n (fs.length * (n + 8) - i * (n + 8))) fs[i].d := by
  have h1 : (i + 1) * (n + 8) ≤ fs.length * (n + 8) := Nat.mul_le_mul_right _ hi
  have h2 := h.mul (i := fs.length) (Nat.le_refl _)
  rw [Nat.succ_mul] at h1
  exact .blk h.hi (row_cut h.hd hi).1 (by omega) (by omega)
theorem swless_is (hb : Bkt G gS gi n fs) (hd : BS G (.slice A d.length c) d) (hi : i < fs.length) : CtrP Tryz.prog 335 [.pointer (some ⟨gS, 0, none⟩), .int .i64 i, .slice A d.length c] G (.bool (!Op.bytesLess fs[i].d d)) := by
  have hS := hb.hS
  have hn := hb.hn
  have hl := hb.hl
  have m1 := hb.mul (i := i) (by omega)
  have m2 := hb.mul (i := i + 1) (by omega)
  have m3 := hb.mul (i := fs.length) (Nat.le_refl _)
  have m4 : (i + 1) * (n + 8) = i * (n + 8) + (n + 8) := Nat.succ_mul _ _
  have m5 : (i + 1) * (n + 8) ≤ fs.length * (n + 8) := Nat.mul_le_mul_right _ hi
  have hcmp := compare_is hd (hb.row hi)
  have hle := cmp_le d fs[i].d
  refine fn_enter 32 func335 rfl ntmps335 rfl ?_
  intro w0
  refine cR <| oA rfl <| oN <| c_seq <| cQ <| qM rfl <| qX (e_sl_n runUnderlying72 sizeOf5 rfl) <| qM rfl <| qC rfl <| qX (e_fak 2 runUnderlying448 rfl sizeOf72 rfl rfl rfl) ?_
  refine qX (e_load isAgg72 rfl (.inr (by assumption)) rfl) ?_
  refine qM rfl <| qM rfl <| qC rfl <| qX (e_fak 0 runUnderlying448 rfl sizeOf212 rfl rfl rfl) ?_
  refine qX (e_load isAgg212 rfl (.inr (by assumption)) rfl) ?_
  refine qX (e_convn runUnderlying212 runUnderlying3 rfl (by simp only [inR]; omega)) <| qX (e_mulN rfl rfl (by omega)) <| qM rfl <| qX (e_addn rfl rfl (by simp only [inR]; omega)) <| qM rfl <| qC rfl <| qX (e_fak 0 runUnderlying448 rfl sizeOf212 rfl rfl rfl) ?_
  refine qX (e_load isAgg212 rfl (.inr (by assumption)) rfl) ?_
  refine qX (e_convn runUnderlying212 runUnderlying3 rfl (by simp only [inR]; omega)) ?_
  refine qX (e_as (r := .int .i64 ((i * (n + 8) + (n + 8) : Nat) : Int)) (e_mulN (m := i + 1) (n := n + 8) rfl rfl (by omega)) (by rw [m4])) ?_
  refine qX (e_subn rfl rfl (by simp only [inR]; omega)) ?_
  refine qX (e_as (r := .slice (some ⟨gi, i * (n + 8), none⟩) n (fs.length * (n + 8) - i * (n + 8))) (e_sl_lh runUnderlying72 sizeOf5 rfl rfl rfl (by omega) (by omega) (by omega) (by omega)) (by simp only [Int.toNat_natCast, Nat.zero_add, Nat.mul_one]; rw [show (((i * (n + 8) + (n + 8) : Nat) : Int) - 8).toNat - i * (n + 8) = n by omega])) ?_
  refine q_pure rfl call342 hcmp rfl rfl <| qX (e_leq rfl rfl) <| qA rfl <| qN <| c_ret ?_
  refine r_fn1 results335 rfl ?_
  refine ⟨congrArg Value.bool ?_, rfl⟩
  cases hbl : Op.bytesLess fs[i].d d with
  | true => exact decide_eq_false fun h => by have := hle.1 h; rw [hbl] at this; cases this
  | false => exact decide_eq_true (hle.2 hbl)
theorem clo_is {g3 g4 : Nat} (h3 : (g3, C [.pointer (some ⟨gS, 0, none⟩)] 464) ∈ G) (h4 : (g4, C [.slice A d.length c] 72) ∈ G) (hb : Bkt G gS gi n fs) (hd : BS G (.slice A d.length c) d) (hi : i < fs.length) :
    CtrP Tryz.prog 334 [.int .i64 i, .pointer (some ⟨g3, 0, none⟩), .pointer (some ⟨g4, 0, none⟩)] G (.bool (!Op.bytesLess fs[i].d d)) := by
  have hl := swless_is hb hd hi
  refine fn_enter 9 func334 rfl ntmps334 rfl ?_
  intro w0
  refine cR <| oA rfl <| oN <| cR ?_
  refine oX (e_load isAgg464 rfl (.inr (by assumption)) rfl) ?_
  refine oM rfl ?_
  refine oX (e_load isAgg72 rfl (.inr (by assumption)) rfl) ?_
  refine o_l rfl (l_call call335 hl rfl rfl .nil) ?_
  rintro ⟨r, H'⟩ ⟨rfl, rfl⟩
  simp only [List.nil_append]
  refine oA rfl <| oN <| c_ret ?_
  refine r_fn1 results334 rfl ?_
  exact ⟨rfl, rfl⟩
theorem blA_of {i : Nat} (hi : i < fs.length) : blA fs d i = Op.bytesLess fs[i].d d := by simp [blA, hi]
theorem bsch_step {p : Nat → Bool} {i j : Nat} (h : i < j) : bsch p (j - i) i j = if p ((i + j) / 2) then bsch p (j - ((i + j) / 2 + 1)) ((i + j) / 2 + 1) j else bsch p ((i + j) / 2 - i) i ((i + j) / 2) := by
  obtain ⟨f, hf⟩ : ∃ f, j - i = f + 1 := ⟨j - i - 1, by omega⟩
  rw [hf]
  simp only [bsch]
  rw [if_pos h]
  split
  · exact bsch_fuel p _ _ _ _ (by omega) (by omega)
  · exact bsch_fuel p _ _ _ _ (by omega) (by omega)
theorem search_is {g3 g4 : Nat} (h3 : (g3, C [.pointer (some ⟨gS, 0, none⟩)] 464) ∈ G) (h4 : (g4, C [.slice A d.length c] 72) ∈ G) (hb : Bkt G gS gi n fs) (hd : BS G (.slice A d.length c) d) :
    CtrP Tryz.prog 333 [.int .i64 fs.length, .func (.func 334) #[] #[.pointer (some ⟨g3, 0, none⟩), .pointer (some ⟨g4, 0, none⟩)]] G (.int .i64 (bsch (blA fs d) fs.length 0 fs.length : Nat)) := by
  have hl := hb.hl
  refine fn_enter 26 func333 rfl ntmps333 rfl ?_
  intro w0
  refine cR <| oA rfl <| oN <| cR <| oM rfl <| oA rfl <| oA rfl <| oN <| c_seq <| c_block ?_
  refine c_loop (X := Nat × Nat) (fun y => [(1, .func (.func 334) #[] #[.pointer (some ⟨g3, 0, none⟩), .pointer (some ⟨g4, 0, none⟩)]), (5, .int .i64 y.1), (6, .int .i64 y.2)]) (fun _ => []) (fun y => y.1 ≤ y.2 ∧ y.2 ≤ fs.length ∧ bsch (blA fs d) (y.2 - y.1) y.1 y.2 = bsch (blA fs d) fs.length 0 fs.length) (fun y => y.2 - y.1) (0, fs.length) ⟨Nat.zero_le _, Nat.le_refl _, rfl⟩ (sub_cons rfl (sub_cons rfl (sub_cons rfl sub_nil))) (.refl _) ?_
  rintro ⟨i, j⟩ ⟨h5, h6, h7⟩
  simp only at h5 h6 h7 ⊢
  refine c_seq <| cR <| oM rfl <| oM rfl <| oX (e_lss rfl rfl) <| oN ?_
  refine c_ifp rfl (fun h1 => ?_) (fun h1 => ?_)
  · have hij : i < j := by omega
    have hm : (i + j) / 2 < fs.length := by omega
    have hc := clo_is h3 h4 hb hd hm
    rw [bsch_step hij] at h7
    rw [← blA_of (d := d) hm] at hc
    refine c_skip <| n_code <| c_block <| cR <| oM rfl <| oM rfl <| oX (e_addN rfl rfl (by omega)) <| oX (e_convn runUnderlying3 runUnderlying131 rfl (by simp only [inR]; omega)) <| oX (e_half rfl rfl) <| oX (e_convn runUnderlying131 runUnderlying3 rfl (by simp only [inR]; omega)) <| oA rfl <| oN <| cR <| oM rfl <| oM rfl ?_
    refine o_l rfl (l_callcq (HI := []) (HJ := []) call334 (by simpa using hc) rfl rfl rfl rfl .nil (by simp)) ?_
    rintro ⟨r, H'⟩ ⟨rfl, rfl⟩
    simp only [List.nil_append]
    refine oX (e_not rfl) <| oN ?_
    refine c_if rfl (fun h8 => ?_) (fun h8 => ?_)
    · rw [if_pos (by simpa using h8)] at h7
      refine c_region <| oM rfl <| oX (e_addn rfl rfl (by simp only [inR]; omega)) <| oA rfl <| o_nil <| n_block ?_
      refine n_round' (y := (i, j)) ((i + j) / 2 + 1, j) (by show j - ((i + j) / 2 + 1) < j - i; omega) ⟨by show (i + j) / 2 + 1 ≤ j; omega, h6, h7⟩ (sub_cons rfl (sub_cons rfl (sub_cons rfl sub_nil))) _ (.refl _) (List.nil_sublist _)
    · rw [if_neg (by simpa using h8)] at h7
      refine c_region <| oM rfl <| oA rfl <| o_nil <| n_block ?_
      refine n_round' (y := (i, j)) (i, (i + j) / 2) (by show (i + j) / 2 - i < j - i; omega) ⟨by show i ≤ (i + j) / 2; omega, by show (i + j) / 2 ≤ fs.length; omega, h7⟩ (sub_cons rfl (sub_cons rfl (sub_cons rfl sub_nil))) _ (.refl _) (List.nil_sublist _)
  · skip
    have e : i = j := by omega
    subst e
    refine c_exit ?_; refine x_code ?_; refine x_upto ?_; refine x_here ?_
    refine n_code <| cR <| oM rfl <| oA rfl <| oN <| c_ret ?_
    refine r_fn1 results333 rfl ?_
    refine ⟨congrArg (fun z : Nat => Value.int .i64 z) ?_, rfl⟩
    rw [← h7, Nat.sub_self]
    rfl
end
end Go.Proofs
namespace Go.Proofs
open Go Go.Sl Tryz
set_option maxRecDepth 100000
set_option maxHeartbeats 1000000
section
variable {G HB : HP} {g off cap k gO gM gS gi n c most : Nat} {l : List Value} {e : TypeId} {fr : Nat × Nat} {v : Value} {os : List Int} {o : Int} {fs : List En} {d : List UInt8} {A : Option Addr}
theorem u64g_is {v : Value} {b0 b1 b2 b3 b4 b5 b6 b7 : UInt8} (hm : (g, .cells l.toArray e fr) ∈ G) (hcut : CutL l off 8 (B [b0, b1, b2, b3, b4, b5, b6, b7])) : CtrP Tryz.prog 214 [v, .slice (some ⟨g, off, none⟩) 8 cap] G (.int .u64 (le [b0, b1, b2, b3, b4, b5, b6, b7] : Nat)) := by
  have h0 := b0.toNat_lt
  have h1 := b1.toNat_lt
  have h2 := b2.toNat_lt
  have h3 := b3.toNat_lt
  have h4 := b4.toNat_lt
  have h5 := b5.toNat_lt
  have h6 := b6.toNat_lt
  have h7 := b7.toNat_lt
  have c0 := byte_at (i := 0) hcut rfl rfl
  have c1 := byte_at (i := 1) hcut rfl rfl
  have c2 := byte_at (i := 2) hcut rfl rfl
  have c3 := byte_at (i := 3) hcut rfl rfl
  have c4 := byte_at (i := 4) hcut rfl rfl
  have c5 := byte_at (i := 5) hcut rfl rfl
  have c6 := byte_at (i := 6) hcut rfl rfl
  have c7 := byte_at (i := 7) hcut rfl rfl
  refine fn_enter 54 func214 rfl ntmps214 rfl ?_
  intro w0
  refine cR ?_
  refine o_l rfl (l_box rfl rfl rfl) ?_; intro g2 _
  refine oA rfl <| oN <| cR <| oM rfl <| oX (e_ia runUnderlying72 sizeOf5 rfl rfl (by omega) (by omega)) ?_
  refine oX (e_load isAgg5 rfl (.inr (by assumption)) (by assumption)) ?_
  refine oN <| c_seq <| cQ <| qM rfl <| qX (e_ia runUnderlying72 sizeOf5 rfl rfl (by omega) (by omega)) ?_
  refine qX (e_load isAgg5 rfl (.inr (by assumption)) (by assumption)) ?_
  refine qX (e_convn runUnderlying5 runUnderlying23 rfl (by simp only [inR]; omega)) <| qM rfl <| qX (e_ia runUnderlying72 sizeOf5 rfl rfl (by omega) (by omega)) ?_
  refine qX (e_load isAgg5 rfl (.inr (by assumption)) (by assumption)) ?_
  refine qX (e_convn runUnderlying5 runUnderlying23 rfl (by simp only [inR]; omega)) <| qX (e_shl rfl rfl (by omega)) <| qX (e_or rfl rfl) <| qM rfl <| qX (e_ia runUnderlying72 sizeOf5 rfl rfl (by omega) (by omega)) ?_
  refine qX (e_load isAgg5 rfl (.inr (by assumption)) (by assumption)) ?_
  refine qX (e_convn runUnderlying5 runUnderlying23 rfl (by simp only [inR]; omega)) <| qX (e_shl rfl rfl (by omega)) <| qX (e_or rfl rfl) <| qM rfl <| qX (e_ia runUnderlying72 sizeOf5 rfl rfl (by omega) (by omega)) ?_
  refine qX (e_load isAgg5 rfl (.inr (by assumption)) (by assumption)) ?_
  refine qX (e_convn runUnderlying5 runUnderlying23 rfl (by simp only [inR]; omega)) <| qX (e_shl rfl rfl (by omega)) <| qX (e_or rfl rfl) <| qM rfl <| qX (e_ia runUnderlying72 sizeOf5 rfl rfl (by omega) (by omega)) ?_
  refine qX (e_load isAgg5 rfl (.inr (by assumption)) (by assumption)) ?_
  refine qX (e_convn runUnderlying5 runUnderlying23 rfl (by simp only [inR]; omega)) <| qX (e_shl rfl rfl (by omega)) <| qX (e_or rfl rfl) <| qM rfl <| qX (e_ia runUnderlying72 sizeOf5 rfl rfl (by omega) (by omega)) ?_
  refine qX (e_load isAgg5 rfl (.inr (by assumption)) (by assumption)) ?_
  refine qX (e_convn runUnderlying5 runUnderlying23 rfl (by simp only [inR]; omega)) <| qX (e_shl rfl rfl (by omega)) <| qX (e_or rfl rfl) <| qM rfl <| qX (e_ia runUnderlying72 sizeOf5 rfl rfl (by omega) (by omega)) ?_
  refine qX (e_load isAgg5 rfl (.inr (by assumption)) (by assumption)) ?_
  refine qX (e_convn runUnderlying5 runUnderlying23 rfl (by simp only [inR]; omega)) <| qX (e_shl rfl rfl (by omega)) <| qX (e_or rfl rfl) <| qM rfl <| qX (e_ia runUnderlying72 sizeOf5 rfl rfl (by omega) (by omega)) ?_
  refine qX (e_load isAgg5 rfl (.inr (by assumption)) (by assumption)) ?_
  refine qX (e_convn runUnderlying5 runUnderlying23 rfl (by simp only [inR]; omega)) <| qX (e_shl rfl rfl (by omega)) <| qX (e_or rfl rfl) <| qA rfl <| qN <| c_ret ?_
  refine WR.less (fun _ _ h => h) (List.nil_sublist _) ?_
  refine r_fn1 results214 rfl ?_
  refine ⟨?_, rfl⟩
  show Value.int _ _ = Value.int _ _
  congr 1
  rw [or_sh rfl 8 8 rfl (by decide) (by omega) (by show _ < 2 ^ 64; omega), or_sh rfl 16 16 rfl (by decide) (by omega) (by show _ < 2 ^ 64; omega), or_sh rfl 24 24 rfl (by decide) (by omega) (by show _ < 2 ^ 64; omega), or_sh rfl 32 32 rfl (by decide) (by omega) (by show _ < 2 ^ 64; omega), or_sh rfl 40 40 rfl (by decide) (by omega) (by show _ < 2 ^ 64; omega), or_sh rfl 48 48 rfl (by decide) (by omega) (by show _ < 2 ^ 64; omega), or_sh rfl 56 56 rfl (by decide) (by omega) (by show _ < 2 ^ 64; omega)]
  simp only [le]
  omega
theorem tell_is (ho : Osl 23 1 v k (V .u64 os) HB) (hk : k ≤ 100000) (hM : (gM, C [.int .i64 (most : Nat)] 3) ∈ G) :
    Ctr Tryz.prog 69 [.int .u64 o, .pointer (some ⟨gO, 0, none⟩), .pointer (some ⟨gM, 0, none⟩)] G ((gO, C [v] 29) :: HB) (fun r H' => ∃ (v' : Value) (HB' : HP), r = .bool (decide (k + 1 < most)) ∧ Osl 23 1 v' (k + 1) (V .u64 (os ++ [o])) HB' ∧ H' = (gO, C [v'] 29) :: HB') := by
  refine fn_enter 13 func69 rfl ntmps69 rfl ?_
  intro w0
  refine cR <| oA rfl <| oN <| cR <| oX (e_load isAgg29 rfl (.inl M0) rfl) <| oM rfl ?_
  refine o_l rfl (l_bs1 runUnderlying29 sizeOf23 zeroValue23 rfl rfl rfl) ?_; intro g7 _
  refine o_l rfl (l_append (sz := 1) underlying29 (info_of typeInfo23) rfl rfl rfl rfl rfl rfl ho (List.perm_append_comm (l₁ := [_, _])) (.blk (vs := [.int .u64 o]) underlying29 (.inl M0) (.take .done) (by simp [Value.oneCell'])) (by show (k + 1) * 8 ≤ _; omega) (by omega)) ?_
  rintro ⟨v2, HB2⟩ ho2
  simp only at ho2 ⊢
  refine o_perm (List.perm_append_comm (l₂ := [_, _])) ?_
  simp only [List.cons_append, List.nil_append]
  have h1c : v2.oneCell' = true := ho2.one
  refine o_l rfl (l_store sizeOf29 rfl rfl h1c (.tail .head) (.head) nofr0) ?_
  intro _ _
  refine oN <| cR ?_
  refine oX (e_load isAgg29 rfl (by first | exact .inr (by assumption) | exact .inl (by repeat (first | exact List.Mem.head _ | refine List.Mem.tail _ ?_))) rfl) ?_
  refine oX (e_lenO runUnderlying29 (by assumption) rfl) ?_
  refine oX (e_load isAgg3 rfl (.inr (by assumption)) rfl) ?_
  refine oX (e_lss rfl rfl) <| oA rfl <| oN <| c_ret ?_
  refine WR.sel (.cons (.tail .head) (by simpa using Sel.mid [_] HB2 [])) ?_
  refine r_fn1 results69 rfl ?_
  refine ⟨v2, HB2, congrArg Value.bool (decide_eq_decide.2 (by omega)), ?_, rfl⟩
  simpa [V] using ho2
theorem getAll_is {gN : Addr} {t4 : List Value} {e4 : TypeId} {f4 : Nat × Nat} (hb : Bkt G gS gi n fs) (ha : Asc fs) (hf : ∀ x ∈ fs, 0 ≤ x.o ∧ x.o < 18446744073709551616) (hd : BS G (.slice A d.length c) d) (hM : (gM, C [.int .i64 (most : Nat)] 3) ∈ G) (hm0 : 0 < most) (hN : (4, Obj.cells (EV gN :: t4).toArray e4 f4) ∈ G) :
    Ctr Tryz.prog 323 [.pointer (some ⟨gS, 0, none⟩), .slice A d.length c, .func (.func 69) #[] #[.pointer (some ⟨gO, 0, none⟩), .pointer (some ⟨gM, 0, none⟩)]] G [(gO, C [.slice none 0 0] 29)]
      (fun r H' => ∃ (v' : Value) (HB' : HP), r = (if run fs d = [] then EV gN else .nilIface) ∧ Osl 23 1 v' (((run fs d).map (·.o)).take most).length (V .u64 (((run fs d).map (·.o)).take most)) HB' ∧ H' = (gO, C [v'] 29) :: HB') := by
  have hl := hb.hl
  have hS := hb.hS
  have hn := hb.hn
  obtain ⟨hr1, hr2, hr3⟩ := lb_low (d := d) ha rfl
  refine fn_enter 72 func323 rfl ntmps323 rfl ?_
  intro w0
  refine cR ?_
  refine o_l rfl (l_box rfl rfl rfl) ?_; intro g3 _
  refine o_l rfl (l_box rfl rfl rfl) ?_; intro g4 _
  refine oA rfl <| oN <| cR ?_
  refine oX (e_load isAgg464 rfl (by first | exact .inr (by assumption) | exact .inl (by repeat (first | exact List.Mem.head _ | refine List.Mem.tail _ ?_))) rfl) ?_
  refine oC rfl <| oX (e_fak 1 runUnderlying448 rfl sizeOf23 rfl rfl rfl) ?_
  refine oX (e_load isAgg23 rfl (.inr (by assumption)) rfl) ?_
  refine oX (e_convn runUnderlying23 runUnderlying3 rfl (by simp only [inR]; omega)) <| oX (e_func rfl rfl) ?_
  refine o_l rfl (l_callj (HJ := [(g3, C [.pointer (some ⟨gS, 0, none⟩)] 464), (g4, C [.slice A d.length c] 72)]) call333 (search_is (g3 := g3) (g4 := g4) (by simp) (by simp) (hb.mono fun p hp => List.mem_append_left _ hp) (hd.mono fun p hp => List.mem_append_left _ hp)) rfl rfl .nil (by simp)) ?_
  rintro ⟨r, H'⟩ ⟨rfl, rfl⟩
  simp only [List.nil_append]
  obtain ⟨r, hr⟩ : ∃ r, r = bsch (blA fs d) fs.length 0 fs.length := ⟨_, rfl⟩
  rw [← hr] at hr1 ⊢
  have hst := fun {j : Nat} (hj : j ≤ (run fs d).length) => run_step hr hj
  have hrl : (run fs d).length ≤ fs.length := by
    have := (List.takeWhile_sublist (fun x : En => decide (x.d = d)) (l := fs.drop (bsch (blA fs d) fs.length 0 fs.length))).length_le
    rw [List.length_drop] at this
    have e : run fs d = (fs.drop (bsch (blA fs d) fs.length 0 fs.length)).takeWhile fun x => decide (x.d = d) := rfl
    rw [e]; omega
  have hmem : ∀ x ∈ run fs d, x ∈ fs := fun x hx => List.mem_of_mem_drop ((List.takeWhile_sublist _).subset hx)
  clear hr hr2 hr3
  generalize run fs d = T at *
  refine oA rfl <| oN <| cR <| oA rfl <| oN <| c_seq ?_
  refine c_cut (X := Value × HP) (fun _ => [(8, .bool (!T.isEmpty))]) (fun y => (gO, C [y.1] 29) :: y.2) (fun y => Osl 23 1 y.1 ((T.map (·.o)).take most).length (V .u64 ((T.map (·.o)).take most)) y.2) ?_ ?_
  · skip
    refine c_block ?_
    refine c_loop (X := Nat × Value × HP) (fun y => [(2, .func (.func 69) #[] #[.pointer (some ⟨gO, 0, none⟩), .pointer (some ⟨gM, 0, none⟩)]), (3, .pointer (some ⟨g3, 0, none⟩)), (4, .pointer (some ⟨g4, 0, none⟩)), (7, .int .i64 (r + y.1 : Nat)), (8, .bool (decide (0 < y.1)))]) (fun y => (g4, C [.slice A d.length c] 72) :: (g3, C [.pointer (some ⟨gS, 0, none⟩)] 464) :: (gO, C [y.2.1] 29) :: y.2.2) (fun y => y.1 ≤ T.length ∧ y.1 < most ∧ Osl 23 1 y.2.1 y.1 (V .u64 ((T.map (·.o)).take y.1)) y.2.2) (fun y => T.length + 1 - y.1) (0, .slice none 0 0, []) ⟨Nat.zero_le _, hm0, by simpa [V] using Osl.nil⟩ (sub_cons rfl (sub_cons rfl (sub_cons rfl (sub_cons rfl (sub_cons rfl sub_nil))))) (.refl _) ?_
    rintro ⟨j, v, HB⟩ ⟨hj, hjm, ho⟩
    simp only at hj hjm ho ⊢
    obtain ⟨st1, st2⟩ := hst hj
    have fin : T.length = j → (!T.isEmpty) = decide (0 < j) ∧ ((T.map (·.o)).take most) = (T.map (·.o)).take j ∧ ((T.map (·.o)).take most).length = j := by
      intro e
      refine ⟨?_, ?_, ?_⟩
      · subst e; cases T <;> simp
      · rw [List.take_of_length_le (by simp; omega), List.take_of_length_le (by simp; omega)]
      · simp; omega
    refine c_seq <| cR <| oM rfl <| oX (e_convn runUnderlying3 runUnderlying23 rfl (by simp only [inR]; omega)) ?_
    refine oX (e_load isAgg464 rfl (by first | exact .inr (by assumption) | exact .inl (by repeat (first | exact List.Mem.head _ | refine List.Mem.tail _ ?_))) rfl) ?_
    refine oC rfl <| oX (e_fak 1 runUnderlying448 rfl sizeOf23 rfl rfl rfl) ?_
    refine oX (e_load isAgg23 rfl (.inr (by assumption)) rfl) ?_
    refine oX (e_lss rfl rfl) <| oN ?_
    refine c_ifp rfl (fun h1 => ?_) (fun h1 => ?_)
    · have hij : r + j < fs.length := by omega
      obtain ⟨st3, st4⟩ := st2 hij
      have m1 := hb.mul (i := r + j) (by omega)
      have m2 := hb.mul (i := r + j + 1) (by omega)
      have m3 := hb.mul (i := fs.length) (Nat.le_refl _)
      have m4 : (r + j + 1) * (n + 8) = (r + j) * (n + 8) + (n + 8) := Nat.succ_mul _ _
      have m5 : (r + j + 1) * (n + 8) ≤ fs.length * (n + 8) := Nat.mul_le_mul_right _ hij
      have heq := equal_is hd (hb.row hij)
      have hox := hf _ (List.getElem_mem hij)
      have hcut := (row_cut hb.hd hij).2
      have hle8 : le (lowB fs[r + j].o 8) = fs[r + j].o.toNat := by
        obtain ⟨z, hz⟩ := Int.eq_ofNat_of_zero_le hox.1
        rw [hz]; exact le_lowB8 z (by omega)
      have hu : ∀ v : Value, CtrP Tryz.prog 214 [v, .slice (some ⟨gi, (r + j) * (n + 8) + n, none⟩) 8 (fs.length * (n + 8) - ((r + j) * (n + 8) + n))] G (.int .u64 fs[r + j].o) := by
        intro v
        have := u64g_is (cap := fs.length * (n + 8) - ((r + j) * (n + 8) + n)) (v := v) hb.hi hcut
        rw [show fs[r + j].o = ((fs[r + j].o.toNat : Nat) : Int) by omega, ← hle8]
        exact this
      generalize hx : fs[r + j] = x at *
      refine c_skip <| n_code <| c_seq <| c_block <| cR <| oM rfl ?_
      refine oX (e_load isAgg464 rfl (by first | exact .inr (by assumption) | exact .inl (by repeat (first | exact List.Mem.head _ | refine List.Mem.tail _ ?_))) rfl) ?_
      refine oC rfl <| oX (e_fak 0 runUnderlying448 rfl sizeOf212 rfl rfl rfl) ?_
      refine oX (e_load isAgg212 rfl (.inr (by assumption)) rfl) ?_
      refine oX (e_convn runUnderlying212 runUnderlying3 rfl (by simp only [inR]; omega)) <| oX (e_mulN (m := r + j) (n := n + 8) rfl rfl (by omega)) <| oA rfl <| oN <| cR <| oM rfl <| oX (e_addn rfl rfl (by simp only [inR]; omega)) ?_
      refine oX (e_load isAgg464 rfl (by first | exact .inr (by assumption) | exact .inl (by repeat (first | exact List.Mem.head _ | refine List.Mem.tail _ ?_))) rfl) ?_
      refine oC rfl <| oX (e_fak 0 runUnderlying448 rfl sizeOf212 rfl rfl rfl) ?_
      refine oX (e_load isAgg212 rfl (.inr (by assumption)) rfl) ?_
      refine oX (e_convn runUnderlying212 runUnderlying3 rfl (by simp only [inR]; omega)) ?_
      refine oX (e_as (r := .int .i64 (((r + j) * (n + 8) + (n + 8) : Nat) : Int)) (e_mulN (m := r + j + 1) (n := n + 8) rfl rfl (by omega)) (by rw [m4])) ?_
      refine oA rfl <| oN <| cR <| oM rfl <| oX (e_subn rfl rfl (by simp only [inR]; omega)) <| oA rfl <| oN <| c_seq <| cQ <| qX (e_load isAgg72 rfl (.inl M0) rfl) <| qX (e_sl_n runUnderlying72 sizeOf5 rfl) ?_
      refine qX (e_load isAgg464 rfl (by first | exact .inr (by assumption) | exact .inl (by repeat (first | exact List.Mem.head _ | refine List.Mem.tail _ ?_))) rfl) ?_
      refine qC rfl <| qX (e_fak 2 runUnderlying448 rfl sizeOf72 rfl rfl rfl) ?_
      refine qX (e_load isAgg72 rfl (.inr (by assumption)) rfl) ?_
      refine qM rfl <| qM rfl ?_
      refine qX (e_as (r := .slice (some ⟨gi, (r + j) * (n + 8), none⟩) n (fs.length * (n + 8) - (r + j) * (n + 8))) (e_sl_lh runUnderlying72 sizeOf5 rfl rfl rfl (by omega) (by omega) (by omega) (by omega)) (by simp only [Int.toNat_natCast, Nat.zero_add, Nat.mul_one]; rw [show ((((r + j) * (n + 8) + (n + 8) : Nat) : Int) - 8).toNat - (r + j) * (n + 8) = n by omega])) ?_
      refine q_pure rfl call336 heq rfl rfl <| qN ?_
      refine c_ifp rfl (fun h2 => ?_) (fun h2 => ?_)
      · have hT := st3 h2.symm
        have hjT : j < T.length := by
          have := (List.getElem?_eq_some_iff.1 hT).1
          exact this
        have htake : (T.map (·.o)).take (j + 1) = (T.map (·.o)).take j ++ [x.o] := by
          rw [List.take_succ_eq_append_getElem (by simpa using hjT)]
          congr 1
          have := (List.getElem?_eq_some_iff.1 hT).2
          simp [this]
        refine cR <| oA rfl <| oN <| c_seq <| cQ <| qX (e_load0 isAgg294 sizeOf294 rfl) ?_
        refine qX (e_load isAgg464 rfl (by first | exact .inr (by assumption) | exact .inl (by repeat (first | exact List.Mem.head _ | refine List.Mem.tail _ ?_))) rfl) ?_
        refine qC rfl <| qX (e_fak 2 runUnderlying448 rfl sizeOf72 rfl rfl rfl) ?_
        refine qX (e_load isAgg72 rfl (.inr (by assumption)) rfl) ?_
        refine qM rfl <| qM rfl ?_
        refine qX (e_as (r := .slice (some ⟨gi, (r + j) * (n + 8) + n, none⟩) 8 (fs.length * (n + 8) - ((r + j) * (n + 8) + n))) (e_sl_lh runUnderlying72 sizeOf5 rfl rfl rfl (by omega) (by omega) (by omega) (by omega)) (by simp only [Int.toNat_natCast, Nat.zero_add, Nat.mul_one]; rw [show ((((r + j) * (n + 8) + (n + 8) : Nat) : Int) - 8).toNat = (r + j) * (n + 8) + n by omega, show (r + j) * (n + 8) + (n + 8) - ((r + j) * (n + 8) + n) = 8 by omega])) ?_
        refine q_pure rfl call214 (hu _) rfl rfl <| qA rfl <| qN <| cR <| oM rfl <| oM rfl ?_
        refine o_l rfl (l_callcq (HI := (gO, C [v] 29) :: HB) (HJ := []) call69 (by rw [List.append_nil]; exact tell_is (o := x.o) ho (by omega) hM) rfl rfl rfl rfl (.cons (.tail (.tail .head)) (Sel.appR [_, _] HB)) (by simp)) ?_
        rintro ⟨r', H'⟩ ⟨v', HB', rfl, ho', rfl⟩
        simp only [List.cons_append]
        rw [← htake] at ho'
        refine oX (e_not rfl) <| oN ?_
        refine c_if rfl (fun h3 => ?_) (fun h3 => ?_)
        · have e : j + 1 = most := by simp at h3; omega
          have hlen : ((T.map (·.o)).take most).length = j + 1 := by simp; omega
          have hne : (!T.isEmpty) = true := by cases T <;> simp at hjT ⊢
          refine c_exit ?_; refine x_past rfl ?_; refine x_code ?_; refine x_upto ?_; refine x_here ?_
          refine WN.less (fun _ _ h => h) (H' := (gO, C [v'] 29) :: HB') (.cons_cons _ (List.sublist_append_left _ _)) ?_
          exact n_cut (v', HB') (by show Osl 23 1 v' _ _ HB'; rw [hlen, ← e]; exact ho') (sub_cons (by rw [hne]; rfl) sub_nil) (.refl _)
        · skip
          have e : j + 1 < most := by simpa using h3
          refine c_skip <| n_block <| n_code <| c_region <| oM rfl <| oX (e_addn rfl rfl (by simp only [inR]; omega)) <| oA rfl <| o_nil ?_
          refine n_round' (y := (j, v, HB)) (j + 1, v', HB') (by show T.length + 1 - (j + 1) < T.length + 1 - j; omega) ⟨by show j + 1 ≤ T.length; omega, e, ho'⟩ (sub_cons rfl (sub_cons rfl (sub_cons rfl (sub_cons rfl (sub_cons (by show some (Value.bool true) = some (Value.bool (decide (0 < j + 1))); simp) sub_nil))))) ((g4, C [.slice A d.length c] 72) :: (g3, C [.pointer (some ⟨gS, 0, none⟩)] 464) :: (gO, C [v'] 29) :: HB') (by show List.Perm ((gO, C [v'] 29) :: HB' ++ [(g4, C [.slice A d.length c] 72), (g3, C [.pointer (some ⟨gS, 0, none⟩)] 464)]) _; exact List.perm_append_comm) (.refl _)
      · skip
        obtain ⟨f1, f2, f3⟩ := fin (st4 fun e => h2 e.symm)
        refine c_exit ?_; refine x_past rfl ?_; refine x_code ?_; refine x_upto ?_; refine x_here ?_
        refine WN.less (fun _ _ h => h) (H' := (gO, C [v] 29) :: HB) (.cons _ (.cons _ (.refl _))) ?_
        exact n_cut (v, HB) (by show Osl 23 1 v _ _ HB; rw [f3, f2]; exact ho) (sub_cons (by rw [f1]; rfl) sub_nil) (.refl _)
    · skip
      obtain ⟨f1, f2, f3⟩ := fin (st1 (by omega))
      refine c_exit ?_; refine x_code ?_; refine x_upto ?_; refine x_here ?_
      refine WN.less (fun _ _ h => h) (H' := (gO, C [v] 29) :: HB) (.cons _ (.cons _ (.refl _))) ?_
      exact n_cut (v, HB) (by show Osl 23 1 v _ _ HB; rw [f3, f2]; exact ho) (sub_cons (by rw [f1]; rfl) sub_nil) (.refl _)
  · rintro ⟨v, HB⟩ ho
    refine n_code <| c_seq <| cR <| oM rfl <| oX (e_not rfl) <| oN ?_
    refine c_if rfl (fun h5 => ?_) (fun h5 => ?_)
    · have hT : T = [] := by simpa using h5
      refine cR ?_
      refine oX (e_load isAgg80 rfl (.inr (by assumption)) rfl) ?_
      refine oA rfl <| oN <| c_ret ?_
      refine r_fn1 results323 rfl ?_
      exact ⟨v, HB, by rw [if_pos hT], ho, rfl⟩
    · skip
      have hT : T ≠ [] := by intro e; subst e; simp at h5
      refine c_skip <| n_code <| cR <| oA rfl <| oN <| c_ret ?_
      refine r_fn1 results323 rfl ?_
      exact ⟨v, HB, by rw [if_neg hT], ho, rfl⟩
end
end Go.Proofs
namespace Go.Proofs
open Go Go.Sl Tryz
set_option maxRecDepth 100000
set_option maxHeartbeats 1000000
/-- A read index: its value, its memory. -/
inductive IxMem (l : List En) : Int → Value → HP → Prop where
  | s {gm gx : Nat} {ts : List Mpart} (h : ts.map (·.2) = parts l) : IxMem l 1024 (.iface 328 (.pointer (some ⟨gm, 0, none⟩))) ((gm, C [.map (some gx)] 327) :: (gx, Mo .u32 (MV ts)) :: MB ts)
  | m {gm gX : Nat} {ms : List Mcode} (h : ms.map Mcode.un = kparts l) : IxMem l 1025 (.iface 237 (.pointer (some ⟨gm, 0, none⟩))) ((gm, C [.map (some gX)] 330) :: (gX, Mo .u64 (KV ms)) :: KB ms)
section
variable {G : HP} {gr gs n cap lo hi : Nat} {bs behind : List UInt8} {rest : List Value} {l : List En} {kind : Int}
theorem from_ok (hD : (gs, DB bs rest lo hi) ∈ G) (hn : bs.length = n) (hc : n ≤ cap) (h63 : cap < 9223372036854775808) (hn40 : n ≤ 1099511627776) (hbs : bs = indexB l kind ++ behind) (hl : l.length ≤ 100) (hf : ∀ x ∈ l, EnFit x) (hd : ∀ x ∈ l, x.d.length ≤ 200) (hk : kind = 1024 ∨ kind = 1025) :
    Ctr Tryz.prog 41 [RV gr] G [(gr, RB gs n cap 0)] (fun r H' => ∃ v H1, r = .tuple #[v, .nilIface] ∧ IxMem l kind v H1 ∧ H' = (gr, RB gs n cap (indexB l kind).length) :: H1) := by
  rcases hk with rfl | rfl
  · have hb : bs = 128 :: 8 :: (bodyB l 1024 ++ behind) := by rw [hbs]; rfl
    have hb2 : bs = [128, 8] ++ (lowB ((parts l).length : Nat) 4 ++ ((parts l).flatMap pbB ++ behind)) := by rw [hb, bodyB_S]; simp
    have hL : (indexB l 1024).length = 2 + 4 + ((parts l).flatMap pbB).length := by
      simp only [indexB, List.length_append, kindB_length, bodyB_S, lowB_length]; omega
    have hr := codec_of (uvar_1024 (gr := gr) (cap := cap) (hb ▸ hD) (hb ▸ hn) (by omega))
    refine fn_enter 31 func41 rfl ntmps41 rfl ?_
    intro w0
    refine cR <| oA rfl <| oA rfl <| oN <| cR <| oM rfl ?_
    refine o_l rfl (l_call call45 hr rfl rfl (.cons .head .nil)) ?_
    rintro ⟨r, H'⟩ ⟨rfl, rfl⟩
    simp only [List.cons_append, List.nil_append]
    refine oM rfl <| oX (e_extract rfl rfl) <| oX (e_extract rfl rfl) <| oA rfl <| oA rfl <| oN <| c_seq <| cR <| oM rfl <| oX (e_nnen runUnderlying80 rfl) <| oN <| cL rfl <| cR <| oM rfl ?_
    refine o_l rfl (l_call call76 new_1024 rfl rfl .nil) ?_
    rintro ⟨r, H'⟩ ⟨gm, gx, rfl, rfl⟩
    simp only [List.cons_append, List.nil_append]
    refine oM rfl <| oX (e_extract rfl rfl) <| oX (e_extract rfl rfl) <| oA rfl <| oA rfl <| oN <| c_seq <| cR <| oM rfl <| oX (e_nnen runUnderlying80 rfl) <| oN <| cL rfl <| c_seq <| cR <| oM rfl <| oM rfl ?_
    refine o_l rfl (l_calli0 call332 (by intro w; kernel_rfl) (mwi_ok (gm := gm) (gx := gx) (em := 327) (zs := []) (i0 := 2) hD hn hc h63 hn40 hb2 rfl (Nat.le_trans parts_len (by omega)) (parts_ok hd) (parts_nodup l)) rfl rfl rfl (.cons (.tail (.tail .head)) (.cons .head (.cons .head .nil)))) ?_
    rintro ⟨r, H'⟩ ⟨rfl, ts, hts, rfl⟩
    simp only [List.cons_append]
    refine oA rfl <| oN <| cR <| oM rfl <| oX (e_nnen runUnderlying80 rfl) <| oN <| cL rfl <| cR <| oM rfl <| oA rfl <| oA rfl <| oN <| c_ret ?_
    refine r_fn (l := [.tmp 2, .tmp 3]) results41 rfl rfl ?_
    exact ⟨_, _, rfl, .s hts, by rw [hL, List.append_nil]⟩
  · have hb : bs = 129 :: 8 :: (bodyB l 1025 ++ behind) := by rw [hbs]; rfl
    have hb2 : bs = [129, 8] ++ (lowB ((kparts l).length : Nat) 4 ++ ((kparts l).flatMap pcB ++ behind)) := by rw [hb, bodyB_M hf]; simp
    have hL : (indexB l 1025).length = 2 + 4 + ((kparts l).flatMap pcB).length := by
      simp only [indexB, List.length_append, kindB_length, bodyB_M hf, lowB_length]; omega
    have hr := codec_of (uvar_1025 (gr := gr) (cap := cap) (hb ▸ hD) (hb ▸ hn) (by omega))
    refine fn_enter 31 func41 rfl ntmps41 rfl ?_
    intro w0
    refine cR <| oA rfl <| oA rfl <| oN <| cR <| oM rfl ?_
    refine o_l rfl (l_call call45 hr rfl rfl (.cons .head .nil)) ?_
    rintro ⟨r, H'⟩ ⟨rfl, rfl⟩
    simp only [List.cons_append, List.nil_append]
    refine oM rfl <| oX (e_extract rfl rfl) <| oX (e_extract rfl rfl) <| oA rfl <| oA rfl <| oN <| c_seq <| cR <| oM rfl <| oX (e_nnen runUnderlying80 rfl) <| oN <| cL rfl <| cR <| oM rfl ?_
    refine o_l rfl (l_call call76 new_1025 rfl rfl .nil) ?_
    rintro ⟨r, H'⟩ ⟨gm, gx, rfl, rfl⟩
    simp only [List.cons_append, List.nil_append]
    refine oM rfl <| oX (e_extract rfl rfl) <| oX (e_extract rfl rfl) <| oA rfl <| oA rfl <| oN <| c_seq <| cR <| oM rfl <| oX (e_nnen runUnderlying80 rfl) <| oN <| cL rfl <| c_seq <| cR <| oM rfl <| oM rfl ?_
    refine o_l rfl (l_calli0 call312 (by intro w; kernel_rfl) (mhi_ok (gh := gm) (gX := gx) (em := 330) (i0 := 2) hD hn hc h63 hn40 hb2 rfl (Nat.le_trans kparts_len (by omega)) (kparts_ok (by omega) hf hd) (kparts_nodup hf)) rfl rfl rfl (.cons (.tail (.tail .head)) (.cons .head (.cons .head .nil)))) ?_
    rintro ⟨r, H'⟩ ⟨rfl, ms, hms, rfl⟩
    simp only [List.cons_append]
    refine oA rfl <| oN <| cR <| oM rfl <| oX (e_nnen runUnderlying80 rfl) <| oN <| cL rfl <| cR <| oM rfl <| oA rfl <| oA rfl <| oN <| c_ret ?_
    refine r_fn (l := [.tmp 2, .tmp 3]) results41 rfl rfl ?_
    exact ⟨_, _, rfl, .m hms, by rw [hL, List.append_nil]⟩
end
end Go.Proofs
namespace Go.Proofs
open Go Go.Sl Tryz
set_option maxRecDepth 100000
set_option maxHeartbeats 1000000
/-- The rows of a width. -/
def wide (l : List En) (n : Nat) : List En := (stable l).filter fun x => decide ((x.d.length : Int) = n)
theorem wide_asc (l : List En) (n : Nat) : Asc (wide l n) := (stable_asc l).sublist List.filter_sublist
theorem wide_len {l : List En} {n : Nat} : ∀ x ∈ wide l n, x.d.length = n := fun x hx => by
  have h1 : ((x.d.length : Nat) : Int) = (n : Nat) := by simpa using (List.mem_filter.1 hx).2
  omega
theorem wide_mem {l : List En} {n : Nat} : ∀ x ∈ wide l n, x ∈ l := fun _ hx => (stable_perm l).mem_iff.1 (List.mem_filter.1 hx).1
theorem wide_le (l : List En) (n : Nat) : (wide l n).length ≤ l.length := by
  rw [← (stable_perm l).length_eq]
  exact List.length_filter_le _ _
/-- How many of a digest. -/
theorem run_count (l : List En) (d : List UInt8) : (run (wide l d.length) d).length = (l.filter fun x => decide (x.d = d)).length := by
  rw [run_filter (wide_asc l d.length), wide, List.filter_filter]
  have e : (fun x : En => decide (x.d = d) && decide ((x.d.length : Int) = d.length)) = fun x : En => decide (x.d = d) := by
    funext x
    by_cases h : x.d = d
    · simp [h]
    · simp [h]
  rw [e]
  exact ((stable_perm l).filter _).length_eq
theorem rws_wide (l : List En) (n : Nat) : rowsB (stable l) n = rws (wide l n) := rfl
theorem mget_MV : ∀ (ts : List Mpart) (w : Nat), (∃ t ∈ ts, t.2.1 = w ∧ mget (MV ts) (w : Nat) = some (.agg #[.int .u32 (w : Nat), .int .u64 (t.2.2.length / w : Nat), .slice (some ⟨t.1, 0, none⟩) t.2.2.length t.2.2.length])) ∨ ((∀ t ∈ ts, t.2.1 ≠ w) ∧ mget (MV ts) (w : Nat) = none)
  | [], w => .inr ⟨(fun _ h => by cases h), rfl⟩
  | t :: ts, w => by
    by_cases h : t.2.1 = w
    · left
      refine ⟨t, .head _, h, ?_⟩
      subst h
      simp [MV, mget]
    · rcases mget_MV ts w with ⟨t', h1, h2, h3⟩ | ⟨h1, h2⟩
      · left
        refine ⟨t', .tail _ h1, h2, ?_⟩
        rw [← h3]
        simp only [MV, List.map_cons, mget]
        rw [if_neg (by omega)]
      · right
        refine ⟨fun t' ht => (List.mem_cons.1 ht).elim (fun e => e.symm ▸ h) (h1 t'), ?_⟩
        rw [← h2]
        simp only [MV, List.map_cons, mget]
        rw [if_neg (by omega)]
section
variable {G : HP} {gm gx gO gM most : Nat} {zs : List Value} {em : TypeId} {ts : List Mpart} {l : List En} {x : En} {gN : Addr} {t4 : List Value} {e4 : TypeId} {f4 : Nat × Nat}
/-- What is told: nothing found, or so many offsets. -/
def Told (gO : Nat) (gN : Addr) (os : List Int) (most : Nat) (r : Value) (H' : HP) : Prop := ∃ (v' : Value) (HB' : HP), r = (if os = [] then EV gN else .nilIface) ∧ Osl 23 1 v' (os.take most).length (V .u64 (os.take most)) HB' ∧ H' = (gO, C [v'] 29) :: HB'
theorem mwiGet_is (hg : (gm, C (.map (some gx) :: zs) em) ∈ G) (hx' : (gx, Mo .u32 (MV ts)) ∈ G) (hB : ∀ p ∈ MB ts, p ∈ G) (hts : ts.map (·.2) = parts l) (hl : l.length ≤ 100) (hfl : ∀ y ∈ l, EnFit y) (ht : Tidy x) (hf : EnFit x) (hd : x.d.length ≤ 200)
    (hM : (gM, C [.int .i64 (most : Nat)] 3) ∈ G) (hm0 : 0 < most) (hN : (4, Obj.cells (EV gN :: t4).toArray e4 f4) ∈ G) :
    Ctr Tryz.prog 314 [.pointer (some ⟨gm, 0, none⟩), .agg #[S (cidB x)], .func (.func 69) #[] #[.pointer (some ⟨gO, 0, none⟩), .pointer (some ⟨gM, 0, none⟩)]] G [(gO, C [.slice none 0 0] 29)]
      (Told gO gN ((run (wide l x.d.length) x.d).map (·.o)) most) := by
  have hh : x.h.toNat < 9223372036854775808 := by
    rcases ht with ⟨_, _, h, _⟩ | ⟨_, _, h⟩ <;> omega
  refine fn_enter 42 func314 rfl ntmps314 rfl ?_
  intro w0
  refine cR ?_
  refine o_l rfl (l_box rfl rfl rfl) ?_; intro g4 _
  refine oA rfl <| oN <| cR ?_
  refine oX (e_loada isAgg111 sizeOf111 rfl (.inl M0) (by first | assumption | repeat constructor)) ?_
  refine o_l rfl (l_call call93 (hash_is ht hf hd) rfl rfl .nil) ?_
  rintro ⟨r, H'⟩ ⟨y, off, n, cap, rfl, rfl, hcut, hnc, hcap⟩
  simp only [List.cons_append, List.nil_append]
  refine o_l rfl (l_callj (HJ := [(y.g, Ob (B (cidB x)) y 5)]) call92 (Decode_is hh (by omega) (List.mem_append_right _ (.head _)) hcut hnc hcap) rfl rfl .nil (by simp)) ?_
  rintro ⟨r, H'⟩ ⟨gd, v, rfl, ⟨A, c, rfl⟩, hbs, rfl⟩
  simp only [List.cons_append, List.nil_append]
  refine oM rfl <| oX (e_extract rfl rfl) <| oX (e_extract rfl rfl) <| oA rfl <| oA rfl <| oN <| c_seq <| cR <| oM rfl <| oX (e_nnen runUnderlying80 rfl) <| oN <| cL rfl <| c_seq <| c_seq ?_
  rcases mget_MV ts (x.d.length + 8) with ⟨t, ht1, ht2, hget⟩ | ⟨hno, hget⟩
  · obtain ⟨gi, w, bytes⟩ := t
    simp only at ht2 hget
    subst ht2
    have hp : (x.d.length + 8, bytes) ∈ parts l := by rw [← hts]; exact List.mem_map.2 ⟨_, ht1, rfl⟩
    have hbytes : bytes = rws (wide l x.d.length) := by
      obtain ⟨n', hn1, hn2⟩ := List.mem_map.1 hp
      have h0 := widths_nonneg hn1
      obtain ⟨k, rfl⟩ := Int.eq_ofNat_of_zero_le h0
      simp only [partOf, Prod.mk.injEq, Int.toNat_natCast] at hn2
      rw [← hn2.2, ← rws_wide, show k = x.d.length by omega]
    have hlen : bytes.length = (wide l x.d.length).length * (x.d.length + 8) := by rw [hbytes, rws_length _ wide_len]
    have hle := wide_le l x.d.length
    have hgi : (gi, C (B (rws (wide l x.d.length))) 5) ∈ G := by rw [← hbytes]; exact hB _ (List.mem_map.2 ⟨_, ht1, rfl⟩)
    rw [hlen, Nat.mul_div_cancel _ (by omega : 0 < x.d.length + 8)] at hget
    refine c_regiond ([(gd, C [.int .u64 x.h.toNat, S [], .int .i64 x.d.length, .slice A x.d.length c] 181)]) (by kernel_rfl) (.cons_cons _ (List.nil_sublist _)) <| dX 0 rfl (e_move rfl) <| dX 1 rfl (e_nilCheck rfl) ?_
    refine dX 2 rfl (e_load isAgg327 rfl (.inr (by assumption)) rfl) ?_
    refine dX 3 rfl (e_move rfl) <| dX 4 rfl (e_nilCheck rfl) <| dX 5 rfl (e_fak 3 runUnderlying181 rfl sizeOf72 rfl rfl rfl) <| dX 6 rfl (e_load isAgg72 rfl (.inl M0) rfl) <| dX 7 rfl (e_lenl runUnderlying72 rfl) <| dX 8 rfl (e_addn rfl rfl (by simp only [inR]; omega)) <| dX 9 rfl (e_convn runUnderlying3 runUnderlying212 rfl (by simp only [inR]; omega)) ?_
    refine dX 10 rfl (e_as (r := .tuple #[.agg #[.int .u32 (x.d.length + 8 : Nat), .int .u64 (wide l x.d.length).length, .slice (some ⟨gi, 0, none⟩) ((wide l x.d.length).length * (x.d.length + 8)) ((wide l x.d.length).length * (x.d.length + 8))], .bool true]) (e_lookup2 runUnderlying327 runUnderlying212 zeroValue448 rfl rfl (.inr hx')) (by rw [show ((x.d.length : Nat) : Int) + 8 = ((x.d.length + 8 : Nat) : Int) by omega, hget]; rfl)) ?_
    refine dX 11 rfl (e_move rfl) <| dX 12 rfl (e_extract rfl rfl) <| dX 13 rfl (e_extract rfl rfl) ?_
    refine d_l 14 (by kernel_rfl) rfl rfl (l_alloc zeroValue448 rfl rfl) (by first | exact fun _ _ => hs_nil | (intro y hy p hp; simp only [List.mem_cons, List.mem_append, List.not_mem_nil, or_false, false_or] at hp ⊢; first | exact hp.elim | (simp only [hp, true_or, or_true]) | (rcases hp with rfl | rfl | rfl <;> simp))) ?_
    intro g9 _
    refine d_l 15 (by kernel_rfl) rfl rfl (l_storea (vs := [.int .u32 (x.d.length + 8 : Nat), .int .u64 (wide l x.d.length).length, .slice (some ⟨gi, 0, none⟩) ((wide l x.d.length).length * (x.d.length + 8)) ((wide l x.d.length).length * (x.d.length + 8))]) sizeOf448 rfl rfl rfl (by simp [Value.oneCell']) .head (.take (.take (.take .done))) nofrs0) (by first | exact fun _ _ => hs_nil | (intro y hy p hp; simp only [List.mem_cons, List.mem_append, List.not_mem_nil, or_false, false_or] at hp ⊢; first | exact hp.elim | (simp only [hp, true_or, or_true]) | (rcases hp with rfl | rfl | rfl <;> simp))) ?_
    intro _ _
    refine dX 16 rfl (e_assign rfl) <| dN <| n_code <| cR <| oM rfl <| oN <| c_then rfl <| cR <| oM rfl <| oC rfl <| oX (e_fak 3 runUnderlying181 rfl sizeOf72 rfl rfl rfl) ?_
    refine oX (e_load isAgg72 rfl (by first | exact .inr (by assumption) | exact .inl (by repeat (first | exact List.Mem.head _ | refine List.Mem.tail _ ?_))) rfl) ?_
    refine oM rfl ?_
    refine o_l rfl (l_callj (HJ := [(g9, C [.int .u32 (x.d.length + 8 : Nat), .int .u64 (wide l x.d.length).length, .slice (some ⟨gi, 0, none⟩) ((wide l x.d.length).length * (x.d.length + 8)) ((wide l x.d.length).length * (x.d.length + 8))] 448), (y.g, Ob (B (cidB x)) y 5)]) call323 (getAll_is (gS := g9) (gi := gi) (n := x.d.length) (fs := wide l x.d.length) (d := x.d) ⟨List.mem_append_right _ (.head _), List.mem_append_left _ hgi, wide_len, by omega, by omega⟩ (wide_asc _ _) (fun z hz => ⟨(hfl z (wide_mem z hz)).o0, (hfl z (wide_mem z hz)).o1⟩) (hbs.mono fun p hp => (List.mem_append.1 hp).elim (fun h => List.mem_append_left _ h) (fun h => List.mem_append_right _ (.tail _ h))) (List.mem_append_left _ hM) hm0 (List.mem_append_left _ hN)) rfl rfl (.cons (.tail (.tail (.tail (.tail .head)))) .nil) (by simp)) ?_
    rintro ⟨r, H'⟩ ⟨v', HB', rfl, ho, rfl⟩
    simp only [List.cons_append]
    refine oA rfl <| oN <| c_ret ?_
    refine WR.sel (.cons .head (Sel.app HB' _)) ?_
    refine r_fn1 results314 rfl ?_
    refine ⟨v', HB', ?_, ho, rfl⟩
    cases run (wide l x.d.length) x.d <;> rfl
  · skip
    refine c_regiond ([(gd, C [.int .u64 x.h.toNat, S [], .int .i64 x.d.length, .slice A x.d.length c] 181)]) (by kernel_rfl) (.cons_cons _ (List.nil_sublist _)) <| dX 0 rfl (e_move rfl) <| dX 1 rfl (e_nilCheck rfl) ?_
    refine dX 2 rfl (e_load isAgg327 rfl (.inr (by assumption)) rfl) ?_
    refine dX 3 rfl (e_move rfl) <| dX 4 rfl (e_nilCheck rfl) <| dX 5 rfl (e_fak 3 runUnderlying181 rfl sizeOf72 rfl rfl rfl) <| dX 6 rfl (e_load isAgg72 rfl (.inl M0) rfl) <| dX 7 rfl (e_lenl runUnderlying72 rfl) <| dX 8 rfl (e_addn rfl rfl (by simp only [inR]; omega)) <| dX 9 rfl (e_convn runUnderlying3 runUnderlying212 rfl (by simp only [inR]; omega)) ?_
    refine dX 10 rfl (e_as (r := .tuple #[.agg #[.int .u32 0, .int .u64 0, .slice none 0 0], .bool false]) (e_lookup2 runUnderlying327 runUnderlying212 zeroValue448 rfl rfl (.inr hx')) (by rw [show ((x.d.length : Nat) : Int) + 8 = ((x.d.length + 8 : Nat) : Int) by omega, hget]; rfl)) ?_
    refine dX 11 rfl (e_move rfl) <| dX 12 rfl (e_extract rfl rfl) <| dX 13 rfl (e_extract rfl rfl) ?_
    refine d_l 14 (by kernel_rfl) rfl rfl (l_alloc zeroValue448 rfl rfl) (by first | exact fun _ _ => hs_nil | (intro y hy p hp; simp only [List.mem_cons, List.mem_append, List.not_mem_nil, or_false, false_or] at hp ⊢; first | exact hp.elim | (simp only [hp, true_or, or_true]) | (rcases hp with rfl | rfl | rfl <;> simp))) ?_
    intro g9 _
    refine d_l 15 (by kernel_rfl) rfl rfl (l_storea (vs := [.int .u32 0, .int .u64 0, .slice none 0 0]) sizeOf448 rfl rfl rfl (by simp [Value.oneCell']) .head (.take (.take (.take .done))) nofrs0) (by first | exact fun _ _ => hs_nil | (intro y hy p hp; simp only [List.mem_cons, List.mem_append, List.not_mem_nil, or_false, false_or] at hp ⊢; first | exact hp.elim | (simp only [hp, true_or, or_true]) | (rcases hp with rfl | rfl | rfl <;> simp))) ?_
    intro _ _
    refine dX 16 rfl (e_assign rfl) <| dN <| n_code <| cR <| oM rfl <| oN <| cL rfl <| cR ?_
    refine oX (e_load isAgg80 rfl (.inr (by assumption)) rfl) ?_
    refine oA rfl <| oN <| c_ret ?_
    have hw : wide l x.d.length = [] := by
      rw [wide, List.filter_eq_nil_iff]
      intro z hz hzl
      have h1 : ((z.d.length : Nat) : Int) = (x.d.length : Nat) := by simpa using hzl
      have h2 : ((x.d.length : Nat) : Int) ∈ widths l := widths_mem.2 ⟨z, (stable_perm l).mem_iff.1 hz, h1⟩
      have h3 : partOf (stable l) (x.d.length : Nat) ∈ parts l := List.mem_map.2 ⟨_, h2, rfl⟩
      rw [← hts] at h3
      obtain ⟨t, ht1, ht2⟩ := List.mem_map.1 h3
      exact hno t ht1 (by rw [ht2]; simp [partOf])
    have hrun : run (wide l x.d.length) x.d = [] := by rw [hw]; rfl
    refine WR.sel (.cons (.tail (.tail (.tail (.tail .head)))) .nil) ?_
    refine r_fn1 results314 rfl ?_
    rw [hrun]
    exact ⟨.slice none 0 0, [], rfl, by simpa [V] using Osl.nil, rfl⟩
end
end Go.Proofs
namespace Go.Proofs
open Go Go.Sl Tryz
set_option maxRecDepth 100000
set_option maxHeartbeats 1000000
theorem mget_KV : ∀ (ms : List Mcode) (h : Nat), (∃ m ∈ ms, m.code = h ∧ mget (KV ms) (h : Nat) = some (.pointer (some ⟨m.gc, 0, none⟩))) ∨ ((∀ m ∈ ms, m.code ≠ h) ∧ mget (KV ms) (h : Nat) = none)
  | [], h => .inr ⟨(fun _ h => by cases h), rfl⟩
  | m :: ms, h => by
    by_cases e : m.code = h
    · left
      refine ⟨m, .head _, e, ?_⟩
      subst e
      simp [KV, mget]
    · rcases mget_KV ms h with ⟨m', h1, h2, h3⟩ | ⟨h1, h2⟩
      · left
        refine ⟨m', .tail _ h1, h2, ?_⟩
        rw [← h3]
        simp only [KV, List.map_cons, mget]
        rw [if_neg (by omega)]
      · right
        refine ⟨fun m' hm => (List.mem_cons.1 hm).elim (fun z => z.symm ▸ e) (h1 m'), ?_⟩
        rw [← h2]
        simp only [KV, List.map_cons, mget]
        rw [if_neg (by omega)]
section
variable {G : HP} {gm gX gd gO gQ most h : Nat} {ms : List Mcode} {m : Mcode} {cs : List Value} {l : List En} {x : En} {gN : Addr} {t4 : List Value} {e4 : TypeId} {f4 : Nat × Nat}
theorem get_yes (hg : (gm, C [.map (some gX)] 330) ∈ G) (hX : (gX, Mo .u64 (KV ms)) ∈ G) (hd : (gd, C (.int .u64 (h : Nat) :: cs) 181) ∈ G) (hget : mget (KV ms) (h : Nat) = some (.pointer (some ⟨m.gc, 0, none⟩))) :
    CtrP Tryz.prog 313 [.pointer (some ⟨gm, 0, none⟩), .pointer (some ⟨gd, 0, none⟩)] G (.tuple #[.pointer (some ⟨m.gc, 0, none⟩), .nilIface]) := by
  refine fn_enter 22 func313 rfl ntmps313 rfl ?_
  intro w0
  refine cR <| oA rfl <| oA rfl <| oN <| c_seq <| c_seq <| cQ <| qM rfl <| qC rfl ?_
  refine qX (e_load isAgg330 rfl (.inr (by assumption)) rfl) ?_
  refine qM rfl <| qC rfl <| qX (e_fak 0 runUnderlying181 rfl sizeOf23 rfl rfl rfl) ?_
  refine qX (e_load isAgg23 rfl (.inr (by assumption)) rfl) ?_
  refine qX (e_as (r := .tuple #[.pointer (some ⟨m.gc, 0, none⟩), .bool true]) (e_lookup2 runUnderlying330 runUnderlying23 zeroValue433 rfl rfl (.inr hX)) (by rw [hget]; rfl)) ?_
  refine qM rfl <| qX (e_extract rfl rfl) <| qX (e_extract rfl rfl) <| qA rfl <| qA rfl <| qN <| cR <| oM rfl <| oN <| c_then rfl <| cR <| oM rfl <| oA rfl <| oA rfl <| oN <| c_ret ?_
  refine r_fn (l := [.tmp 4, .tmp 5]) results313 rfl rfl ?_
  exact ⟨rfl, rfl⟩
theorem get_no (hg : (gm, C [.map (some gX)] 330) ∈ G) (hX : (gX, Mo .u64 (KV ms)) ∈ G) (hd : (gd, C (.int .u64 (h : Nat) :: cs) 181) ∈ G) (hget : mget (KV ms) (h : Nat) = none) (hN : (4, Obj.cells (EV gN :: t4).toArray e4 f4) ∈ G) :
    CtrP Tryz.prog 313 [.pointer (some ⟨gm, 0, none⟩), .pointer (some ⟨gd, 0, none⟩)] G (.tuple #[.pointer none, EV gN]) := by
  refine fn_enter 22 func313 rfl ntmps313 rfl ?_
  intro w0
  refine cR <| oA rfl <| oA rfl <| oN <| c_seq <| c_seq <| cQ <| qM rfl <| qC rfl ?_
  refine qX (e_load isAgg330 rfl (.inr (by assumption)) rfl) ?_
  refine qM rfl <| qC rfl <| qX (e_fak 0 runUnderlying181 rfl sizeOf23 rfl rfl rfl) ?_
  refine qX (e_load isAgg23 rfl (.inr (by assumption)) rfl) ?_
  refine qX (e_as (r := .tuple #[.pointer none, .bool false]) (e_lookup2 runUnderlying330 runUnderlying23 zeroValue433 rfl rfl (.inr hX)) (by rw [hget]; rfl)) ?_
  refine qM rfl <| qX (e_extract rfl rfl) <| qX (e_extract rfl rfl) <| qA rfl <| qA rfl <| qN <| cR <| oM rfl <| oN <| cL rfl <| c_seq <| cQ ?_
  refine qX (e_load isAgg80 rfl (.inr (by assumption)) rfl) ?_
  refine qA rfl <| qA rfl <| qN <| c_ret ?_
  refine r_fn (l := [.tmp 4, .tmp 5]) results313 rfl rfl ?_
  exact ⟨rfl, rfl⟩
theorem mhiGet_is (hg : (gm, C [.map (some gX)] 330) ∈ G) (hX : (gX, Mo .u64 (KV ms)) ∈ G) (hB : ∀ p ∈ KB ms, p ∈ G) (hms : ms.map Mcode.un = kparts l) (hl : l.length ≤ 100) (hfl : ∀ y ∈ l, EnFit y) (ht : Tidy x) (hf : EnFit x) (hd : x.d.length ≤ 200)
    (hM : (gQ, C [.int .i64 (most : Nat)] 3) ∈ G) (hm0 : 0 < most) (hN : (4, Obj.cells (EV gN :: t4).toArray e4 f4) ∈ G) :
    Ctr Tryz.prog 309 [.pointer (some ⟨gm, 0, none⟩), .agg #[S (cidB x)], .func (.func 69) #[] #[.pointer (some ⟨gO, 0, none⟩), .pointer (some ⟨gQ, 0, none⟩)]] G [(gO, C [.slice none 0 0] 29)]
      (Told gO gN ((run (wide (codedL l x.h) x.d.length) x.d).map (·.o)) most) := by
  have hh : x.h.toNat < 9223372036854775808 := by
    rcases ht with ⟨_, _, h, _⟩ | ⟨_, _, h⟩ <;> omega
  refine fn_enter 36 func309 rfl ntmps309 rfl ?_
  intro w0
  refine cR ?_
  refine o_l rfl (l_box rfl rfl rfl) ?_; intro g4 _
  refine oA rfl <| oN <| cR ?_
  refine oX (e_loada isAgg111 sizeOf111 rfl (.inl M0) (by first | assumption | repeat constructor)) ?_
  refine o_l rfl (l_call call93 (hash_is ht hf hd) rfl rfl .nil) ?_
  rintro ⟨r, H'⟩ ⟨y, off, n, cap, rfl, rfl, hcut, hnc, hcap⟩
  simp only [List.cons_append, List.nil_append]
  refine oA rfl <| oN <| cR <| oM rfl ?_
  refine o_l rfl (l_callj (HJ := [(y.g, Ob (B (cidB x)) y 5)]) call92 (Decode_is hh (by omega) (List.mem_append_right _ (.head _)) hcut hnc hcap) rfl rfl .nil (by simp)) ?_
  rintro ⟨r, H'⟩ ⟨gd, v, rfl, ⟨A, c, rfl⟩, hbs, rfl⟩
  simp only [List.cons_append, List.nil_append]
  refine oM rfl <| oX (e_extract rfl rfl) <| oX (e_extract rfl rfl) <| oA rfl <| oA rfl <| oN <| c_seq <| cR <| oM rfl <| oX (e_nnen runUnderlying80 rfl) <| oN <| cL rfl <| cR <| oM rfl <| oM rfl ?_
  rcases mget_KV ms x.h.toNat with ⟨m, hm1, hm2, hget⟩ | ⟨hno, hget⟩
  · have hp : m.un ∈ kparts l := by rw [← hms]; exact List.mem_map.2 ⟨_, hm1, rfl⟩
    have hpar : m.ts.map (·.2) = parts (codedL l x.h) := by
      obtain ⟨c', hc1, hc2⟩ := List.mem_map.1 hp
      have h0 := codes_nonneg hfl hc1
      have hf0 := hf.h0
      simp only [Mcode.un, Prod.mk.injEq] at hc2
      rw [← hc2.2, show c' = x.h by omega]
    have hhp : ∀ p ∈ Mcode.hp m, p ∈ G := fun p hp => hB p (List.mem_flatMap.2 ⟨m, hm1, hp⟩)
    refine o_l rfl (l_callj (HJ := [(gd, C [.int .u64 x.h.toNat, S [], .int .i64 x.d.length, .slice A x.d.length c] 181)]) call313 (get_yes (m := m) (List.mem_append_left _ hg) (List.mem_append_left _ hX) (List.mem_append_right _ (.head _)) hget) rfl rfl .nil (by simp)) ?_
    rintro ⟨r, H'⟩ ⟨rfl, rfl⟩
    simp only [List.nil_append]
    refine oM rfl <| oX (e_extract rfl rfl) <| oX (e_extract rfl rfl) <| oA rfl <| oA rfl <| oN <| c_seq <| cR <| oM rfl <| oX (e_nnen runUnderlying80 rfl) <| oN <| cL rfl <| c_seq <| c_regiong [5] (by kernel_rfl) <| gM 0 rfl (e_move rfl) <| gM 1 rfl (e_nilCheck rfl) <| gM 2 rfl (e_fak 0 runUnderlying437 rfl sizeOf327 rfl rfl rfl) ?_
    refine gE 3 rfl (e_loada isAgg111 sizeOf111 rfl (by first | exact .inr (by assumption) | exact .inl (by repeat (first | exact List.Mem.head _ | refine List.Mem.tail _ ?_))) (by first | assumption | repeat constructor)) ?_
    refine gM 4 rfl (e_move rfl) ?_
    refine g_l 5 (by kernel_rfl) rfl rfl rfl (l_call call314 (mwiGet_is (zs := [.int .u64 m.code]) (em := 437) (hhp _ (.head _)) (hhp _ M1) (fun p hp => hhp p (.tail _ (.tail _ hp))) hpar (Nat.le_trans (codedL_len l x.h) hl) (fun y hy => hfl y (codedL_mem hy)) ht hf hd hM hm0 hN) rfl rfl (.cons (.tail (.tail (.tail .head))) .nil)) ?_
    rintro ⟨r, H'⟩ ⟨v', HB', rfl, ho, rfl⟩
    simp only [List.cons_append]
    refine dX 6 rfl (e_assign rfl) <| dN <| n_code <| c_ret ?_
    refine WR.sel (.cons .head (Sel.app HB' _)) ?_
    refine r_fn1 results309 rfl ?_
    exact ⟨v', HB', rfl, ho, rfl⟩
  · skip
    refine o_l rfl (l_callj (HJ := [(gd, C [.int .u64 x.h.toNat, S [], .int .i64 x.d.length, .slice A x.d.length c] 181)]) call313 (get_no (List.mem_append_left _ hg) (List.mem_append_left _ hX) (List.mem_append_right _ (.head _)) hget (List.mem_append_left _ hN)) rfl rfl .nil (by simp)) ?_
    rintro ⟨r, H'⟩ ⟨rfl, rfl⟩
    simp only [List.nil_append]
    refine oM rfl <| oX (e_extract rfl rfl) <| oX (e_extract rfl rfl) <| oA rfl <| oA rfl <| oN <| c_seq <| cR <| oM rfl <| oX (e_inen runUnderlying80 rfl) <| oN <| c_then rfl <| cR <| oM rfl <| oA rfl <| oN <| c_ret ?_
    have hw : codedL l x.h = [] := by
      rw [codedL, List.filter_eq_nil_iff]
      intro z hz hzh
      have h1 : z.h = x.h := by simpa using hzh
      have h2 : x.h ∈ codes l := codes_mem.2 ⟨z, hz, h1⟩
      have h3 : (x.h.toNat, parts (codedL l x.h)) ∈ kparts l := List.mem_map.2 ⟨_, h2, rfl⟩
      rw [← hms] at h3
      obtain ⟨m, hm1, hm2⟩ := List.mem_map.1 h3
      exact hno m hm1 (congrArg Prod.fst hm2)
    have hrun : run (wide (codedL l x.h) x.d.length) x.d = [] := by rw [hw]; rfl
    refine WR.sel (.cons (.tail (.tail (.tail .head))) .nil) ?_
    refine r_fn1 results309 rfl ?_
    rw [hrun]
    exact ⟨.slice none 0 0, [], rfl, by simpa [V] using Osl.nil, rfl⟩
end
end Go.Proofs
namespace Go.Proofs
open Go Go.Sl Tryz
theorem srt_pairwise (l : List Int) : (srt l).Pairwise (· ≤ ·) := by
  have := List.pairwise_mergeSort (le := fun a b : Int => decide (a ≤ b)) (fun a b c h1 h2 => by simp at h1 h2 ⊢; omega) (fun a b => by simp; omega) l
  exact this.imp fun h => by simpa using h
theorem parts_sorted (l : List En) : ((parts l).map (·.1)).Pairwise (· ≤ ·) := by
  rw [parts, List.map_map, List.pairwise_map]
  exact (srt_pairwise (distI (lens l))).imp fun h => by simp only [Function.comp, partOf]; omega
theorem kparts_sorted (l : List En) : ((kparts l).map (·.1)).Pairwise (· ≤ ·) := by
  rw [kparts, List.map_map, List.pairwise_map]
  exact (srt_pairwise (distI (hcs l))).imp fun h => by simp only [Function.comp]; omega
theorem bodyB_small (l : List En) (kind : Int) (hd : ∀ x ∈ l, x.d.length ≤ 200) (hl : l.length ≤ 100) : (bodyB l kind).length ≤ 221000000 := by
  have h1 := sortedB_length l hd hl
  have h2 := flat_length (codes l) (codeB l) 2200008 (fun n => codeB_length l n hd hl)
  have h3 := codes_len l
  have h4 : (codes l).length * 2200008 ≤ 100 * 2200008 := Nat.mul_le_mul_right _ (by omega)
  unfold bodyB
  split
  · omega
  · simp only [List.length_append, lowB_length]; omega
end Go.Proofs
namespace Go.Proofs
open Go Go.Sl Tryz
set_option maxRecDepth 100000
set_option maxHeartbeats 1000000
/-- The offsets that an index tells for an identifier, all of them. -/
def told (l : List En) (kind : Int) (x : En) : List Int := (run (wide (if kind = 1024 then l else codedL l x.h) x.d.length) x.d).map (·.o)
section
variable {G : HP} {gN : Addr} {t4 : List Value} {e4 : TypeId} {f4 : Nat × Nat} {os : List Int} {l : List En} {kind : Int} {x : En} {most : Nat}
theorem found0_is : CtrP Tryz.prog 70 [.nilIface] G (.int .u8 0) := by
  refine fn_enter 9 func70 rfl ntmps70 rfl ?_
  intro w0
  refine cR <| oA rfl <| oN <| c_seq <| cR <| oM rfl <| oN <| c_block <| cR <| oX (e_neqn runUnderlying80 rfl) <| oA rfl <| oN <| c_then rfl <| cR <| oA rfl <| oN <| c_ret ?_
  refine r_fn1 results70 rfl ?_
  exact ⟨rfl, rfl⟩
theorem found1_is (hN : (4, Obj.cells (EV gN :: t4).toArray e4 f4) ∈ G) : CtrP Tryz.prog 70 [EV gN] G (.int .u8 1) := by
  refine fn_enter 9 func70 rfl ntmps70 rfl ?_
  intro w0
  refine cR <| oA rfl <| oN <| c_seq <| cR <| oM rfl <| oN <| c_block <| cR <| oX (e_ieqn runUnderlying80 rfl) <| oA rfl <| oN <| c_else rfl <| cR ?_
  refine oX (e_load isAgg80 rfl (.inr (by assumption)) rfl) ?_
  refine oX (e_ieq_same runUnderlying80 (typeInfo260) rfl (runUnderlying260) (sizeOf262) (by decide) rfl rfl) <| oA rfl <| oN <| c_then rfl <| cR <| oA rfl <| oN <| c_ret ?_
  refine r_fn1 results70 rfl ?_
  exact ⟨rfl, rfl⟩
theorem found_is (hN : (4, Obj.cells (EV gN :: t4).toArray e4 f4) ∈ G) : CtrP Tryz.prog 70 [if os = [] then EV gN else .nilIface] G (.int .u8 (if os = [] then 1 else 0)) := by
  by_cases h : os = []
  · rw [if_pos h, if_pos h]; exact found1_is hN
  · rw [if_neg h, if_neg h]; exact found0_is
theorem offs_is (hl : l.length ≤ 100) (hfl : ∀ y ∈ l, EnFit y) (hdl : ∀ y ∈ l, y.d.length ≤ 200) (hk : kind = 1024 ∨ kind = 1025) (ht : Tidy x) (hf : EnFit x) (hd : x.d.length ≤ 200) (hm0 : 0 < most) (hN : (4, Obj.cells (EV gN :: t4).toArray e4 f4) ∈ G) :
    Ctr Tryz.prog 36 [S (indexB l kind), .agg (cC x).toArray, .int .i64 (most : Nat)] G [] (fun r H' => ∃ v, r = .tuple #[v, .int .u8 (if told l kind x = [] then 1 else 0)] ∧ Osl 23 1 v ((told l kind x).take most).length (V .u64 ((told l kind x).take most)) H') := by
  have hsm := bodyB_small l kind hdl hl
  have hix : (indexB l kind).length ≤ 221000010 := by simp only [indexB, List.length_append, kindB_length]; omega
  have hci := cidIn_is (G := G) ht hf hd
  obtain ⟨bs, hbs⟩ : ∃ bs, bs = indexB l kind := ⟨_, rfl⟩
  have hbs2 : bs = indexB l kind ++ [] := by rw [hbs, List.append_nil]
  have hs2 := fun (y : List En) => y
  obtain ⟨cx, hcx⟩ : ∃ cx, cx = cidB x := ⟨_, rfl⟩
  obtain ⟨xs, hxs⟩ : ∃ xs, xs = cC x := ⟨_, rfl⟩
  have hxs4 : xs = [.int .u64 x.v, .int .u64 x.c, .int .u64 x.h, S x.d] := hxs
  rw [← hxs, ← hcx] at hci
  rw [← hbs, ← hxs]
  rw [← hbs] at hix
  subst hxs4
  clear hxs
  refine fn_enter 39 func36 rfl ntmps36 rfl ?_
  intro w0
  refine cR ?_
  refine o_l rfl (l_box rfl rfl rfl) ?_; intro g4 _
  refine o_l rfl (l_box rfl rfl rfl) ?_; intro g5 _
  refine oA rfl <| oA rfl <| oN <| cR <| oM rfl ?_
  refine o_l rfl (l_sbc underlying9 underlying72 underlying5 rfl rfl (by simp; omega) rfl rfl) ?_
  rintro ⟨gs, cap, rest, lo, hi⟩ hy
  refine o_l rfl (l_call call40 newReader_is rfl rfl .nil) ?_
  rintro ⟨r, H'⟩ ⟨gr, rfl, rfl⟩
  simp only [List.cons_append, List.nil_append]
  refine oX (e_mkif runUnderlying75 rfl rfl) ?_
  refine o_l rfl (l_callj (HJ := [(gs, DB bs rest lo hi)]) call41 (from_ok (l := l) (kind := kind) (behind := []) (List.mem_append_right _ (.head _)) rfl hy.le hy.lt (by omega) hbs2 hl hfl hdl hk) rfl rfl (.cons .head .nil) (by simp)) ?_
  rintro ⟨r, H'⟩ ⟨v, H1, rfl, hm, rfl⟩
  simp only [List.cons_append, List.nil_append]
  refine o_perm (List.Perm.cons _ List.perm_append_comm) ?_
  simp only [List.cons_append, List.nil_append]
  refine oM rfl <| oX (e_extract rfl rfl) <| oX (e_extract rfl rfl) <| oA rfl <| oA rfl <| oN <| cR ?_
  refine oX (e_loada isAgg25 sizeOf25 rfl (by first | exact .inr (by assumption) | exact .inl (by repeat (first | exact List.Mem.head _ | refine List.Mem.tail _ ?_))) (by first | assumption | repeat constructor)) ?_
  refine o_l rfl (l_call call68 hci rfl rfl .nil) ?_
  rintro ⟨r, H'⟩ ⟨rfl, rfl⟩
  simp only [List.nil_append]
  refine oM rfl <| oX (e_extract rfl rfl) <| oX (e_extract rfl rfl) ?_
  refine o_l rfl (l_alloc zeroValue111 rfl rfl) ?_; intro g10 _
  refine o_l rfl (l_storea sizeOf111 rfl rfl rfl (by simp [Value.oneCell']) .head (.take .done) nofrs0) ?_
  intro _ _
  refine oA rfl <| oN <| c_seq <| cR <| oM rfl <| oX (e_nnen runUnderlying80 rfl) <| oM rfl <| oM rfl <| oX (e_not rfl) <| oX (e_pick_f rfl rfl) <| oN <| cL rfl <| cR ?_
  refine o_l rfl (l_alloc zeroValue29 rfl rfl) ?_; intro g12 _
  refine oN <| cR <| oM rfl ?_
  refine oX (e_loada isAgg111 sizeOf111 rfl (by first | exact .inr (by assumption) | exact .inl (by repeat (first | exact List.Mem.head _ | refine List.Mem.tail _ ?_))) (by first | assumption | repeat constructor)) ?_
  refine oX (e_func rfl rfl) ?_
  cases hm with
  | @s gm gx ts h =>
    have etold : told l 1024 x = (run (wide l x.d.length) x.d).map (·.o) := by unfold told; rw [if_pos rfl]
    rw [etold]
    refine o_l rfl (l_calli (HJ := (g5, C [.int .i64 (most : Nat)] 3) :: (gm, C [.map (some gx)] 327) :: (gx, Mo .u32 (MV ts)) :: MB ts) call314 (by intro w; kernel_rfl) (mwiGet_is (zs := []) (em := 327) (List.mem_append_right _ M1) (List.mem_append_right _ M2) (fun p hp => List.mem_append_right _ (.tail _ (.tail _ (.tail _ hp)))) h hl hfl ht hf hd (List.mem_append_right _ (.head _)) hm0 (List.mem_append_left _ hN)) rfl rfl (by rw [hcx]; rfl) (.cons .head .nil) (by intro p hp; rcases List.mem_cons.1 hp with rfl | hp; simp; exact .tail _ (.tail _ (.tail _ (.tail _ (.tail _ hp)))))) ?_
    rintro ⟨r, H'⟩ ⟨v', HB', rfl, ho, rfl⟩
    simp only [List.cons_append]
    refine oA rfl <| oN <| c_seq <| cQ <| qX (e_load isAgg29 rfl (.inl M0) rfl) <| qM rfl <| q_pure rfl call70 (found_is (os := (run (wide l x.d.length) x.d).map (·.o)) hN) rfl rfl <| qA rfl <| qA rfl <| qN <| c_ret ?_
    refine WR.sel (Sel.mid [_] HB' _) ?_
    refine r_fn (l := [.tmp 6, .tmp 7]) results36 rfl rfl ?_
    exact ⟨v', rfl, ho⟩
  | @m gm gX ms h =>
    have etold : told l 1025 x = (run (wide (codedL l x.h) x.d.length) x.d).map (·.o) := by unfold told; rw [if_neg (by decide)]
    rw [etold]
    refine o_l rfl (l_calli (HJ := (g5, C [.int .i64 (most : Nat)] 3) :: (gm, C [.map (some gX)] 330) :: (gX, Mo .u64 (KV ms)) :: KB ms) call309 (by intro w; kernel_rfl) (mhiGet_is (List.mem_append_right _ M1) (List.mem_append_right _ M2) (fun p hp => List.mem_append_right _ (.tail _ (.tail _ (.tail _ hp)))) h hl hfl ht hf hd (List.mem_append_right _ (.head _)) hm0 (List.mem_append_left _ hN)) rfl rfl (by rw [hcx]; rfl) (.cons .head .nil) (by intro p hp; rcases List.mem_cons.1 hp with rfl | hp; simp; exact .tail _ (.tail _ (.tail _ (.tail _ (.tail _ hp)))))) ?_
    rintro ⟨r, H'⟩ ⟨v', HB', rfl, ho, rfl⟩
    simp only [List.cons_append]
    refine oA rfl <| oN <| c_seq <| cQ <| qX (e_load isAgg29 rfl (.inl M0) rfl) <| qM rfl <| q_pure rfl call70 (found_is (os := (run (wide (codedL l x.h) x.d.length) x.d).map (·.o)) hN) rfl rfl <| qA rfl <| qA rfl <| qN <| c_ret ?_
    refine WR.sel (Sel.mid [_] HB' _) ?_
    refine r_fn (l := [.tmp 6, .tmp 7]) results36 rfl rfl ?_
    exact ⟨v', rfl, ho⟩
theorem all_is (hl : l.length ≤ 100) (hfl : ∀ y ∈ l, EnFit y) (hdl : ∀ y ∈ l, y.d.length ≤ 200) (hk : kind = 1024 ∨ kind = 1025) (ht : Tidy x) (hf : EnFit x) (hd : x.d.length ≤ 200) (hm0 : 0 < most) (hN : (4, Obj.cells (EV gN :: t4).toArray e4 f4) ∈ G) :
    Ctr Tryz.prog 14 [S (indexB l kind), .agg (cC x).toArray, .int .i64 (most : Nat)] G [] (fun r H' => ∃ v, r = .tuple #[v, .int .u8 (if told l kind x = [] then 1 else 0)] ∧ Osl 23 1 v ((told l kind x).take most).length (V .u64 ((told l kind x).take most)) H') := by
  have ho := offs_is (G := G) hl hfl hdl hk ht hf hd hm0 hN
  generalize indexB l kind = bs at *
  obtain ⟨xs, hxs⟩ : ∃ xs, xs = cC x := ⟨_, rfl⟩
  have hxs4 : xs = [.int .u64 x.v, .int .u64 x.c, .int .u64 x.h, S x.d] := hxs
  rw [← hxs] at ho ⊢
  subst hxs4
  clear hxs
  refine fn_enter 14 func14 rfl ntmps14 rfl ?_
  intro w0
  refine cR ?_
  refine o_l rfl (l_box rfl rfl rfl) ?_; intro g4 _
  refine oA rfl <| oA rfl <| oN <| cR <| oM rfl ?_
  refine oX (e_loada isAgg25 sizeOf25 rfl (.inl M0) (by first | assumption | repeat constructor)) ?_
  refine oM rfl ?_
  refine o_l rfl (l_call call36 ho rfl rfl .nil) ?_
  rintro ⟨r, H'⟩ ⟨v, rfl, ho⟩
  refine oX (e_extract rfl rfl) <| oX (e_extract rfl rfl) <| oA rfl <| oA rfl <| oN <| c_ret ?_
  refine WR.sel (Sel.app H' _) ?_
  refine r_fn (l := [.tmp 6, .tmp 7]) results14 rfl rfl ?_
  exact ⟨v, rfl, ho⟩
end
end Go.Proofs

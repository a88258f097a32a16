/- Rows of numbers, sorted in memory: the whole; An index with codes written; Numbers as varints; Numbers as varints: how long they are; written into a row, read from one; A number read from its varint; A multihash, made and taken apart; The guards on sizes: they answer something; The statements' own guard: what it lets in; What stands in an index, as parts; Regions that draw their order in a function with a deferred closure, whose results lie in two blocks; impl.cidIn; an identifier's bytes, version, multihash; An identifier's bytes, its version, its multihash; The order of entries: a weak order, told by numbers. (A part of the proof of this: for every input laws.FnWrOptions returns true and its arguments read as they did, the listed package variables being what the program lays) -/
import Derived.Test.YtochgglejmfelaaGreatDoorLSlZ
import Derived.Test.YtochgglejmfelaaGreatDoorL11
import Derived.Test.YtochgglejmfelaaGreatDoorL10
import Derived.Test.YtochgglejmfelaaGreatDoorL03
import Derived.Test.YtochgglejmfelaaGreatDoorL06
import Derived.Test.YtochgglejmfelaaGreatDoorL09
import Derived.Test.YtochgglejmfelaaGreatDoorL07
import Derived.Test.YtochgglejmfelaaGreatDoorL08
import Derived.Lib.Bytealg
set_option linter.unusedVariables false
set_option linter.unusedSimpArgs false
namespace Go.Proofs.A8
open Go Go.Sl Tryz
set_option maxRecDepth 100000
set_option maxHeartbeats 2000000
section
variable {G : HP} {g n cap lo hi : Nat} {rest : List Value}
theorem pdq_is (hf : n ≤ lo ∨ hi = 0) (h1 : n ≤ 255) : ∀ (h : Nat) {l : List Int} {a b : Nat} {lim : Int} (_ : l.length = n) (_ : a ≤ b) (_ : b ≤ n) (_ : b - a = h) (_ : Lb a b l),
    Ctr prog 338 [.slice (some ⟨g, 0, none⟩) n cap, .int .i64 a, .int .i64 b, .int .i64 lim] G [(g, VB .u64 l rest 23 lo hi)] (fun r H' => r = .tuple #[] ∧ ∃ l', (PR a b l l' ∧ SR a b l') ∧ H' = [(g, VB .u64 l' rest 23 lo hi)]) := by
  intro h
  induction h using Nat.strongRecOn with
  | ind h ih =>
  intro l a b lim hn hab hb hh hlb
  refine fn_enter 134 func338 rfl ntmps338 rfl ?_
  intro w0
  refine gn 11 ?_
  refine c_loop (X := List Int × Nat × Nat × Int × Bool × Bool) (fun y => [(0, .slice (some ⟨g, 0, none⟩) n cap), (1, .int .i64 y.2.1), (2, .int .i64 y.2.2.1), (3, .int .i64 y.2.2.2.1), (8, .bool y.2.2.2.2.1), (9, .bool y.2.2.2.2.2)]) (fun y => [(g, VB .u64 y.1 rest 23 lo hi)]) (fun y => PR a b l y.1 ∧ Fin a b y.2.1 y.2.2.1 y.1 ∧ Lb y.2.1 y.2.2.1 y.1 ∧ a ≤ y.2.1 ∧ y.2.1 ≤ y.2.2.1 ∧ y.2.2.1 ≤ b) (fun y => y.2.2.1 - y.2.1) (l, a, b, lim, true, true) ⟨.refl, .start, hlb, Nat.le_refl _, hab, Nat.le_refl _⟩ aK (.refl _) ?_
  clear lim hlb
  rintro ⟨m, a', b', lim, bl, bp⟩ ⟨hm, hfin, hlb, ha, hab', hb'⟩
  simp only at hm hfin hlb ha hab' hb' ⊢
  have hl := hm.len
  refine gn 16 ?_
  refine c_ifp rfl (fun h2 => ?_) (fun h2 => ?_)
  · refine gn 5 ?_
    refine oL (lC (ins_is (hl.trans hn) hf (by omega) hab' (by omega)) rfl (.cons .head .nil)) ?_
    rintro ⟨r, H'⟩ ⟨rfl, m', ⟨hp, hs⟩, rfl⟩
    simp only [List.cons_append, List.nil_append]
    refine gn 3 ?_
    refine r_fn0 results338 ?_
    exact ⟨rfl, m', ⟨hm.trans (hp.mono ha hb' (by omega)), hfin m' hp hs⟩, rfl⟩
  · skip
    refine gn 9 ?_
    refine c_ifp rfl (fun h3 => ?_) (fun h3 => ?_)
    · refine gn 5 ?_
      refine oL (lC (heap_is (hl.trans hn) hf (by omega) (by omega) (by omega)) rfl (.cons .head .nil)) ?_
      rintro ⟨r, H'⟩ ⟨rfl, m', ⟨hp, hs⟩, rfl⟩
      simp only [List.cons_append, List.nil_append]
      refine gn 3 ?_
      refine r_fn0 results338 ?_
      exact ⟨rfl, m', ⟨hm.trans (hp.mono ha hb' (by omega)), hfin m' hp hs⟩, rfl⟩
    · skip
      have h12 : 12 < b' - a' := by omega
      clear h2 h3
      refine gn 3 ?_
      refine c_cut (X := List Int × Int) (fun y => [(0, .slice (some ⟨g, 0, none⟩) n cap), (1, .int .i64 a'), (2, .int .i64 b'), (3, .int .i64 y.2), (8, .bool bl), (9, .bool bp), (10, .int .i64 (b' - a' : Nat))]) (fun y => [(g, VB .u64 y.1 rest 23 lo hi)]) (fun y => PR a' b' m y.1) ?_ ?_
      · skip
        refine gn 6 ?_
        refine c_if rfl (fun h4 => ?_) (fun h4 => ?_)
        · refine gn 5 ?_
          refine oL (lC (brk_is (hl.trans hn) hf h1 (by omega) (by omega)) rfl (.cons .head .nil)) ?_
          rintro ⟨r, H'⟩ ⟨rfl, m', hp, rfl⟩
          simp only [List.cons_append, List.nil_append]
          refine gn 7 ?_
          exact n_cut (m', _) hp aK (.refl _)
        · skip
          refine gn 1 ?_
          exact n_cut (m, lim) .refl aK (.refl _)
      · rintro ⟨m1, lim1⟩ hp1
        simp only at hp1 ⊢
        replace hm : PR a b l m1 := hm.trans (hp1.mono ha hb' (by omega))
        replace hfin := hfin.pr hp1
        replace hlb := hlb.pr hp1 (Nat.le_refl _) (Nat.le_refl _)
        replace hl : m1.length = l.length := hm.len
        clear hp1
        refine gn 6 ?_
        refine oL (lC (piv_is (hl.trans hn) (by omega) (by omega) (by omega)) rfl (.cons .head .nil)) ?_
        rintro ⟨r, H'⟩ ⟨p, z, rfl, hp, rfl⟩
        simp only [List.cons_append, List.nil_append]
        refine gn 8 ?_
        refine c_cut (X := List Int × Nat × Int) (fun y => [(0, .slice (some ⟨g, 0, none⟩) n cap), (1, .int .i64 a'), (2, .int .i64 b'), (3, .int .i64 lim1), (8, .bool bl), (9, .bool bp), (10, .int .i64 (b' - a' : Nat)), (11, .int .i64 y.2.1), (12, .int .i64 y.2.2)]) (fun y => [(g, VB .u64 y.1 rest 23 lo hi)]) (fun y => PR a' b' m1 y.1 ∧ a' ≤ y.2.1 ∧ y.2.1 < b') ?_ ?_
        · skip
          refine gn 6 ?_
          refine c_ifp rfl (fun h4 => ?_) (fun h4 => ?_)
          · refine gn 5 ?_
            refine oL (lC (rev_is (hl.trans hn) hf (by omega) (by omega) (by omega)) rfl (.cons .head .nil)) ?_
            rintro ⟨r, H'⟩ ⟨rfl, m', hp', rfl⟩
            simp only [List.cons_append, List.nil_append]
            refine gn 16 ?_
            exact n_cut (m', b' - 1 - (p - a'), 1) ⟨hp', by show a' ≤ b' - 1 - (p - a'); omega, by show b' - 1 - (p - a') < b'; omega⟩ aK (.refl _)
          · skip
            refine gn 1 ?_
            exact n_cut (m1, p, z) ⟨.refl, hp⟩ aK (.refl _)
        · clear hp p z
          rintro ⟨m2, p, z⟩ ⟨hp1, hp⟩
          simp only at hp1 hp ⊢
          replace hm : PR a b l m2 := hm.trans (hp1.mono ha hb' (by omega))
          replace hfin := hfin.pr hp1
          replace hlb := hlb.pr hp1 (Nat.le_refl _) (Nat.le_refl _)
          replace hl : m2.length = l.length := hm.len
          clear hp1
          refine gn 2 ?_
          refine c_cut (X := List Int) (fun _ => [(0, .slice (some ⟨g, 0, none⟩) n cap), (1, .int .i64 a'), (2, .int .i64 b'), (3, .int .i64 lim1), (8, .bool bl), (9, .bool bp), (10, .int .i64 (b' - a' : Nat)), (11, .int .i64 p)]) (fun m => [(g, VB .u64 m rest 23 lo hi)]) (fun m => PR a' b' m2 m) ?_ ?_
          · skip
            refine gn 4 ?_
            refine o_split 62 rfl (fun h4 => ?_) (fun h4 => ?_)
            · refine gn 3 ?_
              refine o_split 65 rfl (fun h5 => ?_) (fun h5 => ?_)
              · refine gn 5 ?_
                refine c_ifp rfl (fun h6 => ?_) (fun h6 => ?_)
                · refine gn 5 ?_
                  refine oL (lC (part_is (hl.trans hn) hf (by omega) (by omega) (by omega) hlb) rfl (.cons .head .nil)) ?_
                  rintro ⟨r, H'⟩ ⟨t, m', rfl, hp', hs', rfl⟩
                  simp only [List.cons_append, List.nil_append]
                  refine gn 2 ?_
                  refine c_if rfl (fun h7 => ?_) (fun h7 => ?_)
                  · refine gn 1 ?_
                    refine r_fn0 results338 ?_
                    exact ⟨rfl, m', ⟨hm.trans (hp'.mono ha hb' (by omega)), hfin m' hp' (hs' h7)⟩, rfl⟩
                  · skip
                    refine gn 1 ?_
                    exact n_cut m' hp' aK (.refl _)
                · skip
                  refine gn 1 ?_
                  exact n_cut m2 .refl aK (.refl _)
              · skip
                refine gn 7 ?_
                exact n_cut m2 .refl aK (.refl _)
            · skip
              refine gn 10 ?_
              exact n_cut m2 .refl aK (.refl _)
          · rintro m3 hp1
            replace hm : PR a b l m3 := hm.trans (hp1.mono ha hb' (by omega))
            replace hfin := hfin.pr hp1
            replace hlb := hlb.pr hp1 (Nat.le_refl _) (Nat.le_refl _)
            replace hl : m3.length = l.length := hm.len
            clear hp1
            refine gn 7 ?_
            refine q_splitp 75 rfl (fun h4 => ?_) (fun h4 => ?_)
            · refine gr 9 ?_
              refine q_pure rfl call357 (less_is) rfl rfl ?_
              refine gn 4 ?_
              refine c_if rfl (fun h5 => ?_) (fun h5 => ?_)
              · have h5' : ¬ gd m3 (a' - 1) < gd m3 p := by simpa using h5
                refine gn 6 ?_
                refine oL (lC (peq_is (p := p) (hl.trans hn) hf (by omega) hp.1 hp.2 (by omega)) rfl (.cons .head .nil)) ?_
                rintro ⟨r, H'⟩ ⟨mid, m4, rfl, hp1, hpe, hga, rfl⟩
                simp only [List.cons_append, List.nil_append]
                have k1 := hpe.am
                have k2 := hpe.mb
                have hmin : ∀ i, a' ≤ i → i < b' → gd m4 a' ≤ gd m4 i := by
                  have hlo : ∀ i, a' ≤ i → i < b' → gd m3 p ≤ gd m3 i := fun i i1 i2 => by
                    rcases hlb with h | h
                    · omega
                    · exact Int.le_trans (Int.not_lt.1 h5') (h i i1 i2)
                  have := hp1.all (p := fun z => gd m3 p ≤ z) hlo
                  intro i i1 i2
                  rw [hga]
                  exact this i i1 i2
                refine gn 12 ?_
                refine n_round' (y := (m, a', b', lim, bl, bp)) (m4, mid, b', lim1, bl, bp) (by show b' - mid < b' - a'; omega) ?_ aK _ (.refl _) (List.Sublist.refl _)
                have hm4 : PR a b l m4 := hm.trans (hp1.mono ha hb' (by omega))
                exact ⟨hm4, hpe.all (hfin.pr hp1) hmin (by have := hm4.len; omega), hpe.lb, by show a ≤ mid; omega, k2, hb'⟩
              · skip
                refine gn 8 ?_
                refine oL (lC (part2_is (p := p) (hl.trans hn) hf (by omega) hp.1 hp.2 (by omega)) rfl (.cons .head .nil)) ?_
                rintro ⟨r, H'⟩ ⟨mid, t, m4, rfl, hp1, hpt, rfl⟩
                simp only [List.cons_append, List.nil_append]
                have k1 := hpt.am
                have k2 := hpt.mb
                have hm4 : PR a b l m4 := hm.trans (hp1.mono ha hb' (by omega))
                have hfin4 := hfin.pr hp1
                have hlb4 := hlb.pr hp1 (Nat.le_refl _) (Nat.le_refl _)
                have hl4 : m4.length = l.length := hm4.len
                refine gn 39 ?_
                refine c_ifp rfl (fun h6 => ?_) (fun h6 => ?_)
                · refine gn 14 ?_
                  refine oL (lC (ih (mid - a') (by omega) (a := a') (b := mid) (hl4.trans hn) k1 (by omega) rfl (hlb4.less (by omega))) rfl (.cons .head .nil)) ?_
                  rintro ⟨r, H'⟩ ⟨rfl, m5, ⟨hp5, hs5⟩, rfl⟩
                  simp only [List.cons_append, List.nil_append]
                  refine gn 8 ?_
                  have hq5 : PR a' b' m4 m5 := hp5.mono (Nat.le_refl _) (by omega) (by omega)
                  refine n_round' (y := (m, a', b', lim, bl, bp)) (m5, mid + 1, b', lim1, _, _) (by show b' - (mid + 1) < b' - a'; omega) ?_ aK _ (.refl _) (List.Sublist.refl _)
                  exact ⟨hm4.trans (hq5.mono ha hb' (by omega)), hpt.left hfin4 hp5 hs5 (by omega), (hpt.keepl hp5).lbr, by show a ≤ mid + 1; omega, by show mid + 1 ≤ b'; omega, hb'⟩
                · skip
                  refine gn 15 ?_
                  refine oL (lC (ih (b' - (mid + 1)) (by omega) (a := mid + 1) (b := b') (hl4.trans hn) (by omega) (by omega) rfl hpt.lbr) rfl (.cons .head .nil)) ?_
                  rintro ⟨r, H'⟩ ⟨rfl, m5, ⟨hp5, hs5⟩, rfl⟩
                  simp only [List.cons_append, List.nil_append]
                  refine gn 7 ?_
                  have hq5 : PR a' b' m4 m5 := hp5.mono (by omega) (Nat.le_refl _) (by omega)
                  refine n_round' (y := (m, a', b', lim, bl, bp)) (m5, a', mid, lim1, _, _) (by show mid - a' < b' - a'; omega) ?_ aK _ (.refl _) (List.Sublist.refl _)
                  exact ⟨hm4.trans (hq5.mono ha hb' (by omega)), hpt.right hfin4 hp5 hs5 (by omega), (hlb4.pr hq5 (Nat.le_refl _) (Nat.le_refl _)).less (by show mid ≤ b'; omega), ha, k1, by show mid ≤ b; omega⟩
            · skip
              refine gn 23 ?_
              refine oL (lC (part2_is (p := p) (hl.trans hn) hf (by omega) hp.1 hp.2 (by omega)) rfl (.cons .head .nil)) ?_
              rintro ⟨r, H'⟩ ⟨mid, t, m4, rfl, hp1, hpt, rfl⟩
              simp only [List.cons_append, List.nil_append]
              have k1 := hpt.am
              have k2 := hpt.mb
              have hm4 : PR a b l m4 := hm.trans (hp1.mono ha hb' (by omega))
              have hfin4 := hfin.pr hp1
              have hlb4 := hlb.pr hp1 (Nat.le_refl _) (Nat.le_refl _)
              have hl4 : m4.length = l.length := hm4.len
              refine gn 39 ?_
              refine c_ifp rfl (fun h6 => ?_) (fun h6 => ?_)
              · refine gn 14 ?_
                refine oL (lC (ih (mid - a') (by omega) (a := a') (b := mid) (hl4.trans hn) k1 (by omega) rfl (hlb4.less (by omega))) rfl (.cons .head .nil)) ?_
                rintro ⟨r, H'⟩ ⟨rfl, m5, ⟨hp5, hs5⟩, rfl⟩
                simp only [List.cons_append, List.nil_append]
                refine gn 8 ?_
                have hq5 : PR a' b' m4 m5 := hp5.mono (Nat.le_refl _) (by omega) (by omega)
                refine n_round' (y := (m, a', b', lim, bl, bp)) (m5, mid + 1, b', lim1, _, _) (by show b' - (mid + 1) < b' - a'; omega) ?_ aK _ (.refl _) (List.Sublist.refl _)
                exact ⟨hm4.trans (hq5.mono ha hb' (by omega)), hpt.left hfin4 hp5 hs5 (by omega), (hpt.keepl hp5).lbr, by show a ≤ mid + 1; omega, by show mid + 1 ≤ b'; omega, hb'⟩
              · skip
                refine gn 15 ?_
                refine oL (lC (ih (b' - (mid + 1)) (by omega) (a := mid + 1) (b := b') (hl4.trans hn) (by omega) (by omega) rfl hpt.lbr) rfl (.cons .head .nil)) ?_
                rintro ⟨r, H'⟩ ⟨rfl, m5, ⟨hp5, hs5⟩, rfl⟩
                simp only [List.cons_append, List.nil_append]
                refine gn 7 ?_
                have hq5 : PR a' b' m4 m5 := hp5.mono (by omega) (Nat.le_refl _) (by omega)
                refine n_round' (y := (m, a', b', lim, bl, bp)) (m5, a', mid, lim1, _, _) (by show mid - a' < b' - a'; omega) ?_ aK _ (.refl _) (List.Sublist.refl _)
                exact ⟨hm4.trans (hq5.mono ha hb' (by omega)), hpt.right hfin4 hp5 hs5 (by omega), (hlb4.pr hq5 (Nat.le_refl _) (Nat.le_refl _)).less (by show mid ≤ b'; omega), ha, k1, by show mid ≤ b; omega⟩
theorem sort_is {l : List Int} (hn : l.length = n) (hf : n ≤ lo ∨ hi = 0) (h1 : n ≤ 255) :
    Ctr prog 327 [.slice (some ⟨g, 0, none⟩) n cap] G [(g, VB .u64 l rest 23 lo hi)] (fun r H' => r = .tuple #[] ∧ H' = [(g, VB .u64 (srt l) rest 23 lo hi)]) := by
  refine fn_enter 11 func327 rfl ntmps327 rfl ?_
  intro w0
  refine gn 12 ?_
  refine o_pure rfl call66 (len_is (x := n) (by omega)) rfl rfl ?_
  refine oL (lC (pdq_is hf h1 n (a := 0) (b := n) hn (Nat.zero_le _) (Nat.le_refl _) (by omega) (.inl rfl)) rfl (.cons .head .nil)) ?_
  rintro ⟨r, H'⟩ ⟨rfl, l', ⟨hp, hs⟩, rfl⟩
  simp only [List.cons_append, List.nil_append]
  refine gn 1 ?_
  refine n_fn0 results327 ?_
  exact ⟨rfl, by rw [srt_of hp hs hn]⟩
end
end Go.Proofs.A8
namespace Go.Proofs
open Go Go.Sl Tryz
set_option maxRecDepth 100000
set_option maxHeartbeats 1000000
theorem KV_get : ∀ {ms : List Mcode}, (ms.map fun t => t.code).Nodup → ∀ t ∈ ms, mget (KV ms) (t.code : Nat) = some (.pointer (some ⟨t.gc, 0, none⟩))
  | [], _, t, ht => by cases ht
  | t0 :: ms, hd, t, ht => by
    rw [List.map_cons, List.nodup_cons] at hd
    simp only [KV, List.map_cons, mget]
    rcases List.mem_cons.1 ht with rfl | ht
    · rw [if_pos rfl]
    · rw [if_neg (fun e => hd.1 (by have e' : t.code = t0.code := by omega
                                    rw [← e']; exact List.mem_map_of_mem ht))]
      exact KV_get hd.2 t ht
end Go.Proofs
namespace Go.Sl
open Go
set_option maxRecDepth 10000
def uvF : Nat → Nat → List UInt8
  | 0, x => [UInt8.ofNat x]
  | f + 1, x => if x < 128 then [UInt8.ofNat x] else UInt8.ofNat (128 + x % 128) :: uvF f (x / 128)
/-- A number as a varint. -/
def uv (x : Nat) : List UInt8 := uvF 9 x
theorem uvF_pos (f x : Nat) : 0 < (uvF f x).length := by
  cases f with
  | zero => simp [uvF]
  | succ f => simp only [uvF]; split <;> simp
theorem uvF_le (f x : Nat) : (uvF f x).length ≤ f + 1 := by
  induction f generalizing x with
  | zero => simp [uvF]
  | succ f ih =>
    simp only [uvF]
    split
    · simp
    · have := ih (x / 128); simp; omega
theorem pow_div (x i : Nat) : x / 128 / 128 ^ i = x / 128 ^ (i + 1) := by rw [Nat.div_div_eq_div_mul, Nat.pow_succ, Nat.mul_comm]
theorem uvF_mid (f x i : Nat) (h : i + 1 < (uvF f x).length) : 128 ≤ x / 128 ^ i ∧ (uvF f x)[i]? = some (UInt8.ofNat (128 + x / 128 ^ i % 128)) := by
  induction f generalizing x i with
  | zero => simp [uvF] at h
  | succ f ih =>
    simp only [uvF] at h ⊢
    split at h
    · simp at h
    · rename_i hx
      rw [if_neg hx]
      cases i with
      | zero => simp; omega
      | succ i =>
        have := ih (x / 128) i (by simpa using h)
        rw [pow_div] at this
        exact ⟨this.1, by simpa using this.2⟩
theorem uvF_last (f x i : Nat) (hx : x < 128 ^ (f + 1)) (h : i + 1 = (uvF f x).length) : x / 128 ^ i < 128 ∧ (uvF f x)[i]? = some (UInt8.ofNat (x / 128 ^ i)) ∧ (0 < i → 0 < x / 128 ^ i) := by
  induction f generalizing x i with
  | zero =>
    have : i = 0 := by simpa [uvF] using h
    subst this
    simpa [uvF] using hx
  | succ f ih =>
    simp only [uvF] at h ⊢
    split at h
    · rename_i hx'
      have : i = 0 := by simpa using h
      subst this
      rw [if_pos hx']
      simpa using hx'
    · rename_i hx'
      rw [if_neg hx']
      cases i with
      | zero => have := uvF_pos f (x / 128); simp at h; rw [h] at this; simp at this
      | succ i =>
        have h2 : x / 128 < 128 ^ (f + 1) := by rw [Nat.div_lt_iff_lt_mul (by decide)]; rw [Nat.pow_succ 128 (f + 1)] at hx; omega
        have := ih (x / 128) i h2 (by simpa using h)
        rw [pow_div] at this
        refine ⟨this.1, by simpa using this.2.1, fun _ => ?_⟩
        by_cases h0 : 0 < i
        · exact this.2.2 h0
        · obtain rfl : i = 0 := by omega
          simp; omega
theorem uv_pos (x : Nat) : 0 < (uv x).length := uvF_pos 9 x
theorem uv_le (x : Nat) : (uv x).length ≤ 10 := uvF_le 9 x
theorem uv_le9 {x : Nat} (hx : x < 9223372036854775808) : (uv x).length ≤ 9 := by
  apply Decidable.byContradiction
  intro hn
  have hl := uv_le x
  have := uvF_mid 9 x 8 (show 8 + 1 < (uv x).length by omega)
  have h2 : x / 128 ^ 8 < 128 := by rw [Nat.div_lt_iff_lt_mul (by decide)]; omega
  omega
theorem uv_mid {x i : Nat} (h : i + 1 < (uv x).length) : 128 ≤ x / 128 ^ i ∧ (uv x)[i]? = some (UInt8.ofNat (128 + x / 128 ^ i % 128)) := uvF_mid 9 x i h
theorem uv_last {x i : Nat} (hx : x < 18446744073709551616) (h : i + 1 = (uv x).length) : x / 128 ^ i < 128 ∧ (uv x)[i]? = some (UInt8.ofNat (x / 128 ^ i)) ∧ (0 < i → 0 < x / 128 ^ i) := uvF_last 9 x i (by omega) h
/-- A byte's 'or' with 128. -/
theorem or128_all : (List.range 256).all (fun y => (BitVec.ofNat 8 y ||| BitVec.ofNat 8 128).toNat == 128 + y % 128) = true := by decide
theorem or128 (z : Int) (n : Nat) (hz : z = n) : ib .or .u8 (IntKind.u8.wrap z) 128 = ((128 + n % 128 : Nat) : Int) := by
  have hw : IntKind.u8.wrap z = ((n % 256 : Nat) : Int) := by
    subst hz
    simp [IntKind.wrap, IntKind.bits, IntKind.signed]
  have h := List.all_eq_true.1 or128_all (n % 256) (List.mem_range.2 (by omega))
  simp only [beq_iff_eq] at h
  have e : n % 256 % 128 = n % 128 := by omega
  rw [e] at h
  rw [hw]
  simp only [ib]
  rw [show ((128 : Int)) = ((128 : Nat) : Int) from rfl, BitVec.ofInt_natCast, BitVec.ofInt_natCast]
  show IntKind.u8.wrap ((BitVec.ofNat 8 (n % 256) ||| BitVec.ofNat 8 128).toNat : Int) = _
  rw [h]
  refine wrap_in .u8 _ ?_ ?_ <;> simp [IntKind.min, IntKind.max, IntKind.signed, IntKind.bits] <;> omega
theorem and127_all : (List.range 256).all (fun y => (BitVec.ofNat 8 y &&& BitVec.ofNat 8 127).toNat == y % 128) = true := by decide
theorem and127 {n : Nat} (hn : n < 256) : ib .and .u8 (n : Nat) 127 = ((n % 128 : Nat) : Int) := by
  have h := List.all_eq_true.1 and127_all n (List.mem_range.2 hn)
  simp only [beq_iff_eq] at h
  simp only [ib]
  rw [show ((127 : Int)) = ((127 : Nat) : Int) from rfl, BitVec.ofInt_natCast, BitVec.ofInt_natCast]
  show IntKind.u8.wrap ((BitVec.ofNat 8 n &&& BitVec.ofNat 8 127).toNat : Int) = _
  rw [h]
  refine wrap_in .u8 _ ?_ ?_ <;> simp [IntKind.min, IntKind.max, IntKind.signed, IntKind.bits] <;> omega
theorem p128 (i : Nat) : 128 ^ i = 2 ^ (7 * i) := by rw [show (128 : Nat) = 2 ^ 7 from rfl, ← Nat.pow_mul]
/-- One digit more. -/
theorem mod_succ (x i : Nat) : x % 128 ^ i + x / 128 ^ i % 128 * 2 ^ (7 * i) = x % 128 ^ (i + 1) := by
  rw [← p128, Nat.pow_succ, Nat.mod_mul, Nat.mul_comm (128 ^ i)]
theorem mod_last {x i : Nat} : x % 128 ^ i + x / 128 ^ i * 2 ^ (7 * i) = x := by
  rw [← p128, Nat.mul_comm]
  exact Nat.mod_add_div x (128 ^ i)
theorem mod_lt' (x i : Nat) : x % 128 ^ i < 2 ^ (7 * i) := by rw [← p128]; exact Nat.mod_lt _ (Nat.pow_pos (by decide))
section
variable {x : Cx} {s : Slots} {H : HP} {d : Nat} {p q : Operand} {ty t t' : TypeId} {pos : String} {af : Array Edge} {gd : Option (Nat × Bool)}
theorem e_shrk {m : Nat} {kd kd' : IntKind} {n : Int} (k : Nat) (hp : ev s p = some (.int kd (m : Nat))) (hq : ev s q = some (.int kd' n)) (hn : n = k) (hk : k ≤ kd.bits) : Ex x s H ⟨some d, .binOp .shr t p q t', ty, pos, af, gd⟩ (.int kd ((m / 2 ^ k : Nat) : Int)) := by
  subst hn
  have h := e_shr (x := x) (s := s) (H := H) (d := d) (ty := ty) (pos := pos) (af := af) (gd := gd) (t := t) (t' := t') hp hq (by omega)
  have h1 : min ((k : Nat) : Int).toNat kd.bits = k := by rw [Int.toNat_natCast]; exact Nat.min_eq_left hk
  rw [h1] at h
  have h2 : ((m : Nat) : Int).fdiv (2 ^ k) = ((m / 2 ^ k : Nat) : Int) := by
    rw [Int.fdiv_eq_ediv_of_nonneg _ (Int.le_of_lt (Int.pow_pos (by decide)))]
    simp
  rwa [h2] at h
end
end Go.Sl
namespace Go.Proofs
open Go Go.Sl Tryz
set_option maxRecDepth 100000
set_option maxHeartbeats 1000000
theorem div_step (x i : Nat) : x / 128 ^ i / 2 ^ 7 = x / 128 ^ (i + 1) := by
  show _ = x / (128 ^ i * 128)
  rw [← Nat.div_div_eq_div_mul]
theorem ofNat_z {q : Nat} (h : q < 256) : ((q : Nat) : Int) = (UInt8.ofNat q).toNat := by rw [UInt8.toNat_ofNat']; omega
end Go.Proofs
namespace Go.Proofs
open Go Go.Sl Tryz
set_option maxRecDepth 100000
set_option maxHeartbeats 1000000
theorem byte_at {l : List Value} {off n i : Nat} {bs : List UInt8} {b : UInt8} {z : Nat} (h : CutL l off n (B bs)) (hb : bs[i]? = some b) (hz : b.toNat = z) : l[off + i * 1]? = some (.int .u8 (z : Nat)) := by
  subst hz
  obtain ⟨hi, rfl⟩ := List.getElem?_eq_some_iff.1 hb
  have h1 := congrArg (fun y => y[i]?) h.eq
  have h2 : (B bs).length = n := by have := congrArg List.length h.eq; have := h.le; simp at *; omega
  have h3 : i < n := by rw [← h2, B_length]; exact hi
  simp only [List.getElem?_take_of_lt h3, List.getElem?_drop] at h1
  rw [Nat.mul_one, ← h1]
  simp [B, hi]
section
variable {G : HP} {g x off n cap : Nat} {bs tl : List UInt8} {l : List Value} {e : TypeId} {fr : Nat × Nat}
theorem fromU_is (hx : x < 9223372036854775808) (hm : (g, .cells l.toArray e fr) ∈ G) (hcut : CutL l off n (B bs)) (hbs : bs = uv x ++ tl) (hc : n ≤ cap) (hcap : cap < 9223372036854775808) :
    CtrP prog 157 [.slice (some ⟨g, off, none⟩) n cap] G (.tuple #[.int .u64 (x : Nat), .int .i64 ((uv x).length : Nat), .nilIface]) := by
  have hp := uv_pos x
  have h9 := uv_le9 hx
  have hx' : x < 18446744073709551616 := by omega
  have hlen : bs.length = n := by have := congrArg List.length hcut.eq; have := hcut.le; simp [B_length] at *; omega
  have hL : (uv x).length ≤ n := by rw [← hlen, hbs, List.length_append]; omega
  refine fn_enter 55 func157 rfl ntmps157 rfl ?_
  intro w0
  refine gn 26 ?_
  refine c_loop (X := Nat) (fun i => [(9, .slice (some ⟨g, off, none⟩) n cap), (10, .int .i64 n), (11, .int .i64 i), (5, .int .u64 (x % 128 ^ i : Nat)), (6, .int .u64 (7 * i : Nat))]) (fun _ => []) (fun i => i < (uv x).length) (fun i => (uv x).length - i) 0 hp (sub_cons rfl (sub_cons rfl (sub_cons rfl (sub_cons (by show some _ = some _; simp [Nat.mod_one]) aK)))) (.refl _) ?_
  intro i hi'
  refine gn 6 ?_
  refine c_ifp rfl (fun h1 => ?_) (fun h1 => ?_)
  · skip
    by_cases hmid : i + 1 < (uv x).length
    · obtain ⟨h2, h3⟩ := uv_mid hmid
      have hb : bs[i]? = some (UInt8.ofNat (128 + x / 128 ^ i % 128)) := by rw [hbs, List.getElem?_append_left (by omega)]; exact h3
      have hcell := byte_at (z := 128 + x / 128 ^ i % 128) hcut hb (by rw [UInt8.toNat_ofNat']; omega)
      have e127 : (128 + x / 128 ^ i % 128) % 128 = x / 128 ^ i % 128 := by omega
      have hle : x % 128 ^ (i + 1) ≤ x := Nat.mod_le _ _
      refine gn 19 ?_
      refine o_splitp 18 rfl (fun h4 => ?_) (fun h4 => ?_)
      · exact absurd h4 (by omega)
      · skip
        refine gn 9 ?_
        refine c_ifp rfl (fun h5 => ?_) (fun h5 => ?_)
        · exact absurd h5 (by omega)
        · skip
          refine gn 9 ?_
          refine c_ifp rfl (fun h6 => ?_) (fun h6 => ?_)
          · exact absurd h6 (by omega)
          · skip
            refine gn 7 ?_
            rw [and127 (by omega), e127]
            refine gn 4 ?_
            rw [or_sh rfl _ (7 * i) (Int.toNat_natCast _) (by show 7 * i ≤ 64; omega) (mod_lt' x i) (by rw [mod_succ]; show _ < 18446744073709551616; omega), mod_succ]
            refine gn 14 ?_
            refine n_round' (y := i) (i + 1) (by omega) hmid (sub_cons rfl (sub_cons rfl (sub_cons rfl (sub_cons rfl (sub_cons (by show some (Value.int .u64 (((7 * i : Nat) : Int) + 7)) = some (Value.int .u64 ((7 * (i + 1) : Nat) : Int)); rw [show ((7 * i : Nat) : Int) + 7 = ((7 * (i + 1) : Nat) : Int) by omega]) sub_nil))))) _ (.refl _) (List.Sublist.refl _)
    · skip
      have hlast : i + 1 = (uv x).length := by omega
      obtain ⟨h2, h3, h0⟩ := uv_last hx' hlast
      have hb : bs[i]? = some (UInt8.ofNat (x / 128 ^ i)) := by rw [hbs, List.getElem?_append_left (by omega)]; exact h3
      have hcell := byte_at (z := x / 128 ^ i) hcut hb (by rw [UInt8.toNat_ofNat']; exact Nat.mod_eq_of_lt (Nat.lt_trans h2 (by decide)))
      have hor : ib .or .u64 ((x % 128 ^ i : Nat) : Int) (IntKind.u64.wrap (((x / 128 ^ i : Nat) : Int) * 2 ^ (min ((7 * i : Nat) : Int).toNat IntKind.u64.bits))) = ((x : Nat) : Int) := by
        rw [or_sh rfl _ (7 * i) (Int.toNat_natCast _) (by show 7 * i ≤ 64; omega) (mod_lt' x i) (by rw [mod_last]; show _ < 18446744073709551616; omega), mod_last]
      clear hb h3
      generalize x / 128 ^ i = q at h2 h0 hcell hor
      refine gn 14 ?_
      refine c_cut (X := Unit) (fun _ => [(5, .int .u64 (x % 128 ^ i : Nat)), (6, .int .u64 (7 * i : Nat)), (7, .int .i64 i), (8, .int .u8 (q : Nat))]) (fun _ => []) (fun _ => True) ?_ ?_
      · skip
        refine gn 5 ?_
        refine o_splitp 18 rfl (fun h4 => ?_) (fun h4 => ?_)
        · refine gn 4 ?_
          refine o_splitp 22 rfl (fun h5 => ?_) (fun h5 => ?_)
          · exact absurd h5 (by omega)
          · skip
            refine gn 5 ?_
            refine c_ifp rfl (fun h6 => ?_) (fun h6 => ?_)
            · exact absurd h6 (by omega)
            · skip
              refine gn 1 ?_
              exact n_cut () trivial aK (.refl _)
        · skip
          refine gn 9 ?_
          refine c_ifp rfl (fun h6 => ?_) (fun h6 => ?_)
          · exact absurd h6 (by omega)
          · skip
            refine gn 1 ?_
            exact n_cut () trivial aK (.refl _)
      rintro ⟨⟩ -
      refine gn 8 ?_
      refine c_ifp rfl (fun h6 => ?_) (fun h6 => ?_)
      · refine gn 6 ?_
        refine o_splitp 31 rfl (fun h7 => ?_) (fun h7 => ?_)
        · refine gn 5 ?_
          refine c_ifp rfl (fun h8 => ?_) (fun h8 => ?_)
          · exact absurd h8 (by have : i = 0 ∨ 0 < i := by omega
                                rcases this with rfl | h; simp; have := h0 h; omega)
          · skip
            refine gn 10 ?_
            rw [hor]
            refine gn 8 ?_
            refine r_fn (l := [.tmp 2, .tmp 3, .tmp 4]) results157 rfl rfl ?_
            exact ⟨by rw [← hlast]; rfl, rfl⟩
        · skip
          refine gn 16 ?_
          rw [hor]
          refine gn 8 ?_
          refine r_fn (l := [.tmp 2, .tmp 3, .tmp 4]) results157 rfl rfl ?_
          exact ⟨by rw [← hlast]; rfl, rfl⟩
      · exact absurd h6 (by omega)
  · exact absurd h1 (by omega)
end
end Go.Proofs
namespace Go.Sl
open Go
section
variable {x : Cx} {ops : Array Oper} {k : List KI} {rest : List Oper} {s : Slots} {H : HP} {d : Nat} {p pl : Operand} {ty t : TypeId} {pos : String} {af : Array Edge} {gd : Option (Nat × Bool)} {e g off n a cap : Nat} {kl : IntKind}
theorem q_ex {o : Oper} {d : Nat} {A : Value → Prop} (hw : wantS ops s o = some true) (hd : o.dst = some d) (hN : Nat.blt d x.N = true) (he : ∃ v, A v ∧ Ex x s H o v) (h : ∀ v, A v → QO x ops k rest ((d, v) :: s) H) : QO x ops k (o :: rest) s H := by
  obtain ⟨v, h1, h2⟩ := he
  exact q_e hw hd hN h2 (h v h1)
/-- A slice cut at its front, maybe at its room's end. -/
theorem e_slb (hU : ∀ w, (underlying t).run x.P w = .ok (.slice e) w) (hS : ∀ w, (sizeOf e).run x.P w = .ok 1 w) (hp : ev s p = some (.slice (some ⟨g, off, none⟩) n cap)) (hl : ev s pl = some (.int kl (a : Nat))) (h2 : a ≤ n) (h3 : n ≤ cap) :
    ∃ v, (∃ A, v = .slice A (n - a) (cap - a) ∧ (a < cap → A = some ⟨g, off + a, none⟩)) ∧ Ex x s H ⟨some d, .slice t p (some pl) none none, ty, pos, af, gd⟩ v := by
  by_cases hc : a < cap
  · refine ⟨_, ⟨some ⟨g, off + a, none⟩, rfl, fun _ => rfl⟩, ?_⟩
    have := e_sl_l (x := x) (s := s) (H := H) (d := d) (ty := ty) (pos := pos) (af := af) (gd := gd) hU hS hp hl (by omega) (by omega) (by omega)
    simpa using this
  · refine ⟨_, ⟨some ⟨g, off, none⟩, rfl, fun h => absurd h hc⟩, ?_⟩
    have := e_sl_le (x := x) (s := s) (H := H) (d := d) (ty := ty) (pos := pos) (af := af) (gd := gd) hU hS hp hl (by omega) (by omega) (by omega)
    have e1 : cap - a = 0 := by omega
    rw [e1]
    simpa using this
end
/-- A slice value that holds these bytes; of an empty one nothing more is told. -/
inductive BS (H : HP) : Value → List UInt8 → Prop where
  | emp {A : Option Addr} {cap : Nat} : BS H (.slice A 0 cap) []
  | blk {g off n cap : Nat} {l : List Value} {e : TypeId} {fr : Nat × Nat} {bs : List UInt8} (hm : (g, Obj.cells l.toArray e fr) ∈ H) (hc : CutL l off n (B bs)) (hn : n ≤ cap) (h63 : cap < 9223372036854775808) : BS H (.slice (some ⟨g, off, none⟩) n cap) bs
theorem BS.of {H : HP} {g off n cap : Nat} {A : Option Addr} {l : List Value} {e : TypeId} {fr : Nat × Nat} {bs : List UInt8} (hm : (g, Obj.cells l.toArray e fr) ∈ H) (hc : CutL l off n (B bs)) (hn : n ≤ cap) (h63 : cap < 9223372036854775808) (hA : 0 < cap → A = some ⟨g, off, none⟩) : BS H (.slice A n cap) bs := by
  by_cases h : 0 < cap
  · rw [hA h]; exact .blk hm hc hn h63
  · obtain rfl : n = 0 := by omega
    have : bs = [] := by
      have := congrArg List.length hc.eq
      simpa [B_length] using this
    subst this
    exact .emp
theorem CutL.len {l : List Value} {off n : Nat} {bs : List UInt8} (h : CutL l off n (B bs)) : bs.length = n := by
  have h1 := congrArg List.length h.eq
  have h2 := h.le
  simp [B_length] at h1
  omega
/-- What is cut out, cut at its front. -/
theorem CutL.front {l : List Value} {off n a : Nat} {u tl : List UInt8} (h : CutL l off n (B (u ++ tl))) (ha : u.length = a) : CutL l (off + a) (n - a) (B tl) := by
  have h1 := h.eq
  have h2 := h.le
  have h3 := h.len
  have h4 := CutL.of (l := l) (i := off + a) (n := n - a) (by rw [List.length_append] at h3; omega)
  have e : B tl = (l.drop (off + a)).take (n - a) := by
    have := congrArg (List.drop a) h1
    rw [B_append, List.drop_left' (by rw [B_length]; exact ha), List.drop_take, List.drop_drop] at this
    exact this
  rw [e]; exact h4
end Go.Sl
namespace Go.Proofs
open Go Go.Sl Tryz
set_option maxRecDepth 100000
set_option maxHeartbeats 1000000
/-- A multihash. -/
def mhB (h : Nat) (d : List UInt8) : List UInt8 := uv h ++ (uv d.length ++ d)
theorem mhB_length (h : Nat) (d : List UInt8) : (mhB h d).length = (uv h).length + (uv d.length).length + d.length := by simp [mhB]; omega
section
variable {G : HP} {g x h off n cap lo hi : Nat} {bs tl d : List UInt8} {l rest : List Value} {e : TypeId} {fr : Nat × Nat}
theorem muv_is (hx : x < 9223372036854775808) (hm : (g, .cells l.toArray e fr) ∈ G) (hcut : CutL l off n (B (uv x ++ tl))) (hc : n ≤ cap) (hcap : cap < 9223372036854775808) :
    Ctr prog 224 [.slice (some ⟨g, off, none⟩) n cap] G [] (fun r H' => ∃ A, r = .tuple #[.int .u64 (x : Nat), .slice A (n - (uv x).length) (cap - (uv x).length), .nilIface] ∧ ((uv x).length < cap → A = some ⟨g, off + (uv x).length, none⟩) ∧ H' = []) := by
  have hp := uv_pos x
  have hL : (uv x).length ≤ n := by have := hcut.len; rw [List.length_append] at this; omega
  refine fn_enter 36 func224 rfl ntmps224 rfl ?_
  intro w0
  refine gn 10 ?_
  refine oL (lC (fromU_is hx hm hcut rfl hc hcap) rfl .nil) ?_
  rintro ⟨r, H'⟩ ⟨rfl, rfl⟩
  simp only [List.nil_append]
  refine gn 25 ?_
  refine c_ifp rfl (fun h1 => ?_) (fun h1 => ?_)
  · exact absurd h1 (by omega)
  · skip
    refine gn 6 ?_
    refine c_ifp rfl (fun h2 => ?_) (fun h2 => ?_)
    · exact absurd h2 (by omega)
    · skip
      refine gn 5 ?_
      refine q_ex rfl rfl rfl (e_slb runUnderlying72 sizeOf5 rfl rfl hL hc) ?_
      rintro v ⟨A, rfl, hA⟩
      refine gn 6 ?_
      refine r_fn (l := [.tmp 2, .tmp 3, .tmp 4]) results224 rfl rfl ?_
      exact ⟨A, rfl, hA, rfl⟩
theorem rmh_is (hh : h < 9223372036854775808) (hd : d.length ≤ 1000) (hm : (g, .cells l.toArray e fr) ∈ G) (hcut : CutL l off n (B (mhB h d))) (hc : n ≤ cap) (hcap : cap < 9223372036854775808) :
    Ctr prog 211 [.slice (some ⟨g, off, none⟩) n cap] G [] (fun r H' => ∃ v, r = .tuple #[.int .i64 n, .int .u64 (h : Nat), v, .nilIface] ∧ (∃ A c, v = .slice A d.length c) ∧ BS G v d ∧ H' = []) := by
  have hp := uv_pos h
  have hp2 := uv_pos d.length
  have hn := hcut.len
  rw [mhB_length] at hn
  have hc2 := hcut.front (u := uv h) rfl
  have hc3 := hc2.front (u := uv d.length) rfl
  refine fn_enter 55 func211 rfl ntmps211 rfl ?_
  intro w0
  refine gn 22 ?_
  refine c_ifp rfl (fun h1 => ?_) (fun h1 => ?_)
  · exact absurd h1 (by omega)
  · skip
    refine gn 16 ?_
    refine oL (lC (muv_is hh hm hcut hc hcap) rfl .nil) ?_
    rintro ⟨r, H'⟩ ⟨A, rfl, hA, rfl⟩
    rw [hA (by omega)]
    simp only [List.nil_append]
    refine gn 22 ?_
    refine oL (lC (muv_is (x := d.length) (by omega) hm hc2 (by omega) (by omega)) rfl .nil) ?_
    rintro ⟨r, H'⟩ ⟨A2, rfl, hA2, rfl⟩
    simp only [List.nil_append]
    refine gn 26 ?_
    refine c_ifp rfl (fun h2 => ?_) (fun h2 => ?_)
    · exact absurd h2 (by omega)
    · skip
      refine gn 12 ?_
      refine c_ifp rfl (fun h3 => ?_) (fun h3 => ?_)
      · exact absurd h3 (by omega)
      · skip
        refine gn 28 ?_
        refine r_fn (l := [.tmp 2, .tmp 3, .tmp 4, .tmp 5]) results211 rfl rfl ?_
        refine ⟨_, ?_, ⟨A2, _, rfl⟩, BS.of hm (n := d.length) (cap := cap - (uv h).length - (uv d.length).length) (by have := hc3; rwa [show n - (uv h).length - (uv d.length).length = d.length by omega] at this) (by omega) (by omega) (fun h0 => hA2 (by omega)), rfl⟩
        rw [show n - (n - (uv h).length - (uv d.length).length) + d.length = n by omega, Int.toNat_natCast]
        rfl
theorem decode_is (hh : h < 9223372036854775808) (hd : d.length ≤ 1000) (hm : (g, .cells l.toArray e fr) ∈ G) (hcut : CutL l off n (B (mhB h d))) (hc : n ≤ cap) (hcap : cap < 9223372036854775808) :
    Ctr prog 162 [.slice (some ⟨g, off, none⟩) n cap] G [] (fun r H' => ∃ v, r = .tuple #[.agg #[.int .u64 (h : Nat), S [], .int .i64 d.length, v], .nilIface] ∧ (∃ A c, v = .slice A d.length c) ∧ BS G v d ∧ H' = []) := by
  refine fn_enter 33 func162 rfl ntmps162 rfl ?_
  intro w0
  refine gn 2 ?_
  refine oZ ?_; intro g2 _
  refine gn 6 ?_
  refine oL (lC (rmh_is hh hd hm hcut hc hcap) rfl .nil) ?_
  rintro ⟨r, H'⟩ ⟨v, rfl, ⟨A, c, rfl⟩, hb, rfl⟩
  simp only [List.nil_append]
  refine gn 27 ?_
  refine oX (eB [.int .u64 (h : Nat), S [], .int .i64 d.length, .slice A d.length c]) ?_
  refine oL (l_storea sizeOf181 rfl rfl rfl (by simp [Value.oneCell']) .head (.take (.take (.take (.take .done)))) nofrs0) ?_
  intro _ _
  refine gn 11 ?_
  refine c_ifp rfl (fun h1 => ?_) (fun h1 => ?_)
  · exact absurd h1 (by omega)
  · skip
    refine gn 5 ?_
    refine oL (l_storea sizeOf181 rfl rfl rfl (by simp [Value.oneCell']) .head (.take (.take (.take (.take .done)))) nofrs0) ?_
    intro _ _
    refine gn 4 ?_
    refine r_fnx results162 (.cella isAgg181 sizeOf181 rfl (.inl (.head _)) (.take (.take (.take (.take .done)))) (.tmp rfl .nil)) .nil rfl ?_
    exact ⟨_, rfl, ⟨A, c, rfl⟩, hb, rfl⟩
theorem Decode_is (hh : h < 9223372036854775808) (hd : d.length ≤ 1000) (hm : (g, .cells l.toArray e fr) ∈ G) (hcut : CutL l off n (B (mhB h d))) (hc : n ≤ cap) (hcap : cap < 9223372036854775808) :
    Ctr prog 92 [.slice (some ⟨g, off, none⟩) n cap] G [] (fun r H' => ∃ (gm : Nat) (v : Value), r = .tuple #[.pointer (some ⟨gm, 0, none⟩), .nilIface] ∧ (∃ A c, v = .slice A d.length c) ∧ BS G v d ∧ H' = [(gm, C [.int .u64 (h : Nat), S [], .int .i64 d.length, v] 181)]) := by
  refine fn_enter 14 func92 rfl ntmps92 rfl ?_
  intro w0
  refine gn 9 ?_
  refine oL (lC (decode_is hh hd hm hcut hc hcap) rfl .nil) ?_
  rintro ⟨r, H'⟩ ⟨v, rfl, ⟨A, c, rfl⟩, hb, rfl⟩
  simp only [List.nil_append]
  refine gn 3 ?_
  refine oZ ?_; intro g4 _
  refine oL (l_storea sizeOf181 rfl rfl rfl (by simp [Value.oneCell']) .head (.take (.take (.take (.take .done)))) nofrs0) ?_
  intro _ _
  refine gn 20 ?_
  refine r_fn (l := [.tmp 2, .tmp 3]) results92 rfl rfl ?_
  exact ⟨_, _, rfl, ⟨A, c, rfl⟩, hb, rfl⟩
end
end Go.Proofs
namespace Go.Proofs
open Go Go.Sl Tryz
set_option maxRecDepth 100000

theorem fits1 {G : HP} (x : En) : Ctr prog 10 [.agg (cC x).toArray] G [] (fun r _ => ∃ b, r = .bool b) := by
  obtain ⟨v, c, h, d, o⟩ := x
  simp only [cC]
  refine fn_enter 7 func10 rfl ntmps10 rfl ?_
  intro w0
  refine gn 2 ?_
  refine oB ?_; intro g1 _
  refine gn 6 ?_
  refine oX (e_fa runUnderlying25 rfl sizeOf9 rfl rfl) ?_
  refine gn 5 ?_
  refine c_ifp rfl (fun h => ?_) (fun h => ?_)
  · refine gn 6 ?_
    refine r_fn1 results10 rfl ?_
    exact ⟨_, rfl⟩
  · skip
    refine gn 8 ?_
    refine r_fn1 results10 rfl ?_
    exact ⟨_, rfl⟩
end Go.Proofs
namespace Go.Proofs
open Go Go.Sl Tryz
set_option maxRecDepth 100000

def Tidy (x : En) : Prop := (x.v = 0 ∧ x.c = 112 ∧ x.h = 18 ∧ x.d.length = 32) ∨ (x.v = 1 ∧ x.c < 9223372036854775808 ∧ x.h < 9223372036854775808)
instance (x : En) : Decidable (Tidy x) := by unfold Tidy; infer_instance
theorem tidy_is {G : HP} (x : En) : Ctr prog 12 [.agg (cC x).toArray] G [] (fun r _ => r = .bool (decide (Tidy x))) := by
  obtain ⟨v, c, h, d, o⟩ := x
  simp only [cC]
  refine fn_enter 33 func12 rfl ntmps12 rfl ?_
  intro w0
  refine gn 2 ?_
  refine oB ?_; intro g1 _
  refine gn 6 ?_
  refine oX (e_fa runUnderlying25 rfl sizeOf23 rfl rfl) ?_
  refine gn 4 ?_
  refine c_ifp rfl (fun h1 => ?_) (fun h1 => ?_)
  · refine gn 2 ?_
    refine oX (e_fa runUnderlying25 rfl sizeOf23 rfl rfl) ?_
    refine gn 3 ?_
    refine o_splitp 9 rfl (fun h2 => ?_) (fun h2 => ?_)
    · refine oX (e_fa runUnderlying25 rfl sizeOf23 rfl rfl) ?_
      refine gn 4 ?_
      refine o_splitp 14 rfl (fun h3 => ?_) (fun h3 => ?_)
      · refine oX (e_fa runUnderlying25 rfl sizeOf9 rfl rfl) ?_
        refine gn 8 ?_
        refine r_fn1 results12 rfl ?_
        refine congrArg Value.bool ?_
        have : ((d.length : Int) = 32) ↔ d.length = 32 := by omega
        simp [Tidy, h1, h2, h3, this]
      · skip
        refine gn 9 ?_
        refine r_fn1 results12 rfl ?_
        simp [Tidy, h1, h2, h3]
    · skip
      refine gn 14 ?_
      refine r_fn1 results12 rfl ?_
      simp [Tidy, h1, h2]
  · skip
    refine gn 4 ?_
    refine oX (e_fa runUnderlying25 rfl sizeOf23 rfl rfl) ?_
    refine gn 3 ?_
    refine o_splitp 23 rfl (fun h2 => ?_) (fun h2 => ?_)
    · refine oX (e_fa runUnderlying25 rfl sizeOf23 rfl rfl) ?_
      refine gn 4 ?_
      refine o_splitp 28 rfl (fun h3 => ?_) (fun h3 => ?_)
      · refine oX (e_fa runUnderlying25 rfl sizeOf23 rfl rfl) ?_
        refine gn 7 ?_
        refine r_fn1 results12 rfl ?_
        refine congrArg Value.bool ?_
        simp [Tidy, h2, h3]
      · skip
        refine gn 8 ?_
        refine r_fn1 results12 rfl ?_
        simp [Tidy, h1, h3]
    · skip
      refine gn 13 ?_
      refine r_fn1 results12 rfl ?_
      simp [Tidy, h1, h2]
end Go.Proofs
namespace Go.Proofs
open Go Go.Sl
/-- What a number of an entry may be. -/
structure EnFit (x : En) : Prop where
  v0 : 0 ≤ x.v
  v1 : x.v < 18446744073709551616
  c0 : 0 ≤ x.c
  c1 : x.c < 18446744073709551616
  h0 : 0 ≤ x.h
  h1 : x.h < 18446744073709551616
  o0 : 0 ≤ x.o
  o1 : x.o < 18446744073709551616
def partOf (st : List En) (n : Int) : Part := (n.toNat + 8, rowsB st n)
def parts (l : List En) : List Part := (widths l).map (partOf (stable l))
def kparts (l : List En) : List Cpart := (codes l).map fun c => (c.toNat, parts (codedL l c))
theorem pbB_partOf {st : List En} {n : Int} (h : 0 ≤ n) : pbB (partOf st n) = partB st n := by
  obtain ⟨k, rfl⟩ := Int.eq_ofNat_of_zero_le h
  simp [pbB, partOf, partB]
theorem widths_nonneg {l : List En} {n : Int} (h : n ∈ widths l) : 0 ≤ n := by
  obtain ⟨x, _, rfl⟩ := widths_mem.1 h
  omega
theorem flatMap_congr' {α β : Type} {l : List α} {f g : α → List β} (h : ∀ a ∈ l, f a = g a) : l.flatMap f = l.flatMap g := by
  induction l with
  | nil => rfl
  | cons a l ih => simp only [List.flatMap_cons]; rw [h a (.head _), ih fun b hb => h b (.tail _ hb)]
theorem sortedB_parts (l : List En) : sortedB l = pmB (parts l) := by
  simp only [sortedB, pmB, parts, List.length_map, List.flatMap_map]
  congr 1
  exact flatMap_congr' fun n hn => (pbB_partOf (widths_nonneg hn)).symm
theorem codes_nonneg {l : List En} (hf : ∀ x ∈ l, EnFit x) {n : Int} (h : n ∈ codes l) : 0 ≤ n := by
  obtain ⟨x, hx, rfl⟩ := codes_mem.1 h
  exact (hf x hx).h0
theorem bodyB_S (l : List En) : bodyB l 1024 = lowB ((parts l).length : Nat) 4 ++ (parts l).flatMap pbB := by
  rw [bodyB, if_pos rfl, sortedB_parts]; rfl
theorem bodyB_M {l : List En} (hf : ∀ x ∈ l, EnFit x) : bodyB l 1025 = lowB ((kparts l).length : Nat) 4 ++ (kparts l).flatMap pcB := by
  rw [bodyB, if_neg (by decide)]
  simp only [kparts, List.length_map, List.flatMap_map]
  congr 1
  refine flatMap_congr' fun c hc => ?_
  obtain ⟨k, rfl⟩ := Int.eq_ofNat_of_zero_le (codes_nonneg hf hc)
  simp only [codeB, pcB, sortedB_parts]
  rfl
theorem srt_nodup {l : List Int} (h : l.Nodup) : (srt l).Nodup := (List.mergeSort_perm l _).symm.nodup h
theorem widths_nodup (l : List En) : (widths l).Nodup := srt_nodup (distI_nodup _)
theorem codes_nodup (l : List En) : (codes l).Nodup := srt_nodup (distI_nodup _)
theorem nodup_map_on {α β : Type} {f : α → β} : ∀ {l : List α}, (∀ a ∈ l, ∀ b ∈ l, f a = f b → a = b) → l.Nodup → (l.map f).Nodup
  | [], _, _ => by simp
  | a :: l, hf, h => by
    rw [List.nodup_cons] at h
    rw [List.map_cons, List.nodup_cons]
    refine ⟨fun hm => ?_, nodup_map_on (fun x hx y hy => hf x (.tail _ hx) y (.tail _ hy)) h.2⟩
    obtain ⟨b, hb, he⟩ := List.mem_map.1 hm
    exact h.1 (hf b (.tail _ hb) a (.head _) he ▸ hb)
theorem parts_nodup (l : List En) : ((parts l).map (·.1)).Nodup := by
  rw [parts, List.map_map]
  refine nodup_map_on (fun a ha b hb h => ?_) (widths_nodup l)
  have h1 := widths_nonneg ha
  have h2 := widths_nonneg hb
  simp only [Function.comp, partOf] at h
  omega
theorem kparts_nodup {l : List En} (hf : ∀ x ∈ l, EnFit x) : ((kparts l).map (·.1)).Nodup := by
  rw [kparts, List.map_map]
  refine nodup_map_on (fun a ha b hb h => ?_) (codes_nodup l)
  have h1 := codes_nonneg hf ha
  have h2 := codes_nonneg hf hb
  simp only [Function.comp] at h
  omega
theorem parts_ok {l : List En} (hd : ∀ x ∈ l, x.d.length ≤ 200) : ∀ p ∈ parts l, PartOk p := by
  intro p hp
  obtain ⟨n, hn, rfl⟩ := List.mem_map.1 hp
  obtain ⟨x, hx, rfl⟩ := widths_mem.1 hn
  have h200 := hd x hx
  refine ⟨by simp [partOf], by simp [partOf]; omega, ?_⟩
  have hxs : x ∈ stable l := (stable_perm l).mem_iff.2 hx
  have : (x.d ++ lowB x.o 8).length ≤ (rowsB (stable l) (x.d.length : Nat)).length := by
    have hs : x ∈ (stable l).filter fun y => decide ((y.d.length : Int) = (x.d.length : Nat)) := List.mem_filter.2 ⟨hxs, by simp⟩
    obtain ⟨s, t, he⟩ := List.append_of_mem hs
    rw [rowsB, he]
    simp
    omega
  simp only [List.length_append, lowB_length] at this
  simp only [partOf]
  omega
theorem parts_len {l : List En} : (parts l).length ≤ l.length := by rw [parts, List.length_map]; exact widths_len l
theorem kparts_len {l : List En} : (kparts l).length ≤ l.length := by rw [kparts, List.length_map]; exact codes_len l
end Go.Proofs
namespace Go.Sl
open Go
theorem Leaves.congr {P : Program} {fn : Func} {t1 t2 : Array Value} {R : Ending → World → Prop} (h : results fn t1 = results fn t2) : ∀ (ds : List Deferred) (u : FrameMode) (w : World), Leaves P fn t1 R ds u w → Leaves P fn t2 R ds u w := by
  have e : Leaves P fn t1 R = Leaves P fn t2 R := by
    funext ds
    induction ds with
    | nil => funext u w; cases u <;> simp only [Leaves, h]
    | cons d ds ih => funext u w; simp only [Leaves, ih]
  intro ds u w hl
  rwa [← e]
end Go.Sl
namespace Go.Proofs
open Go Go.Sl Tryz
set_option maxRecDepth 100000
set_option maxHeartbeats 1000000
/-- An identifier's bytes. -/
def cidB (x : En) : List UInt8 := if x.v = 0 then mhB 18 x.d else 1 :: (uv x.c.toNat ++ mhB x.h.toNat x.d)
end Go.Proofs
namespace Go.Proofs
open Go Go.Sl Tryz
set_option maxRecDepth 100000
set_option maxHeartbeats 1000000
section
variable {G : HP} {bs : List UInt8} {x : En}
theorem defd_is (h : bs ≠ []) : CtrP prog 212 [.agg #[S bs]] G (.bool true) := by
  refine fn_enter 6 func212 rfl ntmps212 rfl ?_
  intro w0
  refine gn 2 ?_
  refine oB ?_; intro g1 _
  refine gn 12 ?_
  refine WR.sel .nil ?_
  refine r_fn1 results212 rfl ?_
  exact ⟨congrArg Value.bool (by simpa using h), rfl⟩
theorem cbytes_is (h : bs ≠ []) (hl : bs.length ≤ 1000000) : Ctr prog 163 [.agg #[S bs]] G [] (fun r H' => ∃ y : Tl, TlOk 1 bs.length y ∧ r = .slice (some ⟨y.g, 0, none⟩) bs.length y.cap ∧ H' = [(y.g, Ob (B bs) y 5)]) := by
  refine fn_enter 9 func163 rfl ntmps163 rfl ?_
  intro w0
  refine gn 2 ?_
  refine oB ?_; intro g1 _
  refine gn 7 ?_
  refine oL (lC (defd_is h) rfl .nil) ?_
  rintro ⟨r, H'⟩ ⟨rfl, rfl⟩
  simp only [List.nil_append]
  refine gn 10 ?_
  refine oL (l_sbc underlying9 underlying72 underlying5 rfl rfl (by simp; omega) rfl rfl) ?_
  intro y hy
  refine gn 4 ?_
  refine WR.sel (.cons .head .nil) ?_
  refine r_fn1 results163 rfl ?_
  exact ⟨y, hy, rfl, rfl⟩
theorem ver0_is {t : List UInt8} (h : t.length = 32) : CtrP prog 160 [.agg #[S (18 :: 32 :: t)]] G (.int .u64 0) := by
  have hl : (18 :: 32 :: t : List UInt8).length = 34 := by simp [h]
  have h0 : (18 :: 32 :: t : List UInt8)[(0 : Int).toNat]? = some 18 := rfl
  have h1 : (18 :: 32 :: t : List UInt8)[(1 : Int).toNat]? = some 32 := rfl
  generalize (18 :: 32 :: t : List UInt8) = bs at *
  refine fn_enter 19 func160 rfl ntmps160 rfl ?_
  intro w0
  refine gn 2 ?_
  refine oB ?_; intro g1 _
  refine gn 11 ?_
  refine o_splitp 7 rfl (fun h2 => ?_) (fun h2 => ?_)
  · refine gn 6 ?_
    refine o_splitp 13 rfl (fun h3 => ?_) (fun h3 => ?_)
    · refine gn 7 ?_
      refine c_ifp rfl (fun h4 => ?_) (fun h4 => ?_)
      · refine gn 6 ?_
        refine WR.sel .nil ?_
        refine r_fn1 results160 rfl ?_
        exact ⟨rfl, rfl⟩
      · exact absurd rfl h4
    · exact absurd rfl h3
  · exact absurd (by omega) h2
theorem ver1_is {t : List UInt8} : CtrP prog 160 [.agg #[S (1 :: t)]] G (.int .u64 1) := by
  have h0 : (1 :: t : List UInt8)[(0 : Int).toNat]? = some 1 := rfl
  generalize (1 :: t : List UInt8) = bs at *
  refine fn_enter 19 func160 rfl ntmps160 rfl ?_
  intro w0
  refine gn 2 ?_
  refine oB ?_; intro g1 _
  refine gn 11 ?_
  refine o_splitp 7 rfl (fun h2 => ?_) (fun h2 => ?_)
  · refine gn 6 ?_
    refine o_splitp 13 rfl (fun h3 => ?_) (fun h3 => ?_)
    · exact absurd h3 (by decide)
    · skip
      refine gn 16 ?_
      refine WR.sel .nil ?_
      refine r_fn1 results160 rfl ?_
      exact ⟨rfl, rfl⟩
  · skip
    refine gn 22 ?_
    refine WR.sel .nil ?_
    refine r_fn1 results160 rfl ?_
    exact ⟨rfl, rfl⟩
/-- The multihash of an identifier, cut out of its bytes. -/
theorem hash_is (ht : Tidy x) (hf : EnFit x) (hd : x.d.length ≤ 200) : Ctr prog 93 [.agg #[S (cidB x)]] G [] (fun r H' => ∃ (y : Tl) (off n cap : Nat), r = .slice (some ⟨y.g, off, none⟩) n cap ∧ H' = [(y.g, Ob (B (cidB x)) y 5)] ∧ CutL (B (cidB x) ++ y.rest) off n (B (mhB x.h.toNat x.d)) ∧ n ≤ cap ∧ cap < 9223372036854775808) := by
  obtain ⟨v, c, h, d, o⟩ := x
  obtain ⟨_, _, hc0, hc1, hh0, hh1, _, _⟩ := hf
  simp only at hc0 hc1 hh0 hh1 hd
  simp only [Tidy] at ht
  obtain ⟨c, rfl⟩ := Int.eq_ofNat_of_zero_le hc0
  obtain ⟨h, rfl⟩ := Int.eq_ofNat_of_zero_le hh0
  have hmh : ∀ h : Nat, (mhB h d).length ≤ 220 := fun h => by rw [mhB_length]; have := uv_le h; have := uv_le d.length; omega
  rcases ht with ⟨rfl, h1, h2, h3⟩ | ⟨rfl, h1, h2⟩
  · have h2' : h = 18 := by omega
    subst h2'
    have hcid : cidB ⟨0, (c : Nat), ((18 : Nat) : Int), d, o⟩ = mhB 18 d := if_pos rfl
    simp only [hcid, Int.toNat_natCast]
    have hv : mhB 18 d = 18 :: 32 :: d := by rw [mhB, h3]; rfl
    have hver := ver0_is (G := G) (t := d) h3
    rw [← hv] at hver
    have hne : mhB 18 d ≠ [] := by rw [hv]; simp
    have hl := hmh 18
    generalize mhB 18 d = bs at *
    refine fn_enter 35 func93 rfl ntmps93 rfl ?_
    intro w0
    refine gn 2 ?_
    refine oB ?_; intro g1 _
    refine gn 6 ?_
    refine oL (lC (cbytes_is hne (by omega)) rfl .nil) ?_
    rintro ⟨r, H'⟩ ⟨y, hy, rfl, rfl⟩
    simp only [List.cons_append, List.nil_append]
    refine gn 7 ?_
    refine oL (lC hver rfl .nil) ?_
    rintro ⟨r, H'⟩ ⟨rfl, rfl⟩
    simp only [List.nil_append]
    refine gn 3 ?_
    refine c_ifp rfl (fun h4 => ?_) (fun h4 => ?_)
    · refine gn 7 ?_
      refine WR.sel (.cons .head .nil) ?_
      refine r_fn1 results93 rfl ?_
      refine ⟨y, 0, bs.length, y.cap, rfl, rfl, ?_, hy.le, hy.lt⟩
      have := CutL.of (l := B bs ++ y.rest) (i := 0) (n := bs.length) (by rw [List.length_append, B_length]; omega)
      rwa [List.drop_zero, List.take_left' (B_length bs)] at this
    · exact absurd rfl h4
  · have hcid : cidB ⟨1, (c : Nat), (h : Nat), d, o⟩ = 1 :: (uv c ++ mhB h d) := if_neg (show ¬ (1 : Int) = 0 by decide)
    simp only [hcid, Int.toNat_natCast]
    have hver := ver1_is (G := G) (t := uv c ++ mhB h d)
    have hl := hmh h
    have hl2 := uv_le c
    have hlc := uv_pos c
    have hl0 : 0 < (mhB h d).length := by rw [mhB_length]; have := uv_pos h; omega
    have hlen : (1 :: (uv c ++ mhB h d)).length = 1 + (uv c).length + (mhB h d).length := by simp; omega
    have hne : (1 :: (uv c ++ mhB h d)) ≠ [] := by simp
    have hcat : 1 :: (uv c ++ mhB h d) = uv 1 ++ (uv c ++ mhB h d) := rfl
    have hu1 : (uv 1).length = 1 := rfl
    generalize hbs : 1 :: (uv c ++ mhB h d) = bs at *
    refine fn_enter 35 func93 rfl ntmps93 rfl ?_
    intro w0
    refine gn 2 ?_
    refine oB ?_; intro g1 _
    refine gn 6 ?_
    refine oL (lC (cbytes_is hne (by omega)) rfl .nil) ?_
    rintro ⟨r, H'⟩ ⟨y, hy, rfl, rfl⟩
    have hcut0 : CutL (B bs ++ y.rest) 0 bs.length (B bs) := by
      have := CutL.of (l := B bs ++ y.rest) (i := 0) (n := bs.length) (by rw [List.length_append, B_length]; omega)
      rwa [List.drop_zero, List.take_left' (B_length bs)] at this
    have hcut1 := (show CutL (B bs ++ y.rest) 0 bs.length (B (uv 1 ++ (uv c ++ mhB h d))) from hcat ▸ hcut0).front hu1
    have hcut2 := hcut1.front (u := uv c) rfl
    have hle := hy.le
    have hlt := hy.lt
    simp only [List.cons_append, List.nil_append]
    refine gn 7 ?_
    refine oL (lC hver rfl .nil) ?_
    rintro ⟨r, H'⟩ ⟨rfl, rfl⟩
    simp only [List.nil_append]
    refine gn 3 ?_
    refine c_ifp rfl (fun h4 => ?_) (fun h4 => ?_)
    · exact absurd h4 (by decide)
    · skip
      refine gn 5 ?_
      refine oL (lJ (HJ := [(y.g, Ob (B bs) y 5)]) (fromU_is (x := 1) (tl := uv c ++ mhB h d) (by decide) (List.mem_append_right _ (.head _)) hcut0 hcat hle hlt) rfl .nil (by simp)) ?_
      rintro ⟨r, H'⟩ ⟨rfl, rfl⟩
      simp only [List.nil_append]
      refine gn 14 ?_
      simp only [Int.toNat_natCast, Nat.mul_one, hu1]
      refine oL (lJ (HJ := [(y.g, Ob (B bs) y 5)]) (fromU_is (x := c) (tl := mhB h d) (by omega) (List.mem_append_right _ (.head _)) hcut1 rfl (by omega) (by omega)) rfl .nil (by simp)) ?_
      rintro ⟨r, H'⟩ ⟨rfl, rfl⟩
      simp only [List.nil_append]
      refine gn 20 ?_
      simp only [Int.toNat_natCast, Nat.mul_one, hu1]
      refine WR.sel (.cons .head .nil) ?_
      refine r_fn1 results93 rfl ?_
      refine ⟨y, _, _, _, rfl, rfl, ?_, ?_, ?_⟩
      · have e1 : 0 + (1 + (uv c).length) = 0 + 1 + (uv c).length := by omega
        have e2 : bs.length - (1 + (uv c).length) = bs.length - 1 - (uv c).length := by omega
        rw [e1, e2]
        exact hcut2
      · omega
      · omega
end
end Go.Proofs
namespace Go.Proofs
open Go Go.Sl
theorem u8_lt {a b : UInt8} : (a < b) ↔ a.toNat < b.toNat := UInt8.lt_iff_toNat_lt
theorem bl_irrefl : ∀ x : List UInt8, Op.bytesLess x x = false
  | [] => rfl
  | a :: x => by simp [Op.bytesLess, bl_irrefl x]
theorem bl_trans : ∀ x y z : List UInt8, Op.bytesLess x y = true → Op.bytesLess y z = true → Op.bytesLess x z = true
  | x, [], z => by intro h; cases x <;> simp [Op.bytesLess] at h
  | x, b :: y, [] => by intro _ h; simp [Op.bytesLess] at h
  | [], b :: y, c :: z => by intros; rfl
  | a :: x, b :: y, c :: z => by
    have ih := bl_trans x y z
    simp only [Op.bytesLess, Bool.or_eq_true, Bool.and_eq_true, decide_eq_true_eq, beq_iff_eq, u8_lt]
    rintro (h1 | ⟨rfl, h1⟩) (h2 | ⟨rfl, h2⟩)
    · left; omega
    · left; exact h1
    · left; exact h2
    · right; exact ⟨rfl, ih h1 h2⟩
theorem bl_tri : ∀ x y : List UInt8, Op.bytesLess x y = false → Op.bytesLess y x = false → x = y
  | [], [] => by intros; rfl
  | [], b :: y => by intro h; simp [Op.bytesLess] at h
  | a :: x, [] => by intro _ h; simp [Op.bytesLess] at h
  | a :: x, b :: y => by
    have ih := bl_tri x y
    simp only [Op.bytesLess, Bool.or_eq_false_iff, Bool.and_eq_false_iff, decide_eq_false_iff_not, u8_lt, beq_eq_false_iff_ne, ne_eq]
    rintro ⟨h1, h2⟩ ⟨h3, h4⟩
    have e : a = b := UInt8.toNat_inj.1 (by omega)
    subst e
    rw [ih (by simpa using h2) (by simpa using h4)]
theorem ltE_irrefl (x : En) : ltE x x = false := by simp [ltE]
theorem ltE_trans {x y z : En} (h1 : ltE x y = true) (h2 : ltE y z = true) : ltE x z = true := by
  simp only [ltE] at *
  by_cases e1 : x.d = y.d
  · by_cases e2 : y.d = z.d
    · rw [if_neg (by simp [e1])] at h1
      rw [if_neg (by simp [e2])] at h2
      rw [if_neg (by simp [e1, e2])]
      simp only [decide_eq_true_eq] at *
      omega
    · rw [if_pos e2] at h2
      rw [if_pos (by rw [e1]; exact e2), e1]
      exact h2
  · rw [if_pos e1] at h1
    by_cases e2 : y.d = z.d
    · rw [if_pos (by rw [← e2]; exact e1), ← e2]
      exact h1
    · rw [if_pos e2] at h2
      have h3 := bl_trans _ _ _ h1 h2
      rw [if_pos (by intro e; rw [e, bl_irrefl] at h3; cases h3)]
      exact h3
theorem ltE_tri {x y z : En} (h1 : ltE z y = true) (h2 : ltE x y = false) : ltE z x = true := by
  cases hzx : ltE z x with
  | true => rfl
  | false =>
    exfalso
    simp only [ltE] at h1 h2 hzx
    by_cases e1 : z.d = x.d
    · rw [if_neg (by simp [e1])] at hzx
      by_cases e2 : x.d = y.d
      · rw [if_neg (by simp [e2])] at h2
        rw [if_neg (by simp [e1, e2])] at h1
        simp only [decide_eq_true_eq, decide_eq_false_iff_not] at *
        omega
      · rw [if_pos e2] at h2
        rw [if_pos (by rw [e1]; exact e2), e1, h2] at h1
        cases h1
    · rw [if_pos e1] at hzx
      by_cases e2 : x.d = y.d
      · rw [if_pos (by rw [← e2]; exact e1), ← e2, hzx] at h1
        cases h1
      · rw [if_pos e2] at h2
        by_cases e3 : z.d = y.d
        · rw [e3] at hzx
          exact e2 (bl_tri _ _ h2 hzx)
        · rw [if_pos e3] at h1
          cases hxz : Op.bytesLess x.d z.d with
          | true => rw [bl_trans _ _ _ hxz h1] at h2; cases h2
          | false => exact e1 (bl_tri _ _ hzx hxz)
/-- How many are less. -/
def kap (l0 : List En) (x : En) : Nat := (l0.filter (fun z => ltE z x)).length
theorem filter_le {α : Type} {p q : α → Bool} (h : ∀ z, p z = true → q z = true) : ∀ l : List α, (l.filter p).length ≤ (l.filter q).length
  | [] => Nat.le_refl _
  | a :: l => by
    have ih := filter_le h l
    cases hp : p a with
    | true => simp [hp, h a hp]; omega
    | false => cases hq : q a <;> simp [hp, hq] <;> omega
theorem filter_lt {α : Type} {p q : α → Bool} (h : ∀ z, p z = true → q z = true) : ∀ (l : List α) (x : α), x ∈ l → p x = false → q x = true → (l.filter p).length < (l.filter q).length
  | [], x, hx, _, _ => by cases hx
  | a :: l, x, hx, h1, h2 => by
    have hle := filter_le h l
    rcases List.mem_cons.1 hx with rfl | hx
    · simp [h1, h2]; omega
    · have ih := filter_lt h l x hx h1 h2
      cases hp : p a with
      | true => simp [hp, h a hp]; omega
      | false => cases hq : q a <;> simp [hp, hq] <;> omega
theorem kap_lt {l0 : List En} {x y : En} (hx : x ∈ l0) : ltE x y = decide (kap l0 x < kap l0 y) := by
  cases h : ltE x y with
  | true =>
    have := filter_lt (p := fun z => ltE z x) (q := fun z => ltE z y) (fun z hz => ltE_trans hz h) l0 x hx (ltE_irrefl x) h
    exact (decide_eq_true this).symm
  | false =>
    have := filter_le (p := fun z => ltE z y) (q := fun z => ltE z x) (fun z hz => ltE_tri hz h) l0
    have h2 : ¬ kap l0 x < kap l0 y := by simp only [kap]; omega
    simp [h2]
/-- The number of what stands at a place. -/
def ky (l0 l : List En) (i : Nat) : Nat := match l[i]? with
  | some x => kap l0 x
  | none => 0
theorem ltAt_ky {l0 l : List En} (hl : ∀ x ∈ l, x ∈ l0) {i j : Nat} (hi : i < l.length) (hj : j < l.length) : ltAt l i j = decide (ky l0 l i < ky l0 l j) := by
  simp only [ltAt, ky, List.getElem?_eq_getElem hi, List.getElem?_eq_getElem hj]
  exact kap_lt (hl _ (List.getElem_mem hi))
end Go.Proofs

/- Rows of numbers, sorted in memory: the whole; Rows of records: their order's methods; Readers, whatever they are: a varint read byte by byte, so many bytes read at once; An identifier read out of a reader. (A part of the proof of this: for every input laws.FnWrOptions returns true and its arguments read as they did, the listed package variables being what the program lays) -/
import Derived.Test.YtochgglejmfelaaGreatDoorLSlZ
import Derived.Test.YtochgglejmfelaaGreatDoorL14
import Derived.Test.YtochgglejmfelaaGreatDoorL13
import Derived.Test.YtochgglejmfelaaGreatDoorL12
import Derived.Test.YtochgglejmfelaaGreatDoorL04
import Derived.Test.YtochgglejmfelaaGreatDoorL03
import Derived.Test.YtochgglejmfelaaGreatDoorL06
set_option linter.unusedVariables false
set_option linter.unusedSimpArgs false
namespace Go.Proofs.AI
open Go Go.Sl Tryz
set_option maxRecDepth 100000
set_option maxHeartbeats 2000000
section
variable {G : HP} {n : Nat} {tv : TypeId} {vv : Value} {l : List Int} {Q : SoC G tv vv n}
theorem pdq_is (h1 : n ≤ 255) : ∀ (h : Nat) {l : List Int} {a b : Nat} {lim : Int} (_ : Q.Lg l) (_ : a ≤ b) (_ : b ≤ n) (_ : b - a = h) (_ : Lb a b l),
    Ctr prog 337 [.iface tv vv, .int .i64 a, .int .i64 b, .int .i64 lim] G [(Q.X l)] (fun r H' => r = .tuple #[] ∧ ∃ l', (PR a b l l' ∧ SR a b l') ∧ H' = [(Q.X l')]) := by
  intro h
  induction h using Nat.strongRecOn with
  | ind h ih =>
  intro l a b lim hg hab hb hh hlb
  have hn := Q.len hg
  refine fn_enter 129 func337 rfl ntmps337 rfl ?_
  intro w0
  refine gn 11 ?_
  refine c_loop (X := List Int × Nat × Nat × Int × Bool × Bool) (fun y => [(0, .iface tv vv), (1, .int .i64 y.2.1), (2, .int .i64 y.2.2.1), (3, .int .i64 y.2.2.2.1), (8, .bool y.2.2.2.2.1), (9, .bool y.2.2.2.2.2)]) (fun y => [(Q.X y.1)]) (fun y => PR a b l y.1 ∧ Fin a b y.2.1 y.2.2.1 y.1 ∧ Lb y.2.1 y.2.2.1 y.1 ∧ a ≤ y.2.1 ∧ y.2.1 ≤ y.2.2.1 ∧ y.2.2.1 ≤ b) (fun y => y.2.2.1 - y.2.1) (l, a, b, lim, true, true) ⟨.refl, .start, hlb, Nat.le_refl _, hab, Nat.le_refl _⟩ aK (.refl _) ?_
  clear lim hlb
  rintro ⟨m, a', b', lim, bl, bp⟩ ⟨hm, hfin, hlb, ha, hab', hb'⟩
  simp only at hm hfin hlb ha hab' hb' ⊢
  have hl := hm.len
  have hg' := Q.pr hm (by omega) hg
  refine gn 16 ?_
  refine c_ifp rfl (fun h2 => ?_) (fun h2 => ?_)
  · refine gn 5 ?_
    refine oL (lC (ins_is (Q.pr hm (by omega) hg) (by omega) hab' (by omega)) rfl (.cons .head .nil)) ?_
    rintro ⟨r, H'⟩ ⟨rfl, m', ⟨hp, hs⟩, rfl⟩
    simp only [List.cons_append, List.nil_append]
    refine gn 3 ?_
    refine r_fn0 results337 ?_
    exact ⟨rfl, m', ⟨hm.trans (hp.mono ha hb' (by omega)), hfin m' hp hs⟩, rfl⟩
  · skip
    refine gn 9 ?_
    refine c_ifp rfl (fun h3 => ?_) (fun h3 => ?_)
    · refine gn 5 ?_
      refine oL (lC (heap_is (Q.pr hm (by omega) hg) (by omega) (by omega) (by omega)) rfl (.cons .head .nil)) ?_
      rintro ⟨r, H'⟩ ⟨rfl, m', ⟨hp, hs⟩, rfl⟩
      simp only [List.cons_append, List.nil_append]
      refine gn 3 ?_
      refine r_fn0 results337 ?_
      exact ⟨rfl, m', ⟨hm.trans (hp.mono ha hb' (by omega)), hfin m' hp hs⟩, rfl⟩
    · skip
      have h12 : 12 < b' - a' := by omega
      clear h2 h3
      refine gn 3 ?_
      refine c_cut (X := List Int × Int) (fun y => [(0, .iface tv vv), (1, .int .i64 a'), (2, .int .i64 b'), (3, .int .i64 y.2), (8, .bool bl), (9, .bool bp), (10, .int .i64 (b' - a' : Nat))]) (fun y => [(Q.X y.1)]) (fun y => PR a' b' m y.1) ?_ ?_
      · skip
        refine gn 6 ?_
        refine c_if rfl (fun h4 => ?_) (fun h4 => ?_)
        · refine gn 5 ?_
          refine oL (lC (brk_is (Q.pr hm (by omega) hg) h1 (by omega) (by omega)) rfl (.cons .head .nil)) ?_
          rintro ⟨r, H'⟩ ⟨rfl, m', hp, rfl⟩
          simp only [List.cons_append, List.nil_append]
          refine gn 7 ?_
          exact n_cut (m', _) hp aK (.refl _)
        · skip
          refine gn 1 ?_
          exact n_cut (m, lim) .refl aK (.refl _)
      · rintro ⟨m1, lim1⟩ hp1
        simp only at hp1 ⊢
        replace hm : PR a b l m1 := hm.trans (hp1.mono ha hb' (by omega))
        replace hfin := hfin.pr hp1
        replace hlb := hlb.pr hp1 (Nat.le_refl _) (Nat.le_refl _)
        replace hl : m1.length = l.length := hm.len
        have hg' := Q.pr hm (by omega) hg
        clear hp1
        refine gn 6 ?_
        refine oL (lC (piv_is (Q.pr hm (by omega) hg) (by omega) (by omega) (by omega)) rfl (.cons .head .nil)) ?_
        rintro ⟨r, H'⟩ ⟨p, z, rfl, hp, rfl⟩
        simp only [List.cons_append, List.nil_append]
        refine gn 8 ?_
        refine c_cut (X := List Int × Nat × Int) (fun y => [(0, .iface tv vv), (1, .int .i64 a'), (2, .int .i64 b'), (3, .int .i64 lim1), (8, .bool bl), (9, .bool bp), (10, .int .i64 (b' - a' : Nat)), (11, .int .i64 y.2.1), (12, .int .i64 y.2.2)]) (fun y => [(Q.X y.1)]) (fun y => PR a' b' m1 y.1 ∧ a' ≤ y.2.1 ∧ y.2.1 < b') ?_ ?_
        · skip
          refine gn 6 ?_
          refine c_ifp rfl (fun h4 => ?_) (fun h4 => ?_)
          · refine gn 5 ?_
            refine oL (lC (rev_is (Q.pr hm (by omega) hg) (by omega) (by omega) (by omega)) rfl (.cons .head .nil)) ?_
            rintro ⟨r, H'⟩ ⟨rfl, m', hp', rfl⟩
            simp only [List.cons_append, List.nil_append]
            refine gn 16 ?_
            exact n_cut (m', b' - 1 - (p - a'), 1) ⟨hp', by show a' ≤ b' - 1 - (p - a'); omega, by show b' - 1 - (p - a') < b'; omega⟩ aK (.refl _)
          · skip
            refine gn 1 ?_
            exact n_cut (m1, p, z) ⟨.refl, hp⟩ aK (.refl _)
        · clear hp p z
          rintro ⟨m2, p, z⟩ ⟨hp1, hp⟩
          simp only at hp1 hp ⊢
          replace hm : PR a b l m2 := hm.trans (hp1.mono ha hb' (by omega))
          replace hfin := hfin.pr hp1
          replace hlb := hlb.pr hp1 (Nat.le_refl _) (Nat.le_refl _)
          replace hl : m2.length = l.length := hm.len
          have hg' := Q.pr hm (by omega) hg
          clear hp1
          refine gn 2 ?_
          refine c_cut (X := List Int) (fun _ => [(0, .iface tv vv), (1, .int .i64 a'), (2, .int .i64 b'), (3, .int .i64 lim1), (8, .bool bl), (9, .bool bp), (10, .int .i64 (b' - a' : Nat)), (11, .int .i64 p)]) (fun m => [(Q.X m)]) (fun m => PR a' b' m2 m) ?_ ?_
          · skip
            refine gn 4 ?_
            refine o_split 62 rfl (fun h4 => ?_) (fun h4 => ?_)
            · refine gn 3 ?_
              refine o_split 65 rfl (fun h5 => ?_) (fun h5 => ?_)
              · refine gn 5 ?_
                refine c_ifp rfl (fun h6 => ?_) (fun h6 => ?_)
                · refine gn 5 ?_
                  refine oL (lC (part_is (Q.pr hm (by omega) hg) (by omega) (by omega) (by omega) hlb) rfl (.cons .head .nil)) ?_
                  rintro ⟨r, H'⟩ ⟨t, m', rfl, hp', hs', rfl⟩
                  simp only [List.cons_append, List.nil_append]
                  refine gn 2 ?_
                  refine c_if rfl (fun h7 => ?_) (fun h7 => ?_)
                  · refine gn 1 ?_
                    refine r_fn0 results337 ?_
                    exact ⟨rfl, m', ⟨hm.trans (hp'.mono ha hb' (by omega)), hfin m' hp' (hs' h7)⟩, rfl⟩
                  · skip
                    refine gn 1 ?_
                    exact n_cut m' hp' aK (.refl _)
                · skip
                  refine gn 1 ?_
                  exact n_cut m2 .refl aK (.refl _)
              · skip
                refine gn 7 ?_
                exact n_cut m2 .refl aK (.refl _)
            · skip
              refine gn 10 ?_
              exact n_cut m2 .refl aK (.refl _)
          · rintro m3 hp1
            replace hm : PR a b l m3 := hm.trans (hp1.mono ha hb' (by omega))
            replace hfin := hfin.pr hp1
            replace hlb := hlb.pr hp1 (Nat.le_refl _) (Nat.le_refl _)
            replace hl : m3.length = l.length := hm.len
            have hg' := Q.pr hm (by omega) hg
            clear hp1
            refine gn 7 ?_
            refine o_splitp 75 rfl (fun h4 => ?_) (fun h4 => ?_)
            · refine gn 4 ?_
              refine o_inv rfl Q.hfL Q.hmL (Q.less (by first | assumption | exact Q.sw (by assumption) (by omega) (by omega)) (by first | omega | (simp; omega)) (by first | omega | (simp; omega))) rfl rfl rfl (.cons .head .nil) ?_
              refine gn 4 ?_
              refine c_if rfl (fun h5 => ?_) (fun h5 => ?_)
              · have h5' : ¬ gd m3 (a' - 1) < gd m3 p := by simpa using h5
                refine gn 6 ?_
                refine oL (lC (peq_is (p := p) (Q.pr hm (by omega) hg) (by omega) hp.1 hp.2 (by omega)) rfl (.cons .head .nil)) ?_
                rintro ⟨r, H'⟩ ⟨mid, m4, rfl, hp1, hpe, hga, rfl⟩
                simp only [List.cons_append, List.nil_append]
                have k1 := hpe.am
                have k2 := hpe.mb
                have hmin : ∀ i, a' ≤ i → i < b' → gd m4 a' ≤ gd m4 i := by
                  have hlo : ∀ i, a' ≤ i → i < b' → gd m3 p ≤ gd m3 i := fun i i1 i2 => by
                    rcases hlb with h | h
                    · omega
                    · exact Int.le_trans (Int.not_lt.1 h5') (h i i1 i2)
                  have := hp1.all (p := fun z => gd m3 p ≤ z) hlo
                  intro i i1 i2
                  rw [hga]
                  exact this i i1 i2
                refine gn 12 ?_
                refine n_round' (y := (m, a', b', lim, bl, bp)) (m4, mid, b', lim1, bl, bp) (by show b' - mid < b' - a'; omega) ?_ aK _ (.refl _) (List.Sublist.refl _)
                have hm4 : PR a b l m4 := hm.trans (hp1.mono ha hb' (by omega))
                exact ⟨hm4, hpe.all (hfin.pr hp1) hmin (by have := hm4.len; omega), hpe.lb, by show a ≤ mid; omega, k2, hb'⟩
              · skip
                refine gn 8 ?_
                refine oL (lC (part2_is (p := p) (Q.pr hm (by omega) hg) (by omega) hp.1 hp.2 (by omega)) rfl (.cons .head .nil)) ?_
                rintro ⟨r, H'⟩ ⟨mid, t, m4, rfl, hp1, hpt, rfl⟩
                simp only [List.cons_append, List.nil_append]
                have k1 := hpt.am
                have k2 := hpt.mb
                have hm4 : PR a b l m4 := hm.trans (hp1.mono ha hb' (by omega))
                have hfin4 := hfin.pr hp1
                have hlb4 := hlb.pr hp1 (Nat.le_refl _) (Nat.le_refl _)
                have hl4 : m4.length = l.length := hm4.len
                refine gn 39 ?_
                refine c_ifp rfl (fun h6 => ?_) (fun h6 => ?_)
                · refine gn 14 ?_
                  refine oL (lC (ih (mid - a') (by omega) (a := a') (b := mid) (Q.pr hm4 (by omega) hg) k1 (by omega) rfl (hlb4.less (by omega))) rfl (.cons .head .nil)) ?_
                  rintro ⟨r, H'⟩ ⟨rfl, m5, ⟨hp5, hs5⟩, rfl⟩
                  simp only [List.cons_append, List.nil_append]
                  refine gn 8 ?_
                  have hq5 : PR a' b' m4 m5 := hp5.mono (Nat.le_refl _) (by omega) (by omega)
                  refine n_round' (y := (m, a', b', lim, bl, bp)) (m5, mid + 1, b', lim1, _, _) (by show b' - (mid + 1) < b' - a'; omega) ?_ aK _ (.refl _) (List.Sublist.refl _)
                  exact ⟨hm4.trans (hq5.mono ha hb' (by omega)), hpt.left hfin4 hp5 hs5 (by omega), (hpt.keepl hp5).lbr, by show a ≤ mid + 1; omega, by show mid + 1 ≤ b'; omega, hb'⟩
                · skip
                  refine gn 15 ?_
                  refine oL (lC (ih (b' - (mid + 1)) (by omega) (a := mid + 1) (b := b') (Q.pr hm4 (by omega) hg) (by omega) (by omega) rfl hpt.lbr) rfl (.cons .head .nil)) ?_
                  rintro ⟨r, H'⟩ ⟨rfl, m5, ⟨hp5, hs5⟩, rfl⟩
                  simp only [List.cons_append, List.nil_append]
                  refine gn 7 ?_
                  have hq5 : PR a' b' m4 m5 := hp5.mono (by omega) (Nat.le_refl _) (by omega)
                  refine n_round' (y := (m, a', b', lim, bl, bp)) (m5, a', mid, lim1, _, _) (by show mid - a' < b' - a'; omega) ?_ aK _ (.refl _) (List.Sublist.refl _)
                  exact ⟨hm4.trans (hq5.mono ha hb' (by omega)), hpt.right hfin4 hp5 hs5 (by omega), (hlb4.pr hq5 (Nat.le_refl _) (Nat.le_refl _)).less (by show mid ≤ b'; omega), ha, k1, by show mid ≤ b; omega⟩
            · skip
              refine gn 18 ?_
              refine oL (lC (part2_is (p := p) (Q.pr hm (by omega) hg) (by omega) hp.1 hp.2 (by omega)) rfl (.cons .head .nil)) ?_
              rintro ⟨r, H'⟩ ⟨mid, t, m4, rfl, hp1, hpt, rfl⟩
              simp only [List.cons_append, List.nil_append]
              have k1 := hpt.am
              have k2 := hpt.mb
              have hm4 : PR a b l m4 := hm.trans (hp1.mono ha hb' (by omega))
              have hfin4 := hfin.pr hp1
              have hlb4 := hlb.pr hp1 (Nat.le_refl _) (Nat.le_refl _)
              have hl4 : m4.length = l.length := hm4.len
              refine gn 39 ?_
              refine c_ifp rfl (fun h6 => ?_) (fun h6 => ?_)
              · refine gn 14 ?_
                refine oL (lC (ih (mid - a') (by omega) (a := a') (b := mid) (Q.pr hm4 (by omega) hg) k1 (by omega) rfl (hlb4.less (by omega))) rfl (.cons .head .nil)) ?_
                rintro ⟨r, H'⟩ ⟨rfl, m5, ⟨hp5, hs5⟩, rfl⟩
                simp only [List.cons_append, List.nil_append]
                refine gn 8 ?_
                have hq5 : PR a' b' m4 m5 := hp5.mono (Nat.le_refl _) (by omega) (by omega)
                refine n_round' (y := (m, a', b', lim, bl, bp)) (m5, mid + 1, b', lim1, _, _) (by show b' - (mid + 1) < b' - a'; omega) ?_ aK _ (.refl _) (List.Sublist.refl _)
                exact ⟨hm4.trans (hq5.mono ha hb' (by omega)), hpt.left hfin4 hp5 hs5 (by omega), (hpt.keepl hp5).lbr, by show a ≤ mid + 1; omega, by show mid + 1 ≤ b'; omega, hb'⟩
              · skip
                refine gn 15 ?_
                refine oL (lC (ih (b' - (mid + 1)) (by omega) (a := mid + 1) (b := b') (Q.pr hm4 (by omega) hg) (by omega) (by omega) rfl hpt.lbr) rfl (.cons .head .nil)) ?_
                rintro ⟨r, H'⟩ ⟨rfl, m5, ⟨hp5, hs5⟩, rfl⟩
                simp only [List.cons_append, List.nil_append]
                refine gn 7 ?_
                have hq5 : PR a' b' m4 m5 := hp5.mono (by omega) (Nat.le_refl _) (by omega)
                refine n_round' (y := (m, a', b', lim, bl, bp)) (m5, a', mid, lim1, _, _) (by show mid - a' < b' - a'; omega) ?_ aK _ (.refl _) (List.Sublist.refl _)
                exact ⟨hm4.trans (hq5.mono ha hb' (by omega)), hpt.right hfin4 hp5 hs5 (by omega), (hlb4.pr hq5 (Nat.le_refl _) (Nat.le_refl _)).less (by show mid ≤ b'; omega), ha, k1, by show mid ≤ b; omega⟩
theorem sort_is {l : List Int} (hg : Q.Lg l) (h1 : n ≤ 255) :
    Ctr prog 324 [.iface tv vv] G [Q.X l] (fun r H' => r = .tuple #[] ∧ H' = [Q.X (srt l)]) := by
  have hn := Q.len hg
  refine fn_enter 15 func324 rfl ntmps324 rfl ?_
  intro w0
  refine gn 3 ?_
  refine oL (l_calli0 Q.hfN Q.hmN Q.lenc rfl rfl rfl .nil) ?_
  rintro ⟨r, H'⟩ ⟨rfl, rfl⟩
  simp only [List.nil_append]
  refine gn 10 ?_
  refine c_ifp rfl (fun h2 => ?_) (fun h2 => ?_)
  · refine gn 1 ?_
    refine r_fn0 results324 ?_
    refine ⟨rfl, ?_⟩
    rw [show srt l = l from (srt_of .refl (.small (by omega)) hn).symm]
  · skip
    refine gn 6 ?_
    refine o_pure rfl call66 (A4.len_is (x := n) (by omega)) rfl rfl ?_
    refine gn 7 ?_
    refine oL (lC (pdq_is h1 n (a := 0) (b := n) hg (Nat.zero_le _) (Nat.le_refl _) (by omega) (.inl rfl)) rfl (.cons .head .nil)) ?_
    rintro ⟨r, H'⟩ ⟨rfl, l', ⟨hp, hs⟩, rfl⟩
    simp only [List.cons_append, List.nil_append]
    refine gn 1 ?_
    refine n_fn0 results324 ?_
    exact ⟨rfl, by rw [srt_of hp hs hn]⟩
end
end Go.Proofs.AI
namespace Go.Proofs
open Go Go.Sl Tryz
set_option maxRecDepth 100000
set_option maxHeartbeats 1000000
/-- A record: its entry, the value of its digest. -/
abbrev Rc := En × Value
def rcC (r : Rc) : List Value := [r.2, .int .u64 r.1.o]
abbrev rcs (l : List Rc) : List Value := l.flatMap rcC
theorem rcs_cut : ∀ {l : List Rc} {i : Nat} (h : i < l.length) (rest : List Value), CutL (rcs l ++ rest) (i * 2) 2 (rcC l[i])
  | a :: l, 0, _, rest => .take (.take .done)
  | a :: l, i + 1, h, rest => by
    have := rcs_cut (l := l) (i := i) (by simpa using h) rest
    rw [show (i + 1) * 2 = i * 2 + 1 + 1 by omega]
    exact .skip (.skip this)
theorem rcs_put : ∀ {l : List Rc} {i : Nat} (r : Rc) (_ : i < l.length) (rest : List Value), PutL (rcs l ++ rest) (i * 2) (rcC r) (rcs (l.set i r) ++ rest)
  | a :: l, 0, r, _, rest => .take (.take .done)
  | a :: l, i + 1, r, h, rest => by
    have := rcs_put (l := l) (i := i) r (by simpa using h) rest
    rw [show (i + 1) * 2 = i * 2 + 1 + 1 by omega]
    exact .skip (.skip this)
theorem rcs_at {l : List Rc} {i : Nat} (h : i < l.length) (rest : List Value) : (rcs l ++ rest)[i * 2]? = some l[i].2 := by
  have h1 := (rcs_cut h rest).eq
  have := congrArg (fun z => z[0]?) h1
  simpa [rcC] using this.symm
theorem cmp_lt : ∀ x y : List UInt8, (Lib.compareBytes x y < 0) ↔ Op.bytesLess x y = true
  | [], [] => by simp [Lib.compareBytes, Op.bytesLess]
  | [], b :: y => by simp [Lib.compareBytes, Op.bytesLess]
  | a :: x, [] => by simp [Lib.compareBytes, Op.bytesLess]
  | a :: x, b :: y => by
    have ih := cmp_lt x y
    simp only [Lib.compareBytes, Op.bytesLess, Bool.or_eq_true, Bool.and_eq_true, decide_eq_true_eq, beq_iff_eq]
    split
    · rename_i h
      simp [h]
    · split
      · rename_i h1 h
        rw [u8_lt] at h h1
        constructor
        · intro h2; omega
        · rintro (h2 | ⟨rfl, _⟩)
          · exact absurd (u8_lt.1 h2) h1
          · omega
      · rename_i h1 h2
        rw [u8_lt] at h1 h2
        have e : a = b := UInt8.toNat_inj.1 (by omega)
        subst e
        simp only [u8_lt, Nat.lt_irrefl, false_or, true_and]
        exact ih
section
variable {G : HP} {g n c i j lo hi : Nat} {l : List Rc} {rest : List Value}
theorem rcLen_is : Ctr prog 424 [.slice (some ⟨g, 0, none⟩) n c] G [] (fun r H' => r = .int .i64 (n : Nat) ∧ H' = []) := by
  refine fn_enter 5 func424 rfl ntmps424 rfl ?_
  intro w0
  refine gn 13 ?_
  refine r_fn1 results424 rfl ?_
  exact ⟨rfl, rfl⟩
theorem rcLess_is (hn : l.length = n) (hi' : i < n) (hj : j < n) (hn2 : n ≤ 100000) (hc : n ≤ c) (hb : ∀ r ∈ l, BS G r.2 r.1.d) : Ctr prog 425 [.slice (some ⟨g, 0, none⟩) n c, .int .i64 (i : Nat), .int .i64 (j : Nat)] G [(g, .cells (rcs l ++ rest).toArray 455 (lo, hi))] (fun r H' => r = .bool (Op.bytesLess (l[i]'(by omega)).1.d (l[j]'(by omega)).1.d) ∧ H' = [(g, .cells (rcs l ++ rest).toArray 455 (lo, hi))]) := by
  subst hn
  have hcmp := compare_is (hb l[i] (List.getElem_mem _)) (hb l[j] (List.getElem_mem _))
  have h1 : (rcs l ++ rest)[0 + i * 2 + 0]? = some l[i].2 := by rw [Nat.zero_add]; exact rcs_at hi' rest
  have h2 : (rcs l ++ rest)[0 + j * 2 + 0]? = some l[j].2 := by rw [Nat.zero_add]; exact rcs_at hj rest
  refine fn_enter 19 func425 rfl ntmps425 rfl ?_
  intro w0
  refine gn 17 ?_
  refine q_pure rfl call342 hcmp rfl rfl ?_
  refine gn 5 ?_
  refine r_fn1 results425 rfl ?_
  refine ⟨congrArg Value.bool ?_, rfl⟩
  have := cmp_lt l[i].1.d l[j].1.d
  cases hbl : Op.bytesLess l[i].1.d l[j].1.d with
  | true => exact decide_eq_true (this.2 hbl)
  | false => exact decide_eq_false fun h => by have := this.1 h; rw [hbl] at this; cases this
theorem rcSwap_is (hn : l.length = n) (hi' : i < n) (hj : j < n) (hn2 : n ≤ 100000) (hc : n ≤ c) (hm : c * 2 ≤ lo ∨ hi = 0) (hb : ∀ r ∈ l, r.2.oneCell' = true) : Ctr prog 426 [.slice (some ⟨g, 0, none⟩) n c, .int .i64 (i : Nat), .int .i64 (j : Nat)] G [(g, .cells (rcs l ++ rest).toArray 455 (lo, hi))] (fun r H' => r = .tuple #[] ∧ H' = [(g, .cells (rcs ((l.set i (l[j]'(by omega))).set j (l[i]'(by omega))) ++ rest).toArray 455 (lo, hi))]) := by
  subst hn
  have h1 : CutL (rcs l ++ rest) (0 + i * 2) 2 (rcC l[i]) := by rw [Nat.zero_add]; exact rcs_cut hi' rest
  have h2 : CutL (rcs l ++ rest) (0 + j * 2) 2 (rcC l[j]) := by rw [Nat.zero_add]; exact rcs_cut hj rest
  refine fn_enter 20 func426 rfl ntmps426 rfl ?_
  intro w0
  refine c_regiong [13, 15] (by kernel_rfl) ?_
  refine lg [0, 1, 2, 3, 4, 5, 6, 1007, 8, 9, 10, 1011, 12] ?_
  have p1 : PutL (rcs l ++ rest) (0 + i * 2) (rcC l[j]) (rcs (l.set i l[j]) ++ rest) := by rw [Nat.zero_add]; exact rcs_put _ hi' rest
  have p2 : PutL (rcs (l.set i l[j]) ++ rest) (0 + j * 2) (rcC l[i]) (rcs ((l.set i l[j]).set j l[i]) ++ rest) := by rw [Nat.zero_add]; exact rcs_put _ (by rw [List.length_set]; exact hj) rest
  have o1 : ∀ v ∈ rcC l[i], v.oneCell' = true := by
    intro v hv
    rcases List.mem_cons.1 hv with rfl | hv
    · exact hb _ (List.getElem_mem _)
    · rcases List.mem_singleton.1 hv with rfl; rfl
  have o2 : ∀ v ∈ rcC l[j], v.oneCell' = true := by
    intro v hv
    rcases List.mem_cons.1 hv with rfl | hv
    · exact hb _ (List.getElem_mem _)
    · rcases List.mem_singleton.1 hv with rfl; rfl
  refine gL 13 rfl (l_storea sizeOf455 rfl rfl rfl o2 .head p1 (fun k h3 h4 => by omega)) ?_
  intro _ _
  refine ld [14] ?_
  refine dL 15 rfl (l_storea sizeOf455 rfl rfl rfl o1 .head p2 (fun k h3 h4 => by omega)) ?_
  intro _ _
  refine gn 1 ?_
  refine n_fn0 results426 ?_
  exact ⟨rfl, rfl⟩
end
/-! ### The order of records by numbers. -/
def tbR (l0 : List Rc) (k : Int) : Rc := (l0.find? fun r => decide ((kap (l0.map (·.1)) r.1 : Int) = k)).getD (⟨0, 0, 0, [], 0⟩, S [])
/-- Digests are there once. -/
def OnceD (l0 : List Rc) : Prop := (l0.map (·.1.d)).Nodup
theorem once_inj {a b : Rc} : ∀ {l : List Rc}, OnceD l → a ∈ l → b ∈ l → a.1.d = b.1.d → a = b := by
  intro l
  induction l with
  | nil => intro _ h; cases h
  | cons c l ih =>
    intro hn ha hb e
    simp only [OnceD] at hn ih
    rw [List.map_cons, List.nodup_cons] at hn
    rcases List.mem_cons.1 ha with e1 | ha1
    · rcases List.mem_cons.1 hb with e2 | hb1
      · rw [e1, e2]
      · exact (hn.1 (by rw [← e1, e]; exact List.mem_map_of_mem (f := fun r : Rc => r.1.d) hb1)).elim
    · rcases List.mem_cons.1 hb with e2 | hb1
      · exact (hn.1 (by rw [← e2, ← e]; exact List.mem_map_of_mem (f := fun r : Rc => r.1.d) ha1)).elim
      · exact ih hn.2 ha1 hb1 e
theorem kap_inj {l0 : List Rc} (ho : OnceD l0) {a b : Rc} (ha : a ∈ l0) (hb : b ∈ l0) (h : kap (l0.map (·.1)) a.1 = kap (l0.map (·.1)) b.1) : a = b := by
  have h1 := kap_lt (y := b.1) (List.mem_map_of_mem (f := (·.1)) ha)
  have h2 := kap_lt (y := a.1) (List.mem_map_of_mem (f := (·.1)) hb)
  rw [h, decide_eq_false (Nat.lt_irrefl _)] at h1
  rw [h, decide_eq_false (Nat.lt_irrefl _)] at h2
  by_cases e : a.1.d = b.1.d
  · exact once_inj ho ha hb e
  · simp only [ltE] at h1 h2
    rw [if_pos e] at h1
    rw [if_pos (fun h => e h.symm)] at h2
    exact absurd (bl_tri _ _ h1 h2) e
theorem tbR_is {l0 : List Rc} (ho : OnceD l0) {a : Rc} (ha : a ∈ l0) : tbR l0 (kap (l0.map (·.1)) a.1 : Nat) = a := by
  rw [tbR]
  cases hf : l0.find? fun r => decide ((kap (l0.map (·.1)) r.1 : Int) = (kap (l0.map (·.1)) a.1 : Nat)) with
  | none =>
    have := List.find?_eq_none.1 hf a ha
    simp at this
  | some r =>
    have h1 := List.find?_some hf
    have h2 := List.mem_of_find?_eq_some hf
    simp only [decide_eq_true_eq] at h1
    have h3 : kap (l0.map (·.1)) r.1 = kap (l0.map (·.1)) a.1 := by omega
    exact kap_inj ho h2 ha h3
def rkR (l0 : List Rc) : List Int := l0.map fun r => (kap (l0.map (·.1)) r.1 : Int)
theorem tbR_mem {l0 : List Rc} (ho : OnceD l0) {k : Int} (hk : k ∈ rkR l0) : tbR l0 k ∈ l0 ∧ (kap (l0.map (·.1)) (tbR l0 k).1 : Int) = k := by
  obtain ⟨r, hr, rfl⟩ := List.mem_map.1 hk
  rw [tbR_is ho hr]
  exact ⟨hr, rfl⟩
theorem tbR_lt {l0 : List Rc} (ho : OnceD l0) {k m : Int} (hk : k ∈ rkR l0) (hm : m ∈ rkR l0) : Op.bytesLess (tbR l0 k).1.d (tbR l0 m).1.d = decide (k < m) := by
  obtain ⟨h1, h2⟩ := tbR_mem ho hk
  obtain ⟨h3, h4⟩ := tbR_mem ho hm
  have h5 := kap_lt (y := (tbR l0 m).1) (List.mem_map_of_mem (f := (·.1)) h1)
  by_cases e : (tbR l0 k).1.d = (tbR l0 m).1.d
  · have e2 : tbR l0 k = tbR l0 m := by
      exact once_inj ho h1 h3 e
    have e3 : k = m := by rw [← h2, ← h4, e2]
    rw [e3, bl_irrefl, decide_eq_false (by omega)]
  · simp only [ltE] at h5
    rw [if_pos e] at h5
    rw [h5]
    congr 1
    apply propext
    omega
theorem rkR_nodup {l0 : List Rc} (ho : OnceD l0) : (rkR l0).Nodup := by
  refine nodup_map_on (fun a ha b hb h => kap_inj ho ha hb (by omega)) ?_
  exact (List.pairwise_map.1 ho).imp fun h e => h (by rw [e])
theorem rkR_map {l0 : List Rc} (ho : OnceD l0) : (rkR l0).map (tbR l0) = l0 := by
  rw [rkR, List.map_map]
  conv => rhs; rw [← List.map_id l0]
  exact List.map_congr_left fun a ha => tbR_is ho ha
theorem swp_map {l : List Int} {f : Int → Rc} {i j : Nat} (hi : i < l.length) (hj : j < l.length) : (swp l i j).map f = (((l.map f).set i ((l.map f)[j]'(by simpa using hj))).set j ((l.map f)[i]'(by simpa using hi))) := by
  have e1 : gd l i = l[i] := by have := gd_eq hi; rw [List.getElem?_eq_getElem hi] at this; exact (Option.some.inj this).symm
  have e2 : gd l j = l[j] := by have := gd_eq hj; rw [List.getElem?_eq_getElem hj] at this; exact (Option.some.inj this).symm
  rw [swp, List.map_set, List.map_set, e1, e2, List.getElem_map, List.getElem_map]
section
variable {G : HP} {g n c lo hi : Nat} {l0 : List Rc} {rest : List Value}
/-- A row of records, to be sorted. -/
def recQ (rest : List Value) (lo hi : Nat) (ho : OnceD l0) (hb : ∀ r ∈ l0, BS G r.2 r.1.d) (hn : l0.length = n) (h1 : n ≤ 100000) (hc : n ≤ c) (hm : c * 2 ≤ lo ∨ hi = 0) : AI.SoC G 457 (.slice (some ⟨g, 0, none⟩) n c) n where
  X := fun l => (g, .cells (rcs (l.map (tbR l0)) ++ rest).toArray 455 (lo, hi))
  Lg := fun l => l.Perm (rkR l0)
  len := fun h => by rw [h.length_eq, rkR, List.length_map, hn]
  sw := fun {l i j} h hi hj => by
    have hl : l.length = n := by rw [h.length_eq, rkR, List.length_map, hn]
    exact (swp_perm (by omega) (by omega)).trans h
  fN := 424
  fL := 425
  fS := 426
  rv := .slice (some ⟨g, 0, none⟩) n c
  hfN := call424
  hfL := call425
  hfS := call426
  hmN := by intro w; kernel_rfl
  hmL := by intro w; kernel_rfl
  hmS := by intro w; kernel_rfl
  lenc := rcLen_is
  less := fun {l i j} h hi' hj' => by
    have hl : l.length = n := by rw [h.length_eq, rkR, List.length_map, hn]
    have hmem : ∀ r ∈ l.map (tbR l0), BS G r.2 r.1.d := fun r hr => by
      obtain ⟨k, hk, rfl⟩ := List.mem_map.1 hr
      exact hb _ (tbR_mem ho (h.subset hk)).1
    have hL := rcLess_is (G := G) (g := g) (c := c) (lo := lo) (hi := hi) (rest := rest) (l := l.map (tbR l0)) (n := n) (by rw [List.length_map, hl]) hi' hj' h1 hc hmem
    have e1 : gd l i = l[i] := by have := gd_eq (l := l) (i := i) (by omega); rw [List.getElem?_eq_getElem (by omega)] at this; exact (Option.some.inj this).symm
    have e2 : gd l j = l[j] := by have := gd_eq (l := l) (i := j) (by omega); rw [List.getElem?_eq_getElem (by omega)] at this; exact (Option.some.inj this).symm
    have e := tbR_lt ho (k := l[i]) (m := l[j]) (h.subset (List.getElem_mem _)) (h.subset (List.getElem_mem _))
    simp only [List.getElem_map] at hL
    rw [e] at hL
    rw [e1, e2]
    exact hL
  swap := fun {l i j} h hi' hj' => by
    have hl : l.length = n := by rw [h.length_eq, rkR, List.length_map, hn]
    have hmem : ∀ r ∈ l.map (tbR l0), r.2.oneCell' = true := fun r hr => by
      obtain ⟨k, hk, rfl⟩ := List.mem_map.1 hr
      exact (hb _ (tbR_mem ho (h.subset hk)).1).one
    have hS := rcSwap_is (G := G) (g := g) (c := c) (lo := lo) (hi := hi) (rest := rest) (l := l.map (tbR l0)) (n := n) (by rw [List.length_map, hl]) hi' hj' h1 hc hm hmem
    rw [← swp_map (by omega) (by omega)] at hS
    exact hS
/-- Records sorted by their digests. -/
theorem rsort_is (ho : OnceD l0) (hb : ∀ r ∈ l0, BS G r.2 r.1.d) (hn : l0.length = n) (h1 : n ≤ 255) (hc : n ≤ c) (hm : c * 2 ≤ lo ∨ hi = 0) :
    Ctr prog 324 [.iface 457 (.slice (some ⟨g, 0, none⟩) n c)] G [(g, .cells (rcs l0 ++ rest).toArray 455 (lo, hi))] (fun r H' => r = .tuple #[] ∧ ∃ l : List Rc, l.Perm l0 ∧ l.Pairwise (fun a b => Op.bytesLess a.1.d b.1.d = true) ∧ H' = [(g, .cells (rcs l ++ rest).toArray 455 (lo, hi))]) := by
  have h := AI.sort_is (Q := recQ (g := g) (c := c) rest lo hi ho hb hn (by omega) hc hm) (l := rkR l0) (List.Perm.refl _) h1
  have eX : (recQ (g := g) (c := c) rest lo hi ho hb hn (by omega) hc hm).X (rkR l0) = (g, .cells (rcs l0 ++ rest).toArray 455 (lo, hi)) := by
    show (g, Obj.cells (rcs ((rkR l0).map (tbR l0)) ++ rest).toArray 455 (lo, hi)) = _
    rw [rkR_map ho]
  rw [eX] at h
  refine Ctr.perm h (List.Perm.refl _) ?_
  rintro r H' ⟨rfl, rfl⟩
  refine ⟨_, List.Perm.refl _, rfl, (srt (rkR l0)).map (tbR l0), ?_, ?_, rfl⟩
  · have := (List.mergeSort_perm (rkR l0) fun a b => decide (a ≤ b)).map (tbR l0)
    rw [rkR_map ho] at this
    exact this
  · have hp : (srt (rkR l0)).Pairwise (fun a b => a < b) := by
      have h2 : (srt (rkR l0)).Pairwise (fun a b => decide (a ≤ b) = true) := List.pairwise_mergeSort (fun a b c h h' => by simp only [decide_eq_true_eq] at *; omega) (fun a b => by simp only [Bool.or_eq_true, decide_eq_true_eq]; omega) _
      have h3 : (srt (rkR l0)).Nodup := srt_nodup (rkR_nodup ho)
      exact (h2.and h3).imp fun ⟨h, h'⟩ => by simp only [decide_eq_true_eq] at h; omega
    rw [List.pairwise_map]
    refine hp.imp_of_mem fun {a b} ha hb h => ?_
    rw [tbR_lt ho (srt_mem.1 ha) (srt_mem.1 hb)]
    exact decide_eq_true h
end
end Go.Proofs
namespace Go.Proofs
open Go Go.Sl Tryz
set_option maxRecDepth 100000
set_option maxHeartbeats 1000000
/-- A reader of single bytes: what the bytes to come are, what memory holds behind so many of them. -/
structure RdB (G : HP) (tv : TypeId) (v : Value) (J : Nat → HP) (bs : List UInt8) where
  f : FuncId
  rv : Value
  hf : ∀ az w, (callFunc f az).run prog w = .ok (.enter f az) w
  hm : ∀ w, (method (prog.types.size + Made.depth) tv v "ReadByte").run prog w = .ok (f, rv) w
  hc : ∀ k b, bs[k]? = some b → Ctr prog f [rv] G (J k) (fun r H' => r = .tuple #[.int .u8 (b.toNat : Nat), .nilIface] ∧ H' = J (k + 1))
/-- A reader that gives what is asked for, at once. -/
structure RdF (G : HP) (tv : TypeId) (v sv : Value) (L : Nat) (J J' : HP) where
  f : FuncId
  rv : Value
  hf : ∀ az w, (callFunc f az).run prog w = .ok (.enter f az) w
  hm : ∀ w, (method (prog.types.size + Made.depth) tv v "Read").run prog w = .ok (f, rv) w
  hn : ∀ w, (nilAhead (prog.types.size + Made.depth) tv v "Read").run prog w = .ok (some false) w
  hc : Ctr prog f [rv, sv] G J (fun r H' => r = .tuple #[.int .i64 L, .nilIface] ∧ H' = J')
theorem Sel.all (A : HP) : Sel A A [] := by simpa using Sel.app A []
section
variable {G : HP} {gr gs gb ob n cap cb i x L lo hi : Nat} {bs tl : List UInt8} {rest pl : List Value} {tv : TypeId} {v : Value} {J : Nat → HP} {J0 J1 : HP} {gE : Addr} {t3 : List Value} {e3 : TypeId} {f3 : Nat × Nat}
theorem readU_is (h : RdB G tv v J bs) (hx : x < 9223372036854775808) (hbs : bs = uv x ++ tl) :
    Ctr prog 78 [.iface tv v] G (J 0) (fun r H' => r = .tuple #[.int .u64 (x : Nat), .nilIface] ∧ H' = J (uv x).length) := by
  have hp := uv_pos x
  have h9 := uv_le9 hx
  have hx' : x < 18446744073709551616 := by omega
  refine fn_enter 59 func78 rfl ntmps78 rfl ?_
  intro w0
  refine gn 22 ?_
  refine c_loop (X := Nat) (fun i => [(0, .iface tv v), (4, .int .u64 (x % 128 ^ i : Nat)), (5, .int .u64 (7 * i : Nat))]) (fun i => J i) (fun i => i < (uv x).length) (fun i => (uv x).length - i) 0 hp (sub_cons rfl (sub_cons (by show some _ = some _; simp [Nat.mod_one]) aK)) (.refl _) ?_
  intro i hi'
  refine gn 5 ?_
  by_cases hmid : i + 1 < (uv x).length
  · obtain ⟨h2, h3⟩ := uv_mid hmid
    have hb : bs[i]? = some (UInt8.ofNat (128 + x / 128 ^ i % 128)) := by rw [hbs, List.getElem?_append_left (by omega)]; exact h3
    have hbz : (UInt8.ofNat (128 + x / 128 ^ i % 128)).toNat = 128 + x / 128 ^ i % 128 := by rw [UInt8.toNat_ofNat']; omega
    have hcc := h.hc i _ hb
    rw [hbz] at hcc
    have e127 : (128 + x / 128 ^ i % 128) % 128 = x / 128 ^ i % 128 := by omega
    have hle : x % 128 ^ (i + 1) ≤ x := Nat.mod_le _ _
    refine oL (l_calli0 h.hf h.hm hcc rfl rfl rfl (Sel.all _)) ?_
    rintro ⟨r, H'⟩ ⟨rfl, rfl⟩
    simp only [List.append_nil]
    refine gn 23 ?_
    refine o_splitp 28 rfl (fun h => absurd h (by omega)) (fun _ => ?_)
    refine gn 9 ?_
    refine c_ifp rfl (fun h => absurd h (by omega)) (fun _ => ?_)
    refine gn 9 ?_
    refine c_ifp rfl (fun h => absurd h (by omega)) (fun _ => ?_)
    refine gn 6 ?_
    rw [and127 (by omega), e127]
    refine gn 4 ?_
    rw [or_sh rfl _ (7 * i) (Int.toNat_natCast _) (by show 7 * i ≤ 64; omega) (mod_lt' x i) (by rw [mod_succ]; show _ < 18446744073709551616; omega), mod_succ]
    refine gn 9 ?_
    refine n_round' (y := i) (i + 1) (by omega) hmid (sub_cons rfl (sub_cons rfl (sub_cons (by show some (Value.int .u64 (((7 * i : Nat) : Int) + 7)) = some (Value.int .u64 ((7 * (i + 1) : Nat) : Int)); rw [show ((7 * i : Nat) : Int) + 7 = ((7 * (i + 1) : Nat) : Int) by omega]) sub_nil))) _ (.refl _) (List.Sublist.refl _)
  · skip
    have hlast : i + 1 = (uv x).length := by omega
    obtain ⟨h2, h3, h0⟩ := uv_last hx' hlast
    have hb : bs[i]? = some (UInt8.ofNat (x / 128 ^ i)) := by rw [hbs, List.getElem?_append_left (by omega)]; exact h3
    have hbz : (UInt8.ofNat (x / 128 ^ i)).toNat = x / 128 ^ i := by rw [UInt8.toNat_ofNat']; exact Nat.mod_eq_of_lt (Nat.lt_trans h2 (by decide))
    have hcc := h.hc i _ hb
    rw [hbz] at hcc
    have hor : ib .or .u64 ((x % 128 ^ i : Nat) : Int) (IntKind.u64.wrap (((x / 128 ^ i : Nat) : Int) * 2 ^ (min ((7 * i : Nat) : Int).toNat IntKind.u64.bits))) = ((x : Nat) : Int) := by
      rw [or_sh rfl _ (7 * i) (Int.toNat_natCast _) (by show 7 * i ≤ 64; omega) (mod_lt' x i) (by rw [mod_last]; show _ < 18446744073709551616; omega), mod_last]
    clear hb h3 hbz
    generalize x / 128 ^ i = q at h2 h0 hcc hor
    refine oL (l_calli0 h.hf h.hm hcc rfl rfl rfl (Sel.all _)) ?_
    rintro ⟨r, H'⟩ ⟨rfl, rfl⟩
    simp only [List.append_nil]
    refine gn 18 ?_
    refine c_cut (X := Unit) (fun _ => [(0, .iface tv v), (4, .int .u64 (x % 128 ^ i : Nat)), (5, .int .u64 (7 * i : Nat)), (6, .int .u8 (q : Nat))]) (fun _ => J (i + 1)) (fun _ => True) ?_ ?_
    · skip
      refine gn 5 ?_
      refine o_splitp 28 rfl (fun h4 => ?_) (fun h4 => ?_)
      · refine gn 4 ?_
        refine o_splitp 32 rfl (fun h => absurd h (by omega)) (fun _ => ?_)
        refine gn 5 ?_
        refine c_ifp rfl (fun h => absurd h (by omega)) (fun _ => ?_)
        refine gn 1 ?_
        exact n_cut () trivial aK (.refl _)
      · skip
        refine gn 9 ?_
        refine c_ifp rfl (fun h => absurd h (by omega)) (fun _ => ?_)
        refine gn 1 ?_
        exact n_cut () trivial aK (.refl _)
    rintro ⟨⟩ -
    refine gn 8 ?_
    refine c_ifp rfl (fun _ => ?_) (fun h => absurd h (by omega))
    refine gn 6 ?_
    refine o_splitp 41 rfl (fun h7 => ?_) (fun h7 => ?_)
    · refine gn 5 ?_
      refine c_ifp rfl (fun h8 => ?_) (fun h8 => ?_)
      · exact absurd h8 (by have : i = 0 ∨ 0 < i := by omega
                            rcases this with rfl | h; simp; have := h0 h; omega)
      · skip
        refine gn 10 ?_
        rw [hor]
        refine gn 5 ?_
        refine r_fn (l := [.tmp 2, .tmp 3]) results78 rfl rfl ?_
        exact ⟨rfl, by rw [← hlast]⟩
    · skip
      refine gn 16 ?_
      rw [hor]
      refine gn 5 ?_
      refine r_fn (l := [.tmp 2, .tmp 3]) results78 rfl rfl ?_
      exact ⟨rfl, by rw [← hlast]⟩
theorem readU_end (hE : (3, Obj.cells (EV gE :: t3).toArray e3 f3) ∈ G) :
    Ctr prog 78 [RV gr] G [(gr, RB gs n cap n)] (fun r H' => r = .tuple #[.int .u64 0, EV gE] ∧ H' = [(gr, RB gs n cap n)]) := by
  refine fn_enter 59 func78 rfl ntmps78 rfl ?_
  intro w0
  refine gn 22 ?_
  refine c_rounds 1 ?_
  refine gn 5 ?_
  refine oL (lI (byte_eof hE) rfl rfl (.cons .head .nil)) ?_
  rintro ⟨r, H'⟩ ⟨rfl, rfl⟩
  simp only [List.cons_append, List.nil_append]
  refine gn 20 ?_
  refine oX (e_ieq_same runUnderlying80 (typeInfo260) rfl (runUnderlying260) (sizeOf262) (by decide) rfl rfl) ?_
  refine gn 1 ?_
  refine o_split 20 rfl (fun h1 => ?_) (fun h1 => ?_)
  · refine gn 16 ?_
    refine r_fn (l := [.tmp 2, .tmp 3]) results78 rfl rfl ?_
    exact ⟨rfl, rfl⟩
  · cases h1
/-- The bytes of a bytes.Reader, one by one. -/
def rdB (hD : (gs, DB bs rest lo hi) ∈ G) (hn : bs.length = n) (h63 : n < 9223372036854775808) : RdB G 75 (.pointer (some ⟨gr, 0, none⟩)) (fun k => [(gr, RB gs n cap (i + k))]) (bs.drop i) where
  f := 289
  rv := .pointer (some ⟨gr, 0, none⟩)
  hf := call289
  hm := by intro w; kernel_rfl
  hc := fun k b hb => byte_is (i := i + k) hD hn h63 (by rw [List.getElem?_drop] at hb; exact hb)
theorem atLeast_is (h : RdF G tv v (.slice (some ⟨gb, ob, none⟩) L cb) L J0 J1) (hL : 0 < L) (hcb : L ≤ cb) (h63 : cb < 9223372036854775808) :
    Ctr prog 201 [.iface tv v, .slice (some ⟨gb, ob, none⟩) L cb, .int .i64 L] G J0 (fun r H' => r = .tuple #[.int .i64 L, .nilIface] ∧ H' = J1) := by
  refine fn_enter 46 func201 rfl ntmps201 rfl ?_
  intro w0
  refine gn 15 ?_
  refine c_ifp rfl (fun h => absurd h (by omega)) (fun _ => ?_)
  refine gn 4 ?_
  refine c_rounds 2 ?_
  refine gn 7 ?_
  refine o_splitp 17 rfl (fun h2 => ?_) (fun h2 => ?_)
  · refine gn 15 ?_
    refine c_regiong [7] (by kernel_rfl) ?_
    refine lg [0, 1, 2, 3, 4] ?_
    first | refine g_m 5 (fun _ _ _ _ _ h => h) rfl (by kernel_rfl) (by kernel_rfl) (by kernel_rfl) rfl rfl rfl (e_nilCheck rfl) ?_ | refine g_m 5 (fun _ _ _ _ _ h => h) rfl (by kernel_rfl) (by kernel_rfl) (by kernel_rfl) rfl rfl rfl (e_nilm h.hn rfl) ?_
    refine lg [6] ?_
    refine gL 7 rfl (l_calli0 h.hf h.hm h.hc rfl rfl rfl (Sel.all _)) ?_
    rintro ⟨r, H'⟩ ⟨rfl, rfl⟩
    simp only [List.append_nil]
    refine ld [8, 9, 10, 11, 12] ?_
    refine gn 9 ?_
    refine n_rounds ?_
    refine gn 7 ?_
    refine o_splitp 17 rfl (fun h3 => ?_) (fun h3 => ?_)
    · exact absurd h3 (by omega)
    · skip
      refine gn 19 ?_
      refine c_ifp rfl (fun _ => ?_) (fun h => absurd h (by omega))
      refine gn 5 ?_
      refine r_fn (l := [.tmp 6, .tmp 7]) results201 rfl rfl ?_
      exact ⟨by simp, rfl⟩
  · exact absurd h2 (by omega)
theorem atLeast_0 : Ctr prog 201 [v, .slice (some ⟨gb, ob, none⟩) 0 cb, .int .i64 0] G [] (fun r H' => r = .tuple #[.int .i64 0, .nilIface] ∧ H' = []) := by
  refine fn_enter 46 func201 rfl ntmps201 rfl ?_
  intro w0
  refine gn 15 ?_
  refine c_ifp rfl (fun h => absurd h (by omega)) (fun _ => ?_)
  refine gn 4 ?_
  refine c_rounds 1 ?_
  refine gn 7 ?_
  refine o_splitp 17 rfl (fun h2 => ?_) (fun h2 => ?_)
  · exact absurd h2 (by omega)
  · skip
    refine gn 19 ?_
    refine c_ifp rfl (fun _ => ?_) (fun h => absurd h (by omega))
    refine gn 5 ?_
    refine r_fn (l := [.tmp 6, .tmp 7]) results201 rfl rfl ?_
    exact ⟨by simp, rfl⟩
theorem fullG_is (h : RdF G tv v (.slice (some ⟨gb, ob, none⟩) L cb) L J0 J1) (hL : 0 < L) (hcb : L ≤ cb) (h63 : cb < 9223372036854775808) :
    Ctr prog 152 [.iface tv v, .slice (some ⟨gb, ob, none⟩) L cb] G J0 (fun r H' => r = .tuple #[.int .i64 L, .nilIface] ∧ H' = J1) := by
  refine fn_enter 13 func152 rfl ntmps152 rfl ?_
  intro w0
  refine gn 12 ?_
  refine oL (lC (atLeast_is h hL hcb h63) rfl (Sel.all _)) ?_
  rintro ⟨r, H'⟩ ⟨rfl, rfl⟩
  simp only [List.append_nil]
  refine gn 7 ?_
  refine r_fn (l := [.tmp 4, .tmp 5]) results152 rfl rfl ?_
  exact ⟨rfl, rfl⟩
/-- A bytes.Reader gives so many. -/
def rdF (hD : (gs, DB bs rest lo hi) ∈ G) (hn : bs.length = n) (hc : n ≤ cap) (h63 : cap < 9223372036854775808) (hi' : i + L ≤ n) (hL : 0 < L) (hp : ob + L ≤ pl.length) : RdF G 75 (.pointer (some ⟨gr, 0, none⟩)) (.slice (some ⟨gb, ob, none⟩) L cb) L [(gr, RB gs n cap i), (gb, C pl 5)] [(gr, RB gs n cap (i + L)), (gb, C (pl.take ob ++ B ((bs.drop i).take L) ++ pl.drop (ob + L)) 5)] where
  f := 288
  rv := .pointer (some ⟨gr, 0, none⟩)
  hf := call288
  hm := by intro w; kernel_rfl
  hn := by intro w; kernel_rfl
  hc := read_some hD hn hc h63 (by omega) (Nat.min_eq_right (by omega)) hp
end
end Go.Proofs
namespace Go.Proofs
open Go Go.Sl Tryz
set_option maxRecDepth 100000
set_option maxHeartbeats 1000000
/-- A reader out of which identifiers are read: how the byte reader in front of it is made, its single bytes, so many of them. -/
structure CRd (G : HP) (tv : TypeId) (v : Value) (W : Nat → HP) (bs : List UInt8) where
  dir : Value
  fb : Value
  hto : ∀ gD, Ctr prog 159 [.iface tv v, .slice (some ⟨gD, 0, none⟩) 0 64] G [] (fun r H' => ∃ gB, r = .pointer (some ⟨gB, 0, none⟩) ∧ H' = [(gB, C [dir, fb, .slice (some ⟨gD, 0, none⟩) 0 64] 277)])
  hby : ∀ gB gD p q z k b, bs[k]? = some b → p.length + (q.length + 1) = 64 → Ctr prog 394 [.pointer (some ⟨gB, 0, none⟩)] G ((gB, C [dir, fb, .slice (some ⟨gD, 0, none⟩) p.length 64] 277) :: (gD, C (p ++ z :: q) 5) :: W k) (fun r H' => r = .tuple #[.int .u8 (b.toNat : Nat), .nilIface] ∧ H' = (gB, C [dir, fb, .slice (some ⟨gD, 0, none⟩) (p.length + 1) 64] 277) :: (gD, C (p ++ .int .u8 (b.toNat : Nat) :: q) 5) :: W (k + 1))
  hrd : ∀ k L gb ob cb pl, k + L ≤ bs.length → 0 < L → ob + L ≤ pl.length → RdF G tv v (.slice (some ⟨gb, ob, none⟩) L cb) L ((gb, C pl 5) :: W k) ((gb, C (pl.take ob ++ B ((bs.drop k).take L) ++ pl.drop (ob + L)) 5) :: W (k + L))
section
variable {G : HP} {tv : TypeId} {v dir fb : Value} {W : Nat → HP} {bs : List UInt8}
/-- Memory behind so many bytes read one by one: they stand in the byte reader's own row. -/
def BJ (h : CRd G tv v W bs) (gB gD k0 : Nat) (k : Nat) : HP := (gB, C [h.dir, h.fb, .slice (some ⟨gD, 0, none⟩) (k0 + k) 64] 277) :: (gD, C (B (bs.take (k0 + k)) ++ List.replicate (64 - (k0 + k)) (.int .u8 0)) 5) :: W (k0 + k)
def crdB (h : CRd G tv v W bs) (gB gD k0 : Nat) {u : List UInt8} {tl : List UInt8} (hu : bs.drop k0 = u ++ tl) (hk : k0 + u.length ≤ 64) : RdB G 274 (.pointer (some ⟨gB, 0, none⟩)) (BJ h gB gD k0) u where
  f := 394
  rv := .pointer (some ⟨gB, 0, none⟩)
  hf := call394
  hm := by intro w; kernel_rfl
  hc := fun k b hb => by
    have hk1 := (List.getElem?_eq_some_iff.1 hb).1
    have hb' : bs[k0 + k]? = some b := by
      have h1 : (bs.drop k0)[k]? = some b := by rw [hu, List.getElem?_append_left hk1]; exact hb
      rwa [List.getElem?_drop] at h1
    have hlt := (List.getElem?_eq_some_iff.1 hb').1
    have hl : (B (bs.take (k0 + k))).length = k0 + k := by rw [B_length, List.length_take]; omega
    have h1 := h.hby gB gD (B (bs.take (k0 + k))) (List.replicate (64 - (k0 + k) - 1) (.int .u8 0)) (.int .u8 0) (k0 + k) b hb' (by rw [hl, List.length_replicate]; omega)
    have e1 : List.replicate (64 - (k0 + k)) (Value.int .u8 0) = .int .u8 0 :: List.replicate (64 - (k0 + k) - 1) (.int .u8 0) := by
      conv => lhs; rw [show 64 - (k0 + k) = (64 - (k0 + k) - 1) + 1 by omega, List.replicate_succ]
    have e2 : B (bs.take (k0 + (k + 1))) = B (bs.take (k0 + k)) ++ [.int .u8 (b.toNat : Nat)] := by
      rw [← Nat.add_assoc, List.take_add_one, hb']; simp [B]
    rw [hl] at h1
    simp only [BJ]
    rw [e1, e2]
    rw [show 64 - (k0 + (k + 1)) = 64 - (k0 + k) - 1 by omega]
    simpa [Nat.add_assoc] using h1
theorem n_cut' {x : Cx} {k : List KI} {s : Slots} {H H1 : HP} {X : Type} {I : X → Slots} {J : X → HP} {A : X → Prop} (z : X) (hA : A z) (hs : ∀ n v, lk (I z) n = some v → lk s n = some v) (hJ : H.Perm H1) (hJ' : (J z).Sublist H1) :
    WN x (.upto (fun a w => ∃ z, A z ∧ St x (I z) (J z) a w) :: k) s H := n_upto fun _ _ h => ⟨z, hA, (h.perm hJ).less hs hJ'⟩
end
section
variable {G : HP} {g h off n cap : Nat} {d : List UInt8} {l : List Value} {e : TypeId} {fr : Nat × Nat}
theorem castM_is (hh : h < 9223372036854775808) (hd : d.length ≤ 1000) (hm : (g, .cells l.toArray e fr) ∈ G) (hcut : CutL l off n (B (mhB h d))) (hc : n ≤ cap) (hcap : cap < 9223372036854775808) :
    Ctr prog 156 [.slice (some ⟨g, off, none⟩) n cap] G [] (fun r H' => r = .tuple #[.slice (some ⟨g, off, none⟩) n cap, .nilIface] ∧ H' = []) := by
  refine fn_enter 16 func156 rfl ntmps156 rfl ?_
  intro w0
  refine gn 9 ?_
  refine oL (lC (Decode_is hh hd hm hcut hc hcap) rfl .nil) ?_
  rintro ⟨r, H'⟩ ⟨gm, v, rfl, ⟨A, c, rfl⟩, hb, rfl⟩
  simp only [List.cons_append, List.nil_append]
  refine gn 25 ?_
  refine WR.sel .nil ?_
  refine r_fn (l := [.tmp 2, .tmp 3]) results156 rfl rfl ?_
  exact ⟨rfl, rfl⟩
theorem mhFrom_is (hh : h < 9223372036854775808) (hd : d.length ≤ 1000) (hm : (g, .cells l.toArray e fr) ∈ G) (hcut : CutL l off n (B (mhB h d))) (hc : n ≤ cap) (hcap : cap < 9223372036854775808) :
    Ctr prog 158 [.slice (some ⟨g, off, none⟩) n cap] G [] (fun r H' => r = .tuple #[.int .i64 n, .slice (some ⟨g, off, none⟩) n cap, .nilIface] ∧ H' = []) := by
  refine fn_enter 23 func158 rfl ntmps158 rfl ?_
  intro w0
  refine gn 10 ?_
  refine oL (lC (rmh_is hh hd hm hcut hc hcap) rfl .nil) ?_
  rintro ⟨r, H'⟩ ⟨v, rfl, ⟨A, c, rfl⟩, hb, rfl⟩
  simp only [List.nil_append]
  refine gn 33 ?_
  refine r_fn (l := [.tmp 2, .tmp 3, .tmp 4]) results158 rfl rfl ?_
  exact ⟨rfl, rfl⟩
end
section
variable {G : HP} {tv : TypeId} {v : Value} {W : Nat → HP} {bs tl : List UInt8} {x : En}
theorem fullC_is (h : CRd G tv v W bs) {k L gb ob cb : Nat} {pl : List Value} (h1 : k + L ≤ bs.length) (h2 : ob + L ≤ pl.length) (h3 : L ≤ cb) (h63 : cb < 9223372036854775808) :
    Ctr prog 152 [.iface tv v, .slice (some ⟨gb, ob, none⟩) L cb] G ((gb, C pl 5) :: W k) (fun r H' => r = .tuple #[.int .i64 L, .nilIface] ∧ H' = (gb, C (pl.take ob ++ B ((bs.drop k).take L) ++ pl.drop (ob + L)) 5) :: W (k + L)) := by
  rcases Nat.eq_zero_or_pos L with rfl | hL
  · have e1 : pl.take ob ++ B ((bs.drop k).take 0) ++ pl.drop (ob + 0) = pl := by simp [B]
    rw [e1]
    refine fn_enter 13 func152 rfl ntmps152 rfl ?_
    intro w0
    refine gn 12 ?_
    refine oL (lC atLeast_0 rfl .nil) ?_
    rintro ⟨r, H'⟩ ⟨rfl, rfl⟩
    simp only [List.nil_append]
    refine gn 7 ?_
    refine r_fn (l := [.tmp 4, .tmp 5]) results152 rfl rfl ?_
    exact ⟨rfl, rfl⟩
  · exact fullG_is (h.hrd k L gb ob cb pl h1 hL h2) hL h3 h63
theorem CutL.all {xs ys : List Value} {n : Nat} (h : xs.length = n) : CutL (xs ++ ys) 0 n xs := by
  have := CutL.of (l := xs ++ ys) (i := 0) (n := n) (by rw [List.length_append]; omega)
  rwa [List.drop_zero, List.take_left' h] at this
theorem cidR_is (h : CRd G tv v W bs) (hbs : bs = cidB x ++ tl) (ht : Tidy x) (hf : EnFit x) (hd : x.d.length ≤ 200) :
    Ctr prog 90 [.iface tv v] G (W 0) (fun r H' => r = .tuple #[.int .i64 (cidB x).length, .agg #[S (cidB x)], .nilIface] ∧ H' = W (cidB x).length) := by
  obtain ⟨v0, c, hh, d, o⟩ := x
  obtain ⟨_, _, hc0, hc1, hh0, hh1, _, _⟩ := hf
  simp only at hc0 hc1 hh0 hh1 hd
  simp only [Tidy] at ht
  obtain ⟨c, rfl⟩ := Int.eq_ofNat_of_zero_le hc0
  obtain ⟨hh, rfl⟩ := Int.eq_ofNat_of_zero_le hh0
  rcases ht with ⟨rfl, h1, h2, h3⟩ | ⟨rfl, h1, h2⟩
  · have hcid : cidB ⟨0, (c : Nat), (hh : Nat), d, o⟩ = mhB 18 d := if_pos rfl
    have hv : mhB 18 d = 18 :: 32 :: d := by rw [mhB, h3]; rfl
    rw [hcid] at hbs ⊢
    have hbl : bs.length = 34 + tl.length := by rw [hbs, hv]; simp [h3]; omega
    have hu1 : bs.drop 0 = uv 18 ++ (32 :: d ++ tl) := by rw [hbs, hv]; rfl
    have hl34 : (mhB 18 d).length = 34 := by rw [hv]; simp [h3]
    have hcut : CutL (B (mhB 18 d) ++ List.replicate 30 (.int .u8 0)) 0 34 (B (mhB 18 d)) := CutL.all (by rw [B_length]; exact hl34)
    have hrow : (B (bs.take 1) ++ List.replicate (64 - 1) (Value.int .u8 0)).take 1 ++ B ((bs.drop 1).take 33) ++ (B (bs.take 1) ++ List.replicate (64 - 1) (Value.int .u8 0)).drop (1 + 33) = B (mhB 18 d) ++ List.replicate 30 (.int .u8 0) := by
      have h5 : bs.take 34 = mhB 18 d := by rw [hbs, List.take_left' hl34]
      have h6 : (B (bs.take 1)).length = 1 := by rw [B_length, List.length_take]; omega
      rw [List.take_left' h6, ← B_append, ← List.take_add, ← List.drop_drop, List.drop_left' h6, h5]
      rfl
    have hu18 : (uv 18).length = 1 := rfl
    rw [hl34]
    refine fn_enter 275 func90 rfl ntmps90 rfl ?_
    intro w0
    refine gn 3 ?_
    refine oZ ?_; intro g3 _
    refine gn 6 ?_
    refine oL (l_mks (l := List.replicate 64 (.int .u8 0)) underlying72 (info_of typeInfo5) rfl rfl rfl rfl (by decide) (by decide) (by decide) (by decide) (made_one (.int .u8 0) 64 rfl)) ?_
    intro gD _
    refine oL (lC (h.hto _) rfl .nil) ?_
    rintro ⟨r, H'⟩ ⟨gB, rfl, rfl⟩
    simp only [List.cons_append, List.nil_append]
    refine gn 7 ?_
    refine o_perm ((List.perm_append_comm (l₁ := [_, _]) (l₂ := [_])).append_right _) ?_
    simp only [List.cons_append, List.nil_append]
    refine oL (l_call (HI := BJ h gB gD 0 0) call78 (readU_is (x := 18) (crdB h gB gD 0 hu1 (by decide)) (by decide) (List.append_nil _).symm) rfl rfl (.cons (.tail .head) (.cons (.tail .head) (Sel.appR [_] (W 0))))) ?_
    rintro ⟨r, H'⟩ ⟨rfl, rfl⟩
    refine o_perm List.perm_append_comm ?_
    simp only [BJ, List.cons_append, List.nil_append, hu18, Nat.zero_add]
    refine gn 34 ?_
    refine oL (lC (fullC_is h (k := 1) (L := 33) (gb := gD) (ob := 1) (cb := 63) (pl := B (bs.take 1) ++ List.replicate (64 - 1) (.int .u8 0)) (by omega) (by rw [List.length_append, B_length, List.length_take, List.length_replicate]; omega) (by decide) (by decide)) rfl (.cons (.tail (.tail .head)) (Sel.appR [_, _] (W 1)))) ?_
    rintro ⟨r, H'⟩ ⟨rfl, rfl⟩
    refine o_perm List.perm_append_comm ?_
    simp only [List.cons_append, List.nil_append]
    rw [hrow]
    refine gn 26 ?_
    refine oT ?_; intro _ _
    refine gn 8 ?_
    refine oL (lJ (HJ := [(gD, C (B (mhB 18 d) ++ List.replicate 30 (.int .u8 0)) 5)]) (castM_is (h := 18) (d := d) (by decide) (by omega) (List.mem_append_right _ (.head _)) hcut (by decide) (by decide)) rfl .nil (by intro p hp; rcases List.mem_singleton.1 hp with rfl; exact .tail _ (.tail _ (.head _)))) ?_
    rintro ⟨r, H'⟩ ⟨rfl, rfl⟩
    simp only [List.nil_append]
    refine gn 18 ?_
    refine c_regiong [9] (by kernel_rfl) ?_
    refine lg [0, 1, 2, 1003, 4, 5, 8] ?_
    refine gE 6 rfl (e_bs underlying178 underlying5 underlying9 rfl aM hcut) ?_
    refine gM 7 rfl (eB [S (mhB 18 d)]) ?_
    refine gL 9 rfl (l_storea sizeOf111 rfl rfl rfl (by simp [Value.oneCell']) aU (.take .done) nofrs0) ?_
    intro _ _
    refine ld [10] ?_
    refine gn 3 ?_
    refine r_fnx results90 (.tmp rfl (.cella isAgg111 sizeOf111 rfl aM (.take .done) (.tmp rfl .nil))) (Sel.appR [_, _, _] (W 34)) rfl ?_
    exact ⟨rfl, rfl⟩
  · have hcid : cidB ⟨1, (c : Nat), (hh : Nat), d, o⟩ = 1 :: (uv c ++ mhB hh d) := if_neg (show ¬ (1 : Int) = 0 by decide)
    rw [hcid] at hbs ⊢
    have hu1 : (uv 1).length = 1 := rfl
    have hcp := uv_pos c
    have hc9 := uv_le9 (x := c) (by omega)
    have hhp := uv_pos hh
    have hh9 := uv_le9 (x := hh) (by omega)
    have hdp := uv_pos d.length
    have hd9 := uv_le9 (x := d.length) (by omega)
    have hbs' : bs = uv 1 ++ (uv c ++ (uv hh ++ (uv d.length ++ (d ++ tl)))) := by rw [hbs]; simp [mhB]; rfl
    obtain ⟨p2, hp2⟩ : ∃ p2, p2 = 1 + (uv c).length := ⟨_, rfl⟩
    obtain ⟨p3, hp3⟩ : ∃ p3, p3 = p2 + (uv hh).length := ⟨_, rfl⟩
    obtain ⟨p4, hp4⟩ : ∃ p4, p4 = p3 + (uv d.length).length := ⟨_, rfl⟩
    have hlen : (1 :: (uv c ++ mhB hh d)).length = p4 + d.length := by simp [mhB]; omega
    have hbl : bs.length = p4 + d.length + tl.length := by rw [hbs, List.length_append, hlen]
    have d0 : bs.drop 0 = uv 1 ++ (uv c ++ (uv hh ++ (uv d.length ++ (d ++ tl)))) := by rw [List.drop_zero]; exact hbs'
    have d1 : bs.drop 1 = uv c ++ (uv hh ++ (uv d.length ++ (d ++ tl))) := drop_at hbs' rfl
    have d2 : bs.drop p2 = uv hh ++ (uv d.length ++ (d ++ tl)) := drop_at (a := uv 1 ++ uv c) (by rw [hbs']; simp) (by simp [hu1, hp2])
    have d3 : bs.drop p3 = uv d.length ++ (d ++ tl) := drop_at (a := uv 1 ++ uv c ++ uv hh) (by rw [hbs']; simp) (by simp [hu1, hp3, hp2]; omega)
    have d4 : bs.drop p4 = d ++ tl := drop_at (a := uv 1 ++ uv c ++ uv hh ++ uv d.length) (by rw [hbs']; simp) (by simp [hu1, hp4, hp3, hp2]; omega)
    have htk : bs.take (p4 + d.length) = 1 :: (uv c ++ mhB hh d) := by rw [hbs, List.take_left' hlen]
    have hcm : ∀ Z, CutL (B (1 :: (uv c ++ mhB hh d)) ++ Z) p2 (p4 + d.length - p2) (B (mhB hh d)) := fun Z => by
      have e1 : 1 :: (uv c ++ mhB hh d) = (1 :: uv c) ++ mhB hh d := rfl
      have h5 : CutL (B (1 :: (uv c ++ mhB hh d)) ++ Z) 0 (p4 + d.length) (B ((1 :: uv c) ++ mhB hh d)) := by rw [← e1]; exact CutL.all (by rw [B_length]; exact hlen)
      have h6 := h5.front (a := p2) (by simp [hp2]; omega)
      rwa [Nat.zero_add] at h6
    have hca : ∀ Z, CutL (B (1 :: (uv c ++ mhB hh d)) ++ Z) 0 (p4 + d.length) (B (1 :: (uv c ++ mhB hh d))) := fun Z => CutL.all (by rw [B_length]; exact hlen)
    have hrow : ∀ Z : List Value, d.length ≤ Z.length → (B (bs.take p4) ++ Z).take p4 ++ B ((bs.drop p4).take d.length) ++ (B (bs.take p4) ++ Z).drop (p4 + d.length) = B (1 :: (uv c ++ mhB hh d)) ++ Z.drop d.length := fun Z hZ => by
      have h6 : (B (bs.take p4)).length = p4 := by rw [B_length, List.length_take]; omega
      rw [List.take_left' h6, ← B_append, ← List.take_add, htk, ← List.drop_drop, List.drop_left' h6]
    have hmh := hlen
    generalize 1 :: (uv c ++ mhB hh d) = cb at *
    rw [hlen]
    refine fn_enter 275 func90 rfl ntmps90 rfl ?_
    intro w0
    refine gn 3 ?_
    refine oZ ?_; intro g3 _
    refine gn 6 ?_
    refine oL (l_mks (l := List.replicate 64 (.int .u8 0)) underlying72 (info_of typeInfo5) rfl rfl rfl rfl (by decide) (by decide) (by decide) (by decide) (made_one (.int .u8 0) 64 rfl)) ?_
    intro gD _
    refine oL (lC (h.hto _) rfl .nil) ?_
    rintro ⟨r, H'⟩ ⟨gB, rfl, rfl⟩
    simp only [List.cons_append, List.nil_append]
    refine gn 7 ?_
    refine o_perm ((List.perm_append_comm (l₁ := [_, _]) (l₂ := [_])).append_right _) ?_
    simp only [List.cons_append, List.nil_append]
    refine oL (l_call (HI := BJ h gB gD 0 0) call78 (readU_is (x := 1) (crdB h gB gD 0 d0 (by decide)) (by decide) (List.append_nil _).symm) rfl rfl (.cons (.tail .head) (.cons (.tail .head) (Sel.appR [_] (W 0))))) ?_
    rintro ⟨r, H'⟩ ⟨rfl, rfl⟩
    refine o_perm List.perm_append_comm ?_
    simp only [BJ, List.cons_append, List.nil_append, hu1, Nat.zero_add]
    refine gn 41 ?_
    refine oL (l_call (HI := BJ h gB gD 1 0) call78 (readU_is (x := c) (crdB h gB gD 1 d1 (by omega)) (by omega) (List.append_nil _).symm) rfl rfl (.cons (.tail .head) (.cons (.tail .head) (Sel.appR [_] (W 1))))) ?_
    rintro ⟨r, H'⟩ ⟨rfl, rfl⟩
    refine o_perm List.perm_append_comm ?_
    simp only [BJ, List.cons_append, List.nil_append, ← hp2]
    refine gn 30 ?_
    refine oL (l_call (HI := BJ h gB gD p2 0) call78 (readU_is (x := hh) (crdB h gB gD p2 d2 (by omega)) (by omega) (List.append_nil _).symm) rfl rfl (.cons (.tail .head) (.cons (.tail .head) (Sel.appR [_] (W p2))))) ?_
    rintro ⟨r, H'⟩ ⟨rfl, rfl⟩
    refine o_perm List.perm_append_comm ?_
    simp only [BJ, List.cons_append, List.nil_append, ← hp3]
    refine gn 20 ?_
    refine oL (l_call (HI := BJ h gB gD p3 0) call78 (readU_is (x := d.length) (crdB h gB gD p3 d3 (by omega)) (by omega) (List.append_nil _).symm) rfl rfl (.cons (.tail .head) (.cons (.tail .head) (Sel.appR [_] (W p3))))) ?_
    rintro ⟨r, H'⟩ ⟨rfl, rfl⟩
    refine o_perm List.perm_append_comm ?_
    simp only [BJ, List.cons_append, List.nil_append, ← hp4]
    have hp4l : (B (bs.take p4)).length = p4 := by rw [B_length, List.length_take]; omega
    refine gn 24 ?_
    refine c_ifp rfl (fun h => absurd h (by omega)) (fun _ => ?_)
    refine gn 33 ?_
    refine c_cut (X := Nat × List Value) (fun _ => [(0, .iface tv v), (3, .pointer (some ⟨g3, 0, none⟩)), (5, .pointer (some ⟨gB, 0, none⟩)), (12, .int .i64 p2), (14, .int .i64 p4), (15, .int .i64 (p4 + d.length : Nat))]) (fun y => (g3, C [S []] 111) :: (gB, C [h.dir, h.fb, .slice (some ⟨y.1, 0, none⟩) (p4 + d.length) (p4 + y.2.length)] 277) :: (y.1, C (B (bs.take p4) ++ y.2) 5) :: W p4) (fun y => d.length ≤ y.2.length ∧ 0 < y.2.length ∧ p4 + y.2.length < 9223372036854775808) ?_ ?_
    · skip
      refine c_ifp rfl (fun hA => ?_) (fun hA => ?_)
      · refine c_regiong [12, 15] (by kernel_rfl) ?_
        refine lg [0, 1, 2, 3, 1004, 5, 6, 7, 8, 1009, 10, 11] ?_
        simp only [Nat.add_sub_cancel_left]
        refine gL 12 rfl (l_appZO (m := d.length) underlying72 underlying3 (info_of typeInfo5) rfl rfl rfl rfl rfl rfl rfl (.tail _ (.tail _ (.head _))) (CutL.all hp4l) (by omega) (by omega) (by omega)) ?_
        rintro ⟨gN, Z⟩ ⟨hZ1, hZ2⟩
        simp only at hZ1 hZ2 ⊢
        refine ld [13, 14] ?_
        refine dT 15 ?_
        intro _ _
        refine gn 1 ?_
        exact n_cut' (gN, Z) ⟨hZ1, by show 0 < Z.length; omega, hZ2⟩ aK ((List.perm_append_comm (l₁ := [_]) (l₂ := [_, _])).append_right _) (.cons_cons _ (.cons_cons _ (.cons_cons _ (.cons _ (List.Sublist.refl _)))))
      · skip
        have e64 : p4 + (List.replicate (64 - p4) (Value.int .u8 0)).length = 64 := by simp; omega
        refine gn 10 ?_
        refine oT ?_; intro _ _
        refine gn 1 ?_
        simp only [Int.toNat_natCast]
        exact n_cut (gD, List.replicate (64 - p4) (.int .u8 0)) ⟨by simp; omega, by simp; omega, by rw [e64]; decide⟩ aK (by simp only [e64]; exact .refl _)
    rintro ⟨gN, Z⟩ ⟨hZ1, hZ0, hZ2⟩
    simp only at hZ1 hZ0 hZ2 ⊢
    refine gn 12 ?_
    simp only [Int.toNat_natCast, Nat.mul_one, Nat.zero_add, Nat.add_sub_cancel_left]
    refine oL (lC (fullC_is h (k := p4) (L := d.length) (gb := gN) (ob := p4) (cb := Z.length) (pl := B (bs.take p4) ++ Z) (by omega) (by rw [List.length_append, hp4l]; omega) hZ1 (by omega)) rfl (.cons (.tail (.tail .head)) (Sel.appR [_, _] (W p4)))) ?_
    rintro ⟨r, H'⟩ ⟨rfl, rfl⟩
    refine o_perm List.perm_append_comm ?_
    simp only [List.cons_append, List.nil_append]
    rw [hrow Z hZ1]
    refine gn 24 ?_
    simp only [Int.toNat_natCast, Nat.mul_one, Nat.zero_add]
    refine oL (lJ (HJ := [(gN, C (B cb ++ Z.drop d.length) 5)]) (mhFrom_is (h := hh) (d := d) (by omega) (by omega) (List.mem_append_right _ (.head _)) (hcm _) (by omega) (by omega)) rfl .nil (by intro p hp; rcases List.mem_singleton.1 hp with rfl; exact .tail _ (.tail _ (.head _)))) ?_
    rintro ⟨r, H'⟩ ⟨rfl, rfl⟩
    simp only [List.nil_append]
    refine gn 18 ?_
    refine c_regiong [12] (by kernel_rfl) ?_
    refine lg [0, 1, 2, 1003, 4, 5, 6, 7, 1008, 11] ?_
    refine gE 9 rfl (e_bs underlying72 underlying5 underlying9 rfl aM (hca _)) ?_
    refine gM 10 rfl (eB [S cb]) ?_
    refine gL 12 rfl (l_storea sizeOf111 rfl rfl rfl (by simp [Value.oneCell']) aU (.take .done) nofrs0) ?_
    intro _ _
    refine ld [13] ?_
    refine gn 3 ?_
    refine r_fnx results90 (.tmp rfl (.cella isAgg111 sizeOf111 rfl aM (.take .done) (.tmp rfl .nil))) (Sel.appR [_, _, _] (W (p4 + d.length))) rfl ?_
    exact ⟨rfl, rfl⟩
end
end Go.Proofs

/- The parts of an index written, whatever the order in which the map has them; An index with codes written, whatever the order in which the maps have it; A code as a varint; An index written; An index written, whatever the order in which the maps have it; impl.IxAgain and impl.IxCodec of an index; impl.options; An index generated, written; impl.IxBytes: entries' index; spec.Varint; The specification's bytes: multihashes, identifiers; The specification's sections. (A part of the proof of this: for every input laws.FnWrOptions returns true and its arguments read as they did, the listed package variables being what the program lays) -/
import Derived.Test.YtochgglejmfelaaGreatDoorLSlZ
import Derived.Test.YtochgglejmfelaaGreatDoorL10
import Derived.Test.YtochgglejmfelaaGreatDoorL12
import Derived.Test.YtochgglejmfelaaGreatDoorL19
import Derived.Test.YtochgglejmfelaaGreatDoorL17
import Derived.Test.YtochgglejmfelaaGreatDoorL18
set_option linter.unusedVariables false
set_option linter.unusedSimpArgs false
namespace Go.Proofs
open Go Go.Sl Tryz
set_option maxRecDepth 100000
set_option maxHeartbeats 1000000
theorem keys_srtG {ks ls : List Nat} {seen : List Nat} (hnd : seen.Nodup) (hlt : ∀ i ∈ seen, i < ks.length) (hall : ∀ i, i < ks.length → i ∈ seen) (hp0 : ls.Perm ks) (hs : ls.Pairwise (· ≤ ·)) : srt (seen.map fun i => ((ks.getD i 0 : Nat) : Int)) = ls.map fun k : Nat => (k : Int) := by
  have hp : seen.Perm (List.range ks.length) := (List.perm_ext_iff_of_nodup hnd List.nodup_range).2 fun a => ⟨fun h => List.mem_range.2 (hlt a h), fun h => hall a (List.mem_range.1 h)⟩
  have hm : (List.range ks.length).map (fun i => ((ks.getD i 0 : Nat) : Int)) = ks.map fun k : Nat => (k : Int) := by
    refine List.ext_getElem (by simp) fun i h1 h2 => ?_
    simp only [List.length_map, List.length_range] at h1
    simp [List.getD, h1]
  have hp2 : (seen.map fun i => ((ks.getD i 0 : Nat) : Int)).Perm (ls.map fun k : Nat => (k : Int)) := by
    refine List.Perm.trans ?_ (hp0.symm.map _)
    rw [← hm]; exact hp.map _
  refine List.Perm.eq_of_pairwise (le := fun a b => (decide (a ≤ b)) = true) ?_ (List.pairwise_mergeSort ?_ ?_ _) ?_ ((List.mergeSort_perm _ _).trans hp2)
  · intro a b _ _ h1 h2
    simp at h1 h2
    omega
  · intro a b c h1 h2
    simp at h1 h2 ⊢
    omega
  · intro a b
    simp
    omega
  · rw [List.pairwise_map]
    exact hs.imp fun h => by simpa using h
section
variable {G : HP} {gm gx gb em : Nat} {bs : List UInt8} {HB : HP} {lr : Int} {v : Value} {zs : List Value} {ts : List Mpart}
theorem mwiMg_is {us : List Mpart} (hus : us.Perm ts) (hb : Bb v bs HB) (hm : (gm, C (.map (some gx) :: zs) em) ∈ G) (hx : (gx, Mo .u32 (MV ts)) ∈ G) (ht : ∀ p ∈ MB ts, p ∈ G) (hlen : ts.length ≤ 200) (h2 : bs.length + ((us.map (·.2)).flatMap pbB).length < 268435456) (hok : ∀ t ∈ ts, PartOk t.2) (hso : (us.map fun t => t.2.1).Pairwise (· ≤ ·)) (hkn : (ts.map fun t => t.2.1).Nodup) :
    Ctr prog 329 [.pointer (some ⟨gm, 0, none⟩), .iface 89 (.pointer (some ⟨gb, 0, none⟩))] G ((gb, Bu v lr) :: HB) (fun r H' => ∃ (z : Int) (v' : Value) (HB' : HP), r = .tuple #[.int .u64 z, .nilIface] ∧ Bb v' (bs ++ pmB (us.map (·.2))) HB' ∧ H' = (gb, Bu v' 0) :: HB') := by
  have hMl : (MV ts).length = ts.length := by simp [MV]
  have hul : us.length = ts.length := hus.length_eq
  refine fn_enter 72 func329 rfl ntmps329 rfl ?_
  intro w0
  refine gn 20 ?_
  rw [hMl]
  refine oL (lC (w32_is (k := ts.length) hb (by omega)) rfl (.cons .head (by simpa using Sel.app HB []))) ?_
  rintro ⟨r, H'⟩ ⟨rfl, v1, HB1, hb1, rfl⟩
  simp only [List.cons_append, List.append_nil]
  refine gn 25 ?_
  rw [hMl]
  refine oL (l_mks (l := List.replicate ts.length (.int .u32 0)) underlying472 (info_of typeInfo212) rfl rfl rfl rfl (by decide) (by omega) (by show (4 : Int) * _ ≤ _; omega) (by omega) (made_one (.int .u32 0) ts.length rfl)) ?_
  intro g8 _
  refine gn 9 ?_
  refine oL (l_range runUnderlying327 rfl rfl (.inr hx)) ?_
  intro it _
  refine gn 3 ?_
  refine c_loop (X := Value × HP × List Nat) (fun y => [(0, .pointer (some ⟨gm, 0, none⟩)), (1, .iface 89 (.pointer (some ⟨gb, 0, none⟩))), (6, .int .u64 4), (8, y.1), (36, .pointer (some ⟨it, 0, none⟩))]) (fun y => (it, Io gx (MV ts).length y.2.2) :: (y.2.1 ++ ((gb, Bu v1 0) :: HB1))) (fun y => (∃ A n c, y.1 = .slice (some A) n c) ∧ Osl 212 1 y.1 y.2.2.length (V .u32 (y.2.2.map fun i => ((ts.map fun t => t.2.1).getD i 0 : Nat))) y.2.1 ∧ y.2.2.Nodup ∧ ∀ i ∈ y.2.2, i < ts.length) (fun y => ts.length - y.2.2.length) (.slice (some ⟨g8, 0, none⟩) 0 ts.length, [(g8, C (List.replicate ts.length (.int .u32 0)) 212)], []) ⟨⟨_, _, _, rfl⟩, .own (xs := []) rfl (by simp) (Nat.zero_le _) (by omega) (.inr rfl), .nil, by simp⟩ aK (.refl _) ?_
  rintro ⟨u, HU, seen⟩ ⟨hu, ho, hnd, hlt⟩
  simp only at hu ho hnd hlt ⊢
  refine gn 2 ?_
  refine oL (l_next rfl rfl (.inr hx) (fun sn => .head)) ?_
  rintro (_ | i) hy
  · simp only [stepOk, stepV] at hy ⊢
    refine gn 13 ?_
    have hkl : seen.length ≤ ts.length := nodup_bound hnd hlt
    have hks := keys_srtG (ks := ts.map fun t => t.2.1) (ls := us.map fun t => t.2.1) hnd (fun i hi => by simpa using hlt i hi) (fun i hi => hy i (by simpa [hMl] using hi)) (hus.map _) hso
    generalize hacc : (seen.map fun i => ((ts.map fun t => t.2.1).getD i 0 : Nat) : List Int) = acc at ho hks
    have hal : acc.length = seen.length := by rw [← hacc]; simp
    rw [← hal] at ho
    rcases ho.openV with ⟨rfl, _, _⟩ | ⟨g, cap, rest, lo, hi', rfl, rfl, hr1, hr2, hr3, hr4⟩
    · obtain ⟨A, n, c, hu⟩ := hu
      cases hu
    · refine oL (lC (A4.sort_is (l := acc) (n := acc.length) rfl (by omega) (by omega)) rfl (.cons (.tail .head) .nil)) ?_
      rintro ⟨r, H'⟩ ⟨rfl, rfl⟩
      simp only [List.cons_append, List.nil_append]
      rw [hks]
      refine gn 11 ?_
      have hat : acc.length = ts.length := by have := congrArg List.length hks; simpa [srt_length, hul] using this
      refine c_loop (X := Nat × Int × Value × HP) (fun y => [(0, .pointer (some ⟨gm, 0, none⟩)), (1, .iface 89 (.pointer (some ⟨gb, 0, none⟩))), (6, .int .u64 y.2.1), (47, .slice (some ⟨g, 0, none⟩) acc.length cap), (48, .int .i64 acc.length), (49, .int .i64 y.1)]) (fun y => (g, VB .u32 (List.map (fun k : Nat => (k : Int)) (List.map (fun t => t.2.1) us)) rest 212 lo hi') :: (it, Io gx (MV ts).length seen) :: (gb, Bu y.2.2.1 0) :: y.2.2.2) (fun y => y.1 ≤ ts.length ∧ Bb y.2.2.1 (bs ++ lowB (ts.length : Nat) 4 ++ ((us.map (·.2)).take y.1).flatMap pbB) y.2.2.2) (fun y => ts.length - y.1) (0, 4, v1, HB1) ⟨Nat.zero_le _, by simpa using hb1⟩ aK (.refl _) ?_
      rintro ⟨i, z, v', HB'⟩ ⟨hi0, hb'⟩
      simp only at hi0 hb' ⊢
      have hKl : (List.map (fun k : Nat => (k : Int)) (List.map (fun t : Mpart => t.2.1) us)).length = ts.length := by simp [hul]
      generalize hK : List.map (fun k : Nat => (k : Int)) (List.map (fun t : Mpart => t.2.1) us) = K at *
      refine gn 6 ?_
      refine c_ifp rfl (fun h5 => ?_) (fun h5 => ?_)
      · have hi3 : i < us.length := by omega
        have hmu : us[i] ∈ ts := hus.subset (List.getElem_mem hi3)
        have hgk : gd K i = (us[i].2.1 : Nat) := by rw [← hK]; simp [gd, hi3]
        have hmg := MV_get hkn us[i] hmu
        refine gr 17 ?_
        rw [hgk]
        refine oX (e_lookup runUnderlying327 runUnderlying212 zeroValue448 rfl rfl (.inr hx)) ?_
        rw [hmg]
        refine oZ ?_; intro g12 _
        refine oL (l_storea sizeOf448 rfl rfl rfl (by simp [Value.oneCell']) .head (.take (.take (.take .done))) nofrs0) ?_
        intro _ _
        refine gn 5 ?_
        have hip : i < (us.map (·.2)).length := by simpa using hi3
        have hfl := congrArg List.length (flat_split hip)
        simp only [List.length_append, pbB_length] at hfl
        have hge : (us.map (·.2))[i] = us[i].2 := by simp
        rw [hge] at hfl
        have hdd : (us[i].1, DB us[i].2.2 [] 0 0) ∈ G := by
          have h6 := ht (us[i].1, C (B us[i].2.2) 5) (List.mem_map.2 ⟨us[i], hmu, rfl⟩)
          show (_, Obj.cells (B _ ++ []).toArray 5 (0, 0)) ∈ G
          rw [List.append_nil]
          exact h6
        refine oL (l_callj (HI := (gb, Bu v' 0) :: HB') (HJ := [(g12, _)]) call340 (swiM_is hb' (List.mem_append_right _ (.head _)) (List.mem_append_left _ hdd) (hok _ hmu).h3 (by omega) (by simp only [List.length_append, lowB_length]; omega)) rfl rfl (.cons (.tail (.tail (.tail .head))) (Sel.appR [_, _, _] HB')) (fun p hp => by rcases List.mem_singleton.1 hp with rfl; exact .head _)) ?_
        rintro ⟨r, H'⟩ ⟨z2, v2, HB2, rfl, hb2, rfl⟩
        simp only [List.cons_append]
        refine gn 29 ?_
        refine n_round' (y := (i, z, v', HB')) (i + 1, _, v2, HB2) (by show ts.length - (i + 1) < ts.length - i; omega) ?_ aK _ (List.perm_append_comm (l₁ := _ :: HB2) (l₂ := [_, _, _])) (List.sublist_cons_self _ _)
        refine ⟨by show i + 1 ≤ ts.length; omega, ?_⟩
        show Bb v2 (bs ++ lowB (ts.length : Nat) 4 ++ ((us.map (·.2)).take (i + 1)).flatMap pbB) HB2
        rw [flat_succ hip, hge, ← List.append_assoc]
        exact hb2
      · skip
        refine gn 13 ?_
        refine WR.sel (.cons (.tail (.tail .head)) (Sel.appR [_, _] HB')) ?_
        refine r_fn (l := [.tmp 4, .tmp 5]) results329 rfl rfl ?_
        obtain rfl : i = ts.length := by omega
        refine ⟨_, v', HB', rfl, ?_, rfl⟩
        rw [List.take_of_length_le (by simp [hul])] at hb'
        simpa [pmB, hul] using hb'
  · obtain ⟨hi, hni⟩ : i < (MV ts).length ∧ i ∉ seen := hy
    have hq : (MV ts)[i]? = some (MV ts)[i] := List.getElem?_eq_getElem hi
    have hst : stepV .u32 (MV ts) (some i) = .tuple #[.bool true, .int .u32 (MV ts)[i].1, (MV ts)[i].2] := by simp [stepV, hq]
    rw [hst]
    refine gn 10 ?_
    refine oX (e_entry (j := i) (seen := seen) rfl (.inl (.head _)) (.inr hx) hq) ?_
    refine gn 7 ?_
    refine oL (l_bs1 runUnderlying472 sizeOf212 zeroValue212 rfl rfl rfl) ?_; intro g43 _
    have hlt' : seen.length < ts.length := by
      have := nodup_bound (n := ts.length) (l := i :: seen) (List.nodup_cons.2 ⟨hni, hnd⟩) (fun j hj => by
        rcases List.mem_cons.1 hj with rfl | hj
        · rw [← hMl]; exact hi
        · exact hlt j hj)
      exact Nat.lt_of_succ_le (by simpa using this)
    refine oL (l_append (sz := 1) underlying472 (info_of typeInfo212) rfl rfl rfl rfl rfl rfl ho (perm_mid [_, _] HU _) (.blk underlying472 (.inl (.head _)) (.take .done) (by simp [Value.oneCell'])) (by show _ * 4 ≤ _; omega) (by omega)) ?_
    rintro ⟨v2, HB2⟩ ho2
    refine gn 3 ?_
    refine n_round' (y := (u, HU, seen)) (v2, HB2, seen ++ [i]) (by show ts.length - (seen ++ [i]).length < ts.length - seen.length; simp; omega) ?_ aK _ (perm_mid HB2 [_, _] _) ?_
    · obtain ⟨g, cap, rest, lo, hi', rfl, _⟩ := Osl.open_ ho2 (Nat.succ_pos _)
      refine ⟨⟨_, _, _, rfl⟩, ?_, ?_, ?_⟩
      · have hi2 : i < ts.length := hMl ▸ hi
        simpa [MV, List.getD, hi2] using ho2
      · rw [List.nodup_append]
        exact ⟨hnd, by simp, fun a ha b hb e => by simp at hb; subst hb; subst e; exact hni ha⟩
      · intro j hj
        rcases List.mem_append.1 hj with hj | hj
        · exact hlt j hj
        · rw [List.mem_singleton.1 hj, ← hMl]; exact hi
    · exact List.sublist_cons_self _ _
end
end Go.Proofs
namespace Go.Proofs
open Go Go.Sl Tryz
set_option maxRecDepth 100000
set_option maxHeartbeats 1000000
def unf (f : Mcode → List Mpart) (m : Mcode) : Cpart := (m.code, (f m).map (·.2))
section
variable {G : HP} {gb : Nat} {bs : List UInt8} {HB : HP} {lr : Int} {v : Value}
theorem mwcMg_is {m : Mcode} {us : List Mpart} (hus : us.Perm m.ts) (hb : Bb v bs HB) (hm : ∀ p ∈ m.hp, p ∈ G) (hlen : m.ts.length ≤ 200) (h2 : bs.length + (pcB (m.code, us.map (·.2))).length < 268435456) (hok : ∀ t ∈ m.ts, PartOk t.2) (hso : (us.map fun t => t.2.1).Pairwise (· ≤ ·)) (hkn : (m.ts.map fun t => t.2.1).Nodup) :
    Ctr prog 320 [.pointer (some ⟨m.gc, 0, none⟩), .iface 89 (.pointer (some ⟨gb, 0, none⟩))] G ((gb, Bu v lr) :: HB) (fun r H' => ∃ (z : Int) (v' : Value) (HB' : HP), r = .tuple #[.int .u64 z, .nilIface] ∧ Bb v' (bs ++ pcB (m.code, us.map (·.2))) HB' ∧ H' = (gb, Bu v' 0) :: HB') := by
  obtain ⟨gc, gx, code, ts⟩ := m
  have hg : (gc, C [.map (some gx), .int .u64 code] 437) ∈ G := hm _ (.head _)
  have hx : (gx, Mo .u32 (MV ts)) ∈ G := hm _ (.tail _ (.head _))
  have ht : ∀ p ∈ MB ts, p ∈ G := fun p hp => hm p (.tail _ (.tail _ hp))
  simp only [pcB_length] at h2
  simp only at hus
  refine fn_enter 29 func320 rfl ntmps320 rfl ?_
  intro w0
  refine gn 14 ?_
  refine oL (lC (w64_is (k := code) hb (by omega)) rfl (.cons .head (by simpa using Sel.app HB []))) ?_
  rintro ⟨r, H'⟩ ⟨rfl, v1, HB1, hb1, rfl⟩
  simp only [List.cons_append, List.append_nil]
  refine gn 18 ?_
  refine oL (lC (mwiMg_is hus hb1 hg hx ht hlen (by simp only [List.length_append, lowB_length]; omega) hok hso hkn) rfl (.cons .head (by simpa using Sel.app HB1 []))) ?_
  rintro ⟨r, H'⟩ ⟨z, v2, HB2, rfl, hb2, rfl⟩
  simp only [List.cons_append, List.append_nil]
  refine gn 17 ?_
  refine r_fn (l := [.tmp 4, .tmp 5]) results320 rfl rfl ?_
  refine ⟨_, v2, HB2, rfl, ?_, rfl⟩
  simpa [pcB] using hb2
end
section
variable {G : HP} {gm gX em : Nat} {zs : List Value} {ms : List Mcode}
theorem codesMg_is {ls : List Mcode} (hls : ls.Perm ms) (hm : (gm, C (.map (some gX) :: zs) em) ∈ G) (hx : (gX, Mo .u64 (KV ms)) ∈ G) (hlen : ms.length ≤ 200) (hso : (ls.map fun t => t.code).Pairwise (· ≤ ·)) :
    Ctr prog 319 [.pointer (some ⟨gm, 0, none⟩)] G [] (fun r H' => ∃ (g cap lo hi : Nat) (rest : List Value), r = .slice (some ⟨g, 0, none⟩) ms.length cap ∧ H' = [(g, VB .u64 (ls.map fun t => (t.code : Int)) rest 23 lo hi)]) := by
  have hMl : (KV ms).length = ms.length := by simp [KV]
  refine fn_enter 25 func319 rfl ntmps319 rfl ?_
  intro w0
  refine gn 11 ?_
  rw [hMl]
  refine oL (l_mks (l := List.replicate ms.length (.int .u64 0)) underlying29 (info_of typeInfo23) rfl rfl rfl rfl (by decide) (by omega) (by show (8 : Int) * _ ≤ _; omega) (by omega) (made_one (.int .u64 0) ms.length rfl)) ?_
  intro g8 _
  refine gn 9 ?_
  refine oL (l_range runUnderlying330 rfl rfl (.inr hx)) ?_
  intro it _
  refine gn 3 ?_
  refine c_loop (X := Value × HP × List Nat) (fun y => [(0, .pointer (some ⟨gm, 0, none⟩)), (3, y.1), (13, .pointer (some ⟨it, 0, none⟩))]) (fun y => (it, Io gX (KV ms).length y.2.2) :: (y.2.1 ++ [])) (fun y => (∃ A n c, y.1 = .slice (some A) n c) ∧ Osl 23 1 y.1 y.2.2.length (V .u64 (y.2.2.map fun i => ((ms.map fun t => t.code).getD i 0 : Nat))) y.2.1 ∧ y.2.2.Nodup ∧ ∀ i ∈ y.2.2, i < ms.length) (fun y => ms.length - y.2.2.length) (.slice (some ⟨g8, 0, none⟩) 0 ms.length, [(g8, C (List.replicate ms.length (.int .u64 0)) 23)], []) ⟨⟨_, _, _, rfl⟩, .own (xs := []) rfl (by simp) (Nat.zero_le _) (by omega) (.inr rfl), .nil, by simp⟩ aK (.refl _) ?_
  rintro ⟨u, HU, seen⟩ ⟨hu, ho, hnd, hlt⟩
  simp only at hu ho hnd hlt ⊢
  refine gn 2 ?_
  refine oL (l_next rfl rfl (.inr hx) (fun sn => .head)) ?_
  rintro (_ | i) hy
  · simp only [stepOk, stepV] at hy ⊢
    refine gn 13 ?_
    have hkl : seen.length ≤ ms.length := nodup_bound hnd hlt
    have hul : ls.length = ms.length := hls.length_eq
    have hks := keys_srtG (ks := ms.map fun t => t.code) (ls := ls.map fun t => t.code) hnd (fun i hi => by simpa using hlt i hi) (fun i hi => hy i (by simpa [hMl] using hi)) (hls.map _) hso
    generalize hacc : (seen.map fun i => ((ms.map fun t => t.code).getD i 0 : Nat) : List Int) = acc at ho hks
    have hal : acc.length = seen.length := by rw [← hacc]; simp
    have hat : acc.length = ms.length := by have := congrArg List.length hks; simpa [srt_length, hul] using this
    rw [← hal] at ho
    rcases ho.openV with ⟨rfl, _, _⟩ | ⟨g, cap, rest, lo, hi', rfl, rfl, hr1, hr2, hr3, hr4⟩
    · obtain ⟨A, n, c, hu⟩ := hu
      cases hu
    · refine oL (lC (A8.sort_is (l := acc) (n := acc.length) rfl (by omega) (by omega)) rfl (.cons (.tail .head) .nil)) ?_
      rintro ⟨r, H'⟩ ⟨rfl, rfl⟩
      simp only [List.cons_append, List.nil_append]
      rw [hks]
      refine gn 9 ?_
      refine WR.sel (.cons .head .nil) ?_
      refine r_fn1 results319 rfl ?_
      exact ⟨g, cap, lo, hi', rest, by rw [hat], by simp⟩
  · obtain ⟨hi, hni⟩ : i < (KV ms).length ∧ i ∉ seen := hy
    have hq : (KV ms)[i]? = some (KV ms)[i] := List.getElem?_eq_getElem hi
    have hst : stepV .u64 (KV ms) (some i) = .tuple #[.bool true, .int .u64 (KV ms)[i].1, (KV ms)[i].2] := by simp [stepV, hq]
    rw [hst]
    refine gn 10 ?_
    refine oX (e_entry (j := i) (seen := seen) rfl (.inl (.head _)) (.inr hx) hq) ?_
    refine gn 7 ?_
    refine oL (l_bs1 runUnderlying29 sizeOf23 zeroValue23 rfl rfl rfl) ?_; intro g20 _
    have hlt' : seen.length < ms.length := by
      have := nodup_bound (n := ms.length) (l := i :: seen) (List.nodup_cons.2 ⟨hni, hnd⟩) (fun j hj => by
        rcases List.mem_cons.1 hj with rfl | hj
        · rw [← hMl]; exact hi
        · exact hlt j hj)
      exact Nat.lt_of_succ_le (by simpa using this)
    refine oL (l_append (sz := 1) underlying29 (info_of typeInfo23) rfl rfl rfl rfl rfl rfl ho (perm_mid [_, _] HU _) (.blk underlying29 (.inl (.head _)) (.take .done) (by simp [Value.oneCell'])) (by show _ * 8 ≤ _; omega) (by omega)) ?_
    rintro ⟨v2, HB2⟩ ho2
    refine gn 3 ?_
    refine n_round' (y := (u, HU, seen)) (v2, HB2, seen ++ [i]) (by show ms.length - (seen ++ [i]).length < ms.length - seen.length; simp; omega) ?_ aK _ (perm_mid HB2 [_, _] _) ?_
    · obtain ⟨g, cap, rest, lo, hi', rfl, _⟩ := Osl.open_ ho2 (Nat.succ_pos _)
      refine ⟨⟨_, _, _, rfl⟩, ?_, ?_, ?_⟩
      · have hi2 : i < ms.length := hMl ▸ hi
        simpa [KV, List.getD, hi2] using ho2
      · rw [List.nodup_append]
        exact ⟨hnd, by simp, fun a ha b hb e => by simp at hb; subst hb; subst e; exact hni ha⟩
      · intro j hj
        rcases List.mem_append.1 hj with hj | hj
        · exact hlt j hj
        · rw [List.mem_singleton.1 hj, ← hMl]; exact hi
    · exact List.sublist_cons_self _ _
end
section
variable {G : HP} {gm gX em gb : Nat} {zs : List Value} {ms : List Mcode} {bs : List UInt8} {HB : HP} {lr : Int} {v : Value}
theorem mhiMg_is {ls : List Mcode} {f : Mcode → List Mpart} (hls : ls.Perm ms) (hb : Bb v bs HB) (hm : (gm, C (.map (some gX) :: zs) em) ∈ G) (hx : (gX, Mo .u64 (KV ms)) ∈ G) (hk : ∀ p ∈ KB ms, p ∈ G) (hlen : ms.length ≤ 200) (h2 : bs.length + 4 + ((ls.map (unf f)).flatMap pcB).length < 268435456) (hso : (ls.map fun t => t.code).Pairwise (· ≤ ·)) (hkn : (ms.map fun t => t.code).Nodup)
    (hok : ∀ m ∈ ms, (f m).Perm m.ts ∧ m.ts.length ≤ 200 ∧ (∀ t ∈ m.ts, PartOk t.2) ∧ ((f m).map fun t => t.2.1).Pairwise (· ≤ ·) ∧ (m.ts.map fun t => t.2.1).Nodup) :
    Ctr prog 311 [.pointer (some ⟨gm, 0, none⟩), .iface 89 (.pointer (some ⟨gb, 0, none⟩))] G ((gb, Bu v lr) :: HB) (fun r H' => ∃ (z : Int) (v' : Value) (HB' : HP), r = .tuple #[.int .u64 z, .nilIface] ∧ Bb v' (bs ++ (lowB (ms.length : Nat) 4 ++ (ls.map (unf f)).flatMap pcB)) HB' ∧ H' = (gb, Bu v' 0) :: HB') := by
  have hMl : (KV ms).length = ms.length := by simp [KV]
  have hul : ls.length = ms.length := hls.length_eq
  refine fn_enter 52 func311 rfl ntmps311 rfl ?_
  intro w0
  refine gn 15 ?_
  rw [hMl]
  refine oL (lC (w32_is (k := ms.length) hb (by omega)) rfl (.cons .head (by simpa using Sel.app HB []))) ?_
  rintro ⟨r, H'⟩ ⟨rfl, v1, HB1, hb1, rfl⟩
  simp only [List.cons_append, List.append_nil]
  refine gn 15 ?_
  refine oL (lC (codesMg_is hls hm hx hlen hso) rfl .nil) ?_
  rintro ⟨r, H'⟩ ⟨g, cap, lo, hi', rest, rfl, rfl⟩
  simp only [List.cons_append, List.nil_append]
  refine gn 17 ?_
  refine c_loop (X := Nat × Int × Value × HP) (fun y => [(0, .pointer (some ⟨gm, 0, none⟩)), (1, .iface 89 (.pointer (some ⟨gb, 0, none⟩))), (8, .int .u64 y.2.1), (26, .slice (some ⟨g, 0, none⟩) ms.length cap), (27, .int .i64 ms.length), (28, .int .i64 y.1)]) (fun y => (g, VB .u64 (ls.map fun t => (t.code : Int)) rest 23 lo hi') :: (gb, Bu y.2.2.1 0) :: y.2.2.2) (fun y => y.1 ≤ ms.length ∧ Bb y.2.2.1 (bs ++ lowB (ms.length : Nat) 4 ++ ((ls.map (unf f)).take y.1).flatMap pcB) y.2.2.2) (fun y => ms.length - y.1) (0, 4, v1, HB1) ⟨Nat.zero_le _, by simpa using hb1⟩ aK (.refl _) ?_
  rintro ⟨i, z, v', HB'⟩ ⟨hi0, hb'⟩
  simp only at hi0 hb' ⊢
  have hKl : (ls.map fun t => (t.code : Int)).length = ms.length := by simp [hul]
  generalize hK : (ls.map fun t => (t.code : Int)) = K at *
  refine gn 6 ?_
  refine c_ifp rfl (fun h5 => ?_) (fun h5 => ?_)
  · have hi3 : i < ls.length := by omega
    have hml : ls[i] ∈ ms := hls.subset (List.getElem_mem hi3)
    have hgk : gd K i = (ls[i].code : Nat) := by rw [← hK]; simp [gd, hi3]
    have hmg := KV_get hkn ls[i] hml
    refine gr 17 ?_
    rw [hgk]
    refine oX (e_lookup runUnderlying330 runUnderlying23 zeroValue433 rfl rfl (.inr hx)) ?_
    rw [hmg]
    refine gn 7 ?_
    have hip : i < (ls.map (unf f)).length := by simpa using hi3
    have hfl := congrArg List.length (cflat_split hip)
    simp only [List.length_append] at hfl
    have hge : (ls.map (unf f))[i] = unf f ls[i] := by simp
    rw [hge] at hfl
    obtain ⟨o0, o1, o2, o3, o4⟩ := hok _ hml
    refine oL (lC (mwcMg_is (m := ls[i]) o0 hb' (fun p hp => hk p (List.mem_flatMap.2 ⟨ls[i], hml, hp⟩)) o1 (by simp only [unf] at hfl; simp only [List.length_append, lowB_length]; omega) o2 o3 o4) rfl (.cons (.tail .head) (Sel.appR [_] HB'))) ?_
    rintro ⟨r, H'⟩ ⟨z2, v2, HB2, rfl, hb2, rfl⟩
    simp only [List.cons_append]
    refine gn 29 ?_
    refine n_round' (y := (i, z, v', HB')) (i + 1, _, v2, HB2) (by show ms.length - (i + 1) < ms.length - i; omega) ?_ aK _ (List.perm_append_comm (l₁ := _ :: HB2) (l₂ := [_])) (List.Sublist.refl _)
    refine ⟨by show i + 1 ≤ ms.length; omega, ?_⟩
    show Bb v2 (bs ++ lowB (ms.length : Nat) 4 ++ ((ls.map (unf f)).take (i + 1)).flatMap pcB) HB2
    rw [cflat_succ hip, hge, ← List.append_assoc]
    exact hb2
  · skip
    refine gn 13 ?_
    refine WR.sel (.cons (.tail .head) (Sel.appR [_] HB')) ?_
    refine r_fn (l := [.tmp 4, .tmp 5]) results311 rfl rfl ?_
    obtain rfl : i = ms.length := by omega
    refine ⟨_, v', HB', rfl, ?_, rfl⟩
    rw [List.take_of_length_le (by simp [hul])] at hb'
    simpa using hb'
end
end Go.Proofs
namespace Go.Proofs
open Go Go.Sl Tryz
set_option maxRecDepth 100000
set_option maxHeartbeats 1000000
section
variable {G : HP} {g : Nat}
theorem putU_1024 : Ctr prog 150 [.slice (some ⟨g, 0, none⟩) 10 10, .int .u64 1024] G [(g, C (List.replicate 10 (.int .u8 0)) 5)] (fun r H' => r = .int .i64 2 ∧ H' = [(g, DB [128, 8] (List.replicate 8 (.int .u8 0)) 0 0)]) := by
  refine fn_enter 25 func150 rfl ntmps150 rfl ?_
  intro w0
  refine gn 12 ?_
  refine c_rounds 2 ?_
  refine gn 19 ?_
  refine oT ?_; intro _ _
  refine gn 15 ?_
  refine n_rounds ?_
  refine gn 20 ?_
  refine oT ?_; intro _ _
  refine gn 10 ?_
  refine r_fn1 results150 rfl ?_
  exact ⟨rfl, rfl⟩
theorem putU_1025 : Ctr prog 150 [.slice (some ⟨g, 0, none⟩) 10 10, .int .u64 1025] G [(g, C (List.replicate 10 (.int .u8 0)) 5)] (fun r H' => r = .int .i64 2 ∧ H' = [(g, DB [129, 8] (List.replicate 8 (.int .u8 0)) 0 0)]) := by
  refine fn_enter 25 func150 rfl ntmps150 rfl ?_
  intro w0
  refine gn 12 ?_
  refine c_rounds 2 ?_
  refine gn 19 ?_
  refine oT ?_; intro _ _
  refine gn 15 ?_
  refine n_rounds ?_
  refine gn 20 ?_
  refine oT ?_; intro _ _
  refine gn 10 ?_
  refine r_fn1 results150 rfl ?_
  exact ⟨rfl, rfl⟩
end
end Go.Proofs
namespace Go.Proofs
open Go Go.Sl Tryz
set_option maxRecDepth 100000
set_option maxHeartbeats 1000000
section
variable {G : HP} {g gb : Nat} {lr : Int}

theorem codecS_is {v : Value} : CtrP prog 401 [v] G (.int .u64 1024) := by
  refine fn_enter 3 func401 rfl ntmps401 rfl ?_
  intro w0
  refine gn 11 ?_
  refine r_fn1 results401 rfl ?_
  exact ⟨rfl, rfl⟩
theorem codecM_is {v : Value} : CtrP prog 308 [v] G (.int .u64 1025) := by
  refine fn_enter 3 func308 rfl ntmps308 rfl ?_
  intro w0
  refine gn 11 ?_
  refine r_fn1 results308 rfl ?_
  exact ⟨rfl, rfl⟩
theorem vput_is {kind : Int} (hk : kind = 1024 ∨ kind = 1025) : Ctr prog 77 [.slice (some ⟨g, 0, none⟩) 10 10, .int .u64 kind] G [(g, C (List.replicate 10 (.int .u8 0)) 5)] (fun r H' => r = .int .i64 2 ∧ H' = [(g, DB (kindB kind) (List.replicate 8 (.int .u8 0)) 0 0)]) := by
  rcases hk with rfl | rfl
  · refine fn_enter 8 func77 rfl ntmps77 rfl ?_
    intro w0
    refine gn 9 ?_
    refine oL (lC putU_1024 rfl (.cons .head .nil)) ?_
    rintro ⟨r, H'⟩ ⟨rfl, rfl⟩
    simp only [List.cons_append, List.nil_append]
    refine gn 4 ?_
    refine r_fn1 results77 rfl ?_
    exact ⟨rfl, rfl⟩
  · refine fn_enter 8 func77 rfl ntmps77 rfl ?_
    intro w0
    refine gn 9 ?_
    refine oL (lC putU_1025 rfl (.cons .head .nil)) ?_
    rintro ⟨r, H'⟩ ⟨rfl, rfl⟩
    simp only [List.cons_append, List.nil_append]
    refine gn 4 ?_
    refine r_fn1 results77 rfl ?_
    exact ⟨rfl, rfl⟩
end
end Go.Proofs
namespace Go.Proofs
open Go Go.Sl Tryz
set_option maxRecDepth 100000
set_option maxHeartbeats 1000000
theorem perm_lift {α β : Type} {f : α → β} : ∀ {L : List β} {ts : List α}, (ts.map f).Perm L → ∃ us : List α, us.Perm ts ∧ us.map f = L
  | [], ts, h => by
    have := h.length_eq
    have : ts = [] := List.eq_nil_of_length_eq_zero (by simpa using this)
    subst this
    exact ⟨[], .refl _, rfl⟩
  | a :: L, ts, h => by
    obtain ⟨t, ht, rfl⟩ := List.mem_map.1 (h.symm.subset (.head _))
    obtain ⟨A, C, rfl⟩ := List.append_of_mem ht
    have h2 : ((A ++ C).map f).Perm L := by
      have h3 : (f t :: (A ++ C).map f).Perm (f t :: L) := by
        refine List.Perm.trans ?_ h
        rw [List.map_append, List.map_append, List.map_cons]
        exact List.perm_middle.symm
      exact h3.cons_inv
    obtain ⟨us, h4, h5⟩ := perm_lift h2
    exact ⟨t :: us, (h4.cons t).trans List.perm_middle.symm, by rw [List.map_cons, h5]⟩
section
variable {G HB0 : HP} {g gb : Nat} {lr : Int} {v0 : Value} {bs0 : List UInt8}
theorem writeSg_is {l : List En} {gm gx : Nat} {ts : List Mpart} (h0 : (ts.map (·.2)).Perm (parts l)) (hG : ∀ p ∈ (gm, C [.map (some gx)] 327) :: (gx, Mo .u32 (MV ts)) :: MB ts, p ∈ G) (hd : ∀ x ∈ l, x.d.length ≤ 200) (hl : l.length ≤ 100)  (hb0 : Bb v0 bs0 HB0) (hs0 : bs0.length ≤ 40000000) :
    Ctr prog 42 [.iface 328 (.pointer (some ⟨gm, 0, none⟩)), .iface 89 (.pointer (some ⟨gb, 0, none⟩))] G ((gb, Bu v0 lr) :: HB0) (fun r H' => ∃ (z : Int) (v' : Value) (HB' : HP), r = .tuple #[.int .u64 z, .nilIface] ∧ Bb v' (bs0 ++ indexB l 1024) HB' ∧ H' = (gb, Bu v' 0) :: HB') := by
  have hsm := bodyB_small l 1024 hd hl
  obtain ⟨us, hus, h⟩ := perm_lift h0
  have hkk : us.map (fun t => t.2.1) = (parts l).map (·.1) := by rw [← h, List.map_map]; rfl
  have hso : (us.map fun t => t.2.1).Pairwise (· ≤ ·) := by rw [hkk]; exact parts_sorted l
  have hkn : (ts.map fun t => t.2.1).Nodup := (hus.map _).nodup (by rw [hkk]; exact parts_nodup l)
  have hul : us.length = ts.length := hus.length_eq
  refine fn_enter 43 func42 rfl ntmps42 rfl ?_
  intro w0
  refine gn 8 ?_
  refine oL (l_mks (l := List.replicate 10 (.int .u8 0)) underlying72 (info_of typeInfo5) rfl rfl rfl rfl (by decide) (by decide) (by decide) (by decide) (made_one (.int .u8 0) 10 rfl)) ?_
  intro g11 _
  refine gn 7 ?_
  refine oL (lI (codecS_is (v := .pointer (some ⟨gm, 0, none⟩))) rfl rfl .nil) ?_
  rintro ⟨r, H'⟩ ⟨rfl, rfl⟩
  simp only [List.nil_append]
  refine oL (lC (vput_is (.inl rfl)) rfl (.cons .head .nil)) ?_
  rintro ⟨r, H'⟩ ⟨rfl, rfl⟩
  simp only [List.cons_append, List.nil_append]
  refine gn 4 ?_
  refine c_regiong [7] (by kernel_rfl) ?_
  refine lg [0, 1, 2, 3, 4, 5, 6] ?_
  refine gL 7 rfl (l_calli (HJ := [(g11, DB (kindB 1024) (List.replicate 8 (.int .u8 0)) 0 0)]) call294 (by intro w; kernel_rfl) (write_is (L := 2) hb0 (List.mem_append_right _ (.head _)) rfl (by decide) (by decide) (by omega) (by intro _; decide) (by decide)) rfl rfl rfl (.cons (.tail .head) (Sel.appR [_] HB0)) (fun p hp => hp)) ?_
  rintro ⟨r, H'⟩ ⟨v1, HB1, rfl, hb1, rfl⟩
  simp only [List.cons_append]
  refine ld [8, 9, 10, 11, 12] ?_
  refine gn 16 ?_
  refine oL (lI (mwiMg_is hus (zs := []) hb1 (hG _ (.head _)) (hG _ (.tail _ (.head _))) (fun p hp => hG p (.tail _ (.tail _ hp))) (by have := congrArg List.length h; have := parts_len (l := l); simp at *; omega) (by rw [bodyB_S] at hsm; simp only [List.length_append, List.length_append, lowB_length, kindB_length, h] at hsm ⊢; omega) (fun t ht => parts_ok hd _ (h0.subset (List.mem_map_of_mem ht))) hso hkn) rfl rfl (.cons .head (Sel.app HB1 _))) ?_
  rintro ⟨r, H'⟩ ⟨z, v2, HB2, rfl, hb2, rfl⟩
  simp only [List.cons_append]
  refine gn 19 ?_
  refine WR.sel (.cons .head (Sel.app HB2 _)) ?_
  refine r_fn (l := [.tmp 4, .tmp 5]) results42 rfl rfl ?_
  refine ⟨_, v2, HB2, rfl, ?_, rfl⟩
  rw [h] at hb2
  rw [indexB, bodyB_S, ← List.append_assoc]
  exact hb2
theorem writeMg_is {l : List En} {gm gX : Nat} {ms : List Mcode} (h0 : (ms.map (·.code)).Perm ((codes l).map Int.toNat)) (h00 : ∀ m ∈ ms, (m.ts.map (·.2)).Perm (parts (codedL l m.code))) (hG : ∀ p ∈ (gm, C [.map (some gX)] 330) :: (gX, Mo .u64 (KV ms)) :: KB ms, p ∈ G) (hf : ∀ x ∈ l, EnFit x) (hd : ∀ x ∈ l, x.d.length ≤ 200) (hl : l.length ≤ 100)  (hb0 : Bb v0 bs0 HB0) (hs0 : bs0.length ≤ 40000000) :
    Ctr prog 42 [.iface 237 (.pointer (some ⟨gm, 0, none⟩)), .iface 89 (.pointer (some ⟨gb, 0, none⟩))] G ((gb, Bu v0 lr) :: HB0) (fun r H' => ∃ (z : Int) (v' : Value) (HB' : HP), r = .tuple #[.int .u64 z, .nilIface] ∧ Bb v' (bs0 ++ indexB l 1025) HB' ∧ H' = (gb, Bu v' 0) :: HB') := by
  have hsm := bodyB_small l 1025 hd hl
  obtain ⟨ls, hls, h1⟩ := perm_lift h0
  have hch : ∀ m : Mcode, ∃ us : List Mpart, m ∈ ms → us.Perm m.ts ∧ us.map (·.2) = parts (codedL l m.code) := fun m => by
    by_cases hm : m ∈ ms
    · obtain ⟨us, h2, h3⟩ := perm_lift (h00 m hm)
      exact ⟨us, fun _ => ⟨h2, h3⟩⟩
    · exact ⟨[], fun h => absurd h hm⟩
  obtain ⟨f, hf2⟩ : ∃ f : Mcode → List Mpart, ∀ m ∈ ms, (f m).Perm m.ts ∧ (f m).map (·.2) = parts (codedL l m.code) := ⟨fun m => Classical.choose (hch m), fun m => Classical.choose_spec (hch m)⟩
  have h : ls.map (unf f) = kparts l := by
    have e1 : ls.map (unf f) = ls.map fun m => (m.code, parts (codedL l m.code)) := List.map_congr_left fun m hm => by show (m.code, (f m).map (·.2)) = _; rw [(hf2 m (hls.subset hm)).2]
    have e2 : (ls.map fun m => (m.code, parts (codedL l m.code))) = (ls.map (·.code)).map fun c : Nat => (c, parts (codedL l c)) := by rw [List.map_map]; rfl
    rw [e1, e2, h1, List.map_map, kparts]
    refine List.map_congr_left fun c hc => ?_
    have := codes_nonneg hf hc
    show (c.toNat, parts (codedL l (c.toNat : Int))) = _
    rw [Int.toNat_of_nonneg this]
  have hkk : ls.map (fun t => t.code) = (kparts l).map (·.1) := by rw [← h, List.map_map]; rfl
  have hso : (ls.map fun t => t.code).Pairwise (· ≤ ·) := by rw [hkk]; exact kparts_sorted l
  have hkn : (ms.map fun t => t.code).Nodup := (hls.map _).nodup (by rw [hkk]; exact kparts_nodup hf)
  have hll : ls.length = ms.length := hls.length_eq
  have hml : ms.length ≤ l.length := by have h1 := congrArg List.length h; have h2 := kparts_len (l := l); simp only [List.length_map] at h1; omega
  have hmm : ∀ m ∈ ms, (f m).Perm m.ts ∧ m.ts.length ≤ 200 ∧ (∀ t ∈ m.ts, PartOk t.2) ∧ ((f m).map fun t => t.2.1).Pairwise (· ≤ ·) ∧ (m.ts.map fun t => t.2.1).Nodup := by
    intro m hm
    obtain ⟨h2, h3⟩ := hf2 m hm
    have h4 : (f m).map (fun t => t.2.1) = (parts (codedL l m.code)).map (·.1) := by rw [← h3, List.map_map]; rfl
    refine ⟨h2, ?_, ?_, by rw [h4]; exact parts_sorted _, (h2.map _).nodup (by rw [h4]; exact parts_nodup _)⟩
    · have h5 := (h00 m hm).length_eq
      have h6 := parts_len (l := codedL l m.code)
      have h7 := codedL_len l m.code
      simp only [List.length_map] at h5
      omega
    · intro t ht
      exact parts_ok (fun x hx => hd x (codedL_mem hx)) _ ((h00 m hm).subset (List.mem_map_of_mem ht))
  refine fn_enter 43 func42 rfl ntmps42 rfl ?_
  intro w0
  refine gn 8 ?_
  refine oL (l_mks (l := List.replicate 10 (.int .u8 0)) underlying72 (info_of typeInfo5) rfl rfl rfl rfl (by decide) (by decide) (by decide) (by decide) (made_one (.int .u8 0) 10 rfl)) ?_
  intro g11 _
  refine gn 7 ?_
  refine oL (lI (codecM_is (v := .pointer (some ⟨gm, 0, none⟩))) rfl rfl .nil) ?_
  rintro ⟨r, H'⟩ ⟨rfl, rfl⟩
  simp only [List.nil_append]
  refine oL (lC (vput_is (.inr rfl)) rfl (.cons .head .nil)) ?_
  rintro ⟨r, H'⟩ ⟨rfl, rfl⟩
  simp only [List.cons_append, List.nil_append]
  refine gn 4 ?_
  refine c_regiong [7] (by kernel_rfl) ?_
  refine lg [0, 1, 2, 3, 4, 5, 6] ?_
  refine gL 7 rfl (l_calli (HJ := [(g11, DB (kindB 1025) (List.replicate 8 (.int .u8 0)) 0 0)]) call294 (by intro w; kernel_rfl) (write_is (L := 2) hb0 (List.mem_append_right _ (.head _)) rfl (by decide) (by decide) (by omega) (by intro _; decide) (by decide)) rfl rfl rfl (.cons (.tail .head) (Sel.appR [_] HB0)) (fun p hp => hp)) ?_
  rintro ⟨r, H'⟩ ⟨v1, HB1, rfl, hb1, rfl⟩
  simp only [List.cons_append]
  refine ld [8, 9, 10, 11, 12] ?_
  refine gn 16 ?_
  refine oL (lI (mhiMg_is hls (f := f) (zs := []) hb1 (hG _ (.head _)) (hG _ (.tail _ (.head _))) (fun p hp => hG p (.tail _ (.tail _ hp))) (by omega) (by rw [bodyB_M hf] at hsm; simp only [List.length_append, List.length_append, lowB_length, kindB_length, h] at hsm ⊢; omega) hso hkn hmm) rfl rfl (.cons .head (Sel.app HB1 _))) ?_
  rintro ⟨r, H'⟩ ⟨z, v2, HB2, rfl, hb2, rfl⟩
  simp only [List.cons_append]
  refine gn 19 ?_
  refine WR.sel (.cons .head (Sel.app HB2 _)) ?_
  refine r_fn (l := [.tmp 4, .tmp 5]) results42 rfl rfl ?_
  refine ⟨_, v2, HB2, rfl, ?_, rfl⟩
  have hcl : ms.length = (kparts l).length := by have := congrArg List.length h; rw [← hll]; simpa using this
  rw [h, hcl] at hb2
  rw [indexB, bodyB_M hf, ← List.append_assoc]
  exact hb2
/-- An index in memory, its parts in any order. -/
inductive IxAny (l : List En) : Int → Value → HP → Prop where
  | s {gm gx : Nat} {ts : List Mpart} (h : (ts.map (·.2)).Perm (parts l)) : IxAny l 1024 (.iface 328 (.pointer (some ⟨gm, 0, none⟩))) ((gm, C [.map (some gx)] 327) :: (gx, Mo .u32 (MV ts)) :: MB ts)
  | m {gm gX : Nat} {ms : List Mcode} (h : (ms.map (·.code)).Perm ((codes l).map Int.toNat)) (h2 : ∀ m ∈ ms, (m.ts.map (·.2)).Perm (parts (codedL l m.code))) : IxAny l 1025 (.iface 237 (.pointer (some ⟨gm, 0, none⟩))) ((gm, C [.map (some gX)] 330) :: (gX, Mo .u64 (KV ms)) :: KB ms)
theorem writeAnyB_is {l : List En} {kind : Int} {v : Value} {HI : HP} (h : IxAny l kind v HI) (hG : ∀ p ∈ HI, p ∈ G) (hf : ∀ x ∈ l, EnFit x) (hd : ∀ x ∈ l, x.d.length ≤ 200) (hl : l.length ≤ 100) (hb0 : Bb v0 bs0 HB0) (hs0 : bs0.length ≤ 40000000) :
    Ctr prog 42 [v, .iface 89 (.pointer (some ⟨gb, 0, none⟩))] G ((gb, Bu v0 lr) :: HB0) (fun r H' => ∃ (z : Int) (v' : Value) (HB' : HP), r = .tuple #[.int .u64 z, .nilIface] ∧ Bb v' (bs0 ++ indexB l kind) HB' ∧ H' = (gb, Bu v' 0) :: HB') := by
  cases h with
  | s h => exact writeSg_is h hG hd hl hb0 hs0
  | m h h2 => exact writeMg_is h h2 hG hf hd hl hb0 hs0
end
end Go.Proofs
namespace Go.Proofs
open Go Go.Sl Tryz
set_option maxRecDepth 100000
set_option maxHeartbeats 1000000
section
variable {G : HP} {gr gs gb n cap i : Nat} {bs behind : List UInt8} {lr : Int} {v : Value} {HB : HP} {l : List En} {kind : Int}
theorem str_is (hm : (gb, Bu v lr) ∈ G) (hb : Bb v bs HB) (hs : ∀ p ∈ HB, p ∈ G) : CtrP prog 44 [.pointer (some ⟨gb, 0, none⟩)] G (S bs) := by
  cases hb with
  | nil =>
    refine fn_enter 15 func44 rfl ntmps44 rfl ?_
    intro w0
    refine gn 9 ?_
    refine oX (e_peqn runUnderlying89 rfl) ?_
    refine gn 15 ?_
    refine qX (e_sl_le runUnderlying72 sizeOf5 rfl rfl (by omega) (by omega) rfl) ?_
    refine qX (e_bsn underlying72 underlying5 underlying9 rfl) ?_
    refine gn 4 ?_
    refine r_fn1 results44 rfl ?_
    exact ⟨rfl, rfl⟩
  | @row g cap lo hi bs rest h0 h1 h2 h3 h4 =>
    have hD := hs _ (.head _)
    have hcut : CutL (B bs ++ rest) (0 + Int.toNat 0 * 1) (bs.length - Int.toNat 0) (B bs) := by
      have := CutL.of (l := B bs ++ rest) (i := 0) (n := bs.length) (by rw [List.length_append, B_length]; omega)
      rwa [List.drop_zero, List.take_left' (B_length bs)] at this
    refine fn_enter 15 func44 rfl ntmps44 rfl ?_
    intro w0
    refine gn 9 ?_
    refine oX (e_peqn runUnderlying89 rfl) ?_
    refine gn 16 ?_
    refine qX (e_bs underlying72 underlying5 underlying9 rfl (.inr hD) hcut) ?_
    refine gn 4 ?_
    refine r_fn1 results44 rfl ?_
    exact ⟨rfl, rfl⟩
end
end Go.Proofs
namespace Go.Proofs
open Go Go.Sl Tryz
set_option maxRecDepth 100000
set_option maxHeartbeats 1000000
section
variable {G : HP} {b0 b1 b2 b3 b4 b5 : Bool} {a6 a7 cd : Int}
theorem options_is (hcd : 0 ≤ cd) : Ctr prog 58 [.agg #[.bool b0, .bool b1, .bool b2, .bool b3, .bool b4, .bool b5, .int .u64 a6, .int .u64 a7, .int .u64 cd, .int .u64 0, .int .u64 0, .int .u64 0]] G [] (fun r H' => (∃ A c, r = .slice A (if cd = 0 then 8 else 9) c) ∧ OptA H' b0 b1 b2 b3 b4 b5 a6 a7 r cd) := by
  refine fn_enter 66 func58 rfl ntmps58 rfl ?_
  intro w0
  refine gn 2 ?_
  refine oB ?_; intro g1 _
  refine gn 4 ?_
  refine c_regiond ([(g1, C [.bool b0, .bool b1, .bool b2, .bool b3, .bool b4, .bool b5, .int .u64 a6, .int .u64 a7, .int .u64 cd, .int .u64 0, .int .u64 0, .int .u64 0] 61)]) (by kernel_rfl) (by first | exact List.Sublist.refl _ | exact List.nil_sublist _ | (repeat constructor)) ?_
  refine ld [0, 1, 3, 4, 6, 7, 9, 10, 12, 13, 15, 16, 18, 19, 21, 22] ?_
  refine dL 2 rfl (lC opt0_is rfl .nil) ?_
  rintro ⟨r, H'⟩ ⟨c0, rfl, rfl⟩
  simp only [List.cons_append, List.nil_append]
  refine dL 5 rfl (lC opt1_is rfl .nil) ?_
  rintro ⟨r, H'⟩ ⟨c1, rfl, rfl⟩
  simp only [List.cons_append, List.nil_append]
  refine dL 8 rfl (lC opt2_is rfl .nil) ?_
  rintro ⟨r, H'⟩ ⟨c2, rfl, rfl⟩
  simp only [List.cons_append, List.nil_append]
  refine dL 11 rfl (lC opt3_is rfl .nil) ?_
  rintro ⟨r, H'⟩ ⟨c3, rfl, rfl⟩
  simp only [List.cons_append, List.nil_append]
  refine dL 14 rfl (lC opt4_is rfl .nil) ?_
  rintro ⟨r, H'⟩ ⟨c4, rfl, rfl⟩
  simp only [List.cons_append, List.nil_append]
  refine dL 17 rfl (lC opt5_is rfl .nil) ?_
  rintro ⟨r, H'⟩ ⟨c5, rfl, rfl⟩
  simp only [List.cons_append, List.nil_append]
  refine dL 20 rfl (lC opt6_is rfl .nil) ?_
  rintro ⟨r, H'⟩ ⟨c6, rfl, rfl⟩
  simp only [List.cons_append, List.nil_append]
  refine dL 23 rfl (lC opt7_is rfl .nil) ?_
  rintro ⟨r, H'⟩ ⟨c7, rfl, rfl⟩
  simp only [List.cons_append, List.nil_append]
  refine dL 24 rfl (l_bs (l := [(.func (.func 166) #[] #[.pointer (some ⟨c0, 0, none⟩)]), (.func (.func 167) #[] #[.pointer (some ⟨c1, 0, none⟩)]), (.func (.func 168) #[] #[.pointer (some ⟨c2, 0, none⟩)]), (.func (.func 169) #[] #[.pointer (some ⟨c3, 0, none⟩)]), (.func (.func 170) #[] #[.pointer (some ⟨c4, 0, none⟩)]), (.func (.func 171) #[] #[.pointer (some ⟨c5, 0, none⟩)]), (.func (.func 172) #[] #[.pointer (some ⟨c6, 0, none⟩)]), (.func (.func 173) #[] #[.pointer (some ⟨c7, 0, none⟩)])]) runUnderlying117 sizeOf191 zeroValue191 rfl rfl rfl rfl (by kernel_rfl)) ?_
  intro g28 _
  refine ld [25] ?_
  refine gn 10 ?_
  refine c_ifp rfl (fun h1 => ?_) (fun h1 => ?_)
  · refine gn 4 ?_
    refine oL (lC opt8_is rfl .nil) ?_
    rintro ⟨r, H'⟩ ⟨c8, rfl, rfl⟩
    simp only [List.cons_append, List.nil_append]
    refine oL (l_bs1 runUnderlying117 sizeOf191 zeroValue191 rfl rfl rfl) ?_; intro g36 _
    refine oL (l_append (sz := 1) (m := 1) (n := 8) (xs := [(.func (.func 166) #[] #[.pointer (some ⟨c0, 0, none⟩)]), (.func (.func 167) #[] #[.pointer (some ⟨c1, 0, none⟩)]), (.func (.func 168) #[] #[.pointer (some ⟨c2, 0, none⟩)]), (.func (.func 169) #[] #[.pointer (some ⟨c3, 0, none⟩)]), (.func (.func 170) #[] #[.pointer (some ⟨c4, 0, none⟩)]), (.func (.func 171) #[] #[.pointer (some ⟨c5, 0, none⟩)]), (.func (.func 172) #[] #[.pointer (some ⟨c6, 0, none⟩)]), (.func (.func 173) #[] #[.pointer (some ⟨c7, 0, none⟩)])]) (news := [(.func (.func 174) #[] #[.pointer (some ⟨c8, 0, none⟩)])]) (HB := [(g28, _)]) underlying117 (info_of typeInfo191) rfl rfl rfl rfl rfl rfl (.own (rest := []) rfl rfl (by decide) (by decide) (.inr rfl)) (perm_mid [_, _] [_] _) (.blk underlying117 (.inl (.head _)) (.take .done) (by simp [Value.oneCell'])) (by decide) (by decide)) ?_
    rintro ⟨v2, HB2⟩ ho2
    simp only at ho2 ⊢
    obtain ⟨gv, cv, rest, lo, hi, rfl, rfl, -⟩ := Osl.open_ ho2 (by decide)
    simp only [List.cons_append, List.nil_append]
    refine gn 43 ?_
    refine r_fn1 results58 rfl ?_
    refine ⟨⟨_, _, by rw [if_neg (by simpa using h1)]⟩, ?_⟩
    exact .some (tl := rest) (fr := (lo, hi)) (.head _) (by simp) (by simp) (by simp) (by simp) (by simp) (by simp) (by simp) (by simp) (by simp) (by have h2 : cd ≠ 0 := (by simpa using h1); omega)
  · skip
    obtain rfl : cd = 0 := by simpa using h1
    refine gn 42 ?_
    refine r_fn1 results58 rfl ?_
    exact ⟨⟨_, _, rfl⟩, .none (tl := []) (fr := (0, 0)) (.head _) (by simp) (by simp) (by simp) (by simp) (by simp) (by simp) (by simp) (by simp)⟩
end
end Go.Proofs
namespace Go.Proofs
open Go Go.Sl Tryz
set_option maxRecDepth 100000
set_option maxHeartbeats 1000000
theorem OptA.mono {G K : HP} {b0 b1 b2 b3 b4 b5 : Bool} {a6 a7 cd : Int} {v : Value} (h : OptA G b0 b1 b2 b3 b4 b5 a6 a7 v cd) (hs : ∀ p ∈ G, p ∈ K) : OptA K b0 b1 b2 b3 b4 b5 a6 a7 v cd := by
  cases h with
  | none ho h0 h1 h2 h3 h4 h5 h6 h7 => exact .none (hs _ ho) (hs _ h0) (hs _ h1) (hs _ h2) (hs _ h3) (hs _ h4) (hs _ h5) (hs _ h6) (hs _ h7)
  | some ho h0 h1 h2 h3 h4 h5 h6 h7 h8 hcd => exact .some (hs _ ho) (hs _ h0) (hs _ h1) (hs _ h2) (hs _ h3) (hs _ h4) (hs _ h5) (hs _ h6) (hs _ h7) (hs _ h8) hcd
/-- No two of one digest (of one hash function). -/
def OnceK (es : List En) (kind : Int) : Prop := (kind = 1024 → (es.map (·.d)).Nodup) ∧ (kind = 1025 → ∀ c, ((codedL es c).map (·.d)).Nodup)
def kd (cd : Int) : Int := if cd = 0 then 1025 else cd
section
variable {G : HP} {gm gx gX : Nat} {es : List En}
def ldS (hok : ∀ x ∈ es, CidOk x) (hn : es.length ≤ 200) (hdis : (es.map (·.d)).Nodup) : LdI G 328 (.pointer (some ⟨gm, 0, none⟩)) [(gm, C [.map (some gx)] 327), (gx, Mo .u32 [])] es (fun H' => ∃ v, v = .iface 328 (.pointer (some ⟨gm, 0, none⟩)) ∧ IxAny es 1024 v H') where
  f := 316
  rv := .pointer (some ⟨gm, 0, none⟩)
  hf := call316
  hm := by intro w; kernel_rfl
  hc := fun s HRec h => by
    refine Ctr.perm (mwiL_is (gm := gm) (gx := gx) (em := 327) (zs := []) h hok hn hdis) (List.Perm.refl _) ?_
    rintro r H' ⟨rfl, ts, hts, rfl⟩
    exact ⟨_, .refl _, rfl, _, rfl, .s hts⟩
def ldM (hok : ∀ x ∈ es, CidOk x) (hn : es.length ≤ 200) (hdis : ∀ c, ((codedL es c).map (·.d)).Nodup) : LdI G 237 (.pointer (some ⟨gm, 0, none⟩)) [(gm, C [.map (some gX)] 330), (gX, Mo .u64 [])] es (fun H' => ∃ v, v = .iface 237 (.pointer (some ⟨gm, 0, none⟩)) ∧ IxAny es 1025 v H') where
  f := 310
  rv := .pointer (some ⟨gm, 0, none⟩)
  hf := call310
  hm := by intro w; kernel_rfl
  hc := fun s HRec h => by
    refine Ctr.perm (mhiL_is (gm := gm) (gX := gX) h hok hn hdis) (List.Perm.refl _) ?_
    rintro r H' ⟨rfl, ms, h1, h2, rfl⟩
    exact ⟨_, .refl _, rfl, _, rfl, .m h1 h2⟩
end
end Go.Proofs
namespace Go.Proofs
open Go Go.Sl Tryz
set_option maxRecDepth 100000
set_option maxHeartbeats 1000000
section
variable {G : HP} {es : List En} {kind : Int} {vs : Value}
theorem newAny_is (hk : kind = 1024 ∨ kind = 1025) (hok : ∀ x ∈ es, CidOk x) (hn : es.length ≤ 200) (hdis : OnceK es kind) :
    Ctr prog 76 [.int .u64 kind] G [] (fun r H' => ∃ tv v, r = .tuple #[.iface tv v, .nilIface] ∧ ∀ K, Nonempty (LdI K tv v H' es fun H2 => IxAny es kind (.iface tv v) H2)) := by
  rcases hk with rfl | rfl
  · refine Ctr.perm new_1024 (List.Perm.refl _) ?_
    rintro r H' ⟨gm, gx, rfl, rfl⟩
    refine ⟨_, .refl _, _, _, rfl, fun K => ⟨?_⟩⟩
    have L := ldS (G := K) (gm := gm) (gx := gx) hok hn (hdis.1 rfl)
    refine { f := L.f, rv := L.rv, hf := L.hf, hm := L.hm, hc := fun s HRec h => Ctr.perm (L.hc s HRec h) (List.Perm.refl _) ?_ }
    rintro r H' ⟨rfl, v, rfl, hv⟩
    exact ⟨_, .refl _, rfl, hv⟩
  · refine Ctr.perm new_1025 (List.Perm.refl _) ?_
    rintro r H' ⟨gm, gx, rfl, rfl⟩
    refine ⟨_, .refl _, _, _, rfl, fun K => ⟨?_⟩⟩
    have L := ldM (G := K) (gm := gm) (gX := gx) hok hn (hdis.2 rfl)
    refine { f := L.f, rv := L.rv, hf := L.hf, hm := L.hm, hc := fun s HRec h => Ctr.perm (L.hc s HRec h) (List.Perm.refl _) ?_ }
    rintro r H' ⟨rfl, v, rfl, hv⟩
    exact ⟨_, .refl _, rfl, hv⟩
theorem EnS.shape {H : HP} {v : Value} {l : List En} (h : EnS H v l) : ∃ A cap, v = .slice A l.length cap := by
  cases h with
  | none => exact ⟨_, _, rfl⟩
  | blk hm hn hc => rw [hn]; exact ⟨_, _, rfl⟩
end
end Go.Proofs
namespace Go.Sl
open Go
section
variable {x : Cx} {ops : Array Oper} {k : List KI} {s : Slots} {H HS : HP} {fuel : Nat} {listed : Array Bool}
theorem wpAnyH_mono {P : Program} {md : Region.Mode} {Q : Exit → Act → World → Prop} {S S' : World → Prop} (hS : ∀ w, S' w → S w) : ∀ (fuel : Nat) (listed : Array Bool) (a : Act) (w : World), wpAnyH P md ops Q S' fuel listed a w → wpAnyH P md ops Q S fuel listed a w
  | 0, _, _, _, h => h
  | fuel + 1, _, _, _, h => ⟨h.1, fun i hi => wpOp_mono (fun a' w' h' => ⟨hS _ h'.1, wpAnyH_mono hS fuel _ a' w' h'.2⟩) (h.2 i hi)⟩
/-- More is kept from here on. -/
theorem d_more (HS' : HP) (hsub : HS'.Sublist H) (hHS : ∀ p ∈ HS, p ∈ HS') (h : DO x ops k HS' fuel listed s H) : DO x ops k HS fuel listed s H := fun a w hs _ =>
  wpAnyH_mono (fun w hw => ⟨fun p hp => hw.heap p (hHS p hp), hw.glob, hw.fr⟩) _ _ _ _ (h a w hs (hs.less (fun _ _ hv => hv) hsub))
end
end Go.Sl
namespace Go.Proofs
open Go Go.Sl Tryz
set_option maxRecDepth 100000
set_option maxHeartbeats 1000000
theorem snoc_byte {u : List UInt8} {i : Nat} {b : UInt8} {z : Int} (hb : u[i]? = some b) (hz : z = b.toNat) : B (u.take (i + 1)) = B (u.take i) ++ [.int .u8 z] := by
  obtain ⟨hi, rfl⟩ := List.getElem?_eq_some_iff.1 hb
  rw [List.take_succ_eq_append_getElem hi, B_append, hz]
  rfl
theorem wrap8 {q : Nat} (h : q < 128) : IntKind.u8.wrap (q : Int) = (q : Int) := by
  simp [IntKind.wrap, IntKind.bits, IntKind.signed]
  omega
section
variable {G : HP} {x : Nat}
theorem varint_is (hx : x < 18446744073709551616) : Ctr prog 37 [.int .u64 (x : Nat)] G [] (fun r H' => Osl 5 1 r (uv x).length (B (uv x)) H') := by
  have hp := uv_pos x
  have h10 := uv_le x
  refine fn_enter 19 func37 rfl ntmps37 rfl ?_
  intro w0
  refine gn 12 ?_
  refine c_loop (X := Nat × Value × HP) (fun y => [(0, .int .u64 (x / 128 ^ y.1 : Nat)), (3, y.2.1)]) (fun y => y.2.2) (fun y => Osl 5 1 y.2.1 y.1 (B ((uv x).take y.1)) y.2.2 ∧ y.1 < (uv x).length) (fun y => (uv x).length - y.1) (0, .slice none 0 0, []) ⟨.nil, hp⟩ (sub_cons (by show some _ = some _; simp) aK) (.refl _) ?_
  rintro ⟨i, v, HS⟩ ⟨ho, hi'⟩
  simp only at ho hi' ⊢
  refine gn 7 ?_
  refine c_ifp rfl (fun h1 => ?_) (fun h1 => ?_)
  · have hm : i + 1 < (uv x).length := by
      apply Decidable.byContradiction
      intro hc
      have := (uv_last hx (by omega : i + 1 = (uv x).length)).1
      omega
    obtain ⟨h2, h3⟩ := uv_mid hm
    refine gn 9 ?_
    rw [or128 _ (x / 128 ^ i) rfl]
    refine oL (l_bs1 runUnderlying72 sizeOf5 zeroValue5 rfl rfl rfl) ?_; intro g10 _
    refine oL (l_append (sz := 1) (m := 1) (news := [.int .u8 ((128 + x / 128 ^ i % 128 : Nat) : Int)]) underlying72 (info_of typeInfo5) rfl rfl rfl rfl rfl rfl ho (List.perm_append_comm (l₁ := [_]) (l₂ := HS)) (.blk underlying72 (.inl (.head _)) (.take .done) (by simp [Value.oneCell'])) (by show _ * 1 ≤ _; omega) (by omega)) ?_
    rintro ⟨v2, HS2⟩ ho2
    simp only at ho2 ⊢
    refine gn 5 ?_
    refine oX (e_shrk 7 rfl rfl rfl (by decide)) ?_
    refine gn 3 ?_
    refine n_round' (y := (i, v, HS)) (i + 1, v2, HS2) (by show (uv x).length - (i + 1) < (uv x).length - i; omega) ⟨?_, hm⟩ (sub_cons (by rw [← div_step]; rfl) aK) _ (.refl _) (List.sublist_append_left HS2 _)
    show Osl 5 1 v2 (i + 1) (B ((uv x).take (i + 1))) HS2
    rw [snoc_byte h3 (ofNat_z (by omega))]
    exact ho2
  · skip
    have hm : i + 1 = (uv x).length := by
      apply Decidable.byContradiction
      intro hc
      have := (uv_mid (x := x) (by omega : i + 1 < (uv x).length)).1
      omega
    obtain ⟨h2, h3, -⟩ := uv_last hx hm
    refine gn 10 ?_
    refine oL (l_bs1 runUnderlying72 sizeOf5 zeroValue5 rfl rfl rfl) ?_; intro g17 _
    rw [wrap8 h2]
    refine oL (l_append (sz := 1) (m := 1) (news := [.int .u8 ((x / 128 ^ i : Nat) : Int)]) underlying72 (info_of typeInfo5) rfl rfl rfl rfl rfl rfl ho (List.perm_append_comm (l₁ := [_]) (l₂ := HS)) (.blk underlying72 (.inl (.head _)) (.take .done) (by simp [Value.oneCell'])) (by show _ * 1 ≤ _; omega) (by omega)) ?_
    rintro ⟨v2, HS2⟩ ho2
    simp only at ho2 ⊢
    refine gn 4 ?_
    refine WR.less (fun _ _ h => h) (List.sublist_append_left HS2 _) ?_
    refine r_fn1 results37 rfl ?_
    show Osl 5 1 v2 _ _ HS2
    rw [← snoc_byte h3 (ofNat_z (Nat.lt_trans h2 (by decide))), hm, List.take_length] at ho2
    exact ho2
end
end Go.Proofs
namespace Go.Proofs
open Go Go.Sl Tryz
set_option maxRecDepth 100000
set_option maxHeartbeats 1000000
theorem uv_one : uv 1 = [1] := by decide
section
variable {G : HP} {h : Nat} {d : List UInt8} {x : En}
theorem mhBytes_is (hh : h < 18446744073709551616) (hd : d.length ≤ 1000) : Ctr prog 151 [.int .u64 (h : Nat), S d] G [] (fun r H' => r = S (mhB h d) ∧ H' = []) := by
  have u1 := uv_le h
  have u2 := uv_le d.length
  refine fn_enter 16 func151 rfl ntmps151 rfl ?_
  intro w0
  refine gn 6 ?_
  refine c_regiond ([]) (by kernel_rfl) (by first | exact List.Sublist.refl _ | exact List.nil_sublist _ | (repeat constructor)) ?_
  refine ld [0, 3, 4, 5, 9] ?_
  refine dL 1 rfl (lC (varint_is hh) rfl .nil) ?_
  rintro ⟨v1, H1⟩ ho1
  simp only [List.append_nil] at ho1 ⊢
  refine d_more (H1) (List.Sublist.refl _) aG ?_
  refine dX 2 rfl (e_bsO underlying72 underlying5 underlying9 ho1 (fun _ h => h) rfl) ?_
  refine dL 6 rfl (lC (varint_is (x := d.length) (by omega)) rfl .nil) ?_
  rintro ⟨v2, H2⟩ ho2
  simp only at ho2 ⊢
  refine d_more (H2 ++ H1) (List.Sublist.refl _) aG ?_
  refine dX 7 rfl (e_bsO underlying72 underlying5 underlying9 ho2 (fun _ h => List.mem_append_left _ h) rfl) ?_
  refine dX 8 rfl (e_sadd rfl rfl aN) ?_
  refine dX 10 rfl (e_sadd rfl rfl aN) ?_
  refine ld [11] ?_
  refine gn 3 ?_
  refine WR.sel .nil ?_
  refine r_fn1 results151 rfl ?_
  refine ⟨?_, rfl⟩
  simp [mhB, S]
theorem cidBytes_is (ht : Tidy x) (hf : EnFit x) (hd : x.d.length ≤ 200) : Ctr prog 83 [.agg (cC x).toArray] G [] (fun r H' => r = S (cidB x) ∧ H' = []) := by
  obtain ⟨v, c, h, d, o⟩ := x
  obtain ⟨_, _, hc0, hc1, hh0, hh1, _, _⟩ := hf
  simp only at hc0 hc1 hh0 hh1 hd
  simp only [Tidy] at ht
  obtain ⟨c, rfl⟩ := Int.eq_ofNat_of_zero_le hc0
  obtain ⟨h, rfl⟩ := Int.eq_ofNat_of_zero_le hh0
  show Ctr prog 83 [.agg #[.int .u64 v, .int .u64 c, .int .u64 h, S d]] G [] (fun r H' => r = S (cidB ⟨v, c, h, d, o⟩) ∧ H' = [])
  refine fn_enter 24 func83 rfl ntmps83 rfl ?_
  intro w0
  refine gn 2 ?_
  refine oB ?_; intro g1 _
  refine gn 11 ?_
  have hvv : v = 0 ∨ v = 1 := by rcases ht with ⟨h1, _⟩ | ⟨h1, _⟩ <;> omega
  refine c_ifp rfl (fun h5 => ?_) (fun h5 => ?_)
  · have hh : h < 18446744073709551616 := by omega
    refine gn 6 ?_
    refine oL (lC (mhBytes_is hh (by omega)) rfl .nil) ?_
    rintro ⟨r, H'⟩ ⟨rfl, rfl⟩
    simp only [List.nil_append]
    refine gn 4 ?_
    refine WR.sel .nil ?_
    refine r_fn1 results83 rfl ?_
    refine ⟨?_, rfl⟩
    have hv0 : v = 0 := by simpa using h5
    obtain ⟨-, -, h18, -⟩ : v = 0 ∧ (c : Int) = 112 ∧ (h : Int) = 18 ∧ d.length = 32 := by
      rcases ht with h1 | ⟨h1, _⟩
      · exact h1
      · omega
    obtain rfl : h = 18 := by omega
    simp [cidB, hv0]
  · skip
    have hv1 : v = 1 := by
      have : ¬ v = 0 := by simpa using h5
      omega
    have u0 := uv_le 1
    have u1 := uv_le c
    have u2 := uv_le h
    have u3 := mhB_length h d
    have u4 := uv_le d.length
    refine gn 3 ?_
    refine c_regiond ([(g1, C [.int .u64 v, .int .u64 c, .int .u64 h, S d] 25)]) (by kernel_rfl) (by first | exact List.Sublist.refl _ | exact List.nil_sublist _ | (repeat constructor)) ?_
    refine ld [2, 3, 7, 8, 9, 10] ?_
    refine dL 0 rfl (lC (varint_is (x := 1) (by omega)) rfl .nil) ?_
    rintro ⟨v1, H1⟩ ho1
    simp only at ho1 ⊢
    refine d_more (H1 ++ [(g1, C [.int .u64 v, .int .u64 c, .int .u64 h, S d] 25)]) (List.Sublist.refl _) aG ?_
    refine dX 1 rfl (e_bsO underlying72 underlying5 underlying9 ho1 (fun _ h => List.mem_append_left _ h) rfl) ?_
    refine dL 4 rfl (lC (varint_is (x := c) (by omega)) rfl .nil) ?_
    rintro ⟨v2, H2⟩ ho2
    simp only at ho2 ⊢
    refine d_more (H2 ++ (H1 ++ [(g1, C [.int .u64 v, .int .u64 c, .int .u64 h, S d] 25)])) (List.Sublist.refl _) aG ?_
    refine dX 5 rfl (e_bsO underlying72 underlying5 underlying9 ho2 (fun _ h => List.mem_append_left _ h) rfl) ?_
    refine dX 6 rfl (e_sadd rfl rfl aN) ?_
    refine dL 11 rfl (lC (mhBytes_is (h := h) (d := d) (by omega) (by omega)) rfl .nil) ?_
    rintro ⟨r, H'⟩ ⟨rfl, rfl⟩
    simp only [List.nil_append]
    refine dX 12 rfl (e_sadd rfl rfl aN) ?_
    refine ld [13] ?_
    refine gn 3 ?_
    refine WR.sel .nil ?_
    refine r_fn1 results83 rfl ?_
    refine ⟨?_, rfl⟩
    simp [cidB, hv1, uv_one]
end
end Go.Proofs
namespace Go.Proofs
open Go Go.Sl Tryz
set_option maxRecDepth 100000
set_option maxHeartbeats 1000000
section
variable {G : HP} {x : En} {dat : List UInt8}
theorem section_is (hx : CidOk x) (hd : dat.length ≤ 1000000) : Ctr prog 50 [.agg #[.int .u64 x.v, .int .u64 x.c, .int .u64 x.h, S x.d, S dat]] G [] (fun r H' => r = S (secB (x, dat)) ∧ H' = []) := by
  have hcl := cidB_len hx.ht hx.hd
  have u1 := uv_le ((cidB x).length + dat.length)
  refine fn_enter 21 func50 rfl ntmps50 rfl ?_
  intro w0
  refine gn 2 ?_
  refine oB ?_; intro g1 _
  refine gn 7 ?_
  refine oL (lC (cidBytes_is hx.ht hx.hf hx.hd) rfl .nil) ?_
  rintro ⟨r, H'⟩ ⟨rfl, rfl⟩
  simp only [List.nil_append]
  refine gn 4 ?_
  refine c_regiond ([(g1, C [.int .u64 x.v, .int .u64 x.c, .int .u64 x.h, S x.d, S dat] 98)]) (by kernel_rfl) (by first | exact List.Sublist.refl _ | exact List.nil_sublist _ | (repeat constructor)) ?_
  refine ld [0, 1, 2, 3, 4, 5, 6, 9, 11, 12] ?_
  refine dL 7 rfl (lC (varint_is (x := (cidB x).length + dat.length) (by omega)) rfl .nil) ?_
  rintro ⟨v1, H1⟩ ho1
  simp only at ho1 ⊢
  refine d_more (H1 ++ [(g1, C [.int .u64 x.v, .int .u64 x.c, .int .u64 x.h, S x.d, S dat] 98)]) (List.Sublist.refl _) aG ?_
  refine dX 8 rfl (e_bsO underlying72 underlying5 underlying9 ho1 (fun _ h => List.mem_append_left _ h) rfl) ?_
  refine dX 10 rfl (e_sadd rfl rfl aN) ?_
  refine dX 13 rfl (e_sadd rfl rfl aN) ?_
  refine ld [14] ?_
  refine gn 3 ?_
  refine WR.sel .nil ?_
  refine r_fn1 results50 rfl ?_
  refine ⟨?_, rfl⟩
  simp [secB]
theorem or5_all : (List.range 8).all (fun m => (List.range 32).all fun k => ib .or .u8 (IntKind.u8.wrap (((m : Nat) : Int) * 2 ^ min (Int.toNat 5) IntKind.u8.bits)) ((k : Nat) : Int) == ((m * 32 + k : Nat) : Int)) = true := by decide +kernel
theorem or5 {m k : Nat} (hm : m < 8) (hk : k < 32) : ib .or .u8 (IntKind.u8.wrap (((m : Nat) : Int) * 2 ^ min (Int.toNat 5) IntKind.u8.bits)) ((k : Nat) : Int) = ((m * 32 + k : Nat) : Int) := by
  have h1 := List.all_eq_true.1 or5_all m (List.mem_range.2 hm)
  have h2 := List.all_eq_true.1 h1 k (List.mem_range.2 hk)
  exact eq_of_beq h2
theorem byteV {k : Nat} (h : k < 256) : Value.int .u8 ((k : Nat) : Int) = Value.int .u8 ((UInt8.ofNat k).toNat : Int) := by
  rw [ofNat_z h]
theorem head_is {m n : Nat} (hm : m < 8) (hn : n < 256) : Ctr prog 81 [.int .u8 (m : Nat), .int .u64 (n : Nat)] G [] (fun r H' => r = S (hdB (m * 32) n) ∧ H' = []) := by
  have o1 : ib .or .u8 (IntKind.u8.wrap (((m : Nat) : Int) * 2 ^ min (Int.toNat 5) IntKind.u8.bits)) 24 = ((m * 32 + 24 : Nat) : Int) := or5 (m := m) (k := 24) hm (by decide)
  refine fn_enter 75 func81 rfl ntmps81 rfl ?_
  intro w0
  refine gn 21 ?_
  refine c_ifp rfl (fun h1 => ?_) (fun h1 => ?_)
  · have o2 := or5 (m := m) (k := n) hm (by omega)
    refine gn 6 ?_
    rw [o2, byteV (k := m * 32 + n) (by omega)]
    refine oL (l_bs1 runUnderlying72 sizeOf5 zeroValue5 rfl rfl rfl) ?_; intro g17 _
    refine oX (e_bs (bs := [UInt8.ofNat (m * 32 + n)]) underlying72 underlying5 underlying9 rfl (.inl (.head _)) (.take .done)) ?_
    refine gn 4 ?_
    refine WR.sel .nil ?_
    refine r_fn1 results81 rfl ?_
    exact ⟨by rw [hdB, if_pos (by omega)], rfl⟩
  · skip
    refine gn 7 ?_
    refine c_ifp rfl (fun h2 => ?_) (fun h2 => ?_)
    · refine gn 6 ?_
      rw [o1, byteV (k := m * 32 + 24) (by omega), byteV (k := n) hn]
      refine oL (l_bs (l := B [UInt8.ofNat (m * 32 + 24), UInt8.ofNat n]) runUnderlying72 sizeOf5 zeroValue5 rfl rfl rfl rfl (by kernel_rfl)) ?_
      intro g26 _
      refine oX (e_bs (bs := [UInt8.ofNat (m * 32 + 24), UInt8.ofNat n]) underlying72 underlying5 underlying9 rfl (.inl (.head _)) (.take (.take .done))) ?_
      refine gn 4 ?_
      refine WR.sel .nil ?_
      refine r_fn1 results81 rfl ?_
      exact ⟨by rw [hdB, if_neg (by omega)], rfl⟩
    · omega
end
end Go.Proofs

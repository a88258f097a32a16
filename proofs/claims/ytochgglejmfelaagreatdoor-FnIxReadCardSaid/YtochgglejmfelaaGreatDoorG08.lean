/- The parts of an index, read; A part written; The parts of an index with codes, read; Rows of numbers, sorted in memory: comparisons, insertion sort; Rows of numbers, sorted in memory: heaps; Rows of numbers, sorted in memory: the pivot. (A part of the proof of this: for every input laws.FnIxRead returns true and its arguments read as they did, the listed package variables being what the program lays.) -/
import Derived.Test.YtochgglejmfelaaGreatDoorG02
import Derived.Test.YtochgglejmfelaaGreatDoorG05
import Derived.Test.YtochgglejmfelaaGreatDoorG07
import Derived.Test.YtochgglejmfelaaGreatDoorG03
import Derived.Test.YtochgglejmfelaaGreatDoorG04
namespace Go.Proofs
open Go Go.Sl Tryz
set_option maxRecDepth 100000
set_option maxHeartbeats 1000000
/-- A part: the width of its rows, the rows. -/
abbrev Part := Nat × List UInt8
def pbB (p : Part) : List UInt8 := lowB (p.1 : Nat) 4 ++ (lowB (p.2.length : Nat) 8 ++ p.2)
theorem pbB_length (p : Part) : (pbB p).length = 12 + p.2.length := by simp [pbB, lowB_length]; omega
theorem le_lowB8 (k : Nat) (h : k < 18446744073709551616) : le (lowB (k : Nat) 8) = k := by
  have e : lowB (k : Nat) 8 = [lowb (k : Nat) 0, lowb (k : Nat) 1, lowb (k : Nat) 2, lowb (k : Nat) 3, lowb (k : Nat) 4, lowb (k : Nat) 5, lowb (k : Nat) 6, lowb (k : Nat) 7] := rfl
  rw [e]
  simp only [le, lowb_nat]
  omega
/-- A part in memory: its rows' block, the part. -/
abbrev Mpart := Nat × Part
def MV (ts : List Mpart) : List (Int × Value) := ts.map fun t => ((t.2.1 : Nat), .agg #[.int .u32 (t.2.1 : Nat), .int .u64 (t.2.2.length / t.2.1 : Nat), .slice (some ⟨t.1, 0, none⟩) t.2.2.length t.2.2.length])
def MB (ts : List Mpart) : HP := ts.map fun t => (t.1, C (B t.2.2) 5)
theorem MV_snoc (ts : List Mpart) (t : Mpart) : MV (ts ++ [t]) = MV ts ++ MV [t] := by simp [MV]
theorem MB_snoc (ts : List Mpart) (t : Mpart) : MB (ts ++ [t]) = MB ts ++ MB [t] := by simp [MB]
theorem MV_none {ts : List Mpart} {w : Nat} (h : w ∉ ts.map fun t => t.2.1) : mget (MV ts) (w : Nat) = none := by
  induction ts with
  | nil => rfl
  | cons t ts ih =>
    simp only [List.map_cons, List.mem_cons, not_or] at h
    simp only [MV, List.map_cons, mget]
    rw [if_neg (by omega)]
    exact ih h.2
/-- What a part may be. -/
structure PartOk (p : Part) : Prop where
  h1 : 8 ≤ p.1
  h2 : p.1 ≤ 33554432
  h3 : 0 < p.2.length
theorem drop_at {a b bs : List UInt8} {p : Nat} (h : bs = a ++ b) (hp : a.length = p) : bs.drop p = b := by
  subst hp; subst h; simp
theorem flat_split {ps : List Part} {i : Nat} (h : i < ps.length) : ps.flatMap pbB = (ps.take i).flatMap pbB ++ (pbB ps[i] ++ (ps.drop (i + 1)).flatMap pbB) := by
  have e : ps = ps.take i ++ (ps[i] :: ps.drop (i + 1)) := by simp
  conv => lhs; rw [e]
  rw [List.flatMap_append, List.flatMap_cons]
theorem flat_succ {ps : List Part} {i : Nat} (h : i < ps.length) : (ps.take (i + 1)).flatMap pbB = (ps.take i).flatMap pbB ++ pbB ps[i] := by
  rw [List.take_succ_eq_append_getElem h, List.flatMap_append]; simp
section
variable {G : HP} {gr gs gm gx em n cap i0 lo hi : Nat} {bs pre post : List UInt8} {rest zs : List Value} {ps : List Part}
theorem mwi_ok (hD : (gs, DB bs rest lo hi) ∈ G) (hn : bs.length = n) (hc : n ≤ cap) (h63 : cap < 9223372036854775808) (hn40 : n ≤ 1099511627776) (hbs : bs = pre ++ (lowB (ps.length : Nat) 4 ++ (ps.flatMap pbB ++ post))) (hpre : pre.length = i0) (hK : ps.length ≤ 1000) (hok : ∀ p ∈ ps, PartOk p) (hnd : (ps.map (·.1)).Nodup) :
    Ctr Tryz.prog 332 [.pointer (some ⟨gm, 0, none⟩), RV gr] G [(gr, RB gs n cap i0), (gm, C (.map (some gx) :: zs) em), (gx, Mo .u32 [])] (fun r H' => r = .nilIface ∧ ∃ ts : List Mpart, ts.map (·.2) = ps ∧ H' = (gr, RB gs n cap (i0 + 4 + (ps.flatMap pbB).length)) :: (gm, C (.map (some gx) :: zs) em) :: (gx, Mo .u32 (MV ts)) :: MB ts) := by
  have hlen : i0 + (4 + ((ps.flatMap pbB).length + post.length)) = n := by rw [← hn, hbs]; simp [lowB_length, hpre]
  have h4 : le ((bs.drop i0).take 4) = ps.length := by
    rw [drop_at hbs hpre, List.take_left' (lowB_length _ _), le_lowB _ (by omega)]
  refine fn_enter 75 func332 rfl ntmps332 rfl ?_
  intro w0
  refine cR <| oA rfl <| oN <| cR <| oM rfl <| o_pure rfl call164 (toSeek_is) rfl rfl <| oA rfl <| oN <| cR ?_
  refine o_l rfl (l_alloc zeroValue212 rfl rfl) ?_; intro g6 _
  refine oN <| c_seq <| cR <| oM rfl ?_
  refine o_l rfl (l_call call321 (read32_is hD hn hc h63 (show i0 + 4 ≤ n by omega) .head) rfl rfl (.cons (.tail .head) (.cons .head .nil))) ?_
  rintro ⟨r, H'⟩ ⟨rfl, rfl⟩
  simp only [List.cons_append, List.nil_append]
  rw [h4]
  refine oA rfl <| oN <| cR <| oM rfl <| oX (e_nnen runUnderlying80 rfl) <| oN <| cL rfl <| cR ?_
  refine oX (e_load isAgg212 rfl (by first | exact .inr (by assumption) | exact .inl (by repeat (first | exact List.Mem.head _ | refine List.Mem.tail _ ?_))) rfl) ?_
  refine oX (e_convn runUnderlying212 runUnderlying21 rfl (by simp only [inR]; omega)) <| oA rfl <| oN <| cR <| oM rfl ?_
  refine o_l rfl (l_calli0 call290 (by intro w; kernel_rfl) (seek_is (i := i0 + 4) (by omega)) rfl rfl rfl (.cons .head .nil)) ?_
  rintro ⟨r, H'⟩ ⟨rfl, rfl⟩
  simp only [List.cons_append, List.nil_append]
  refine oM rfl <| oX (e_extract rfl rfl) <| oX (e_extract rfl rfl) <| oA rfl <| oA rfl <| oN <| c_seq <| cR <| oM rfl <| oX (e_nnen runUnderlying80 rfl) <| oN <| cL rfl <| c_seq <| cR <| oM rfl <| oX (e_lss rfl rfl) <| oN ?_
  refine c_ifp rfl (fun h2 => ?_) (fun h2 => ?_)
  · exact absurd h2 (by omega)
  · skip
    refine c_skip <| n_code <| c_seq <| cR <| oA rfl <| oN <| c_block ?_
    refine c_loop (X := List Mpart × Nat × Int) (fun y => [(0, .pointer (some ⟨gm, 0, none⟩)), (1, RV gr), (5, RV gr), (8, .int .i32 ps.length), (9, .int .i64 y.2.2), (11, .int .i64 y.2.1)]) (fun y => [(gr, RB gs n cap (i0 + 4 + ((ps.take y.2.1).flatMap pbB).length)), (g6, C [.int .u32 ps.length] 212), (gm, C (.map (some gx) :: zs) em), (gx, Mo .u32 (MV y.1))] ++ MB y.1) (fun y => y.2.1 ≤ ps.length ∧ y.1.map (·.2) = ps.take y.2.1 ∧ 0 ≤ y.2.2 ∧ y.2.2 ≤ ((y.2.1 : Int) + 1) * 1099511627776) (fun y => ps.length - y.2.1) ([], 0, (i0 + 4 : Nat)) ⟨by simp, by simp, by simp; omega, by simp; omega⟩ (sub_cons rfl (sub_cons rfl (sub_cons rfl (sub_cons rfl (sub_cons rfl (sub_cons rfl sub_nil)))))) (by simp [MB, MV]) ?_
    rintro ⟨ts, i, sm⟩ ⟨hi, hts, hs0, hs1⟩
    simp only at hi hts hs0 hs1 ⊢
    refine c_seq <| cR <| oM rfl <| oM rfl <| oX (e_convn runUnderlying21 runUnderlying3 rfl (by simp only [inR]; omega)) <| oX (e_lss rfl rfl) <| oN ?_
    refine c_ifp rfl (fun h3 => ?_) (fun h3 => ?_)
    · have h3' : i < ps.length := by omega
      obtain ⟨hw1, hw2, hR0⟩ := hok _ (List.getElem_mem h3')
      have hfl := congrArg List.length (flat_split h3')
      have hfs := congrArg List.length (flat_succ h3')
      simp only [List.length_append, pbB_length] at hfl hfs
      have hdr : bs.drop (i0 + 4 + ((ps.take i).flatMap pbB).length) = lowB (ps[i].1 : Nat) 4 ++ (lowB (ps[i].2.length : Nat) 8 ++ (ps[i].2 ++ ((ps.drop (i + 1)).flatMap pbB ++ post))) := by
        refine drop_at (a := pre ++ (lowB (ps.length : Nat) 4 ++ (ps.take i).flatMap pbB)) ?_ (by simp [lowB_length, hpre]; omega)
        rw [hbs, flat_split h3']
        simp [pbB]
      generalize hw : ps[i].1 = w at *
      generalize hd : ps[i].2 = d at *
      generalize hoff : i0 + 4 + ((ps.take i).flatMap pbB).length = o at *
      refine c_skip <| n_code <| c_seq <| c_block <| cR <| oX (e_build (vs := [.int .u32 0, .int .u64 0, .slice none 0 0]) runUnderlying448 zeroValue448 (.cons sizeOf212 (.cons sizeOf23 (.cons sizeOf72 .nil))) rfl (by kernel_rfl)) ?_
      refine o_l rfl (l_alloc zeroValue448 rfl rfl) ?_; intro g12 _
      refine o_l rfl (l_storea sizeOf448 rfl rfl rfl (by simp [Value.oneCell']) .head (.take (.take (.take .done))) nofrs0) ?_
      intro _ _
      refine oN <| c_seq <| cR <| oM rfl ?_
      have e1 : le ((bs.drop o).take 4) = w := by rw [hdr, List.take_left' (lowB_length _ _), le_lowB _ (by omega)]
      have e2 : le ((bs.drop (o + 4)).take 8) = d.length := by rw [← List.drop_drop, hdr, drop_at rfl (lowB_length _ _), List.take_left' (lowB_length _ _), le_lowB8 _ (by omega)]
      have e3 : (bs.drop (o + 12)).take d.length = d := by rw [← List.drop_drop, hdr, ← List.append_assoc, drop_at rfl (by simp [lowB_length]), List.take_left' rfl]
      refine o_l rfl (l_call call341 (swi_ok (i := o) (w := w) (R := d.length) hD hn hc h63 hw1 hw2 hR0 e1 e2 (by omega) (by omega)) rfl rfl (.cons (.tail .head) (.cons .head .nil))) ?_
      rintro ⟨r, H'⟩ ⟨rfl, gb, rfl⟩
      simp only [List.cons_append, List.nil_append]
      rw [e3]
      refine oA rfl <| oN <| cR <| oM rfl <| oX (e_nnen runUnderlying80 rfl) <| oN <| cL rfl <| cR <| oM rfl ?_
      refine o_l rfl (l_calli0 call290 (by intro w; kernel_rfl) (seek_is (i := o + 12 + d.length) (by omega)) rfl rfl rfl (.cons .head .nil)) ?_
      rintro ⟨r, H'⟩ ⟨rfl, rfl⟩
      simp only [List.cons_append, List.nil_append]
      refine oM rfl <| oX (e_extract rfl rfl) <| oX (e_extract rfl rfl) <| oA rfl <| oA rfl <| oN <| c_seq <| cR <| oM rfl <| oX (e_nnen runUnderlying80 rfl) <| oN <| cL rfl <| cR <| oM rfl <| oA rfl <| oN <| cR <| oM rfl <| oM rfl <| oX (e_addn rfl rfl (by simp only [inR]; omega)) <| oA rfl <| oN <| c_seq <| cR <| oM rfl <| oM rfl <| oX (e_lss rfl rfl) <| oN ?_
      refine c_ifp rfl (fun h5 => ?_) (fun h5 => ?_)
      · exact absurd h5 (by omega)
      · skip
        refine c_skip <| n_code <| c_regiong [6] (by kernel_rfl) <| gM 0 rfl (e_move rfl) <| gM 1 rfl (e_nilCheck rfl) ?_
        refine gE 2 rfl (e_load isAgg327 rfl (by first | exact .inr (by assumption) | exact .inl (by repeat (first | exact List.Mem.head _ | refine List.Mem.tail _ ?_))) rfl) ?_
        refine gM 3 rfl (e_fak 0 runUnderlying448 rfl sizeOf212 rfl rfl rfl) ?_
        refine gE 4 rfl (e_load isAgg212 rfl (by first | exact .inr (by assumption) | exact .inl (by repeat (first | exact List.Mem.head _ | refine List.Mem.tail _ ?_))) rfl) ?_
        refine gE 5 rfl (e_loada isAgg448 sizeOf448 rfl (by first | exact .inr (by assumption) | exact .inl (by repeat (first | exact List.Mem.head _ | refine List.Mem.tail _ ?_))) (by first | assumption | repeat constructor)) ?_
        refine g_l 6 (by kernel_rfl) rfl rfl rfl (l_mapup runUnderlying327 runUnderlying212 rfl rfl rfl (.tail (.tail (.tail (.tail (.tail .head)))))) ?_
        intro _ _
        have hnone : mget (MV ts) (w : Nat) = none := by
          refine MV_none fun hm => ?_
          have hm' : w ∈ (ps.take i).map (·.1) := by
            rw [← hts, List.map_map]; exact hm
          obtain ⟨k, hk, he⟩ := List.getElem_of_mem hm'
          simp only [List.length_map, List.length_take] at hk
          simp only [List.getElem_map, List.getElem_take] at he
          rw [Nat.min_eq_left hi] at hk
          exact List.pairwise_iff_getElem.1 hnd k i (by simp; omega) (by simpa using h3') hk (by simp [he, hw])
        rw [mset_new _ hnone]
        refine dN <| n_block <| n_code <| c_region <| oM rfl <| oX (e_addn rfl rfl (by simp only [inR]; omega)) <| oA rfl <| o_nil ?_
        have e4 : (i0 + 4 + ((ps.take (i + 1)).flatMap pbB).length) = o + 12 + d.length := by rw [hfs]; omega
        refine n_round' (y := (ts, i, sm)) (ts ++ [(gb, w, d)], i + 1, sm + ((o + 12 + d.length : Nat) : Int)) (by show ps.length - (i + 1) < ps.length - i; omega) ?_ (sub_cons rfl (sub_cons rfl (sub_cons rfl (sub_cons rfl (sub_cons rfl (sub_cons rfl sub_nil)))))) _ ((List.perm_append_comm (l₁ := [_, _])).cons _) ?_
        · refine ⟨by show i + 1 ≤ ps.length; omega, ?_, by show 0 ≤ sm + ((o + 12 + d.length : Nat) : Int); omega, by show sm + ((o + 12 + d.length : Nat) : Int) ≤ (((i + 1 : Nat) : Int) + 1) * 1099511627776; omega⟩
          show (ts ++ [(gb, w, d)]).map (·.2) = ps.take (i + 1)
          rw [List.map_append, hts, List.take_succ_eq_append_getElem h3', ← hw, ← hd]
          rfl
        · show ([(gr, RB gs n cap (i0 + 4 + ((ps.take (i + 1)).flatMap pbB).length)), (g6, C [.int .u32 ps.length] 212), (gm, C (.map (some gx) :: zs) em), (gx, Mo .u32 (MV (ts ++ [(gb, w, d)])))] ++ MB (ts ++ [(gb, w, d)])).Sublist _
          rw [MV_snoc, MB_snoc, e4]
          refine List.Sublist.cons_cons _ (List.Sublist.cons_cons _ (List.Sublist.cons_cons _ (List.Sublist.cons_cons _ ?_)))
          show (MB ts ++ MB [(gb, w, d)]).Sublist (MB ts ++ [(g12, _), (gb, C (B d) 5)])
          exact List.Sublist.append (List.Sublist.refl _) (List.sublist_cons_self _ _)
    · skip
      refine c_exit ?_; refine x_code ?_; refine x_upto ?_; refine x_here ?_
      refine n_code <| cR <| oA rfl <| oN <| c_ret ?_
      refine WR.sel (.cons .head (.cons (.tail .head) (.cons (.tail .head) (Sel.appR [_] (MB ts))))) ?_
      refine r_fn1 results332 rfl ?_
      obtain rfl : i = ps.length := by omega
      exact ⟨rfl, ts, by simpa using hts, by simp⟩
end
end Go.Proofs
namespace Go.Proofs
open Go Go.Sl Tryz
set_option maxRecDepth 100000
set_option maxHeartbeats 1000000
section
variable {G : HP} {g gb gd : Nat} {bs d : List UInt8} {HB : HP} {lr : Int} {v : Value}
theorem swiM_is {w : Nat} {q : Int} (hb : Bb v bs HB) (hg : (g, C [.int .u32 w, .int .u64 q, .slice (some ⟨gd, 0, none⟩) d.length d.length] 448) ∈ G) (hd : (gd, DB d [] 0 0) ∈ G) (h0 : 0 < d.length) (h1 : d.length < 536870912) (h2 : bs.length < 536870912) :
    Ctr Tryz.prog 340 [.pointer (some ⟨g, 0, none⟩), .iface 89 (.pointer (some ⟨gb, 0, none⟩))] G ((gb, Bu v lr) :: HB) (fun r H' => ∃ (z : Int) (v' : Value) (HB' : HP), r = .tuple #[.int .u64 z, .nilIface] ∧ Bb v' (bs ++ pbB (w, d)) HB' ∧ H' = (gb, Bu v' 0) :: HB') := by
  refine fn_enter 53 func340 rfl ntmps340 rfl ?_
  intro w0
  refine cR <| oA rfl <| oA rfl <| oN <| cR <| oA rfl <| oN <| c_seq <| cR <| oM rfl <| oM rfl <| oC rfl <| oX (e_fak 0 runUnderlying448 rfl sizeOf212 rfl rfl rfl) ?_
  refine oX (e_load isAgg212 rfl (.inr (by assumption)) rfl) ?_
  refine o_l rfl (l_call call318 (w32_is (k := w) hb (by omega)) rfl rfl (.cons .head (by simpa using Sel.app HB []))) ?_
  rintro ⟨r, H'⟩ ⟨rfl, v1, HB1, hb1, rfl⟩
  simp only [List.cons_append, List.append_nil]
  refine oA rfl <| oN <| cR <| oM rfl <| oX (e_nnen runUnderlying80 rfl) <| oN <| cL rfl <| cR <| oM rfl <| oX (e_addn rfl rfl (by simp only [inR]; omega)) <| oA rfl <| oN <| c_seq <| cR <| oM rfl <| oM rfl <| oC rfl <| oX (e_fak 2 runUnderlying448 rfl sizeOf72 rfl rfl rfl) ?_
  refine oX (e_load isAgg72 rfl (.inr (by assumption)) rfl) ?_
  refine oX (e_lenl runUnderlying72 rfl) <| oX (e_convn runUnderlying3 runUnderlying23 rfl (by simp only [inR]; omega)) ?_
  refine o_l rfl (l_call call328 (w64_is (k := d.length) hb1 (by simp [lowB_length]; omega)) rfl rfl (.cons .head (by simpa using Sel.app HB1 []))) ?_
  rintro ⟨r, H'⟩ ⟨rfl, v2, HB2, hb2, rfl⟩
  simp only [List.cons_append, List.append_nil]
  refine oA rfl <| oN <| cR <| oM rfl <| oX (e_nnen runUnderlying80 rfl) <| oN <| cL rfl <| cR <| oM rfl <| oX (e_addn rfl rfl (by simp only [inR]; omega)) <| oA rfl <| oN <| c_seq <| c_regiong [8] (by kernel_rfl) <| gM 0 rfl (e_move rfl) <| gM 1 rfl (e_move rfl) <| gM 2 rfl (e_nilCheck rfl) <| gM 3 rfl (e_fak 2 runUnderlying448 rfl sizeOf72 rfl rfl rfl) ?_
  refine gE 4 rfl (e_load isAgg72 rfl (.inr (by assumption)) rfl) ?_
  refine gM 5 rfl (e_func rfl rfl) ?_
  refine gM 6 rfl (e_nilm (fun _ => by kernel_rfl) rfl) ?_
  refine gM 7 rfl (e_move rfl) ?_
  refine g_l 8 (by kernel_rfl) rfl rfl rfl (l_calli0 call294 (by intro w; kernel_rfl) (write_is hb2 hd rfl h0 (by omega) (by simp [lowB_length]; omega) (by intro h; simp [lowB] at h) (Nat.le_refl _)) rfl rfl rfl (.cons .head (by simpa using Sel.app HB2 []))) ?_
  rintro ⟨r, H'⟩ ⟨v3, HB3, rfl, hb3, rfl⟩
  simp only [List.cons_append, List.append_nil]
  refine dX 9 rfl (e_move rfl) <| dX 10 rfl (e_extract rfl rfl) <| dX 11 rfl (e_extract rfl rfl) <| dX 12 rfl (e_assign rfl) <| dX 13 rfl (e_assign rfl) <| dN <| n_code <| cR <| oM rfl <| oM rfl <| oX (e_convn runUnderlying3 runUnderlying23 rfl (by simp only [inR]; omega)) <| oX (e_addn rfl rfl (by simp only [inR]; omega)) <| oM rfl <| oA rfl <| oA rfl <| oN <| c_ret ?_
  refine r_fn (l := [.tmp 4, .tmp 5]) results340 rfl rfl ?_
  refine ⟨_, v3, HB3, rfl, ?_, rfl⟩
  simpa [pbB] using hb3
end
end Go.Proofs
namespace Go.Proofs
open Go Go.Sl Tryz
set_option maxRecDepth 100000
set_option maxHeartbeats 1000000
/-- A code and its parts. -/
abbrev Cpart := Nat × List Part
def pmB (ps : List Part) : List UInt8 := lowB (ps.length : Nat) 4 ++ ps.flatMap pbB
def pcB (c : Cpart) : List UInt8 := lowB (c.1 : Nat) 8 ++ pmB c.2
theorem pmB_length (ps : List Part) : (pmB ps).length = 4 + (ps.flatMap pbB).length := by simp [pmB, lowB_length]
theorem pcB_length (c : Cpart) : (pcB c).length = 12 + (c.2.flatMap pbB).length := by simp [pcB, pmB_length, lowB_length]; omega
/-- A code's parts in memory: the block, the map's block, the code, the parts. -/
structure Mcode where
  gc : Nat
  gx : Nat
  code : Nat
  ts : List Mpart
def Mcode.un (m : Mcode) : Cpart := (m.code, m.ts.map (·.2))
def Mcode.hp (m : Mcode) : HP := (m.gc, C [.map (some m.gx), .int .u64 m.code] 437) :: (m.gx, Mo .u32 (MV m.ts)) :: MB m.ts
def KV (cs : List Mcode) : List (Int × Value) := cs.map fun m => ((m.code : Nat), .pointer (some ⟨m.gc, 0, none⟩))
def KB (cs : List Mcode) : HP := cs.flatMap Mcode.hp
theorem KV_snoc (cs : List Mcode) (m : Mcode) : KV (cs ++ [m]) = KV cs ++ KV [m] := by simp [KV]
theorem KB_snoc (cs : List Mcode) (m : Mcode) : KB (cs ++ [m]) = KB cs ++ m.hp := by simp [KB]
theorem KV_none {cs : List Mcode} {c : Nat} (h : c ∉ cs.map fun t => t.code) : mget (KV cs) (c : Nat) = none := by
  induction cs with
  | nil => rfl
  | cons t cs ih =>
    simp only [List.map_cons, List.mem_cons, not_or] at h
    simp only [KV, List.map_cons, mget]
    rw [if_neg (by omega)]
    exact ih h.2
/-- What a code's parts may be. -/
structure CodeOk (c : Cpart) : Prop where
  hc : c.1 < 18446744073709551616
  hK : c.2.length ≤ 1000
  hok : ∀ p ∈ c.2, PartOk p
  hnd : (c.2.map (·.1)).Nodup
theorem cflat_split {cs : List Cpart} {i : Nat} (h : i < cs.length) : cs.flatMap pcB = (cs.take i).flatMap pcB ++ (pcB cs[i] ++ (cs.drop (i + 1)).flatMap pcB) := by
  have e : cs = cs.take i ++ (cs[i] :: cs.drop (i + 1)) := by simp
  conv => lhs; rw [e]
  rw [List.flatMap_append, List.flatMap_cons]
theorem cflat_succ {cs : List Cpart} {i : Nat} (h : i < cs.length) : (cs.take (i + 1)).flatMap pcB = (cs.take i).flatMap pcB ++ pcB cs[i] := by
  rw [List.take_succ_eq_append_getElem h, List.flatMap_append]; simp
theorem Rem.app (A : HP) {B B' : HP} {p : Nat × Obj} (h : Rem B p B') : Rem (A ++ B) p (A ++ B') := by
  induction A with
  | nil => exact h
  | cons _ _ ih => exact .tail ih
section
variable {G : HP} {gr gs gm gx gc gX em n cap i0 lo hi : Nat} {bs pre post : List UInt8} {rest zs : List Value}
theorem mwc_ok {ps : List Part} {c : Nat} (hD : (gs, DB bs rest lo hi) ∈ G) (hn : bs.length = n) (hc : n ≤ cap) (h63 : cap < 9223372036854775808) (hn40 : n ≤ 1099511627776) (hbs : bs.drop i0 = pcB (c, ps) ++ post) (hi0 : i0 ≤ n) (hok : CodeOk (c, ps)) :
    Ctr Tryz.prog 322 [.pointer (some ⟨gc, 0, none⟩), RV gr] G [(gr, RB gs n cap i0), (gc, C [.map (some gx), .int .u64 0] 437), (gx, Mo .u32 [])] (fun r H' => r = .nilIface ∧ ∃ ts : List Mpart, ts.map (·.2) = ps ∧ H' = (gr, RB gs n cap (i0 + (pcB (c, ps)).length)) :: (⟨gc, gx, c, ts⟩ : Mcode).hp) := by
  obtain ⟨hc64, hK, hokp, hnd⟩ := hok
  have hlen := congrArg List.length hbs
  simp only [List.length_append, List.length_drop, pcB_length, hn] at hlen
  have h8 : le ((bs.drop i0).take 8) = c := by
    rw [hbs, pcB, List.append_assoc, List.take_left' (lowB_length _ _), le_lowB8 _ hc64]
  have hsplit : bs = (bs.take i0 ++ lowB (c : Nat) 8) ++ (lowB (ps.length : Nat) 4 ++ (ps.flatMap pbB ++ post)) := by
    conv => lhs; rw [← List.take_append_drop i0 bs, hbs]
    simp [pcB, pmB]
  refine fn_enter 23 func322 rfl ntmps322 rfl ?_
  intro w0
  refine cR <| oA rfl <| oN <| c_seq <| cR <| oM rfl <| oM rfl <| oC rfl <| oX (e_fak 1 runUnderlying437 rfl sizeOf23 rfl rfl rfl) ?_
  refine o_l rfl (l_call call331 (read64_is (off := 0 + 1) hD hn hc h63 (show i0 + 8 ≤ n by omega) (.tail .head)) rfl rfl (.cons .head (.cons .head .nil))) ?_
  rintro ⟨r, H'⟩ ⟨rfl, rfl⟩
  simp only [List.cons_append, List.nil_append]
  rw [h8]
  refine oA rfl <| oN <| cR <| oM rfl <| oX (e_nnen runUnderlying80 rfl) <| oN <| cL rfl <| cR <| oM rfl <| oC rfl <| oX (e_fak 0 runUnderlying437 rfl sizeOf327 rfl rfl rfl) <| oM rfl ?_
  refine o_l rfl (l_call call332 (mwi_ok (i0 := i0 + 8) hD hn hc h63 hn40 hsplit (by simp [lowB_length]; omega) hK hokp hnd) rfl rfl (.cons .head (.cons .head (.cons .head .nil)))) ?_
  rintro ⟨r, H'⟩ ⟨rfl, ts, hts, rfl⟩
  simp only [List.cons_append]
  refine oA rfl <| oN <| c_ret ?_
  refine r_fn1 results322 rfl ?_
  refine ⟨rfl, ts, hts, ?_⟩
  rw [pcB_length]
  simp only [Mcode.hp]
  rw [show i0 + 8 + 4 + (ps.flatMap pbB).length = i0 + (12 + (ps.flatMap pbB).length) by omega, List.append_nil]
theorem put_is {gh c : Nat} {ks : List (Int × Value)} {z : Value} (hz : mget ks (c : Nat) = none) :
    Ctr Tryz.prog 317 [.pointer (some ⟨gh, 0, none⟩), .pointer (some ⟨gc, 0, none⟩)] G [(gX, Mo .u64 ks), (gc, C [z, .int .u64 c] 437), (gh, C [.map (some gX)] em)] (fun _ H' => H' = [(gX, Mo .u64 (ks ++ [(((c : Nat) : Int), Value.pointer (some ⟨gc, 0, none⟩))])), (gc, C [z, .int .u64 c] 437), (gh, C [.map (some gX)] em)]) := by
  refine fn_enter 12 func317 rfl ntmps317 rfl ?_
  intro w0
  refine c_regiong [8] (by kernel_rfl) <| gM 0 rfl (e_move rfl) <| gM 1 rfl (e_nilCheck rfl) ?_
  refine gE 2 rfl (e_load isAgg330 rfl (by first | exact .inr (by assumption) | exact .inl (by repeat (first | exact List.Mem.head _ | refine List.Mem.tail _ ?_))) rfl) ?_
  refine gM 3 rfl (e_move rfl) <| gM 4 rfl (e_nilCheck rfl) <| gM 5 rfl (e_fak 1 runUnderlying437 rfl sizeOf23 rfl rfl rfl) ?_
  refine gE 6 rfl (e_load isAgg23 rfl (by first | exact .inr (by assumption) | exact .inl (by repeat (first | exact List.Mem.head _ | refine List.Mem.tail _ ?_))) rfl) ?_
  refine gM 7 rfl (e_move rfl) ?_
  refine g_l 8 (by kernel_rfl) rfl rfl rfl (l_mapup runUnderlying330 runUnderlying23 rfl rfl rfl .head) ?_
  intro _ _
  rw [mset_new _ hz]
  refine dN ?_
  refine n_fn0 results317 ?_
  rfl
theorem mhi_ok {gh : Nat} {cs : List Cpart} (hD : (gs, DB bs rest lo hi) ∈ G) (hn : bs.length = n) (hc : n ≤ cap) (h63 : cap < 9223372036854775808) (hn40 : n ≤ 1099511627776) (hbs : bs = pre ++ (lowB (cs.length : Nat) 4 ++ (cs.flatMap pcB ++ post))) (hpre : pre.length = i0) (hK : cs.length ≤ 1000) (hok : ∀ c ∈ cs, CodeOk c) (hnd : (cs.map (·.1)).Nodup) :
    Ctr Tryz.prog 312 [.pointer (some ⟨gh, 0, none⟩), RV gr] G [(gr, RB gs n cap i0), (gh, C [.map (some gX)] em), (gX, Mo .u64 [])] (fun r H' => r = .nilIface ∧ ∃ ms : List Mcode, ms.map Mcode.un = cs ∧ H' = (gr, RB gs n cap (i0 + 4 + (cs.flatMap pcB).length)) :: (gh, C [.map (some gX)] em) :: (gX, Mo .u64 (KV ms)) :: KB ms) := by
  have hlen : i0 + (4 + ((cs.flatMap pcB).length + post.length)) = n := by rw [← hn, hbs]; simp [lowB_length, hpre]
  have h4 : le ((bs.drop i0).take 4) = cs.length := by
    rw [drop_at hbs hpre, List.take_left' (lowB_length _ _), le_lowB _ (by omega)]
  refine fn_enter 73 func312 rfl ntmps312 rfl ?_
  intro w0
  refine cR <| oA rfl <| oN <| cR <| oM rfl <| o_pure rfl call164 (toSeek_is) rfl rfl <| oA rfl <| oN <| cR ?_
  refine o_l rfl (l_alloc zeroValue212 rfl rfl) ?_; intro g6 _
  refine oN <| c_seq <| cR <| oM rfl ?_
  refine o_l rfl (l_call call321 (read32_is hD hn hc h63 (show i0 + 4 ≤ n by omega) .head) rfl rfl (.cons (.tail .head) (.cons .head .nil))) ?_
  rintro ⟨r, H'⟩ ⟨rfl, rfl⟩
  simp only [List.cons_append, List.nil_append]
  rw [h4]
  refine oA rfl <| oN <| cR <| oM rfl <| oX (e_nnen runUnderlying80 rfl) <| oN <| cL rfl <| cR ?_
  refine oX (e_load isAgg212 rfl (by first | exact .inr (by assumption) | exact .inl (by repeat (first | exact List.Mem.head _ | refine List.Mem.tail _ ?_))) rfl) ?_
  refine oX (e_convn runUnderlying212 runUnderlying21 rfl (by simp only [inR]; omega)) <| oA rfl <| oN <| cR <| oM rfl ?_
  refine o_l rfl (l_calli0 call290 (by intro w; kernel_rfl) (seek_is (i := i0 + 4) (by omega)) rfl rfl rfl (.cons .head .nil)) ?_
  rintro ⟨r, H'⟩ ⟨rfl, rfl⟩
  simp only [List.cons_append, List.nil_append]
  refine oM rfl <| oX (e_extract rfl rfl) <| oX (e_extract rfl rfl) <| oA rfl <| oA rfl <| oN <| c_seq <| cR <| oM rfl <| oX (e_nnen runUnderlying80 rfl) <| oN <| cL rfl <| c_seq <| cR <| oM rfl <| oX (e_lss rfl rfl) <| oN ?_
  refine c_ifp rfl (fun h2 => ?_) (fun h2 => ?_)
  · exact absurd h2 (by omega)
  · skip
    refine c_skip <| n_code <| c_seq <| cR <| oA rfl <| oN <| c_block ?_
    refine c_loop (X := List Mcode × Nat × Int) (fun y => [(0, .pointer (some ⟨gh, 0, none⟩)), (1, RV gr), (5, RV gr), (8, .int .i32 cs.length), (9, .int .i64 y.2.2), (11, .int .i64 y.2.1)]) (fun y => [(gr, RB gs n cap (i0 + 4 + ((cs.take y.2.1).flatMap pcB).length)), (g6, C [.int .u32 cs.length] 212), (gh, C [.map (some gX)] em), (gX, Mo .u64 (KV y.1))] ++ KB y.1) (fun y => y.2.1 ≤ cs.length ∧ y.1.map Mcode.un = cs.take y.2.1 ∧ 0 ≤ y.2.2 ∧ y.2.2 ≤ ((y.2.1 : Int) + 1) * 1099511627776) (fun y => cs.length - y.2.1) ([], 0, (i0 + 4 : Nat)) ⟨by simp, by simp, by simp; omega, by simp; omega⟩ (sub_cons rfl (sub_cons rfl (sub_cons rfl (sub_cons rfl (sub_cons rfl (sub_cons rfl sub_nil)))))) (by simp [KB, KV]) ?_
    rintro ⟨ms, i, sm⟩ ⟨hi, hms, hs0, hs1⟩
    simp only at hi hms hs0 hs1 ⊢
    refine c_seq <| cR <| oM rfl <| oM rfl <| oX (e_convn runUnderlying21 runUnderlying3 rfl (by simp only [inR]; omega)) <| oX (e_lss rfl rfl) <| oN ?_
    refine c_ifp rfl (fun h3 => ?_) (fun h3 => ?_)
    · have h3' : i < cs.length := by omega
      have hco := hok _ (List.getElem_mem h3')
      have hfl := congrArg List.length (cflat_split h3')
      have hfs := congrArg List.length (cflat_succ h3')
      simp only [List.length_append] at hfl hfs
      have hdr : bs.drop (i0 + 4 + ((cs.take i).flatMap pcB).length) = pcB cs[i] ++ ((cs.drop (i + 1)).flatMap pcB ++ post) := by
        refine drop_at (a := pre ++ (lowB (cs.length : Nat) 4 ++ (cs.take i).flatMap pcB)) ?_ (by simp [lowB_length, hpre]; omega)
        rw [hbs, cflat_split h3']
        simp
      have hnn : cs[i].1 ∉ ms.map fun t => t.code := by
        intro hm
        have hm' : cs[i].1 ∈ (cs.take i).map (·.1) := by
          rw [← hms, List.map_map]; exact hm
        obtain ⟨k, hk, he⟩ := List.getElem_of_mem hm'
        simp only [List.length_map, List.length_take] at hk
        simp only [List.getElem_map, List.getElem_take] at he
        rw [Nat.min_eq_left hi] at hk
        exact List.pairwise_iff_getElem.1 hnd k i (by simp; omega) (by simpa using h3') hk (by simp [he])
      generalize hw : cs[i] = c at *
      obtain ⟨c, ps⟩ := c
      generalize hoff : i0 + 4 + ((cs.take i).flatMap pcB).length = o at *
      refine c_skip <| n_code <| c_seq <| c_block <| cR ?_
      refine o_l rfl (l_call call315 newMWC_is rfl rfl .nil) ?_
      rintro ⟨r, H'⟩ ⟨gc, gx, rfl, rfl⟩
      simp only [List.cons_append, List.nil_append]
      refine oA rfl <| oN <| c_seq <| cR <| oM rfl <| oM rfl ?_
      refine o_l rfl (l_call call322 (mwc_ok (i0 := o) hD hn hc h63 hn40 hdr (by omega) hco) rfl rfl (.cons (.tail (.tail .head)) (.cons .head (.cons .head .nil)))) ?_
      rintro ⟨r, H'⟩ ⟨rfl, ts, hts, rfl⟩
      simp only [List.cons_append, Mcode.hp]
      refine oA rfl <| oN <| cR <| oM rfl <| oX (e_nnen runUnderlying80 rfl) <| oN <| cL rfl <| cR <| oM rfl ?_
      refine o_l rfl (l_calli0 call290 (by intro w; kernel_rfl) (seek_is (i := o + (pcB (c, ps)).length) (by omega)) rfl rfl rfl (.cons .head .nil)) ?_
      rintro ⟨r, H'⟩ ⟨rfl, rfl⟩
      simp only [List.cons_append, List.nil_append]
      refine oM rfl <| oX (e_extract rfl rfl) <| oX (e_extract rfl rfl) <| oA rfl <| oA rfl <| oN <| c_seq <| cR <| oM rfl <| oX (e_nnen runUnderlying80 rfl) <| oN <| cL rfl <| cR <| oM rfl <| oA rfl <| oN <| cR <| oM rfl <| oM rfl <| oX (e_addn rfl rfl (by simp only [inR]; omega)) <| oA rfl <| oN <| c_seq <| cR <| oM rfl <| oM rfl <| oX (e_lss rfl rfl) <| oN ?_
      refine c_ifp rfl (fun h5 => ?_) (fun h5 => ?_)
      · exact absurd h5 (by omega)
      · skip
        refine c_skip <| n_code <| c_region <| oM rfl <| oM rfl ?_
        refine o_l rfl (l_call call317 (put_is (KV_none hnn)) rfl rfl (.cons (.tail (.tail (.tail (Rem.app _ (.tail (.tail .head)))))) (.cons (.tail .head) (.cons (.tail (.tail (Rem.app _ (.tail .head)))) .nil)))) ?_
        rintro ⟨r, H'⟩ rfl
        simp only [List.cons_append, List.nil_append]
        refine o_nil <| n_block <| n_code <| c_region <| oM rfl <| oX (e_addn rfl rfl (by simp only [inR]; omega)) <| oA rfl <| o_nil ?_
        have e4 : (i0 + 4 + ((cs.take (i + 1)).flatMap pcB).length) = o + (pcB (c, ps)).length := by rw [hfs]; omega
        refine n_round' (y := (ms, i, sm)) (ms ++ [⟨gc, gx, c, ts⟩], i + 1, sm + ((o + (pcB (c, ps)).length : Nat) : Int)) (by show cs.length - (i + 1) < cs.length - i; omega) ?_ (sub_cons rfl (sub_cons rfl (sub_cons rfl (sub_cons rfl (sub_cons rfl (sub_cons rfl sub_nil)))))) _ (((Sel.cons (.tail (.tail (.tail .head))) (.cons (.tail (.tail (.tail (.tail (Rem.app _ .head))))) (.cons (.tail (.tail .head)) (.cons .head .nil)))).perm).trans (List.Perm.append_left _ (List.perm_append_comm (l₁ := _ :: _ :: MB ts) (l₂ := KB ms)))) ?_
        · refine ⟨by show i + 1 ≤ cs.length; omega, ?_, by show 0 ≤ sm + ((o + (pcB (c, ps)).length : Nat) : Int); omega, by show sm + ((o + (pcB (c, ps)).length : Nat) : Int) ≤ (((i + 1 : Nat) : Int) + 1) * 1099511627776; omega⟩
          show (ms ++ [(⟨gc, gx, c, ts⟩ : Mcode)]).map Mcode.un = cs.take (i + 1)
          rw [List.map_append, hms, List.take_succ_eq_append_getElem h3', hw, ← hts]
          rfl
        · show ([(gr, RB gs n cap (i0 + 4 + ((cs.take (i + 1)).flatMap pcB).length)), (g6, C [.int .u32 cs.length] 212), (gh, C [.map (some gX)] em), (gX, Mo .u64 (KV (ms ++ [⟨gc, gx, c, ts⟩])))] ++ KB (ms ++ [⟨gc, gx, c, ts⟩])).Sublist _
          rw [KV_snoc, KB_snoc, e4]
          exact List.Sublist.refl _
    · skip
      refine c_exit ?_; refine x_code ?_; refine x_upto ?_; refine x_here ?_
      refine n_code <| cR <| oA rfl <| oN <| c_ret ?_
      refine WR.sel (.cons .head (.cons (.tail .head) (.cons (.tail .head) (Sel.appR [_] (KB ms))))) ?_
      refine r_fn1 results312 rfl ?_
      obtain rfl : i = cs.length := by omega
      exact ⟨rfl, ms, by simpa using hms, by simp⟩
end
end Go.Proofs
namespace Go.Proofs.A4
open Go Go.Sl Tryz
set_option maxRecDepth 100000
set_option maxHeartbeats 1000000
section
variable {G : HP} {g n cap lo hi : Nat} {rest : List Value} {l : List Int}
theorem nan_is {a : Int} : CtrP Tryz.prog 384 [.int .u32 a] G (.bool false) := by
  refine fn_enter 6 func384 rfl ntmps384 rfl ?_
  intro w0
  refine cR <| oA rfl <| oN <| cR <| oM rfl <| oM rfl <| oX (e_neq rfl rfl) <| oA rfl <| oN <| c_ret ?_
  refine r_fn1 results384 rfl ?_
  simp
theorem less_is {a b : Int} : CtrP Tryz.prog 376 [.int .u32 a, .int .u32 b] G (.bool (decide (a < b))) := by
  refine fn_enter 17 func376 rfl ntmps376 rfl ?_
  intro w0
  refine cR <| oA rfl <| oN <| cR <| oM rfl <| o_pure rfl call384 (nan_is) rfl rfl <| oM rfl <| oS <| oS <| oS <| oX (e_pick_f rfl rfl) <| oM rfl <| oM rfl <| oM rfl <| oX (e_lss rfl rfl) <| oX (e_pick_f rfl rfl) <| oA rfl <| oN <| c_ret ?_
  refine r_fn1 results376 rfl ?_
  exact ⟨rfl, rfl⟩
theorem ins_is {a b : Nat} (hn : l.length = n) (hf : n ≤ lo ∨ hi = 0) (h1 : n ≤ 100000) (hab : a ≤ b) (hb : b ≤ n) :
    Ctr Tryz.prog 370 [.slice (some ⟨g, 0, none⟩) n cap, .int .i64 a, .int .i64 b] G [(g, VB .u32 l rest 212 lo hi)] (fun r H' => r = .tuple #[] ∧ ∃ l', (PR a b l l' ∧ SR a b l') ∧ H' = [(g, VB .u32 l' rest 212 lo hi)]) := by
  refine fn_enter 49 func370 rfl ntmps370 rfl ?_
  intro w0
  refine cR <| oM rfl <| oX (e_addn rfl rfl (by simp only [inR]; omega)) <| oA rfl <| oN <| c_block ?_
  refine c_loop (X := List Int × Nat) (fun y => [(0, .slice (some ⟨g, 0, none⟩) n cap), (1, .int .i64 a), (2, .int .i64 b), (6, .int .i64 (a + 1 + y.2 : Nat))]) (fun y => [(g, VB .u32 y.1 rest 212 lo hi)]) (fun y => PR a b l y.1 ∧ SR a (a + 1 + y.2) y.1 ∧ (y.2 = 0 ∨ a + 1 + y.2 ≤ b)) (fun y => b - y.2) (l, 0) ⟨.refl, .small (by omega), .inl rfl⟩ (sub_cons rfl (sub_cons rfl (sub_cons rfl (sub_cons rfl sub_nil)))) (.refl _) ?_
  rintro ⟨m, i⟩ ⟨hp, hs, hi0⟩
  simp only at hp hs hi0 ⊢
  refine c_seq <| cR <| oM rfl <| oM rfl <| oX (e_lss rfl rfl) <| oN ?_
  refine c_ifp rfl (fun h2 => ?_) (fun h2 => ?_)
  · refine c_skip <| n_code <| c_seq <| c_block <| cR <| oM rfl <| oA rfl <| oN <| c_block ?_
    refine c_loop (X := List Int × Nat) (fun y => [(0, .slice (some ⟨g, 0, none⟩) n cap), (1, .int .i64 a), (2, .int .i64 b), (6, .int .i64 (a + 1 + i : Nat)), (7, .int .i64 y.2)]) (fun y => [(g, VB .u32 y.1 rest 212 lo hi)]) (fun y => PR a b l y.1 ∧ Ins a y.2 (a + 1 + i + 1) y.1 ∧ a ≤ y.2 ∧ y.2 ≤ a + 1 + i) (fun y => y.2) (m, a + 1 + i) ⟨hp, .start hs, by omega, Nat.le_refl _⟩ (sub_cons rfl (sub_cons rfl (sub_cons rfl (sub_cons rfl (sub_cons rfl sub_nil))))) (.refl _) ?_
    rintro ⟨q, j⟩ ⟨hq, hi, haj, hj⟩
    simp only at hq hi haj hj ⊢
    have hl := hq.len
    refine c_seq <| c_seq <| cQ <| qM rfl <| qM rfl <| qX (e_gtr rfl rfl) <| qM rfl ?_
    refine q_splitp 19 rfl (fun h3 => ?_) (fun h3 => ?_)
    · refine qM rfl <| qM rfl <| qX (e_ian runUnderlying472 sizeOf212 rfl rfl (by omega)) <| qX (e_ld isAgg212 rfl (.inl M0) (by omega)) <| qM rfl <| qM rfl <| qX (e_sub1 rfl rfl (by omega)) <| qX (e_ian runUnderlying472 sizeOf212 rfl rfl (by omega)) <| qX (e_ld isAgg212 rfl (.inl M0) (by omega)) <| q_pure rfl call376 (less_is) rfl rfl <| qX (e_pick_t rfl rfl) <| qN ?_
      refine c_if rfl (fun h4 => ?_) (fun h4 => ?_)
      · refine c_skip <| n_code <| c_seq <| c_block <| c_regiong [15, 17] (by kernel_rfl) <| gM 0 rfl (e_move rfl) <| gM 1 rfl (e_move rfl) <| gM 2 rfl (e_move rfl) <| gM 3 rfl (e_move rfl) <| gM 4 rfl (e_sub1 rfl rfl (by omega)) <| gM 5 rfl (e_move rfl) <| gM 6 rfl (e_move rfl) <| gM 7 rfl (e_sub1 rfl rfl (by omega)) <| gM 8 rfl (e_ian runUnderlying472 sizeOf212 rfl rfl (by omega)) <| gE 9 rfl (e_ld isAgg212 rfl (.inl M0) (by omega)) <| gM 10 rfl (e_move rfl) <| gM 11 rfl (e_move rfl) <| gM 12 rfl (e_ian runUnderlying472 sizeOf212 rfl rfl (by omega)) ?_
        refine gE 13 rfl (e_ld isAgg212 rfl (.inl M0) (by omega)) <| gM 14 rfl (e_ian runUnderlying472 sizeOf212 rfl rfl (by omega)) ?_
        refine g_l 15 (by kernel_rfl) rfl rfl rfl (l_st sizeOf212 rfl rfl .head (by omega) (by omega)) ?_
        intro _ _
        refine dX 16 rfl (e_ian runUnderlying472 sizeOf212 rfl rfl (by omega)) ?_
        refine d_l 17 (by kernel_rfl) rfl rfl (l_st sizeOf212 rfl rfl .head (by simp only [List.length_set]; omega) (by simp only [List.length_set]; omega)) (fun _ _ => hs_nil) ?_
        intro _ _
        refine dN <| n_block <| n_code <| c_region <| oM rfl <| oX (e_sub1 rfl rfl (by omega)) <| oA rfl <| o_nil ?_
        have hjl : j < q.length := by omega
        refine n_round' (y := (q, j)) (swp q j (j - 1), j - 1) (by show j - 1 < j; omega) ?_ (sub_cons rfl (sub_cons rfl (sub_cons rfl (sub_cons rfl (sub_cons rfl sub_nil))))) _ (.refl _) (List.Sublist.refl _)
        exact ⟨hq.swap (by omega) (by omega) (by omega) (by omega) (by omega), hi.step (of_decide_eq_true h4) (by omega) (by omega) (by omega), by show a ≤ j - 1; omega, by show j - 1 ≤ a + 1 + i; omega⟩
      · skip
        refine c_exit ?_; refine x_code ?_; refine x_upto ?_; refine x_here ?_
        refine n_block <| n_code <| c_region <| oM rfl <| oX (e_addn rfl rfl (by simp only [inR]; omega)) <| oA rfl <| o_nil ?_
        refine n_round' (y := (m, i)) (q, i + 1) (by show b - (i + 1) < b - i; omega) ?_ (sub_cons rfl (sub_cons rfl (sub_cons rfl (sub_cons rfl sub_nil)))) _ (.refl _) (List.Sublist.refl _)
        exact ⟨hq, hi.stop (.inr (of_decide_eq_false h4)), .inr (by show a + 1 + (i + 1) ≤ b; omega)⟩
    · skip
      refine qS <| qS <| qS <| qS <| qS <| qS <| qS <| qS <| qS <| qS <| qX (e_pick_f rfl rfl) <| qN <| c_else rfl ?_
      refine c_exit ?_; refine x_code ?_; refine x_upto ?_; refine x_here ?_
      refine n_block <| n_code <| c_region <| oM rfl <| oX (e_addn rfl rfl (by simp only [inR]; omega)) <| oA rfl <| o_nil ?_
      refine n_round' (y := (m, i)) (q, i + 1) (by show b - (i + 1) < b - i; omega) ?_ (sub_cons rfl (sub_cons rfl (sub_cons rfl (sub_cons rfl sub_nil)))) _ (.refl _) (List.Sublist.refl _)
      exact ⟨hq, hi.stop (.inl (by omega)), .inr (by show a + 1 + (i + 1) ≤ b; omega)⟩
  · skip
    refine c_exit ?_; refine x_code ?_; refine x_upto ?_; refine x_here ?_
    refine n_fn0 results370 ?_
    exact ⟨rfl, m, ⟨hp, hs.less (Nat.le_refl _) (by omega)⟩, rfl⟩
end
end Go.Proofs.A4
namespace Go.Proofs.A4
open Go Go.Sl Tryz
set_option maxRecDepth 100000
set_option maxHeartbeats 1000000
section
variable {G : HP} {g n cap lo hi : Nat} {rest : List Value} {l : List Int}
theorem sift_is {f s h : Nat} (hn : l.length = n) (hf : n ≤ lo ∨ hi = 0) (h1 : n ≤ 100000) (hb : f + h ≤ n) (hs : s ≤ h) (hp : Hp f (s + 1) h l) :
    Ctr Tryz.prog 381 [.slice (some ⟨g, 0, none⟩) n cap, .int .i64 s, .int .i64 h, .int .i64 f] G [(g, VB .u32 l rest 212 lo hi)] (fun r H' => r = .tuple #[] ∧ ∃ l', (PR (f + s) (f + h) l l' ∧ Hp f s h l') ∧ H' = [(g, VB .u32 l' rest 212 lo hi)]) := by
  refine fn_enter 76 func381 rfl ntmps381 rfl ?_
  intro w0
  refine cR <| oM rfl <| oA rfl <| oN <| c_block ?_
  refine c_loop (X := List Int × Nat) (fun y => [(0, .slice (some ⟨g, 0, none⟩) n cap), (2, .int .i64 h), (3, .int .i64 f), (8, .int .i64 y.2)]) (fun y => [(g, VB .u32 y.1 rest 212 lo hi)]) (fun y => PR (f + s) (f + h) l y.1 ∧ HQ f s h y.2 y.1 ∧ (y.2 = s ∨ y.2 < h)) (fun y => 2 * h - y.2) (l, s) ⟨.refl, .start hp, .inl rfl⟩ (sub_cons rfl (sub_cons rfl (sub_cons rfl (sub_cons rfl sub_nil)))) (.refl _) ?_
  rintro ⟨m, i⟩ ⟨hm, hq, hi0⟩
  simp only at hm hq hi0 ⊢
  have hl := hm.len
  have hsi := hq.le
  refine c_block <| cR <| oM rfl <| oX (e_muln rfl rfl (by simp only [inR]; omega)) <| oX (e_addn rfl rfl (by simp only [inR]; omega)) <| oA rfl <| oN <| c_seq <| cR <| oM rfl <| oM rfl <| oX (e_geq rfl rfl) <| oN ?_
  refine c_ifp rfl (fun h2 => ?_) (fun h2 => ?_)
  · refine c_exit ?_; refine x_code ?_; refine x_past rfl ?_; refine x_upto ?_; refine x_here ?_
    refine n_fn0 results381 ?_
    exact ⟨rfl, m, ⟨hm, hq.stop fun c h3 h4 => by omega⟩, rfl⟩
  · skip
    refine c_skip <| n_code <| c_seq ?_
    refine c_cut (X := Nat) (fun c => [(0, .slice (some ⟨g, 0, none⟩) n cap), (2, .int .i64 h), (3, .int .i64 f), (8, .int .i64 i), (9, .int .i64 c)]) (fun _ => [(g, VB .u32 m rest 212 lo hi)]) (fun d => (d = 2 * i + 1 ∨ d = 2 * i + 2) ∧ d < h ∧ ∀ c, c = 2 * i + 1 ∨ c = 2 * i + 2 → c < h → gd m (f + c) ≤ gd m (f + d)) ?_ ?_
    · skip
      refine c_seq <| cQ <| qM rfl <| qX (e_addn rfl rfl (by simp only [inR]; omega)) <| qM rfl <| qX (e_lss rfl rfl) <| qM rfl ?_
      refine q_splitp 21 rfl (fun h3 => ?_) (fun h3 => ?_)
      · refine qM rfl <| qM rfl <| qM rfl <| qX (e_addn rfl rfl (by simp only [inR]; omega)) <| qX (e_ia runUnderlying472 sizeOf212 rfl rfl (by omega) (by omega)) <| qX (e_ld isAgg212 rfl (.inl M0) (by omega)) <| qM rfl <| qM rfl <| qM rfl <| qX (e_addn rfl rfl (by simp only [inR]; omega)) <| qX (e_addn rfl rfl (by simp only [inR]; omega)) <| qX (e_ia runUnderlying472 sizeOf212 rfl rfl (by omega) (by omega)) <| qX (e_ld isAgg212 rfl (.inl M0) (by omega)) <| q_pure rfl call376 (less_is) rfl rfl <| qX (e_pick_t rfl rfl) <| qN ?_
        refine c_if rfl (fun h4 => ?_) (fun h4 => ?_)
        · have h4' := of_decide_eq_true h4
          refine c_region <| oM rfl <| oX (e_addn rfl rfl (by simp only [inR]; omega)) <| oA rfl <| o_nil ?_
          refine n_cut (2 * i + 2) ⟨.inr rfl, by omega, fun c h5 h6 => ?_⟩ (sub_cons rfl (sub_cons rfl (sub_cons rfl (sub_cons rfl (sub_cons rfl sub_nil))))) (.refl _)
          rcases h5 with rfl | rfl
          · rw [← Nat.add_assoc f]; exact Int.le_of_lt h4'
          · exact Int.le_refl _
        · have h4' := of_decide_eq_false h4
          refine c_skip ?_
          refine n_cut (2 * i + 1) ⟨.inl rfl, by omega, fun c h5 h6 => ?_⟩ (sub_cons rfl (sub_cons rfl (sub_cons rfl (sub_cons rfl (sub_cons rfl sub_nil))))) (.refl _)
          rcases h5 with rfl | rfl
          · exact Int.le_refl _
          · exact Int.not_lt.1 h4'
      · skip
        refine qS <| qS <| qS <| qS <| qS <| qS <| qS <| qS <| qS <| qS <| qS <| qS <| qS <| qS <| qX (e_pick_f rfl rfl) <| qN <| c_else rfl <| c_skip ?_
        refine n_cut (2 * i + 1) ⟨.inl rfl, by omega, fun c h5 h6 => ?_⟩ (sub_cons rfl (sub_cons rfl (sub_cons rfl (sub_cons rfl (sub_cons rfl sub_nil))))) (.refl _)
        rcases h5 with rfl | rfl
        · exact Int.le_refl _
        · omega
    · rintro d ⟨hd, hdh, hmax⟩
      refine n_code <| c_seq <| c_seq <| cQ <| qM rfl <| qM rfl <| qM rfl <| qX (e_addN rfl rfl (by omega)) <| qX (e_ian runUnderlying472 sizeOf212 rfl rfl (by omega)) <| qX (e_ld isAgg212 rfl (.inl M0) (by omega)) <| qM rfl <| qM rfl <| qM rfl <| qX (e_addN rfl rfl (by omega)) <| qX (e_ian runUnderlying472 sizeOf212 rfl rfl (by omega)) <| qX (e_ld isAgg212 rfl (.inl M0) (by omega)) <| q_pure rfl call376 (less_is) rfl rfl <| qX (e_not rfl) <| qN ?_
      refine c_if rfl (fun h5 => ?_) (fun h5 => ?_)
      · have h5' : ¬ gd m (f + i) < gd m (f + d) := by simpa using h5
        refine c_ret ?_
        refine r_fn0 results381 ?_
        exact ⟨rfl, m, ⟨hm, hq.stop fun c h6 h7 => Int.le_trans (hmax c h6 h7) (Int.not_lt.1 h5')⟩, rfl⟩
      · skip
        have h5' : gd m (f + i) < gd m (f + d) := by simpa using h5
        refine c_skip <| n_code <| c_seq <| c_regiong [21, 23] (by kernel_rfl) <| gM 0 rfl (e_move rfl) <| gM 1 rfl (e_move rfl) <| gM 2 rfl (e_move rfl) <| gM 3 rfl (e_addN rfl rfl (by omega)) <| gM 4 rfl (e_move rfl) <| gM 5 rfl (e_move rfl) <| gM 6 rfl (e_move rfl) <| gM 7 rfl (e_addN rfl rfl (by omega)) <| gM 8 rfl (e_move rfl) <| gM 9 rfl (e_move rfl) <| gM 10 rfl (e_move rfl) <| gM 11 rfl (e_addN rfl rfl (by omega)) <| gM 12 rfl (e_ian runUnderlying472 sizeOf212 rfl rfl (by omega)) <| gE 13 rfl (e_ld isAgg212 rfl (.inl M0) (by omega)) <| gM 14 rfl (e_move rfl) <| gM 15 rfl (e_move rfl) ?_
        refine gM 16 rfl (e_move rfl) <| gM 17 rfl (e_addN rfl rfl (by omega)) <| gM 18 rfl (e_ian runUnderlying472 sizeOf212 rfl rfl (by omega)) <| gE 19 rfl (e_ld isAgg212 rfl (.inl M0) (by omega)) <| gM 20 rfl (e_ian runUnderlying472 sizeOf212 rfl rfl (by omega)) ?_
        refine g_l 21 (by kernel_rfl) rfl rfl rfl (l_st sizeOf212 rfl rfl .head (by omega) (by omega)) ?_
        intro _ _
        refine dX 22 rfl (e_ian runUnderlying472 sizeOf212 rfl rfl (by omega)) ?_
        refine d_l 23 (by kernel_rfl) rfl rfl (l_st sizeOf212 rfl rfl .head (by simp only [List.length_set]; omega) (by simp only [List.length_set]; omega)) (fun _ _ => hs_nil) ?_
        intro _ _
        refine dN <| n_code <| c_region <| oM rfl <| oA rfl <| o_nil <| n_block ?_
        refine n_round' (y := (m, i)) (swp m (f + i) (f + d), d) (by show 2 * h - d < 2 * h - i; omega) ?_ (sub_cons rfl (sub_cons rfl (sub_cons rfl (sub_cons rfl sub_nil)))) _ (.refl _) (List.Sublist.refl _)
        exact ⟨hm.swap (by omega) (by omega) (by omega) (by omega) (by omega), hq.step hd hdh (by omega) hmax h5', .inr hdh⟩
theorem heap_is {a b : Nat} (hn : l.length = n) (hf : n ≤ lo ∨ hi = 0) (h1 : n ≤ 100000) (hab : a < b) (hb : b ≤ n) :
    Ctr Tryz.prog 371 [.slice (some ⟨g, 0, none⟩) n cap, .int .i64 a, .int .i64 b] G [(g, VB .u32 l rest 212 lo hi)] (fun r H' => r = .tuple #[] ∧ ∃ l', (PR a b l l' ∧ SR a b l') ∧ H' = [(g, VB .u32 l' rest 212 lo hi)]) := by
  obtain ⟨h, rfl⟩ : ∃ h, b = a + h := ⟨b - a, by omega⟩
  refine fn_enter 56 func371 rfl ntmps371 rfl ?_
  intro w0
  refine cR <| oM rfl <| oA rfl <| oN <| cR <| oA rfl <| oN <| cR <| oM rfl <| oM rfl <| oX (e_subN rfl rfl (by omega)) <| oA rfl <| oN <| c_seq <| cR <| oM rfl <| oX (e_sub1 rfl rfl (by omega)) <| oX (e_quon rfl rfl (by omega) (by omega) (by simp only [inR]; omega)) <| oA rfl <| oN <| c_block ?_
  simp only [Nat.add_sub_cancel_left]
  refine c_loop (X := List Int × Int) (fun y => [(0, .slice (some ⟨g, 0, none⟩) n cap), (6, .int .i64 a), (7, .int .i64 (0 : Nat)), (8, .int .i64 h), (9, .int .i64 y.2)]) (fun y => [(g, VB .u32 y.1 rest 212 lo hi)]) (fun y => PR a (a + h) l y.1 ∧ -1 ≤ y.2 ∧ y.2 < h ∧ Hp a (y.2 + 1).toNat h y.1) (fun y => (y.2 + 1).toNat) (l, ((h - 1 : Nat) : Int) / 2) ⟨.refl, by omega, by omega, .none (by omega)⟩ (sub_cons rfl (sub_cons rfl (sub_cons rfl (sub_cons rfl (sub_cons rfl sub_nil))))) (.refl _) ?_
  rintro ⟨m, i⟩ ⟨hm, hi0, hi1, hp⟩
  simp only at hm hi0 hi1 hp ⊢
  have hl := hm.len
  refine c_seq <| cR <| oM rfl <| oX (e_geq rfl rfl) <| oN ?_
  refine c_ifp rfl (fun h2 => ?_) (fun h2 => ?_)
  · obtain ⟨k, rfl⟩ := Int.eq_ofNat_of_zero_le h2
    refine c_skip <| n_code <| c_seq <| c_block <| c_region <| oM rfl <| oM rfl <| oM rfl <| oM rfl ?_
    refine o_l rfl (l_call call381 (sift_is (f := a) (s := k) (h := h) (hl.trans hn) hf h1 hb (by omega) hp) rfl rfl (.cons .head .nil)) ?_
    rintro ⟨r, H'⟩ ⟨rfl, m', ⟨hp1, hp2⟩, rfl⟩
    simp only [List.cons_append, List.nil_append]
    refine o_nil <| n_block <| n_code <| c_region <| oM rfl <| oX (e_subn rfl rfl (by simp only [inR]; omega)) <| oA rfl <| o_nil ?_
    refine n_round' (y := (m, (k : Int))) (m', (k : Int) - 1) (by show ((k : Int) - 1 + 1).toNat < ((k : Int) + 1).toNat; omega) ?_ (sub_cons rfl (sub_cons rfl (sub_cons rfl (sub_cons rfl (sub_cons rfl sub_nil))))) _ (.refl _) (List.Sublist.refl _)
    refine ⟨hm.trans (hp1.mono (by omega) (Nat.le_refl _) (by omega)), by show -1 ≤ (k : Int) - 1; omega, by show (k : Int) - 1 < h; omega, ?_⟩
    show Hp a ((k : Int) - 1 + 1).toNat h m'
    rw [show ((k : Int) - 1 + 1).toNat = k by omega]
    exact hp2
  · skip
    have hp0 : Hp a 0 h m := by rw [show (i + 1).toNat = 0 by omega] at hp; exact hp
    refine c_exit ?_; refine x_code ?_; refine x_upto ?_; refine x_here ?_
    refine n_code <| cR <| oM rfl <| oX (e_sub1 rfl rfl (by omega)) <| oA rfl <| oN <| c_block ?_
    refine c_loop (X := List Int × Int) (fun y => [(0, .slice (some ⟨g, 0, none⟩) n cap), (6, .int .i64 a), (7, .int .i64 (0 : Nat)), (10, .int .i64 y.2)]) (fun y => [(g, VB .u32 y.1 rest 212 lo hi)]) (fun y => PR a (a + h) l y.1 ∧ -1 ≤ y.2 ∧ y.2 < h ∧ Pop a (y.2 + 1).toNat h y.1) (fun y => (y.2 + 1).toNat) (m, ((h - 1 : Nat) : Int)) ⟨hm, by omega, by omega, by show Pop a (((h - 1 : Nat) : Int) + 1).toNat h m; rw [show (((h - 1 : Nat) : Int) + 1).toNat = h by omega]; exact .start hp0⟩ (sub_cons rfl (sub_cons rfl (sub_cons rfl (sub_cons rfl sub_nil)))) (.refl _) ?_
    clear hm hi0 hi1 hp hl hp0 h2
    rintro ⟨m, i⟩ ⟨hm, hi0, hi1, hp⟩
    simp only at hm hi0 hi1 hp ⊢
    have hl := hm.len
    refine c_seq <| cR <| oM rfl <| oX (e_geq rfl rfl) <| oN ?_
    refine c_ifp rfl (fun h2 => ?_) (fun h2 => ?_)
    · obtain ⟨k, rfl⟩ := Int.eq_ofNat_of_zero_le h2
      rw [show ((k : Int) + 1).toNat = k + 1 by omega] at hp
      refine c_skip <| n_code <| c_seq <| c_block <| c_seq <| c_regiong [17, 19] (by kernel_rfl) <| gM 0 rfl (e_move rfl) <| gM 1 rfl (e_move rfl) <| gM 2 rfl (e_move rfl) <| gM 3 rfl (e_move rfl) <| gM 4 rfl (e_move rfl) <| gM 5 rfl (e_addN rfl rfl (by omega)) <| gM 6 rfl (e_move rfl) <| gM 7 rfl (e_move rfl) <| gM 8 rfl (e_move rfl) <| gM 9 rfl (e_addN rfl rfl (by omega)) <| gM 10 rfl (e_ian runUnderlying472 sizeOf212 rfl rfl (by omega)) <| gE 11 rfl (e_ld isAgg212 rfl (.inl M0) (by omega)) <| gM 12 rfl (e_move rfl) <| gM 13 rfl (e_move rfl) ?_
      refine gM 14 rfl (e_ian runUnderlying472 sizeOf212 rfl rfl (by omega)) <| gE 15 rfl (e_ld isAgg212 rfl (.inl M0) (by omega)) <| gM 16 rfl (e_ian runUnderlying472 sizeOf212 rfl rfl (by omega)) ?_
      refine g_l 17 (by kernel_rfl) rfl rfl rfl (l_st sizeOf212 rfl rfl .head (by omega) (by omega)) ?_
      intro _ _
      refine dX 18 rfl (e_ian runUnderlying472 sizeOf212 rfl rfl (by omega)) ?_
      refine d_l 19 (by kernel_rfl) rfl rfl (l_st sizeOf212 rfl rfl .head (by simp only [List.length_set]; omega) (by simp only [List.length_set]; omega)) (fun _ _ => hs_nil) ?_
      intro _ _
      refine dN <| n_code <| c_region <| oM rfl <| oM rfl <| oM rfl <| oM rfl ?_
      have hp1 := hp.swap (by omega) (by omega)
      trace_state
      refine o_l rfl (l_call call381 (sift_is (f := a) (s := 0) (h := k) (l := swp m a (a + k)) (by rw [swp_length]; omega) hf h1 (by omega) (Nat.zero_le _) hp1.heap) rfl rfl (.cons .head .nil)) ?_
      rintro ⟨r, H'⟩ ⟨rfl, m', ⟨hp2, hp3⟩, rfl⟩
      simp only [List.cons_append, List.nil_append]
      refine o_nil <| n_block <| n_code <| c_region <| oM rfl <| oX (e_subn rfl rfl (by simp only [inR]; omega)) <| oA rfl <| o_nil ?_
      have hsw : PR a (a + h) m (swp m a (a + k)) := .one (by omega) (by omega) (by omega) (by omega) (by omega)
      refine n_round' (y := (m, (k : Int))) (m', (k : Int) - 1) (by show ((k : Int) - 1 + 1).toNat < ((k : Int) + 1).toNat; omega) ?_ (sub_cons rfl (sub_cons rfl (sub_cons rfl (sub_cons rfl sub_nil)))) _ (.refl _) (List.Sublist.refl _)
      refine ⟨(hm.trans hsw).trans (hp2.mono (by omega) (by omega) (by rw [swp_length]; omega)), by show -1 ≤ (k : Int) - 1; omega, by show (k : Int) - 1 < h; omega, ?_⟩
      show Pop a ((k : Int) - 1 + 1).toNat h m'
      rw [show ((k : Int) - 1 + 1).toNat = k by omega]
      exact hp1.sift hp2 hp3
    · skip
      refine c_exit ?_; refine x_code ?_; refine x_upto ?_; refine x_here ?_
      refine n_fn0 results371 ?_
      rw [show (i + 1).toNat = 0 by omega] at hp
      exact ⟨rfl, m, ⟨hm, hp.done⟩, rfl⟩
end
end Go.Proofs.A4
namespace Go.Proofs.A4
open Go Go.Sl Tryz
set_option maxRecDepth 100000
set_option maxHeartbeats 1000000
section
variable {G : HP} {g n cap lo hi gz u v : Nat} {rest : List Value} {l : List Int} {z : Int}
theorem ord_is {a b : Nat} (hn : l.length = n) (h1 : n ≤ 100000) (ha : u ≤ a ∧ a < v) (hb : u ≤ b ∧ b < v) (hv : v ≤ n) :
    Ctr Tryz.prog 385 [.slice (some ⟨g, 0, none⟩) n cap, .int .i64 a, .int .i64 b, .pointer (some ⟨gz, 0, none⟩)] G [(g, VB .u32 l rest 212 lo hi), (gz, C [.int .i64 z] 3)] (fun r H' => ∃ (x y : Nat) (z' : Int), r = .tuple #[.int .i64 x, .int .i64 y] ∧ (u ≤ x ∧ x < v) ∧ (u ≤ y ∧ y < v) ∧ H' = [(g, VB .u32 l rest 212 lo hi), (gz, C [.int .i64 z'] 3)]) := by
  refine fn_enter 28 func385 rfl ntmps385 rfl ?_
  intro w0
  refine cR <| oA rfl <| oA rfl <| oN <| c_seq <| c_seq <| cQ <| qM rfl <| qM rfl <| qX (e_ian runUnderlying472 sizeOf212 rfl rfl (by omega)) <| qX (e_ld isAgg212 rfl (.inl M0) (by omega)) <| qM rfl <| qM rfl <| qX (e_ian runUnderlying472 sizeOf212 rfl rfl (by omega)) <| qX (e_ld isAgg212 rfl (.inl M0) (by omega)) <| q_pure rfl call376 (less_is) rfl rfl <| qN ?_
  refine c_if rfl (fun h2 => ?_) (fun h2 => ?_)
  · refine cR <| oM rfl <| oC rfl ?_
    refine oX (e_load isAgg3 rfl (by first | exact .inr (by assumption) | exact .inl (by repeat (first | exact List.Mem.head _ | refine List.Mem.tail _ ?_))) rfl) ?_
    refine oX (e_add rfl rfl) <| oC rfl ?_
    refine o_l rfl (l_store sizeOf3 rfl rfl rfl (.tail .head) .head (by omega)) ?_
    intro _ _
    refine oN <| cR <| oM rfl <| oM rfl <| oA rfl <| oA rfl <| oN <| c_ret ?_
    refine r_fn (l := [.tmp 8, .tmp 9]) results385 rfl rfl ?_
    exact ⟨b, a, _, rfl, hb, ha, rfl⟩
  · skip
    refine c_skip <| n_code <| cR <| oM rfl <| oM rfl <| oA rfl <| oA rfl <| oN <| c_ret ?_
    refine r_fn (l := [.tmp 8, .tmp 9]) results385 rfl rfl ?_
    exact ⟨a, b, _, rfl, ha, hb, rfl⟩
theorem med_is {a b c : Nat} (hn : l.length = n) (h1 : n ≤ 100000) (ha : u ≤ a ∧ a < v) (hb : u ≤ b ∧ b < v) (hc : u ≤ c ∧ c < v) (hv : v ≤ n) :
    Ctr Tryz.prog 383 [.slice (some ⟨g, 0, none⟩) n cap, .int .i64 a, .int .i64 b, .int .i64 c, .pointer (some ⟨gz, 0, none⟩)] G [(g, VB .u32 l rest 212 lo hi), (gz, C [.int .i64 z] 3)] (fun r H' => ∃ (x : Nat) (z' : Int), r = .int .i64 x ∧ (u ≤ x ∧ x < v) ∧ H' = [(g, VB .u32 l rest 212 lo hi), (gz, C [.int .i64 z'] 3)]) := by
  refine fn_enter 36 func383 rfl ntmps383 rfl ?_
  intro w0
  refine cR <| oA rfl <| oN <| cR <| oM rfl <| oM rfl <| oM rfl <| oM rfl ?_
  refine o_l rfl (l_call call385 (ord_is hn h1 ha hb hv) rfl rfl (.cons .head (.cons .head .nil))) ?_
  rintro ⟨r, H'⟩ ⟨x0, y0, z0, rfl, hx0, hy0, rfl⟩
  simp only [List.cons_append, List.nil_append]
  refine oM rfl <| oX (e_extract rfl rfl) <| oX (e_extract rfl rfl) <| oA rfl <| oA rfl <| oN <| cR <| oM rfl <| oM rfl <| oM rfl <| oM rfl ?_
  refine o_l rfl (l_call call385 (ord_is hn h1 hy0 hc hv) rfl rfl (.cons .head (.cons .head .nil))) ?_
  rintro ⟨r, H'⟩ ⟨x1, y1, z1, rfl, hx1, hy1, rfl⟩
  simp only [List.cons_append, List.nil_append]
  refine oM rfl <| oX (e_extract rfl rfl) <| oX (e_extract rfl rfl) <| oA rfl <| oA rfl <| oN <| cR <| oM rfl <| oM rfl <| oM rfl <| oM rfl ?_
  refine o_l rfl (l_call call385 (ord_is hn h1 hx0 hx1 hv) rfl rfl (.cons .head (.cons .head .nil))) ?_
  rintro ⟨r, H'⟩ ⟨x2, y2, z2, rfl, hx2, hy2, rfl⟩
  simp only [List.cons_append, List.nil_append]
  refine oM rfl <| oX (e_extract rfl rfl) <| oX (e_extract rfl rfl) <| oA rfl <| oA rfl <| oN <| cR <| oM rfl <| oA rfl <| oN <| c_ret ?_
  refine r_fn1 results383 rfl ?_
  exact ⟨_, _, rfl, hy2, rfl⟩
theorem adj_is {a : Nat} (hn : l.length = n) (h1 : n ≤ 100000) (ha : u + 1 ≤ a ∧ a + 1 < v) (hv : v ≤ n) :
    Ctr Tryz.prog 382 [.slice (some ⟨g, 0, none⟩) n cap, .int .i64 a, .pointer (some ⟨gz, 0, none⟩)] G [(g, VB .u32 l rest 212 lo hi), (gz, C [.int .i64 z] 3)] (fun r H' => ∃ (x : Nat) (z' : Int), r = .int .i64 x ∧ (u ≤ x ∧ x < v) ∧ H' = [(g, VB .u32 l rest 212 lo hi), (gz, C [.int .i64 z'] 3)]) := by
  obtain ⟨a, rfl⟩ : ∃ a', a = a' + 1 := ⟨a - 1, by omega⟩
  refine fn_enter 15 func382 rfl ntmps382 rfl ?_
  intro w0
  refine cR <| oA rfl <| oN <| cR <| oM rfl <| oM rfl <| oX (e_pred rfl rfl (by omega)) <| oM rfl <| oM rfl <| oX (e_addn rfl rfl (by simp only [inR]; omega)) <| oM rfl ?_
  refine o_l rfl (l_call call383 (med_is (a := a) (b := a + 1) (c := a + 2) (u := u) (v := v) hn h1 (by omega) (by omega) (by omega) hv) rfl rfl (.cons .head (.cons .head .nil))) ?_
  rintro ⟨r, H'⟩ ⟨x, z', rfl, hx, rfl⟩
  simp only [List.cons_append, List.nil_append]
  refine oA rfl <| oN <| c_ret ?_
  refine r_fn1 results382 rfl ?_
  exact ⟨_, _, rfl, hx, rfl⟩
theorem piv_is {a b : Nat} (hn : l.length = n) (h1 : n ≤ 100000) (hab : a + 8 ≤ b) (hb : b ≤ n) :
    Ctr Tryz.prog 373 [.slice (some ⟨g, 0, none⟩) n cap, .int .i64 a, .int .i64 b] G [(g, VB .u32 l rest 212 lo hi)] (fun r H' => ∃ (x : Nat) (z' : Int), r = .tuple #[.int .i64 x, .int .i64 z'] ∧ (a ≤ x ∧ x < b) ∧ H' = [(g, VB .u32 l rest 212 lo hi)]) := by
  obtain ⟨h, rfl⟩ : ∃ h, b = a + h := ⟨b - a, by omega⟩
  refine fn_enter 57 func373 rfl ntmps373 rfl ?_
  intro w0
  refine cR <| oA rfl <| oA rfl <| oN <| cR <| oM rfl <| oM rfl <| oX (e_subN rfl rfl (by omega)) <| oA rfl <| oN <| cR ?_
  refine o_l rfl (l_alloc zeroValue3 rfl rfl) ?_; intro g9 _
  refine oN <| cR <| oM rfl <| oM rfl <| oX (e_quon rfl rfl (by omega) (by omega) (by simp only [inR]; omega)) <| oX (e_muln rfl rfl (by simp only [inR]; omega)) <| oX (e_addn rfl rfl (by simp only [inR]; omega)) <| oA rfl <| oN <| cR <| oM rfl <| oM rfl <| oX (e_quon rfl rfl (by omega) (by omega) (by simp only [inR]; omega)) <| oX (e_muln rfl rfl (by simp only [inR]; omega)) <| oX (e_addn rfl rfl (by simp only [inR]; omega)) <| oA rfl <| oN <| cR <| oM rfl <| oM rfl ?_
  refine oX (e_quon rfl rfl (by omega) (by omega) (by simp only [inR]; omega)) <| oX (e_muln rfl rfl (by simp only [inR]; omega)) <| oX (e_addn rfl rfl (by simp only [inR]; omega)) <| oA rfl <| oN <| c_seq <| cR <| oM rfl <| oX (e_geq rfl rfl) <| oN ?_
  have e1 : (a : Int) + ((a + h - a : Nat) : Int) / 4 * 1 = ((a + h / 4 : Nat) : Int) := by omega
  have e2 : (a : Int) + ((a + h - a : Nat) : Int) / 4 * 2 = ((a + h / 4 * 2 : Nat) : Int) := by omega
  have e3 : (a : Int) + ((a + h - a : Nat) : Int) / 4 * 3 = ((a + h / 4 * 3 : Nat) : Int) := by omega
  rw [e1, e2, e3]
  refine c_ifp rfl (fun h2 => ?_) (fun h2 => ?_)
  · refine c_cut (X := Nat × Int) (fun y => [(11, .int .i64 y.1), (9, .pointer (some ⟨g9, 0, none⟩))]) (fun y => [(g, VB .u32 l rest 212 lo hi), (g9, C [.int .i64 y.2] 3)]) (fun y => a ≤ y.1 ∧ y.1 < a + h) ?_ ?_
    · skip
      refine c_seq ?_
      refine c_cut (X := Nat × Nat × Nat × Int) (fun y => [(0, .slice (some ⟨g, 0, none⟩) n cap), (9, .pointer (some ⟨g9, 0, none⟩)), (10, .int .i64 y.1), (11, .int .i64 y.2.1), (12, .int .i64 y.2.2.1)]) (fun y => [(g, VB .u32 l rest 212 lo hi), (g9, C [.int .i64 y.2.2.2] 3)]) (fun y => (a ≤ y.1 ∧ y.1 < a + h) ∧ (a ≤ y.2.1 ∧ y.2.1 < a + h) ∧ (a ≤ y.2.2.1 ∧ y.2.2.1 < a + h)) ?_ ?_
      · skip
        refine cR <| oM rfl <| oX (e_geq rfl rfl) <| oN ?_
        refine c_ifp rfl (fun h3 => ?_) (fun h3 => ?_)
        · refine cR <| oM rfl <| oM rfl ?_
          refine o_l rfl (l_call call382 (adj_is (u := a) (v := a + h) hn h1 (by omega) hb) rfl rfl (.cons (.tail .head) (.cons .head .nil))) ?_
          rintro ⟨r, H'⟩ ⟨x1, z1, rfl, hx1, rfl⟩
          simp only [List.cons_append, List.nil_append]
          refine oA rfl <| oN <| cR <| oM rfl <| oM rfl ?_
          refine o_l rfl (l_call call382 (adj_is (u := a) (v := a + h) hn h1 (by omega) hb) rfl rfl (.cons .head (.cons .head .nil))) ?_
          rintro ⟨r, H'⟩ ⟨x2, z2, rfl, hx2, rfl⟩
          simp only [List.cons_append, List.nil_append]
          refine oA rfl <| oN <| c_region <| oM rfl <| oM rfl ?_
          refine o_l rfl (l_call call382 (adj_is (u := a) (v := a + h) hn h1 (by omega) hb) rfl rfl (.cons .head (.cons .head .nil))) ?_
          rintro ⟨r, H'⟩ ⟨x3, z3, rfl, hx3, rfl⟩
          simp only [List.cons_append, List.nil_append]
          refine oA rfl <| o_nil ?_
          exact n_cut (x1, x2, x3, z3) ⟨hx1, hx2, hx3⟩ (sub_cons rfl (sub_cons rfl (sub_cons rfl (sub_cons rfl (sub_cons rfl sub_nil))))) (.refl _)
        · skip
          refine c_skip ?_
          exact n_cut (a + h / 4, a + h / 4 * 2, a + h / 4 * 3, 0) ⟨by show a ≤ a + h / 4 ∧ a + h / 4 < a + h; omega, by show a ≤ a + h / 4 * 2 ∧ a + h / 4 * 2 < a + h; omega, by show a ≤ a + h / 4 * 3 ∧ a + h / 4 * 3 < a + h; omega⟩ (sub_cons rfl (sub_cons rfl (sub_cons rfl (sub_cons rfl (sub_cons rfl sub_nil))))) (List.Perm.swap _ _ _)
      · rintro ⟨x1, x2, x3, z3⟩ ⟨hx1, hx2, hx3⟩
        simp only at hx1 hx2 hx3 ⊢
        refine n_code <| c_region <| oM rfl <| oM rfl <| oM rfl <| oM rfl ?_
        refine o_l rfl (l_call call383 (med_is (u := a) (v := a + h) hn h1 hx1 hx2 hx3 hb) rfl rfl (.cons .head (.cons .head .nil))) ?_
        rintro ⟨r, H'⟩ ⟨x4, z4, rfl, hx4, rfl⟩
        simp only [List.cons_append, List.nil_append]
        refine oA rfl <| o_nil ?_
        exact n_cut (x4, z4) hx4 (sub_cons rfl (sub_cons rfl sub_nil)) (.refl _)
    · rintro ⟨x4, z4⟩ hx4
      simp only at hx4 ⊢
      refine n_code <| cR ?_
      refine oX (e_load isAgg3 rfl (by first | exact .inr (by assumption) | exact .inl (by repeat (first | exact List.Mem.head _ | refine List.Mem.tail _ ?_))) rfl) ?_
      refine oN <| c_block <| cR <| oX (e_eql rfl rfl) <| oA rfl <| oN ?_
      refine c_if rfl (fun h5 => ?_) (fun h5 => ?_)
      · refine cR <| oM rfl <| oA rfl <| oA rfl <| oN <| c_ret ?_
        refine WR.sel (.cons .head .nil) ?_
        refine r_fn (l := [.tmp 6, .tmp 7]) results373 rfl rfl ?_
        exact ⟨_, _, rfl, hx4, rfl⟩
      · skip
        refine cR <| oX (e_eql rfl rfl) <| oA rfl <| oN ?_
        refine c_if rfl (fun h6 => ?_) (fun h6 => ?_)
        · refine cR <| oM rfl <| oA rfl <| oA rfl <| oN <| c_ret ?_
          refine WR.sel (.cons .head .nil) ?_
          refine r_fn (l := [.tmp 6, .tmp 7]) results373 rfl rfl ?_
          exact ⟨_, _, rfl, hx4, rfl⟩
        · skip
          refine cR <| oM rfl <| oA rfl <| oA rfl <| oN <| c_ret ?_
          refine WR.sel (.cons .head .nil) ?_
          refine r_fn (l := [.tmp 6, .tmp 7]) results373 rfl rfl ?_
          exact ⟨_, _, rfl, hx4, rfl⟩
  · exact absurd h2 (by omega)
end
end Go.Proofs.A4

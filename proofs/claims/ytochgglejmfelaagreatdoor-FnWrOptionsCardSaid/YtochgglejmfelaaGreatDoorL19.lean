/- The records that are made of a file of version 1; Records loaded into parts; Records in groups by their hash functions: the plain law; Records loaded by their hash functions. (A part of the proof of this: for every input laws.FnWrOptions returns true and its arguments read as they did, the listed package variables being what the program lays) -/
import Derived.Test.YtochgglejmfelaaGreatDoorLSlZ
import Derived.Test.YtochgglejmfelaaGreatDoorL18
import Derived.Test.YtochgglejmfelaaGreatDoorL16
import Derived.Test.YtochgglejmfelaaGreatDoorL17
import Derived.Test.YtochgglejmfelaaGreatDoorL04
import Derived.Test.YtochgglejmfelaaGreatDoorL09
set_option linter.unusedVariables false
set_option linter.unusedSimpArgs false
namespace Go.Proofs
open Go Go.Sl Tryz
set_option maxRecDepth 100000
set_option maxHeartbeats 1000000
/-- A block: its identifier, its data; a section's bytes. -/
abbrev Blk := En × List UInt8
def secB (b : Blk) : List UInt8 := uv ((cidB b.1).length + b.2.length) ++ (cidB b.1 ++ b.2)
/-- The entries of sections that begin at p. -/
def genE : Nat → List Blk → List En
  | _, [] => []
  | p, b :: bs => { b.1 with o := (p : Nat) } :: genE (p + (secB b).length) bs
theorem genE_snoc : ∀ (p : Nat) (l : List Blk) (b : Blk), genE p (l ++ [b]) = genE p l ++ [{ b.1 with o := ((p + (l.flatMap secB).length : Nat) : Int) }]
  | p, [], b => by simp [genE]
  | p, a :: l, b => by
    simp only [List.cons_append, genE, List.flatMap_cons, List.length_append]
    rw [genE_snoc, Nat.add_assoc]
def keepE (ib : Bool) (l : List En) : List En := l.filter fun x => ib || decide (x.h ≠ 0)
theorem keepE_snoc (ib : Bool) (l : List En) (x : En) : keepE ib (l ++ [x]) = keepE ib l ++ (if (ib || decide (x.h ≠ 0)) = true then [x] else []) := by
  simp only [keepE, List.filter_append, List.filter_cons, List.filter_nil]
/-- A record's cells. -/
def recV (x : En) : List Value := [S (cidB x), .int .u64 x.o]
theorem sflat_split {l : List Blk} {i : Nat} (h : i < l.length) : l.flatMap secB = (l.take i).flatMap secB ++ (secB l[i] ++ (l.drop (i + 1)).flatMap secB) := by
  have e : l = l.take i ++ (l[i] :: l.drop (i + 1)) := by simp
  conv => lhs; rw [e]
  rw [List.flatMap_append, List.flatMap_cons]
theorem sflat_succ {l : List Blk} {i : Nat} (h : i < l.length) : (l.take (i + 1)).flatMap secB = (l.take i).flatMap secB ++ secB l[i] := by
  rw [List.take_succ_eq_append_getElem h, List.flatMap_append]; simp
theorem genE_len : ∀ (p : Nat) (l : List Blk), (genE p l).length = l.length
  | _, [] => rfl
  | p, b :: l => by simp [genE, genE_len]
/-- An index that is loaded with records. -/
structure LdI (G : HP) (tv : TypeId) (v : Value) (HI : HP) (recs : List En) (R : HP → Prop) where
  f : FuncId
  rv : Value
  hf : ∀ az w, (callFunc f az).run prog w = .ok (.enter f az) w
  hm : ∀ w, (method (prog.types.size + Made.depth) tv v "Load").run prog w = .ok (f, rv) w
  hc : ∀ s HRec, Osl 184 2 s recs.length (recs.flatMap recV) HRec → Ctr prog f [rv, s] G (HRec ++ HI) (fun r H' => r = .nilIface ∧ R H')
section
variable {G HI : HP} {gr gs n cap i d lo hi p0 : Nat} {bs : List UInt8} {rest : List Value} {xs : List En} {blks : List Blk} {gE : Addr} {t3 : List Value} {e3 : TypeId} {f3 : Nat × Nat} {tv : TypeId} {v vo : Value} {b0 ib b2 b3 b4 b5 : Bool} {a6 a7 cd : Int} {R : HP → Prop}
theorem seekD_is (h63 : i + d < 9223372036854775808) :
    Ctr prog 290 [.pointer (some ⟨gr, 0, none⟩), .int .i64 d, .int .i64 1] G [(gr, RB gs n cap i)] (fun r H' => r = .tuple #[.int .i64 (i + d : Nat), .nilIface] ∧ H' = [(gr, RB gs n cap (i + d))]) := by
  refine fn_enter 42 func290 rfl ntmps290 rfl ?_
  intro w0
  refine gn 11 ?_
  refine oT ?_; intro _ _
  refine gn 46 ?_
  refine c_ifp rfl (fun h => absurd h (by omega)) (fun _ => ?_)
  refine gn 8 ?_
  refine oT ?_; intro _ _
  refine gn 10 ?_
  refine r_fn (l := [.tmp 6, .tmp 7]) results290 rfl rfl ?_
  exact ⟨rfl, rfl⟩
end
end Go.Proofs
namespace Go.Proofs
open Go Go.Sl Tryz
set_option maxRecDepth 100000
set_option maxHeartbeats 1000000
theorem GB_nil : GB [] = [] := rfl
theorem nodup_get {α : Type} {l : List α} (h : l.Nodup) {i j : Nat} (hi : i < l.length) (hj : j < l.length) (e : l[i] = l[j]) : i = j := by
  rw [List.Nodup, List.pairwise_iff_getElem] at h
  rcases Nat.lt_trichotomy i j with h1 | h1 | h1
  · exact absurd e (h i j hi hj h1)
  · exact h1
  · exact absurd e.symm (h j i hj hi h1)
theorem rcC_one {K : HP} {r : Rc} {d : List UInt8} (h : BS K r.2 d) : ∀ v ∈ rcC r, v.oneCell' = true := by
  intro v hv
  rcases List.mem_cons.1 hv with rfl | hv
  · exact h.one
  · rcases List.mem_singleton.1 hv with rfl; rfl
theorem once_of {es : List En} (hd : (es.map (·.d)).Nodup) {a b : En} (ha : a ∈ es) (hb : b ∈ es) (e : a.d = b.d) : a = b := by
  obtain ⟨i, hi, rfl⟩ := List.mem_iff_getElem.1 ha
  obtain ⟨j, hj, rfl⟩ := List.mem_iff_getElem.1 hb
  have := nodup_get hd (i := i) (j := j) (by simpa using hi) (by simpa using hj) (by simpa using e)
  subst this
  rfl
/-- Rows sorted strictly are those of the stable order. -/
theorem sorted_rows {es : List En} {l : List Rc} {w : Nat} (hd : (es.map (·.d)).Nodup) (hl : (l.map (·.1)).Perm (es.filter fun x => decide (x.d.length = w))) (hs : l.Pairwise fun a b => Op.bytesLess a.1.d b.1.d = true) : rws (l.map (·.1)) = rowsB (stable es) (w : Nat) := by
  have e1 : l.map (·.1) = (stable es).filter fun x => decide (x.d.length = w) := by
    refine List.Perm.eq_of_pairwise (le := fun x y : En => Op.bytesLess y.d x.d = false) ?_ ?_ ((stable_asc es).filter _) (hl.trans ((stable_permQ es).symm.filter _))
    · intro a b ha hb h1 h2
      have h3 := bl_tri _ _ h2 h1
      have ha' := (List.mem_filter.1 (hl.subset ha)).1
      have hb' := (stable_permQ es).subset (List.mem_filter.1 hb).1
      exact once_of hd ha' hb' h3
    · rw [List.pairwise_map]
      refine hs.imp fun {a b} h => ?_
      cases hc : Op.bytesLess b.1.d a.1.d with
      | false => rfl
      | true => have := bl_trans _ _ _ h hc; rw [bl_irrefl] at this; cases this
  rw [e1, rws, rowsB]
  congr 1
  refine List.filter_congr fun x _ => ?_
  simp only [decide_eq_decide]
  omega
theorem rws_snoc {l : List Rc} {k : Nat} (h : k < l.length) : rws ((l.take (k + 1)).map (·.1)) = rws ((l.take k).map (·.1)) ++ (l[k].1.d ++ lowB l[k].1.o 8) := by
  rw [List.take_succ_eq_append_getElem h, List.map_append]
  simp [rws]
theorem KG_nil : KG [] = [] := rfl
theorem KG_get {gs : List Gp} {j : Nat} (h : j < gs.length) : (KG gs)[j]? = some ((gs[j].w : Int), gs[j].v) := by simp [KG, h]
theorem recs_cut : ∀ {l : List En} {i : Nat} (h : i < l.length) (rest : List Value), CutL (l.flatMap recV ++ rest) (i * 2) 2 (recV l[i])
  | a :: l, 0, _, rest => .take (.take .done)
  | a :: l, i + 1, h, rest => by
    have := recs_cut (l := l) (i := i) (by simpa using h) rest
    rw [show (i + 1) * 2 = i * 2 + 1 + 1 by omega]
    exact .skip (.skip this)
/-- The parts of groups. -/
theorem GpOk.parts {K : HP} {es : List En} {gs : List Gp} (h : GpOk K es none gs) (hd : (es.map (·.d)).Nodup) : (gs.map fun g => partOf (stable es) g.w).Perm (parts es) := by
  have e1 : (gs.map fun g => partOf (stable es) g.w) = (gs.map fun g => (g.w : Int)).map (partOf (stable es)) := by rw [List.map_map]; rfl
  rw [e1, Go.Proofs.parts]
  refine List.Perm.map _ ((List.perm_ext_iff_of_nodup ?_ (widths_nodup es)).2 fun a => ?_)
  · have := nodup_map_on (f := fun w : Nat => (w : Int)) (l := gs.map (·.w)) (fun a _ b _ h => by omega) h.nd
    rw [List.map_map] at this
    exact this
  · rw [widths_mem, List.mem_map]
    constructor
    · rintro ⟨g, hg, rfl⟩
      have hne : g.rs ≠ [] := by
        rcases h.ne g hg with h1 | h1
        · exact h1
        · cases h1
      obtain ⟨r, hr⟩ := List.exists_mem_of_ne_nil _ hne
      have h1 : r.1 ∈ es.filter fun x => decide (x.d.length = g.w) := by rw [← h.fl g hg]; exact List.mem_map_of_mem hr
      obtain ⟨h2, h3⟩ := List.mem_filter.1 h1
      exact ⟨r.1, h2, by simp only [decide_eq_true_eq] at h3; omega⟩
    · rintro ⟨x, hx, rfl⟩
      obtain ⟨g, hg, hw⟩ := List.mem_map.1 (h.al x hx)
      exact ⟨g, hg, by omega⟩
section
variable {G HRec : HP} {gm gx em : Nat} {vr : Value} {zs : List Value} {es : List En}
theorem mwiL_is (hR : Osl 184 2 vr es.length (es.flatMap recV) HRec) (hok : ∀ x ∈ es, CidOk x) (hn : es.length ≤ 200) (hdis : (es.map (·.d)).Nodup) :
    Ctr prog 316 [.pointer (some ⟨gm, 0, none⟩), vr] G (HRec ++ [(gm, C (.map (some gx) :: zs) em), (gx, Mo .u32 [])]) (fun r H' => r = .nilIface ∧ ∃ ts : List Mpart, (ts.map (·.2)).Perm (parts es) ∧ H' = (gm, C (.map (some gx) :: zs) em) :: (gx, Mo .u32 (MV ts)) :: MB ts) := by
  obtain ⟨A0, c0, hvr⟩ := hR.shape
  subst hvr
  refine fn_enter 119 func316 rfl ntmps316 rfl ?_
  intro w0
  refine gn 7 ?_
  refine oL (l_mkmap rfl .i64) ?_
  intro g20 _
  refine gn 12 ?_
  refine c_loop (X := List Gp × HP × Nat × Nat) (fun y => [(0, .pointer (some ⟨gm, 0, none⟩)), (5, .map (some g20)), (21, .slice A0 es.length c0), (22, .int .i64 es.length), (23, .int .i64 y.2.2.1)]) (fun y => (g20, Mo .i64 (KG y.1)) :: (gm, C (.map (some gx) :: zs) em) :: (gx, Mo .u32 []) :: (HRec ++ (GB y.1 ++ y.2.1))) (fun y => GpOk y.2.1 (es.take y.2.2.1) none y.1 ∧ y.2.2.1 ≤ es.length) (fun y => es.length - y.2.2.1) ([], [], 0, 0) ⟨⟨by simp, by simp, by simp, by simp, by simp, by simp⟩, Nat.zero_le _⟩ aK ?_ ?_
  · simp only [GB_nil, KG_nil]; exact aP
  rintro ⟨gs, K, i, zz⟩ ⟨hg, hi0⟩
  simp only at hg hi0 ⊢
  refine gn 6 ?_
  refine c_ifp rfl (fun h2 => ?_) (fun h2 => ?_)
  · have hi3 : i < es.length := by omega
    have hx := hok es[i] (List.getElem_mem _)
    obtain ⟨gR, capR, restR, loR, hiR, e1, e2, -, -, hR3, hR4, -⟩ := hR.open_ (by omega)
    injection e1 with e3 e4 e5
    subst e3; subst e5; subst e2
    have hcut : CutL (es.flatMap recV ++ restR) (0 + i * 2) 2 (recV es[i]) := by rw [Nat.zero_add]; exact recs_cut hi3 restR
    simp only [List.cons_append, List.nil_append]
    refine gn 8 ?_
    refine oZ ?_; intro g7 _
    refine oL (l_storea sizeOf184 rfl rfl rfl (by simp [recV, Value.oneCell']) .head (.take (.take .done)) nofrs0) ?_
    intro _ _
    refine gn 6 ?_
    refine oL (lC (hash_is hx.ht hx.hf hx.hd) rfl .nil) ?_
    rintro ⟨r, H'⟩ ⟨y, off, n, cap, rfl, rfl, hcut2, hnc, hcap⟩
    simp only [List.cons_append, List.nil_append]
    have hh : es[i].h.toNat < 9223372036854775808 := by rcases hx.ht with ⟨_, _, h, _⟩ | ⟨_, _, h⟩ <;> omega
    have hDc := Ctr.subG (G := G ++ [(y.g, Ob (B (cidB es[i])) y 5)]) (Decode_is (G := [(y.g, Ob (B (cidB es[i])) y 5)]) hh (show es[i].d.length ≤ 1000 by have := hx.hd; omega) (.head _) hcut2 hnc hcap) (fun p hp => List.mem_append_right _ hp)
    refine oL (lJ (HJ := [(y.g, Ob (B (cidB es[i])) y 5)]) hDc rfl .nil (by simp)) ?_
    rintro ⟨r, H'⟩ ⟨gd, dv, rfl, ⟨A, c, rfl⟩, hbs, rfl⟩
    simp only [List.cons_append, List.nil_append]
    refine gn 31 ?_
    refine oX (e_lookup2 runUnderlying451 runUnderlying3 zeroValue452 rfl rfl (.inl (.tail _ (.tail _ (.tail _ (.head _)))))) ?_
    refine gn 8 ?_
    refine WC.less (fun _ _ h => h) (.cons _ (List.Sublist.refl _)) ?_
    refine c_cut (X := List Gp × List Gp × Gp) (fun y' => [(0, .pointer (some ⟨gm, 0, none⟩)), (5, .map (some g20)), (7, .pointer (some ⟨g7, 0, none⟩)), (10, .slice A es[i].d.length c), (11, y'.2.2.v), (21, .slice (some ⟨gR, 0, none⟩) es.length c0), (22, .int .i64 es.length), (23, .int .i64 i)]) (fun y' => (y.g, Ob (B (cidB es[i])) y 5) :: (g7, C (recV es[i]) 184) :: (g20, Mo .i64 (KG (y'.1 ++ y'.2.2 :: y'.2.1))) :: (gm, C (.map (some gx) :: zs) em) :: (gx, Mo .u32 []) :: (gR, Obj.cells (List.flatMap recV es ++ restR).toArray 184 (loR, hiR)) :: (GB (y'.1 ++ y'.2.2 :: y'.2.1) ++ K)) (fun y' => y'.2.2.w = es[i].d.length ∧ ∃ w0, GpOk K (es.take i) w0 (y'.1 ++ y'.2.2 :: y'.2.1) ∧ (w0 = none ∨ w0 = some y'.2.2.w)) ?_ ?_
    · skip
      by_cases hw : es[i].d.length ∈ gs.map (·.w)
      · obtain ⟨g, hgm, hgw⟩ := List.mem_map.1 hw
        obtain ⟨A1, C1, rfl⟩ := List.append_of_mem hgm
        have hnd := hg.nd
        simp only [List.map_append, List.map_cons, List.nodup_append, List.nodup_cons] at hnd
        have hgA : g.w ∉ A1.map (·.w) := fun h => hnd.2.2 _ h _ (.head _) rfl
        have hget := KG_some (C := C1) hgA
        rw [hgw] at hget
        rw [hget]
        refine gn 8 ?_
        exact n_cut' (A1, C1, g) ⟨hgw, none, hg, .inl rfl⟩ aK (.refl _) (List.Sublist.refl _)
      · skip
        have hget := KG_none hw
        rw [hget]
        refine gn 12 ?_
        refine oL (l_mks (l := []) underlying452 (info_of typeInfo455) rfl rfl rfl rfl (by decide) (by decide) (by decide) (by decide) (by kernel_rfl)) ?_
        intro g53 _
        refine oL (l_mapup runUnderlying451 runUnderlying3 rfl rfl rfl (.tail (.tail (.tail .head)))) ?_
        intro _ _
        obtain ⟨G0, hG0⟩ : ∃ G0 : Gp, G0 = ⟨es[i].d.length, [], .slice (some ⟨g53, 0, none⟩) (Int.toNat 0) (Int.toNat 0), [(g53, C [] 455)]⟩ := ⟨_, rfl⟩
        have hset : mset (KG gs) ((es[i].d.length : Nat) : Int) ((53, Value.slice (some ⟨g53, 0, none⟩) (Int.toNat 0) (Int.toNat 0)) : Nat × Value).2 = KG (gs ++ [G0]) := by rw [hG0]; exact KG_new (g := ⟨es[i].d.length, [], .slice (some ⟨g53, 0, none⟩) (Int.toNat 0) (Int.toNat 0), [(g53, C [] 455)]⟩) hw
        have hget2 : mget (KG (gs ++ [G0])) ((es[i].d.length : Nat) : Int) = some G0.v := by rw [hG0]; exact KG_some (C := []) (g := ⟨es[i].d.length, [], .slice (some ⟨g53, 0, none⟩) (Int.toNat 0) (Int.toNat 0), [(g53, C [] 455)]⟩) hw
        have hb0 : G0.hb = [(g53, C [] 455)] := by rw [hG0]
        have hw0 : G0.w = es[i].d.length := by rw [hG0]
        have hN := hg.new (g := G0) (by rw [hw0]; exact hw) (by rw [hG0]) (by rw [hG0]; exact .own (xs := []) (rest := []) (lo := 0) (hi := 0) rfl rfl (Nat.le_refl _) (by decide) (.inr rfl))
        rw [hset]
        refine gn 6 ?_
        refine oX (e_lookup runUnderlying451 runUnderlying3 zeroValue452 rfl rfl (.inl (.tail _ (.tail _ (.tail _ (.head _)))))) ?_
        rw [hget2]
        refine gn 2 ?_
        exact n_cut (gs, [], G0) ⟨hw0, _, hN, .inr rfl⟩ aK (by simp only [GB_mid, hb0, GB_nil]; exact aP)
    · rintro ⟨A1, C1, g⟩ ⟨hgw, w0, hg', hw0⟩
      simp only at hgw hg' hw0 ⊢
      refine gn 9 ?_
      refine oX (eB [.slice A es[i].d.length c, .int .u64 es[i].o]) ?_
      refine oL (l_bs (l := [.slice A es[i].d.length c, .int .u64 es[i].o]) runUnderlying452 sizeOf455 zeroValue455 rfl rfl rfl rfl (by kernel_rfl)) ?_
      intro g66 _
      rw [GB_mid, List.append_assoc, List.append_assoc]
      have hgm : g ∈ A1 ++ g :: C1 := List.mem_append_right _ (.head _)
      have hos := hg'.os g hgm
      have hgl : g.rs.length ≤ 200 := by
        have h1 := congrArg List.length (hg'.fl g hgm)
        have h2 := List.length_filter_le (fun x : En => decide (x.d.length = g.w)) (es.take i)
        rw [List.length_map] at h1
        rw [List.length_take] at h2
        omega
      refine oL (l_append (sz := 2) (m := 1) (news := [.slice A es[i].d.length c, .int .u64 es[i].o]) underlying452 (info_of typeInfo455) rfl rfl rfl rfl rfl rfl hos (perm_mid (_ :: _ :: _ :: _ :: _ :: _ :: _ :: GB A1) g.hb (GB C1 ++ K)) (.blk underlying452 (.inl (.head _)) (.take (.take .done)) (by simp [Value.oneCell'])) (by show _ * 32 ≤ _; omega) (by omega)) ?_
      rintro ⟨v2, HB2⟩ ho2
      simp only at ho2 ⊢
      refine o_perm List.perm_append_comm ?_
      simp only [List.cons_append]
      refine oL (l_mapup runUnderlying451 runUnderlying3 rfl rfl rfl (.tail (.tail (.tail .head)))) ?_
      intro _ _
      have hnd := hg'.nd
      simp only [List.map_append, List.map_cons, List.nodup_append, List.nodup_cons] at hnd
      have hgA : g.w ∉ A1.map (·.w) := fun h => hnd.2.2 _ h _ (.head _) rfl
      have hset : mset (KG (A1 ++ g :: C1)) ((es[i].d.length : Nat) : Int) v2 = KG (A1 ++ ⟨es[i].d.length, g.rs ++ [(es[i], .slice A es[i].d.length c)], v2, HB2⟩ :: C1) := by
        have h9 := KG_set (C := C1) (g' := ⟨es[i].d.length, g.rs ++ [(es[i], .slice A es[i].d.length c)], v2, HB2⟩) hgA hgw.symm
        rw [hgw] at h9
        exact h9
      have hP := hg'.put (K' := (y.g, Ob (B (cidB es[i])) y 5) :: K) (g' := ⟨es[i].d.length, g.rs ++ [(es[i], .slice A es[i].d.length c)], v2, HB2⟩) (x := es[i]) (dv := .slice A es[i].d.length c) hw0 hgw.symm hgw.symm rfl (by simp only [List.length_append, rcs, List.flatMap_append]; exact ho2) (hbs.mono fun p hp => by rcases List.mem_singleton.1 hp with rfl; exact .head _) (fun p hp => .tail _ hp)
      rw [hset]
      refine gn 7 ?_
      rw [← List.take_succ_eq_append_getElem hi3] at hP
      exact n_round' (y := (gs, K, i, zz)) (_, _, i + 1, 0) (by show es.length - (i + 1) < es.length - i; omega) ⟨hP, by show i + 1 ≤ es.length; omega⟩ aK _ (show List.Perm _ ((g66, _) :: (g7, _) :: _) from by simp only [GB_mid]; exact aP) (.cons _ (.cons _ (List.Sublist.refl _)))
  · skip
    obtain rfl : i = es.length := by omega
    rw [List.take_length] at hg
    refine gn 9 ?_
    refine oL (l_range runUnderlying451 rfl rfl (.inl (.head _))) ?_
    intro it _
    refine gn 3 ?_
    have hGn : gs.Nodup := (List.pairwise_map.1 hg.nd).imp fun h e => h (by rw [e])
    refine WC.less (fun _ _ h => h) (.cons_cons _ (.cons_cons _ (.cons_cons _ (.cons_cons _ (List.sublist_append_right HRec (GB gs ++ K)))))) ?_
    refine c_loop (X := List Mpart × List Nat × List Gp × List Gp) (fun y => [(0, .pointer (some ⟨gm, 0, none⟩)), (5, .map (some g20)), (70, .pointer (some ⟨it, 0, none⟩))]) (fun y => (it, Io g20 (KG gs).length y.2.1) :: (g20, Mo .i64 (KG gs)) :: (gm, C (.map (some gx) :: zs) em) :: (gx, Mo .u32 (MV y.1)) :: (MB y.1 ++ (GB y.2.2.2 ++ K))) (fun y => (y.2.2.1 ++ y.2.2.2).Perm gs ∧ y.1.map (·.2) = y.2.2.1.map (fun g => partOf (stable es) g.w) ∧ y.2.2.1.map some = y.2.1.map (fun j => gs[j]?)) (fun y => y.2.2.2.length) ([], [], [], gs) ⟨.refl _, rfl, rfl⟩ aK (.refl _) ?_
    rintro ⟨ts, seen, sg, rem⟩ ⟨hp, hts, hsn⟩
    simp only at hp hts hsn ⊢
    refine gn 2 ?_
    refine oL (l_next rfl rfl (.inl (.tail _ (.head _))) (fun sn => .head)) ?_
    rintro (_ | j) hy
    · simp only [stepOk, stepV] at hy ⊢
      refine gn 16 ?_
      have hrem : rem = [] := by
        cases rem with
        | nil => rfl
        | cons r rem =>
          exfalso
          have hr : r ∈ gs := hp.subset (List.mem_append_right _ (.head _))
          obtain ⟨k, hk, hk2⟩ := List.mem_iff_getElem.1 hr
          have h1 := hy k (by simpa [KG] using hk)
          have h2 : some r ∈ sg.map some := by rw [hsn]; exact List.mem_map.2 ⟨k, h1, by rw [List.getElem?_eq_getElem hk, hk2]⟩
          obtain ⟨r', h3, h4⟩ := List.mem_map.1 h2
          have h5 := hp.symm.nodup hGn
          rw [List.nodup_append] at h5
          exact h5.2.2 r (by rw [← Option.some.inj h4]; exact h3) r (.head _) rfl
      subst hrem
      rw [List.append_nil] at hp
      refine WR.less (fun _ _ h => h) (.cons _ (.cons _ (.cons_cons _ (.cons_cons _ (List.sublist_append_left _ _))))) ?_
      refine r_fn1 results316 rfl ?_
      refine ⟨rfl, ts, ?_, rfl⟩
      rw [hts]
      exact (hp.map _).trans (hg.parts hdis)
    · obtain ⟨hj, hnj⟩ : j < (KG gs).length ∧ j ∉ seen := hy
      have hjg : j < gs.length := by simpa [KG] using hj
      have hst : stepV .i64 (KG gs) (some j) = .tuple #[.bool true, .int .i64 (gs[j].w : Nat), gs[j].v] := by simp [stepV, KG_get hjg]
      have hgj : gs[j] ∈ gs := List.getElem_mem _
      have hgr : gs[j] ∈ rem := by
        rcases List.mem_append.1 (hp.symm.subset hgj) with h1 | h1
        · exfalso
          have h2 : some gs[j] ∈ sg.map some := List.mem_map_of_mem h1
          rw [hsn] at h2
          obtain ⟨k, hk, hk2⟩ := List.mem_map.1 h2
          obtain ⟨hk3, hk4⟩ := List.getElem?_eq_some_iff.1 hk2
          have := nodup_get hGn hk3 hjg hk4
          subst this
          exact hnj hk
        · exact h1
      have hget := KG_get hjg
      have hgj2 : gs[j]? = some gs[j] := List.getElem?_eq_getElem hjg
      generalize gs[j] = g at *
      obtain ⟨A1, C1, rfl⟩ := List.append_of_mem hgr
      rw [hst]
      refine gn 10 ?_
      refine oX (e_entry (j := j) (seen := seen) rfl (.inl (.head _)) (.inl (.tail _ (.head _))) hget) ?_
      refine gn 10 ?_
      obtain ⟨w, rs, v, hb⟩ := g
      have hfl := hg.fl _ hgj
      have hne := hg.ne _ hgj
      have hbs := hg.bs _ hgj
      have hos := hg.os _ hgj
      have hal : w = (es.filter (fun x => decide (x.d.length = w))).length * 0 + w := by omega
      simp only at hfl hne hbs hos
      have hpos : 0 < rs.length := by
        rcases hne with h1 | h1
        · exact List.length_pos_iff.2 h1
        · cases h1
      obtain ⟨gg, capg, restg, lo, hi, rfl, rfl, hl1, hl2, hl3, hl4, hl5⟩ := hos.open_ hpos
      have hrl : rs.length ≤ 200 := by
        have h1 := congrArg List.length hfl
        have h2 := List.length_filter_le (fun x : En => decide (x.d.length = w)) es
        rw [List.length_map] at h1
        omega
      have hod : OnceD rs := by
        have h1 : rs.map (·.1.d) = (es.filter fun x => decide (x.d.length = w)).map (·.d) := by rw [← hfl, List.map_map]; rfl
        rw [OnceD, h1]
        exact (List.filter_sublist.map _).nodup hdis
      have hw200 : w ≤ 200 := by
        obtain ⟨r, hr⟩ := List.exists_mem_of_length_pos hpos
        have h1 : r.1 ∈ es.filter fun x => decide (x.d.length = w) := by rw [← hfl]; exact List.mem_map_of_mem hr
        obtain ⟨h2, h3⟩ := List.mem_filter.1 h1
        have := (hok _ h2).hd
        simp only [decide_eq_true_eq] at h3
        omega
      simp only [GB_mid, List.append_assoc, List.cons_append, List.nil_append]
      refine oL (lJ (HJ := K) (rsort_is hod (fun r hr => (hbs r hr).mono fun p hp => List.mem_append_right _ hp) rfl (by omega) hl3 hl5) rfl (.cons (.tail (.tail (.tail (.tail (Rem.app (MB ts) (Rem.app (GB A1) .head)))))) .nil) (fun p hp => by simp [hp])) ?_
      rintro ⟨r, H'⟩ ⟨rfl, l, hlp, hls, rfl⟩
      simp only [List.cons_append, List.nil_append]
      have hll : l.length = rs.length := hlp.length_eq
      have hmul : (w + 8) * rs.length ≤ 41600 := Nat.mul_le_mul (show w + 8 ≤ 208 by omega) hrl
      obtain ⟨N, hN⟩ : ∃ N, N = (w + 8) * rs.length := ⟨_, rfl⟩
      rw [← hN] at hmul
      refine gn 14 ?_
      refine oX (e_as (r := .int .i64 ((N : Nat) : Int)) (e_mulN (m := w + 8) (n := rs.length) rfl rfl (by omega)) (by rw [hN])) ?_
      refine oL (l_mks (l := List.replicate N (.int .u8 0)) underlying72 (info_of typeInfo5) rfl rfl rfl rfl (by omega) (by omega) (by show (1 : Int) * _ ≤ _; omega) (by omega) (made_one (.int .u8 0) N rfl)) ?_
      intro g16 _
      refine gn 12 ?_
      refine c_loop (X := Nat) (fun y => [(0, .pointer (some ⟨gm, 0, none⟩)), (5, .map (some g20)), (13, .int .i64 w), (14, .slice (some ⟨gg, 0, none⟩) rs.length capg), (15, .int .i64 (w + 8 : Nat)), (16, .slice (some ⟨g16, 0, none⟩) N N), (70, .pointer (some ⟨it, 0, none⟩)), (86, .slice (some ⟨gg, 0, none⟩) rs.length capg), (87, .int .i64 rs.length), (88, .int .i64 y)]) (fun y => (g16, C (B (rws ((l.take y).map (·.1))) ++ List.replicate ((rs.length - y) * (w + 8)) (.int .u8 0)) 5) :: (gg, Obj.cells (rcs l ++ restg).toArray 455 (lo, hi)) :: (it, Io g20 (KG gs).length (seen ++ [j])) :: (g20, Mo .i64 (KG gs)) :: (gm, C (.map (some gx) :: zs) em) :: (gx, Mo .u32 (MV ts)) :: (MB ts ++ (GB A1 ++ (GB C1 ++ K)))) (fun y => y ≤ rs.length) (fun y => rs.length - y) 0 (Nat.zero_le _) aK (by rw [List.take_zero, Nat.sub_zero, Nat.mul_comm rs.length, ← hN]; exact .refl _) ?_
      rintro k hk0
      refine gn 6 ?_
      refine c_ifp rfl (fun h3 => ?_) (fun h3 => ?_)
      · have hk : k < l.length := by omega
        have hcutl : CutL (rcs l ++ restg) (0 + k * 2) 2 (rcC l[k]) := by rw [Nat.zero_add]; exact rcs_cut hk restg
        refine gn 9 ?_
        refine oZ ?_; intro g18 _
        refine gn 1 ?_
        have hmem : l[k] ∈ rs := hlp.subset (List.getElem_mem _)
        have hbk : BS K l[k].2 l[k].1.d := hbs _ hmem
        obtain ⟨hke, hkw⟩ : l[k].1 ∈ es ∧ l[k].1.d.length = w := by
          have h1 : l[k].1 ∈ es.filter fun x => decide (x.d.length = w) := by rw [← hfl]; exact List.mem_map_of_mem hmem
          obtain ⟨h2, h3⟩ := List.mem_filter.1 h1
          exact ⟨h2, by simpa using h3⟩
        obtain ⟨o, ho⟩ := Int.eq_ofNat_of_zero_le (hok _ hke).hf.o0
        refine oL (l_storea sizeOf455 rfl rfl rfl (rcC_one hbk) .head (.take (.take .done)) nofrs0) ?_
        intro _ _
        have m1 : (k + 1) * (w + 8) = k * (w + 8) + (w + 8) := Nat.succ_mul _ _
        have m2 : (k + 1) * (w + 8) ≤ rs.length * (w + 8) := Nat.mul_le_mul_right _ (by omega)
        have m3 : rs.length * (w + 8) = N := by rw [Nat.mul_comm, hN]
        have m4 : (rs.length - k) * (w + 8) = (w + 8) + (rs.length - (k + 1)) * (w + 8) := by
          rw [show rs.length - k = (rs.length - (k + 1)) + 1 by omega, Nat.succ_mul, Nat.add_comm]
        refine gn 2 ?_
        refine c_regiong [10] (by kernel_rfl) ?_
        refine lg [1000, 1, 2, 3] ?_
        refine gM 4 rfl (e_mulN (m := k) (n := w + 8) rfl rfl (by omega)) ?_
        refine lg [5, 6, 7] ?_
        refine gM 8 rfl (e_mulN (m := k + 1) (n := w + 8) rfl rfl (by omega)) ?_
        refine lg [9] ?_
        rw [ho]
        simp only [Int.toNat_natCast, Nat.mul_one, Nat.zero_add]
        rw [show (k + 1) * (w + 8) - k * (w + 8) = w + 8 by omega, m4, ← List.replicate_append_replicate]
        have hlenk : (B (rws ((l.take k).map (·.1)))).length = k * (w + 8) := by
          rw [B_length, rws_length (n := w) _ (fun x hx => by
            obtain ⟨r, hr, rfl⟩ := List.mem_map.1 hx
            have h1 : r.1 ∈ es.filter fun x => decide (x.d.length = w) := by rw [← hfl]; exact List.mem_map_of_mem (hlp.subset (List.mem_of_mem_take hr))
            simpa using (List.mem_filter.1 h1).2), List.length_map, List.length_take, Nat.min_eq_left (by omega)]
        refine gL 10 rfl (lJ (HJ := K) (recw_is (hbk.mono fun p hp => List.mem_append_right _ hp) (by omega) hlenk (by rw [hkw]) (show w + 8 ≤ N - k * (w + 8) by omega) (by omega)) rfl (.cons (.tail .head) .nil) (fun p hp => by simp [hp])) ?_
        rintro ⟨r, H'⟩ ⟨rfl, rfl⟩
        simp only [List.cons_append, List.nil_append]
        refine gn 7 ?_
        have hE : B (rws ((l.take k).map (·.1))) ++ (B (l[k].1.d ++ lowB (o : Nat) 8) ++ List.replicate ((rs.length - (k + 1)) * (w + 8)) (Value.int .u8 0)) = B (rws ((l.take (k + 1)).map (·.1))) ++ List.replicate ((rs.length - (k + 1)) * (w + 8)) (Value.int .u8 0) := by
          rw [rws_snoc hk, ho, B_append _ (l[k].1.d ++ _), List.append_assoc]
        rw [hE]
        exact n_round' (y := k) (k + 1) (by show rs.length - (k + 1) < rs.length - k; omega) (by show k + 1 ≤ rs.length; omega) aK _ (.refl _) (.cons_cons _ (.cons _ (List.Sublist.refl _)))
      · skip
        obtain rfl : k = rs.length := by omega
        rw [List.take_of_length_le (by omega), Nat.sub_self, Nat.zero_mul, List.replicate_zero, List.append_nil]
        refine gn 13 ?_
        refine oX (eB [.int .u32 (w + 8 : Nat), .int .u64 rs.length, .slice (some ⟨g16, 0, none⟩) N N]) ?_
        refine oZ ?_; intro g19 _
        refine oL (l_storea sizeOf448 rfl rfl rfl (by simp [Value.oneCell']) .head (.take (.take (.take .done))) nofrs0) ?_
        intro _ _
        refine gn 2 ?_
        refine c_regiong [7] (by kernel_rfl) ?_
        refine lg [0, 1, 1002, 3, 4, 5, 1006] ?_
        refine gL 7 rfl (l_mapup runUnderlying327 runUnderlying212 rfl rfl rfl (.tail (.tail (.tail (.tail (.tail (.tail .head))))))) ?_
        intro _ _
        obtain ⟨t, ht⟩ : ∃ t : Mpart, t = (g16, (w + 8, rws (l.map (·.1)))) := ⟨_, rfl⟩
        have hrl2 : (rws (l.map (·.1))).length = N := by
          rw [rws_length (n := w) _ (fun x hx => by
            obtain ⟨r, hr, rfl⟩ := List.mem_map.1 hx
            have h1 : r.1 ∈ es.filter fun x => decide (x.d.length = w) := by rw [← hfl]; exact List.mem_map_of_mem (hlp.subset hr)
            simpa using (List.mem_filter.1 h1).2), List.length_map, hll, hN, Nat.mul_comm]
        have hpn := (hp.map (·.w)).symm.nodup hg.nd
        simp only [List.map_append, List.map_cons] at hpn
        rw [List.nodup_append] at hpn
        have hnw : w + 8 ∉ ts.map fun t => t.2.1 := by
          have h1 : (ts.map fun t => t.2.1) = sg.map fun g => g.w + 8 := by
            have h2 := congrArg (List.map (·.1)) hts
            rw [List.map_map, List.map_map] at h2
            refine Eq.trans h2 (List.map_congr_left fun g _ => ?_)
            simp [partOf]
          rw [h1]
          intro h
          obtain ⟨g, hg1, hg2⟩ := List.mem_map.1 h
          exact hpn.2.2 _ (List.mem_map_of_mem hg1) w (List.mem_append_right _ (.head _)) (by omega)
        have hset : mset (MV ts) ((w : Int) + 8) (.agg #[.int .u32 (w + 8 : Nat), .int .u64 rs.length, .slice (some ⟨g16, 0, none⟩) N N]) = MV (ts ++ [t]) := by
          have h1 := mset_new (ps := MV ts) (a := ((w + 8 : Nat) : Int)) (.agg #[.int .u32 (w + 8 : Nat), .int .u64 rs.length, .slice (some ⟨g16, 0, none⟩) N N]) (MV_none hnw)
          rw [show ((w : Int) + 8) = ((w + 8 : Nat) : Int) by omega, h1, ht]
          simp only [MV, List.map_append, List.map_cons, List.map_nil, hrl2]
          rw [hN, Nat.mul_div_cancel_left _ (by omega : 0 < w + 8)]
        have hMB : MB (ts ++ [t]) = MB ts ++ [(g16, C (B (rws (l.map (·.1)))) 5)] := by rw [ht]; simp [MB]
        have hGB : GB (A1 ++ C1) = GB A1 ++ GB C1 := by simp [GB]
        rw [hset]
        refine gn 2 ?_
        refine n_round' (y := (ts, seen, sg, A1 ++ ⟨w, rs, .slice (some ⟨gg, 0, none⟩) rs.length capg, [(gg, Obj.cells (rcs rs ++ restg).toArray 455 (lo, hi))]⟩ :: C1)) (ts ++ [t], seen ++ [j], sg ++ [⟨w, rs, .slice (some ⟨gg, 0, none⟩) rs.length capg, [(gg, Obj.cells (rcs rs ++ restg).toArray 455 (lo, hi))]⟩], A1 ++ C1) (by show (A1 ++ C1).length < (A1 ++ _ :: C1).length; simp) ⟨?_, ?_, ?_⟩ aK _ (show List.Perm _ ((g19, _) :: (gg, _) :: _) from by simp only [hMB, hGB]; exact aP) (.cons _ (.cons _ (List.Sublist.refl _)))
        · show List.Perm ((sg ++ [_]) ++ (A1 ++ C1)) gs
          rw [List.append_assoc]
          exact (List.Perm.append_left sg (List.perm_middle (l₁ := A1) (l₂ := C1)).symm).trans hp
        · show (ts ++ [t]).map (·.2) = (sg ++ [_]).map _
          rw [List.map_append, List.map_append, hts, ht]
          simp only [List.map_cons, List.map_nil, partOf, Int.toNat_natCast]
          rw [sorted_rows hdis (by rw [← hfl]; exact hlp.map _) hls]
        · show (sg ++ [_]).map some = (seen ++ [j]).map _
          rw [List.map_append, List.map_append, hsn]
          simp only [List.map_cons, List.map_nil, hgj2]
end
end Go.Proofs
namespace Go.Proofs
open Go Go.Sl
/-- A group of records. -/
structure Gc where
  w : Nat
  rs : List En
  v : Value
  hb : HP
def KC (gs : List Gc) : List (Int × Value) := gs.map fun g => ((g.w : Int), g.v)
def CB_ (gs : List Gc) : HP := gs.flatMap (·.hb)
structure GcOk (es : List En) (w0 : Option Nat) (gs : List Gc) : Prop where
  os : ∀ g ∈ gs, Osl 184 2 g.v g.rs.length (g.rs.flatMap recV) g.hb
  fl : ∀ g ∈ gs, g.rs = es.filter (fun x => decide (x.h.toNat = g.w))
  nd : (gs.map (·.w)).Nodup
  al : ∀ x ∈ es, x.h.toNat ∈ gs.map (·.w)
  ne : ∀ g ∈ gs, g.rs ≠ [] ∨ some g.w = w0
theorem KC_none {gs : List Gc} {w : Nat} (h : w ∉ gs.map (·.w)) : mget (KC gs) (w : Nat) = none := by
  induction gs with
  | nil => rfl
  | cons t ts ih =>
    simp only [List.map_cons, List.mem_cons, not_or] at h
    simp only [KC, List.map_cons, mget]
    rw [if_neg (by omega)]
    exact ih h.2
theorem KC_some {A C : List Gc} {g : Gc} (h : g.w ∉ A.map (·.w)) : mget (KC (A ++ g :: C)) (g.w : Nat) = some g.v := by
  induction A with
  | nil => simp [KC, mget]
  | cons t ts ih =>
    simp only [List.map_cons, List.mem_cons, not_or] at h
    simp only [KC, List.cons_append, List.map_cons, mget]
    rw [if_neg (by omega)]
    exact ih h.2
theorem KC_set {A C : List Gc} {g g' : Gc} (h : g.w ∉ A.map (·.w)) (hw : g'.w = g.w) : mset (KC (A ++ g :: C)) (g.w : Nat) g'.v = KC (A ++ g' :: C) := by
  induction A with
  | nil => simp [KC, mset, hw]
  | cons t ts ih =>
    simp only [List.map_cons, List.mem_cons, not_or] at h
    simp only [KC, List.cons_append, List.map_cons, mset]
    rw [if_neg (by omega)]
    have := ih h.2
    simp only [KC] at this
    rw [this]
theorem KC_new {gs : List Gc} {g : Gc} (h : g.w ∉ gs.map (·.w)) : mset (KC gs) (g.w : Nat) g.v = KC (gs ++ [g]) := by
  rw [mset_new _ (KC_none h)]
  simp [KC]
theorem CB__mid (A C : List Gc) (g : Gc) : CB_ (A ++ g :: C) = CB_ A ++ (g.hb ++ CB_ C) := by simp [CB_]
/-- A group that is new, empty. -/
theorem GcOk.new {es : List En} {gs : List Gc} {g : Gc} (h : GcOk es none gs) (hw : g.w ∉ gs.map (·.w)) (hr : g.rs = []) (ho : Osl 184 2 g.v 0 [] g.hb) : GcOk es (some g.w) (gs ++ [g]) where
  os := fun a ha => by
    rcases List.mem_append.1 ha with ha | ha
    · exact h.os a ha
    · rcases List.mem_singleton.1 ha with rfl
      rw [hr]; exact ho
  fl := fun a ha => by
    rcases List.mem_append.1 ha with ha | ha
    · exact h.fl a ha
    · rcases List.mem_singleton.1 ha with rfl
      rw [hr]
      refine (List.filter_eq_nil_iff.2 fun x hx => ?_).symm
      simp only [decide_eq_true_eq]
      exact fun e => hw (e ▸ h.al x hx)
  nd := by
    rw [List.map_append, List.nodup_append]
    refine ⟨h.nd, by simp, fun a ha b hb e => ?_⟩
    simp only [List.map_cons, List.map_nil, List.mem_singleton] at hb
    subst hb; subst e; exact hw ha
  al := fun x hx => by rw [List.map_append]; exact List.mem_append_left _ (h.al x hx)
  ne := fun a ha => by
    rcases List.mem_append.1 ha with ha | ha
    · rcases h.ne a ha with h1 | h1
      · exact .inl h1
      · cases h1
    · rcases List.mem_singleton.1 ha with rfl
      exact .inr rfl
/-- A record put to its group. -/
theorem GcOk.put {es : List En} {A C : List Gc} {g g' : Gc} {x : En} {w0 : Option Nat} (h : GcOk es w0 (A ++ g :: C)) (h0 : w0 = none ∨ w0 = some g.w) (hw : x.h.toNat = g.w) (hw' : g'.w = g.w) (hr : g'.rs = g.rs ++ [x]) (ho : Osl 184 2 g'.v g'.rs.length (g'.rs.flatMap recV) g'.hb) : GcOk (es ++ [x]) none (A ++ g' :: C) where
  os := fun a ha => by
    rcases List.mem_append.1 ha with ha | ha
    · exact h.os a (List.mem_append_left _ ha)
    · rcases List.mem_cons.1 ha with rfl | ha
      · exact ho
      · exact h.os a (List.mem_append_right _ (.tail _ ha))
  fl := by
    have hnd := h.nd
    simp only [List.map_append, List.map_cons, List.nodup_append, List.nodup_cons] at hnd
    intro a ha
    rw [List.filter_append]
    have hoff : a ∈ A ∨ a ∈ C → a.w ≠ g.w := by
      rintro (h1 | h1)
      · exact hnd.2.2 _ (List.mem_map_of_mem h1) _ (.head _)
      · intro e; exact hnd.2.1.1 (e ▸ List.mem_map_of_mem h1)
    have hold : a ∈ A ∨ a ∈ C → a.rs = es.filter (fun x => decide (x.h.toNat = a.w)) ++ [x].filter (fun x => decide (x.h.toNat = a.w)) := fun h1 => by
      have h2 := hoff h1
      have h3 : ([x].filter fun x => decide (x.h.toNat = a.w)) = [] := by
        refine List.filter_eq_nil_iff.2 fun y hy => ?_
        rcases List.mem_singleton.1 hy with rfl
        simp only [decide_eq_true_eq]; omega
      rw [h3, List.append_nil]
      refine h.fl a ?_
      rcases h1 with h1 | h1
      · exact List.mem_append_left _ h1
      · exact List.mem_append_right _ (.tail _ h1)
    rcases List.mem_append.1 ha with ha | ha
    · exact hold (.inl ha)
    · rcases List.mem_cons.1 ha with rfl | ha
      · rw [hr, hw', h.fl g (List.mem_append_right _ (.head _))]
        congr 1
        simp [hw]
      · exact hold (.inr ha)
  nd := by
    have := h.nd
    simp only [List.map_append, List.map_cons] at this ⊢
    rw [hw']; exact this
  al := fun y hy => by
    have e : (A ++ g' :: C).map (·.w) = (A ++ g :: C).map (·.w) := by simp [hw']
    rw [e]
    rcases List.mem_append.1 hy with hy | hy
    · exact h.al y hy
    · rcases List.mem_singleton.1 hy with rfl
      rw [hw]; simp
  ne := fun a ha => by
    have hnd := h.nd
    simp only [List.map_append, List.map_cons, List.nodup_append, List.nodup_cons] at hnd
    have hold : a ∈ A ++ g :: C → a.w ≠ g.w → a.rs ≠ [] ∨ some a.w = none := fun h1 h2 => by
      rcases h.ne a h1 with h3 | h3
      · exact .inl h3
      · rcases h0 with rfl | rfl
        · cases h3
        · exact absurd (Option.some.inj h3) h2
    rcases List.mem_append.1 ha with ha | ha
    · exact hold (List.mem_append_left _ ha) (hnd.2.2 _ (List.mem_map_of_mem ha) _ (.head _))
    · rcases List.mem_cons.1 ha with rfl | ha
      · exact .inl (by rw [hr]; simp)
      · exact hold (List.mem_append_right _ (.tail _ ha)) (fun e => hnd.2.1.1 (e ▸ List.mem_map_of_mem ha))
end Go.Proofs
namespace Go.Proofs
open Go Go.Sl Tryz
set_option maxRecDepth 100000
set_option maxHeartbeats 1000000
theorem CB__nil : CB_ [] = [] := rfl
theorem KC_nil : KC [] = [] := rfl
theorem KC_get {gs : List Gc} {j : Nat} (h : j < gs.length) : (KC gs)[j]? = some ((gs[j].w : Int), gs[j].v) := by simp [KC, h]
theorem GcOk.codes {es : List En} {gs : List Gc} (h : GcOk es none gs) (hf : ∀ x ∈ es, EnFit x) : (gs.map (·.w)).Perm ((codes es).map Int.toNat) := by
  refine (List.perm_ext_iff_of_nodup h.nd ?_).2 fun a => ?_
  · refine nodup_map_on (fun a ha b hb h => ?_) (codes_nodup es)
    have := codes_nonneg hf ha
    have := codes_nonneg hf hb
    omega
  · rw [List.mem_map, List.mem_map]
    constructor
    · rintro ⟨g, hg, rfl⟩
      have hne : g.rs ≠ [] := by
        rcases h.ne g hg with h1 | h1
        · exact h1
        · cases h1
      obtain ⟨r, hr⟩ := List.exists_mem_of_ne_nil _ hne
      rw [h.fl g hg] at hr
      obtain ⟨h2, h3⟩ := List.mem_filter.1 hr
      exact ⟨r.h, codes_mem.2 ⟨r, h2, rfl⟩, by simpa using h3⟩
    · rintro ⟨k, hk, rfl⟩
      obtain ⟨x, hx, rfl⟩ := codes_mem.1 hk
      obtain ⟨g, hg, hw⟩ := List.mem_map.1 (h.al x hx)
      exact ⟨g, hg, hw⟩
theorem coded_nat {es : List En} (hf : ∀ x ∈ es, EnFit x) (c : Nat) : es.filter (fun x => decide (x.h.toNat = c)) = codedL es c := by
  refine List.filter_congr fun x hx => ?_
  have := (hf x hx).h0
  simp only [decide_eq_decide]
  omega
section
variable {G HRec : HP} {gm gX : Nat} {vr : Value} {es : List En}
theorem mhiL_is (hR : Osl 184 2 vr es.length (es.flatMap recV) HRec) (hok : ∀ x ∈ es, CidOk x) (hn : es.length ≤ 200) (hdis : ∀ c, ((codedL es c).map (·.d)).Nodup) :
    Ctr prog 310 [.pointer (some ⟨gm, 0, none⟩), vr] G (HRec ++ [(gm, C [.map (some gX)] 330), (gX, Mo .u64 [])]) (fun r H' => r = .nilIface ∧ ∃ ms : List Mcode, (ms.map (·.code)).Perm ((codes es).map Int.toNat) ∧ (∀ m ∈ ms, (m.ts.map (·.2)).Perm (parts (codedL es m.code))) ∧ H' = (gm, C [.map (some gX)] 330) :: (gX, Mo .u64 (KV ms)) :: KB ms) := by
  obtain ⟨A0, c0, hvr⟩ := hR.shape
  subst hvr
  refine fn_enter 80 func310 rfl ntmps310 rfl ?_
  intro w0
  refine gn 7 ?_
  refine oL (l_mkmap rfl .u64) ?_
  intro g17 _
  refine gn 12 ?_
  refine c_loop (X := List Gc × Nat) (fun y => [(0, .pointer (some ⟨gm, 0, none⟩)), (5, .map (some g17)), (18, .slice A0 es.length c0), (19, .int .i64 es.length), (20, .int .i64 y.2)]) (fun y => (g17, Mo .u64 (KC y.1)) :: (gm, C [.map (some gX)] 330) :: (gX, Mo .u64 []) :: (HRec ++ CB_ y.1)) (fun y => GcOk (es.take y.2) none y.1 ∧ y.2 ≤ es.length) (fun y => es.length - y.2) ([], 0) ⟨⟨by simp, by simp, by simp, by simp, by simp⟩, Nat.zero_le _⟩ aK ?_ ?_
  · simp only [CB__nil, KC_nil]; exact aP
  rintro ⟨gs, i⟩ ⟨hg, hi0⟩
  simp only at hg hi0 ⊢
  refine gn 6 ?_
  refine c_ifp rfl (fun h2 => ?_) (fun h2 => ?_)
  · have hi3 : i < es.length := by omega
    have hx := hok es[i] (List.getElem_mem _)
    obtain ⟨gR, capR, restR, loR, hiR, e1, e2, -, -, hR3, hR4, -⟩ := hR.open_ (by omega)
    injection e1 with e3 e4 e5
    subst e3; subst e5; subst e2
    have hcut : CutL (es.flatMap recV ++ restR) (0 + i * 2) 2 (recV es[i]) := by rw [Nat.zero_add]; exact recs_cut hi3 restR
    simp only [List.cons_append, List.nil_append]
    refine gn 8 ?_
    refine oZ ?_; intro g7 _
    refine oL (l_storea sizeOf184 rfl rfl rfl (by simp [recV, Value.oneCell']) .head (.take (.take .done)) nofrs0) ?_
    intro _ _
    refine gn 6 ?_
    refine oL (lC (hash_is hx.ht hx.hf hx.hd) rfl .nil) ?_
    rintro ⟨r, H'⟩ ⟨y, off, n, cap, rfl, rfl, hcut2, hnc, hcap⟩
    simp only [List.cons_append, List.nil_append]
    have hh : es[i].h.toNat < 9223372036854775808 := by rcases hx.ht with ⟨_, _, h, _⟩ | ⟨_, _, h⟩ <;> omega
    refine oL (lJ (HJ := [(y.g, Ob (B (cidB es[i])) y 5)]) (Decode_is hh (show es[i].d.length ≤ 1000 by have := hx.hd; omega) (List.mem_append_right _ (.head _)) hcut2 hnc hcap) rfl .nil (by simp)) ?_
    rintro ⟨r, H'⟩ ⟨gd, dv, rfl, ⟨A, c, rfl⟩, hbs, rfl⟩
    simp only [List.cons_append, List.nil_append]
    refine gn 30 ?_
    refine oX (e_lookup2 runUnderlying438 runUnderlying23 zeroValue182 rfl rfl (.inl (.tail _ (.tail _ (.tail _ (.head _)))))) ?_
    refine gn 8 ?_
    refine WC.less (fun _ _ h => h) (.cons _ (.cons _ (List.Sublist.refl _))) ?_
    refine c_cut (X := List Gc × List Gc × Gc) (fun y' => [(0, .pointer (some ⟨gm, 0, none⟩)), (5, .map (some g17)), (7, .pointer (some ⟨g7, 0, none⟩)), (10, .int .u64 (es[i].h.toNat : Nat)), (11, y'.2.2.v), (18, .slice (some ⟨gR, 0, none⟩) es.length c0), (19, .int .i64 es.length), (20, .int .i64 i)]) (fun y' => (g7, C (recV es[i]) 184) :: (g17, Mo .u64 (KC (y'.1 ++ y'.2.2 :: y'.2.1))) :: (gm, C [.map (some gX)] 330) :: (gX, Mo .u64 []) :: (gR, Obj.cells (List.flatMap recV es ++ restR).toArray 184 (loR, hiR)) :: CB_ (y'.1 ++ y'.2.2 :: y'.2.1)) (fun y' => y'.2.2.w = es[i].h.toNat ∧ ∃ w0, GcOk (es.take i) w0 (y'.1 ++ y'.2.2 :: y'.2.1) ∧ (w0 = none ∨ w0 = some y'.2.2.w)) ?_ ?_
    · skip
      by_cases hw : es[i].h.toNat ∈ gs.map (·.w)
      · obtain ⟨g, hgm, hgw⟩ := List.mem_map.1 hw
        obtain ⟨A1, C1, rfl⟩ := List.append_of_mem hgm
        have hnd := hg.nd
        simp only [List.map_append, List.map_cons, List.nodup_append, List.nodup_cons] at hnd
        have hgA : g.w ∉ A1.map (·.w) := fun h => hnd.2.2 _ h _ (.head _) rfl
        have hget := KC_some (C := C1) hgA
        rw [hgw] at hget
        rw [hget]
        refine gn 8 ?_
        exact n_cut' (A1, C1, g) ⟨hgw, none, hg, .inl rfl⟩ aK (.refl _) (List.Sublist.refl _)
      · skip
        have hget := KC_none hw
        rw [hget]
        refine gn 9 ?_
        refine oL (l_mks (l := []) underlying182 (info_of typeInfo184) rfl rfl rfl rfl (by decide) (by decide) (by decide) (by decide) (by kernel_rfl)) ?_
        intro g46 _
        refine gn 7 ?_
        refine oL (l_mapup runUnderlying438 runUnderlying23 rfl rfl rfl (.tail (.tail .head))) ?_
        intro _ _
        obtain ⟨G0, hG0⟩ : ∃ G0 : Gc, G0 = ⟨es[i].h.toNat, [], .slice (some ⟨g46, 0, none⟩) (Int.toNat 0) (Int.toNat 0), [(g46, C [] 184)]⟩ := ⟨_, rfl⟩
        have hset : mset (KC gs) ((es[i].h.toNat : Nat) : Int) (Value.slice (some ⟨g46, 0, none⟩) (Int.toNat 0) (Int.toNat 0)) = KC (gs ++ [G0]) := by rw [hG0]; exact KC_new (g := ⟨es[i].h.toNat, [], .slice (some ⟨g46, 0, none⟩) (Int.toNat 0) (Int.toNat 0), [(g46, C [] 184)]⟩) hw
        have hb0 : G0.hb = [(g46, C [] 184)] := by rw [hG0]
        have hw0 : G0.w = es[i].h.toNat := by rw [hG0]
        have hv0 : G0.v = Value.slice (some ⟨g46, 0, none⟩) (Int.toNat 0) (Int.toNat 0) := by rw [hG0]
        have hN := hg.new (g := G0) (by rw [hw0]; exact hw) (by rw [hG0]) (by rw [hG0]; exact .own (xs := []) (rest := []) (lo := 0) (hi := 0) rfl rfl (Nat.le_refl _) (by decide) (.inr rfl))
        simp only
        rw [hset]
        refine gn 1 ?_
        exact n_cut (gs, [], G0) ⟨hw0, _, hN, .inr rfl⟩ (sub_cons rfl (sub_cons rfl (sub_cons rfl (sub_cons rfl (sub_cons (by rw [hv0]; rfl) aK))))) (by simp only [CB__mid, hb0, CB__nil]; exact aP)
    · rintro ⟨A1, C1, g⟩ ⟨hgw, w0, hg', hw0⟩
      simp only at hgw hg' hw0 ⊢
      refine gn 6 ?_
      refine oL (l_bs (l := [S (cidB es[i]), .int .u64 es[i].o]) runUnderlying182 sizeOf184 zeroValue184 rfl rfl rfl rfl (by kernel_rfl)) ?_
      intro g54 _
      rw [CB__mid]
      have hgm : g ∈ A1 ++ g :: C1 := List.mem_append_right _ (.head _)
      have hos := hg'.os g hgm
      have hgl : g.rs.length ≤ 200 := by
        have h1 := congrArg List.length (hg'.fl g hgm)
        have h2 := List.length_filter_le (fun x : En => decide (x.h.toNat = g.w)) (es.take i)
        rw [List.length_take] at h2
        omega
      refine oL (l_append (sz := 2) (m := 1) (news := [S (cidB es[i]), .int .u64 es[i].o]) underlying182 (info_of typeInfo184) rfl rfl rfl rfl rfl rfl hos (perm_mid (_ :: _ :: _ :: _ :: _ :: _ :: CB_ A1) g.hb (CB_ C1)) (.blk underlying182 (.inl (.head _)) (.take (.take .done)) (by simp [Value.oneCell'])) (by show _ * 24 ≤ _; omega) (by omega)) ?_
      rintro ⟨v2, HB2⟩ ho2
      simp only at ho2 ⊢
      refine o_perm List.perm_append_comm ?_
      simp only [List.cons_append]
      refine oL (l_mapup runUnderlying438 runUnderlying23 rfl rfl rfl (.tail (.tail .head))) ?_
      intro _ _
      have hnd := hg'.nd
      simp only [List.map_append, List.map_cons, List.nodup_append, List.nodup_cons] at hnd
      have hgA : g.w ∉ A1.map (·.w) := fun h => hnd.2.2 _ h _ (.head _) rfl
      have hset : mset (KC (A1 ++ g :: C1)) ((es[i].h.toNat : Nat) : Int) v2 = KC (A1 ++ ⟨es[i].h.toNat, g.rs ++ [es[i]], v2, HB2⟩ :: C1) := by
        have h9 := KC_set (C := C1) (g' := ⟨es[i].h.toNat, g.rs ++ [es[i]], v2, HB2⟩) hgA hgw.symm
        rw [hgw] at h9
        exact h9
      have hP := hg'.put (g' := ⟨es[i].h.toNat, g.rs ++ [es[i]], v2, HB2⟩) (x := es[i]) hw0 hgw.symm hgw.symm rfl (by simp only [List.length_append, List.flatMap_append]; exact ho2)
      rw [hset]
      refine gn 7 ?_
      rw [← List.take_succ_eq_append_getElem hi3] at hP
      exact n_round' (y := (gs, i)) (_, i + 1) (by show es.length - (i + 1) < es.length - i; omega) ⟨hP, by show i + 1 ≤ es.length; omega⟩ aK _ (show List.Perm _ ((g54, _) :: (g7, _) :: _) from by simp only [CB__mid]; exact aP) (.cons _ (.cons _ (List.Sublist.refl _)))
  · skip
    obtain rfl : i = es.length := by omega
    rw [List.take_length] at hg
    refine gn 9 ?_
    refine oL (l_range runUnderlying438 rfl rfl (.inl (.head _))) ?_
    intro it _
    refine gn 3 ?_
    have hGn : gs.Nodup := (List.pairwise_map.1 hg.nd).imp fun h e => h (by rw [e])
    refine WC.less (fun _ _ h => h) (.cons_cons _ (.cons_cons _ (.cons_cons _ (.cons_cons _ (List.sublist_append_right HRec (CB_ gs)))))) ?_
    refine c_loop (X := List Mcode × List Nat × List Gc × List Gc) (fun y => [(0, .pointer (some ⟨gm, 0, none⟩)), (5, .map (some g17)), (58, .pointer (some ⟨it, 0, none⟩))]) (fun y => (it, Io g17 (KC gs).length y.2.1) :: (g17, Mo .u64 (KC gs)) :: (gm, C [.map (some gX)] 330) :: (gX, Mo .u64 (KV y.1)) :: (KB y.1 ++ CB_ y.2.2.2)) (fun y => (y.2.2.1 ++ y.2.2.2).Perm gs ∧ y.1.map (·.code) = y.2.2.1.map (·.w) ∧ y.2.2.1.map some = y.2.1.map (fun j => gs[j]?) ∧ ∀ m ∈ y.1, (m.ts.map (·.2)).Perm (parts (codedL es m.code))) (fun y => y.2.2.2.length) ([], [], [], gs) ⟨.refl _, rfl, rfl, by simp⟩ aK (.refl _) ?_
    rintro ⟨ms, seen, sg, rem⟩ ⟨hp, hts, hsn, hms⟩
    simp only at hp hts hsn hms ⊢
    refine gn 2 ?_
    refine oL (l_next rfl rfl (.inl (.tail _ (.head _))) (fun sn => .head)) ?_
    rintro (_ | j) hy
    · simp only [stepOk, stepV] at hy ⊢
      refine gn 16 ?_
      have hrem : rem = [] := by
        cases rem with
        | nil => rfl
        | cons r rem =>
          exfalso
          have hr : r ∈ gs := hp.subset (List.mem_append_right _ (.head _))
          obtain ⟨k, hk, hk2⟩ := List.mem_iff_getElem.1 hr
          have h1 := hy k (by simpa [KC] using hk)
          have h2 : some r ∈ sg.map some := by rw [hsn]; exact List.mem_map.2 ⟨k, h1, by rw [List.getElem?_eq_getElem hk, hk2]⟩
          obtain ⟨r', h3, h4⟩ := List.mem_map.1 h2
          have h5 := hp.symm.nodup hGn
          rw [List.nodup_append] at h5
          exact h5.2.2 r (by rw [← Option.some.inj h4]; exact h3) r (.head _) rfl
      subst hrem
      rw [List.append_nil] at hp
      refine WR.less (fun _ _ h => h) (.cons _ (.cons _ (.cons_cons _ (.cons_cons _ (List.sublist_append_left _ _))))) ?_
      refine r_fn1 results310 rfl ?_
      refine ⟨rfl, ms, ?_, hms, rfl⟩
      rw [hts]
      exact (hp.map _).trans (hg.codes fun x hx => (hok x hx).hf)
    · obtain ⟨hj, hnj⟩ : j < (KC gs).length ∧ j ∉ seen := hy
      have hjg : j < gs.length := by simpa [KC] using hj
      have hst : stepV .u64 (KC gs) (some j) = .tuple #[.bool true, .int .u64 (gs[j].w : Nat), gs[j].v] := by simp [stepV, KC_get hjg]
      have hgj : gs[j] ∈ gs := List.getElem_mem _
      have hgr : gs[j] ∈ rem := by
        rcases List.mem_append.1 (hp.symm.subset hgj) with h1 | h1
        · exfalso
          have h2 : some gs[j] ∈ sg.map some := List.mem_map_of_mem h1
          rw [hsn] at h2
          obtain ⟨k, hk, hk2⟩ := List.mem_map.1 h2
          obtain ⟨hk3, hk4⟩ := List.getElem?_eq_some_iff.1 hk2
          have := nodup_get hGn hk3 hjg hk4
          subst this
          exact hnj hk
        · exact h1
      have hget := KC_get hjg
      have hgj2 : gs[j]? = some gs[j] := List.getElem?_eq_getElem hjg
      generalize gs[j] = g at *
      obtain ⟨A1, C1, rfl⟩ := List.append_of_mem hgr
      rw [hst]
      refine gn 10 ?_
      refine oX (e_entry (j := j) (seen := seen) rfl (.inl (.head _)) (.inl (.tail _ (.head _))) hget) ?_
      refine gn 8 ?_
      refine oL (lC newMWC_is rfl .nil) ?_
      rintro ⟨r, H'⟩ ⟨gc, gx, rfl, rfl⟩
      simp only [List.cons_append, List.nil_append]
      refine gn 9 ?_
      refine oT ?_; intro _ _
      refine gn 9 ?_
      have hfl := hg.fl _ hgj
      have hos := hg.os _ hgj
      have hcd : g.rs = codedL es (g.w : Nat) := by rw [hfl]; exact coded_nat (fun x hx => (hok x hx).hf) _
      have hrl : g.rs.length ≤ 200 := by
        rw [hfl]
        exact Nat.le_trans (List.length_filter_le _ _) hn
      have hsub : ∀ x ∈ g.rs, CidOk x := fun x hx => by
        rw [hfl] at hx
        exact hok x (List.mem_filter.1 hx).1
      have hL := mwiL_is (G := G) (gm := gc) (gx := gx) (em := 437) (zs := [.int .u64 (g.w : Nat)]) hos hsub hrl (by rw [hcd]; exact hdis _)
      have hpr : ((gc, C [.map (some gx), .int .u64 (g.w : Nat)] 437) :: (gx, Mo .u32 []) :: (it, Io g17 (KC gs).length (seen ++ [j])) :: (g17, Mo .u64 (KC gs)) :: (gm, C [.map (some gX)] 330) :: (gX, Mo .u64 (KV ms)) :: (KB ms ++ CB_ (A1 ++ g :: C1))).Perm ((g.hb ++ [(gc, C [.map (some gx), .int .u64 (g.w : Nat)] 437), (gx, Mo .u32 [])]) ++ ((it, Io g17 (KC gs).length (seen ++ [j])) :: (g17, Mo .u64 (KC gs)) :: (gm, C [.map (some gX)] 330) :: (gX, Mo .u64 (KV ms)) :: (KB ms ++ (CB_ A1 ++ CB_ C1)))) := by
        rw [CB__mid]; exact aP
      refine o_perm hpr ?_
      refine oL (lC hL rfl (Sel.app _ _)) ?_
      rintro ⟨r, H'⟩ ⟨rfl, ts, hts2, rfl⟩
      simp only [List.cons_append]
      refine gn 15 ?_
      have hnw : g.w ∉ ms.map fun t => t.code := by
        have hpn := (hp.map (·.w)).symm.nodup hg.nd
        simp only [List.map_append, List.map_cons] at hpn
        rw [List.nodup_append] at hpn
        rw [hts]
        exact fun h => hpn.2.2 _ h g.w (List.mem_append_right _ (.head _)) rfl
      refine oL (lC (put_is (KV_none hnw)) rfl (.cons (.tail (.tail (Rem.app (MB ts) (.tail (.tail (.tail .head)))))) (.cons .head (.cons (.tail (Rem.app (MB ts) (.tail (.tail .head)))) .nil)))) ?_
      rintro ⟨r, H'⟩ rfl
      simp only [List.cons_append, List.nil_append]
      refine gn 2 ?_
      obtain ⟨m, hm⟩ : ∃ m : Mcode, m = ⟨gc, gx, g.w, ts⟩ := ⟨_, rfl⟩
      have hKV : KV ms ++ [(((g.w : Nat) : Int), Value.pointer (some ⟨gc, 0, none⟩))] = KV (ms ++ [m]) := by rw [KV_snoc, hm]; rfl
      have hKB : KB (ms ++ [m]) = KB ms ++ ((gc, C [.map (some gx), .int .u64 (g.w : Nat)] 437) :: (gx, Mo .u32 (MV ts)) :: MB ts) := by rw [KB_snoc, hm]; rfl
      have hCB : CB_ (A1 ++ C1) = CB_ A1 ++ CB_ C1 := by simp [CB_]
      rw [hKV]
      refine n_round' (y := (ms, seen, sg, A1 ++ g :: C1)) (ms ++ [m], seen ++ [j], sg ++ [g], A1 ++ C1) (by show (A1 ++ C1).length < (A1 ++ _ :: C1).length; simp) ⟨?_, ?_, ?_, ?_⟩ aK _ (by simp only [hKB, hCB]; exact aP) (List.Sublist.refl _)
      · show List.Perm ((sg ++ [_]) ++ (A1 ++ C1)) gs
        rw [List.append_assoc]
        exact (List.Perm.append_left sg (List.perm_middle (l₁ := A1) (l₂ := C1)).symm).trans hp
      · show (ms ++ [m]).map (·.code) = (sg ++ [_]).map _
        rw [List.map_append, List.map_append, hts, hm]
        rfl
      · show (sg ++ [_]).map some = (seen ++ [j]).map _
        rw [List.map_append, List.map_append, hsn]
        simp only [List.map_cons, List.map_nil, hgj2]
      · intro m' hm'
        rcases List.mem_append.1 hm' with h1 | h1
        · exact hms m' h1
        · rcases List.mem_singleton.1 h1 with rfl
          rw [hm]
          rw [hcd] at hts2
          exact hts2
end
end Go.Proofs

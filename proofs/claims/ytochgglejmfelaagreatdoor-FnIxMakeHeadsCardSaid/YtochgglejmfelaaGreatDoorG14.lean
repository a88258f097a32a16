/- Readers, whatever they are: a varint read byte by byte, so many bytes read at once; An identifier read out of a reader; The readers out of which identifiers are read: a bytes.Reader, one with a limit; The scanner in front of a reader: so many bytes, one byte; The reader in front of the decoder: one byte, so many bytes. (A part of the proof of this: for every input laws.FnIxMakeHeads returns true and its arguments read as they did, the listed package variables being what the program lays) -/
import Derived.Test.YtochgglejmfelaaGreatDoorSlZ
import Derived.Test.YtochgglejmfelaaGreatDoorG04
import Derived.Test.YtochgglejmfelaaGreatDoorG03
import Derived.Test.YtochgglejmfelaaGreatDoorG10
import Derived.Test.YtochgglejmfelaaGreatDoorG06
import Derived.Test.YtochgglejmfelaaGreatDoorG11
set_option linter.unusedVariables false
set_option linter.unusedSimpArgs false
namespace Go.Proofs
open Go Go.Sl Tryz
set_option maxRecDepth 100000
set_option maxHeartbeats 1000000
/-- A reader of single bytes: what the bytes to come are, what memory holds behind so many of them. -/
structure RdB (G : HP) (tv : TypeId) (v : Value) (J : Nat → HP) (bs : List UInt8) where
  f : FuncId
  rv : Value
  hf : ∀ az w, (callFunc f az).run prog w = .ok (.enter f az) w
  hm : ∀ w, (method (prog.types.size + Made.depth) tv v "ReadByte").run prog w = .ok (f, rv) w
  hc : ∀ k b, bs[k]? = some b → Ctr prog f [rv] G (J k) (fun r H' => r = .tuple #[.int .u8 (b.toNat : Nat), .nilIface] ∧ H' = J (k + 1))
/-- A reader that gives what is asked for, at once. -/
structure RdF (G : HP) (tv : TypeId) (v sv : Value) (L : Nat) (J J' : HP) where
  f : FuncId
  rv : Value
  hf : ∀ az w, (callFunc f az).run prog w = .ok (.enter f az) w
  hm : ∀ w, (method (prog.types.size + Made.depth) tv v "Read").run prog w = .ok (f, rv) w
  hn : ∀ w, (nilAhead (prog.types.size + Made.depth) tv v "Read").run prog w = .ok (some false) w
  hc : Ctr prog f [rv, sv] G J (fun r H' => r = .tuple #[.int .i64 L, .nilIface] ∧ H' = J')
theorem Sel.all (A : HP) : Sel A A [] := by simpa using Sel.app A []
section
variable {G : HP} {gr gs gb ob n cap cb i x L lo hi : Nat} {bs tl : List UInt8} {rest pl : List Value} {tv : TypeId} {v : Value} {J : Nat → HP} {J0 J1 : HP} {gE : Addr} {t3 : List Value} {e3 : TypeId} {f3 : Nat × Nat}
theorem readU_is (h : RdB G tv v J bs) (hx : x < 9223372036854775808) (hbs : bs = uv x ++ tl) :
    Ctr prog 78 [.iface tv v] G (J 0) (fun r H' => r = .tuple #[.int .u64 (x : Nat), .nilIface] ∧ H' = J (uv x).length) := by
  have hp := uv_pos x
  have h9 := uv_le9 hx
  have hx' : x < 18446744073709551616 := by omega
  refine fn_enter 59 func78 rfl ntmps78 rfl ?_
  intro w0
  refine gn 22 ?_
  refine c_loop (X := Nat) (fun i => [(0, .iface tv v), (4, .int .u64 (x % 128 ^ i : Nat)), (5, .int .u64 (7 * i : Nat))]) (fun i => J i) (fun i => i < (uv x).length) (fun i => (uv x).length - i) 0 hp (sub_cons rfl (sub_cons (by show some _ = some _; simp [Nat.mod_one]) aK)) (.refl _) ?_
  intro i hi'
  refine gn 5 ?_
  by_cases hmid : i + 1 < (uv x).length
  · obtain ⟨h2, h3⟩ := uv_mid hmid
    have hb : bs[i]? = some (UInt8.ofNat (128 + x / 128 ^ i % 128)) := by rw [hbs, List.getElem?_append_left (by omega)]; exact h3
    have hbz : (UInt8.ofNat (128 + x / 128 ^ i % 128)).toNat = 128 + x / 128 ^ i % 128 := by rw [UInt8.toNat_ofNat']; omega
    have hcc := h.hc i _ hb
    rw [hbz] at hcc
    have e127 : (128 + x / 128 ^ i % 128) % 128 = x / 128 ^ i % 128 := by omega
    have hle : x % 128 ^ (i + 1) ≤ x := Nat.mod_le _ _
    refine oL (l_calli0 h.hf h.hm hcc rfl rfl rfl (Sel.all _)) ?_
    rintro ⟨r, H'⟩ ⟨rfl, rfl⟩
    simp only [List.append_nil]
    refine gn 23 ?_
    refine o_splitp 28 rfl (fun h => absurd h (by omega)) (fun _ => ?_)
    refine gn 9 ?_
    refine c_ifp rfl (fun h => absurd h (by omega)) (fun _ => ?_)
    refine gn 9 ?_
    refine c_ifp rfl (fun h => absurd h (by omega)) (fun _ => ?_)
    refine gn 6 ?_
    rw [and127 (by omega), e127]
    refine gn 4 ?_
    rw [or_sh rfl _ (7 * i) (Int.toNat_natCast _) (by show 7 * i ≤ 64; omega) (mod_lt' x i) (by rw [mod_succ]; show _ < 18446744073709551616; omega), mod_succ]
    refine gn 9 ?_
    refine n_round' (y := i) (i + 1) (by omega) hmid (sub_cons rfl (sub_cons rfl (sub_cons (by show some (Value.int .u64 (((7 * i : Nat) : Int) + 7)) = some (Value.int .u64 ((7 * (i + 1) : Nat) : Int)); rw [show ((7 * i : Nat) : Int) + 7 = ((7 * (i + 1) : Nat) : Int) by omega]) sub_nil))) _ (.refl _) (List.Sublist.refl _)
  · skip
    have hlast : i + 1 = (uv x).length := by omega
    obtain ⟨h2, h3, h0⟩ := uv_last hx' hlast
    have hb : bs[i]? = some (UInt8.ofNat (x / 128 ^ i)) := by rw [hbs, List.getElem?_append_left (by omega)]; exact h3
    have hbz : (UInt8.ofNat (x / 128 ^ i)).toNat = x / 128 ^ i := by rw [UInt8.toNat_ofNat']; exact Nat.mod_eq_of_lt (Nat.lt_trans h2 (by decide))
    have hcc := h.hc i _ hb
    rw [hbz] at hcc
    have hor : ib .or .u64 ((x % 128 ^ i : Nat) : Int) (IntKind.u64.wrap (((x / 128 ^ i : Nat) : Int) * 2 ^ (min ((7 * i : Nat) : Int).toNat IntKind.u64.bits))) = ((x : Nat) : Int) := by
      rw [or_sh rfl _ (7 * i) (Int.toNat_natCast _) (by show 7 * i ≤ 64; omega) (mod_lt' x i) (by rw [mod_last]; show _ < 18446744073709551616; omega), mod_last]
    clear hb h3 hbz
    generalize x / 128 ^ i = q at h2 h0 hcc hor
    refine oL (l_calli0 h.hf h.hm hcc rfl rfl rfl (Sel.all _)) ?_
    rintro ⟨r, H'⟩ ⟨rfl, rfl⟩
    simp only [List.append_nil]
    refine gn 18 ?_
    refine c_cut (X := Unit) (fun _ => [(0, .iface tv v), (4, .int .u64 (x % 128 ^ i : Nat)), (5, .int .u64 (7 * i : Nat)), (6, .int .u8 (q : Nat))]) (fun _ => J (i + 1)) (fun _ => True) ?_ ?_
    · skip
      refine gn 5 ?_
      refine o_splitp 28 rfl (fun h4 => ?_) (fun h4 => ?_)
      · refine gn 4 ?_
        refine o_splitp 32 rfl (fun h => absurd h (by omega)) (fun _ => ?_)
        refine gn 5 ?_
        refine c_ifp rfl (fun h => absurd h (by omega)) (fun _ => ?_)
        refine gn 1 ?_
        exact n_cut () trivial aK (.refl _)
      · skip
        refine gn 9 ?_
        refine c_ifp rfl (fun h => absurd h (by omega)) (fun _ => ?_)
        refine gn 1 ?_
        exact n_cut () trivial aK (.refl _)
    rintro ⟨⟩ -
    refine gn 8 ?_
    refine c_ifp rfl (fun _ => ?_) (fun h => absurd h (by omega))
    refine gn 6 ?_
    refine o_splitp 41 rfl (fun h7 => ?_) (fun h7 => ?_)
    · refine gn 5 ?_
      refine c_ifp rfl (fun h8 => ?_) (fun h8 => ?_)
      · exact absurd h8 (by have : i = 0 ∨ 0 < i := by omega
                            rcases this with rfl | h; simp; have := h0 h; omega)
      · skip
        refine gn 10 ?_
        rw [hor]
        refine gn 5 ?_
        refine r_fn (l := [.tmp 2, .tmp 3]) results78 rfl rfl ?_
        exact ⟨rfl, by rw [← hlast]⟩
    · skip
      refine gn 16 ?_
      rw [hor]
      refine gn 5 ?_
      refine r_fn (l := [.tmp 2, .tmp 3]) results78 rfl rfl ?_
      exact ⟨rfl, by rw [← hlast]⟩
theorem readU_end (hE : (3, Obj.cells (EV gE :: t3).toArray e3 f3) ∈ G) :
    Ctr prog 78 [RV gr] G [(gr, RB gs n cap n)] (fun r H' => r = .tuple #[.int .u64 0, EV gE] ∧ H' = [(gr, RB gs n cap n)]) := by
  refine fn_enter 59 func78 rfl ntmps78 rfl ?_
  intro w0
  refine gn 22 ?_
  refine c_rounds 1 ?_
  refine gn 5 ?_
  refine oL (lI (byte_eof hE) rfl rfl (.cons .head .nil)) ?_
  rintro ⟨r, H'⟩ ⟨rfl, rfl⟩
  simp only [List.cons_append, List.nil_append]
  refine gn 20 ?_
  refine oX (e_ieq_same runUnderlying80 (typeInfo260) rfl (runUnderlying260) (sizeOf262) (by decide) rfl rfl) ?_
  refine gn 1 ?_
  refine o_split 20 rfl (fun h1 => ?_) (fun h1 => ?_)
  · refine gn 16 ?_
    refine r_fn (l := [.tmp 2, .tmp 3]) results78 rfl rfl ?_
    exact ⟨rfl, rfl⟩
  · cases h1
/-- The bytes of a bytes.Reader, one by one. -/
def rdB (hD : (gs, DB bs rest lo hi) ∈ G) (hn : bs.length = n) (h63 : n < 9223372036854775808) : RdB G 75 (.pointer (some ⟨gr, 0, none⟩)) (fun k => [(gr, RB gs n cap (i + k))]) (bs.drop i) where
  f := 289
  rv := .pointer (some ⟨gr, 0, none⟩)
  hf := call289
  hm := by intro w; kernel_rfl
  hc := fun k b hb => byte_is (i := i + k) hD hn h63 (by rw [List.getElem?_drop] at hb; exact hb)
theorem atLeast_is (h : RdF G tv v (.slice (some ⟨gb, ob, none⟩) L cb) L J0 J1) (hL : 0 < L) (hcb : L ≤ cb) (h63 : cb < 9223372036854775808) :
    Ctr prog 201 [.iface tv v, .slice (some ⟨gb, ob, none⟩) L cb, .int .i64 L] G J0 (fun r H' => r = .tuple #[.int .i64 L, .nilIface] ∧ H' = J1) := by
  refine fn_enter 46 func201 rfl ntmps201 rfl ?_
  intro w0
  refine gn 15 ?_
  refine c_ifp rfl (fun h => absurd h (by omega)) (fun _ => ?_)
  refine gn 4 ?_
  refine c_rounds 2 ?_
  refine gn 7 ?_
  refine o_splitp 17 rfl (fun h2 => ?_) (fun h2 => ?_)
  · refine gn 15 ?_
    refine c_regiong [7] (by kernel_rfl) ?_
    refine lg [0, 1, 2, 3, 4] ?_
    first | refine g_m 5 (fun _ _ _ _ _ h => h) rfl (by kernel_rfl) (by kernel_rfl) (by kernel_rfl) rfl rfl rfl (e_nilCheck rfl) ?_ | refine g_m 5 (fun _ _ _ _ _ h => h) rfl (by kernel_rfl) (by kernel_rfl) (by kernel_rfl) rfl rfl rfl (e_nilm h.hn rfl) ?_
    refine lg [6] ?_
    refine gL 7 rfl (l_calli0 h.hf h.hm h.hc rfl rfl rfl (Sel.all _)) ?_
    rintro ⟨r, H'⟩ ⟨rfl, rfl⟩
    simp only [List.append_nil]
    refine ld [8, 9, 10, 11, 12] ?_
    refine gn 9 ?_
    refine n_rounds ?_
    refine gn 7 ?_
    refine o_splitp 17 rfl (fun h3 => ?_) (fun h3 => ?_)
    · exact absurd h3 (by omega)
    · skip
      refine gn 19 ?_
      refine c_ifp rfl (fun _ => ?_) (fun h => absurd h (by omega))
      refine gn 5 ?_
      refine r_fn (l := [.tmp 6, .tmp 7]) results201 rfl rfl ?_
      exact ⟨by simp, rfl⟩
  · exact absurd h2 (by omega)
theorem atLeast_0 : Ctr prog 201 [v, .slice (some ⟨gb, ob, none⟩) 0 cb, .int .i64 0] G [] (fun r H' => r = .tuple #[.int .i64 0, .nilIface] ∧ H' = []) := by
  refine fn_enter 46 func201 rfl ntmps201 rfl ?_
  intro w0
  refine gn 15 ?_
  refine c_ifp rfl (fun h => absurd h (by omega)) (fun _ => ?_)
  refine gn 4 ?_
  refine c_rounds 1 ?_
  refine gn 7 ?_
  refine o_splitp 17 rfl (fun h2 => ?_) (fun h2 => ?_)
  · exact absurd h2 (by omega)
  · skip
    refine gn 19 ?_
    refine c_ifp rfl (fun _ => ?_) (fun h => absurd h (by omega))
    refine gn 5 ?_
    refine r_fn (l := [.tmp 6, .tmp 7]) results201 rfl rfl ?_
    exact ⟨by simp, rfl⟩
theorem fullG_is (h : RdF G tv v (.slice (some ⟨gb, ob, none⟩) L cb) L J0 J1) (hL : 0 < L) (hcb : L ≤ cb) (h63 : cb < 9223372036854775808) :
    Ctr prog 152 [.iface tv v, .slice (some ⟨gb, ob, none⟩) L cb] G J0 (fun r H' => r = .tuple #[.int .i64 L, .nilIface] ∧ H' = J1) := by
  refine fn_enter 13 func152 rfl ntmps152 rfl ?_
  intro w0
  refine gn 12 ?_
  refine oL (lC (atLeast_is h hL hcb h63) rfl (Sel.all _)) ?_
  rintro ⟨r, H'⟩ ⟨rfl, rfl⟩
  simp only [List.append_nil]
  refine gn 7 ?_
  refine r_fn (l := [.tmp 4, .tmp 5]) results152 rfl rfl ?_
  exact ⟨rfl, rfl⟩
/-- A bytes.Reader gives so many. -/
def rdF (hD : (gs, DB bs rest lo hi) ∈ G) (hn : bs.length = n) (hc : n ≤ cap) (h63 : cap < 9223372036854775808) (hi' : i + L ≤ n) (hL : 0 < L) (hp : ob + L ≤ pl.length) : RdF G 75 (.pointer (some ⟨gr, 0, none⟩)) (.slice (some ⟨gb, ob, none⟩) L cb) L [(gr, RB gs n cap i), (gb, C pl 5)] [(gr, RB gs n cap (i + L)), (gb, C (pl.take ob ++ B ((bs.drop i).take L) ++ pl.drop (ob + L)) 5)] where
  f := 288
  rv := .pointer (some ⟨gr, 0, none⟩)
  hf := call288
  hm := by intro w; kernel_rfl
  hn := by intro w; kernel_rfl
  hc := read_some hD hn hc h63 (by omega) (Nat.min_eq_right (by omega)) hp
end
end Go.Proofs
namespace Go.Proofs
open Go Go.Sl Tryz
set_option maxRecDepth 100000
set_option maxHeartbeats 1000000
/-- A reader out of which identifiers are read: how the byte reader in front of it is made, its single bytes, so many of them. -/
structure CRd (G : HP) (tv : TypeId) (v : Value) (W : Nat → HP) (bs : List UInt8) where
  dir : Value
  fb : Value
  hto : ∀ gD, Ctr prog 159 [.iface tv v, .slice (some ⟨gD, 0, none⟩) 0 64] G [] (fun r H' => ∃ gB, r = .pointer (some ⟨gB, 0, none⟩) ∧ H' = [(gB, C [dir, fb, .slice (some ⟨gD, 0, none⟩) 0 64] 277)])
  hby : ∀ gB gD p q z k b, bs[k]? = some b → p.length + (q.length + 1) = 64 → Ctr prog 394 [.pointer (some ⟨gB, 0, none⟩)] G ((gB, C [dir, fb, .slice (some ⟨gD, 0, none⟩) p.length 64] 277) :: (gD, C (p ++ z :: q) 5) :: W k) (fun r H' => r = .tuple #[.int .u8 (b.toNat : Nat), .nilIface] ∧ H' = (gB, C [dir, fb, .slice (some ⟨gD, 0, none⟩) (p.length + 1) 64] 277) :: (gD, C (p ++ .int .u8 (b.toNat : Nat) :: q) 5) :: W (k + 1))
  hrd : ∀ k L gb ob cb pl, k + L ≤ bs.length → 0 < L → ob + L ≤ pl.length → RdF G tv v (.slice (some ⟨gb, ob, none⟩) L cb) L ((gb, C pl 5) :: W k) ((gb, C (pl.take ob ++ B ((bs.drop k).take L) ++ pl.drop (ob + L)) 5) :: W (k + L))
section
variable {G : HP} {tv : TypeId} {v dir fb : Value} {W : Nat → HP} {bs : List UInt8}
/-- Memory behind so many bytes read one by one: they stand in the byte reader's own row. -/
def BJ (h : CRd G tv v W bs) (gB gD k0 : Nat) (k : Nat) : HP := (gB, C [h.dir, h.fb, .slice (some ⟨gD, 0, none⟩) (k0 + k) 64] 277) :: (gD, C (B (bs.take (k0 + k)) ++ List.replicate (64 - (k0 + k)) (.int .u8 0)) 5) :: W (k0 + k)
def crdB (h : CRd G tv v W bs) (gB gD k0 : Nat) {u : List UInt8} {tl : List UInt8} (hu : bs.drop k0 = u ++ tl) (hk : k0 + u.length ≤ 64) : RdB G 274 (.pointer (some ⟨gB, 0, none⟩)) (BJ h gB gD k0) u where
  f := 394
  rv := .pointer (some ⟨gB, 0, none⟩)
  hf := call394
  hm := by intro w; kernel_rfl
  hc := fun k b hb => by
    have hk1 := (List.getElem?_eq_some_iff.1 hb).1
    have hb' : bs[k0 + k]? = some b := by
      have h1 : (bs.drop k0)[k]? = some b := by rw [hu, List.getElem?_append_left hk1]; exact hb
      rwa [List.getElem?_drop] at h1
    have hlt := (List.getElem?_eq_some_iff.1 hb').1
    have hl : (B (bs.take (k0 + k))).length = k0 + k := by rw [B_length, List.length_take]; omega
    have h1 := h.hby gB gD (B (bs.take (k0 + k))) (List.replicate (64 - (k0 + k) - 1) (.int .u8 0)) (.int .u8 0) (k0 + k) b hb' (by rw [hl, List.length_replicate]; omega)
    have e1 : List.replicate (64 - (k0 + k)) (Value.int .u8 0) = .int .u8 0 :: List.replicate (64 - (k0 + k) - 1) (.int .u8 0) := by
      conv => lhs; rw [show 64 - (k0 + k) = (64 - (k0 + k) - 1) + 1 by omega, List.replicate_succ]
    have e2 : B (bs.take (k0 + (k + 1))) = B (bs.take (k0 + k)) ++ [.int .u8 (b.toNat : Nat)] := by
      rw [← Nat.add_assoc, List.take_add_one, hb']; simp [B]
    rw [hl] at h1
    simp only [BJ]
    rw [e1, e2]
    rw [show 64 - (k0 + (k + 1)) = 64 - (k0 + k) - 1 by omega]
    simpa [Nat.add_assoc] using h1
theorem n_cut' {x : Cx} {k : List KI} {s : Slots} {H H1 : HP} {X : Type} {I : X → Slots} {J : X → HP} {A : X → Prop} (z : X) (hA : A z) (hs : ∀ n v, lk (I z) n = some v → lk s n = some v) (hJ : H.Perm H1) (hJ' : (J z).Sublist H1) :
    WN x (.upto (fun a w => ∃ z, A z ∧ St x (I z) (J z) a w) :: k) s H := n_upto fun _ _ h => ⟨z, hA, (h.perm hJ).less hs hJ'⟩
end
section
variable {G : HP} {g h off n cap : Nat} {d : List UInt8} {l : List Value} {e : TypeId} {fr : Nat × Nat}
theorem castM_is (hh : h < 9223372036854775808) (hd : d.length ≤ 1000) (hm : (g, .cells l.toArray e fr) ∈ G) (hcut : CutL l off n (B (mhB h d))) (hc : n ≤ cap) (hcap : cap < 9223372036854775808) :
    Ctr prog 156 [.slice (some ⟨g, off, none⟩) n cap] G [] (fun r H' => r = .tuple #[.slice (some ⟨g, off, none⟩) n cap, .nilIface] ∧ H' = []) := by
  refine fn_enter 16 func156 rfl ntmps156 rfl ?_
  intro w0
  refine gn 9 ?_
  refine oL (lC (Decode_is hh hd hm hcut hc hcap) rfl .nil) ?_
  rintro ⟨r, H'⟩ ⟨gm, v, rfl, ⟨A, c, rfl⟩, hb, rfl⟩
  simp only [List.cons_append, List.nil_append]
  refine gn 25 ?_
  refine WR.sel .nil ?_
  refine r_fn (l := [.tmp 2, .tmp 3]) results156 rfl rfl ?_
  exact ⟨rfl, rfl⟩
theorem mhFrom_is (hh : h < 9223372036854775808) (hd : d.length ≤ 1000) (hm : (g, .cells l.toArray e fr) ∈ G) (hcut : CutL l off n (B (mhB h d))) (hc : n ≤ cap) (hcap : cap < 9223372036854775808) :
    Ctr prog 158 [.slice (some ⟨g, off, none⟩) n cap] G [] (fun r H' => r = .tuple #[.int .i64 n, .slice (some ⟨g, off, none⟩) n cap, .nilIface] ∧ H' = []) := by
  refine fn_enter 23 func158 rfl ntmps158 rfl ?_
  intro w0
  refine gn 10 ?_
  refine oL (lC (rmh_is hh hd hm hcut hc hcap) rfl .nil) ?_
  rintro ⟨r, H'⟩ ⟨v, rfl, ⟨A, c, rfl⟩, hb, rfl⟩
  simp only [List.nil_append]
  refine gn 33 ?_
  refine r_fn (l := [.tmp 2, .tmp 3, .tmp 4]) results158 rfl rfl ?_
  exact ⟨rfl, rfl⟩
end
section
variable {G : HP} {tv : TypeId} {v : Value} {W : Nat → HP} {bs tl : List UInt8} {x : En}
theorem fullC_is (h : CRd G tv v W bs) {k L gb ob cb : Nat} {pl : List Value} (h1 : k + L ≤ bs.length) (h2 : ob + L ≤ pl.length) (h3 : L ≤ cb) (h63 : cb < 9223372036854775808) :
    Ctr prog 152 [.iface tv v, .slice (some ⟨gb, ob, none⟩) L cb] G ((gb, C pl 5) :: W k) (fun r H' => r = .tuple #[.int .i64 L, .nilIface] ∧ H' = (gb, C (pl.take ob ++ B ((bs.drop k).take L) ++ pl.drop (ob + L)) 5) :: W (k + L)) := by
  rcases Nat.eq_zero_or_pos L with rfl | hL
  · have e1 : pl.take ob ++ B ((bs.drop k).take 0) ++ pl.drop (ob + 0) = pl := by simp [B]
    rw [e1]
    refine fn_enter 13 func152 rfl ntmps152 rfl ?_
    intro w0
    refine gn 12 ?_
    refine oL (lC atLeast_0 rfl .nil) ?_
    rintro ⟨r, H'⟩ ⟨rfl, rfl⟩
    simp only [List.nil_append]
    refine gn 7 ?_
    refine r_fn (l := [.tmp 4, .tmp 5]) results152 rfl rfl ?_
    exact ⟨rfl, rfl⟩
  · exact fullG_is (h.hrd k L gb ob cb pl h1 hL h2) hL h3 h63
theorem CutL.all {xs ys : List Value} {n : Nat} (h : xs.length = n) : CutL (xs ++ ys) 0 n xs := by
  have := CutL.of (l := xs ++ ys) (i := 0) (n := n) (by rw [List.length_append]; omega)
  rwa [List.drop_zero, List.take_left' h] at this
theorem cidR_is (h : CRd G tv v W bs) (hbs : bs = cidB x ++ tl) (ht : Tidy x) (hf : EnFit x) (hd : x.d.length ≤ 200) :
    Ctr prog 90 [.iface tv v] G (W 0) (fun r H' => r = .tuple #[.int .i64 (cidB x).length, .agg #[S (cidB x)], .nilIface] ∧ H' = W (cidB x).length) := by
  obtain ⟨v0, c, hh, d, o⟩ := x
  obtain ⟨_, _, hc0, hc1, hh0, hh1, _, _⟩ := hf
  simp only at hc0 hc1 hh0 hh1 hd
  simp only [Tidy] at ht
  obtain ⟨c, rfl⟩ := Int.eq_ofNat_of_zero_le hc0
  obtain ⟨hh, rfl⟩ := Int.eq_ofNat_of_zero_le hh0
  rcases ht with ⟨rfl, h1, h2, h3⟩ | ⟨rfl, h1, h2⟩
  · have hcid : cidB ⟨0, (c : Nat), (hh : Nat), d, o⟩ = mhB 18 d := if_pos rfl
    have hv : mhB 18 d = 18 :: 32 :: d := by rw [mhB, h3]; rfl
    rw [hcid] at hbs ⊢
    have hbl : bs.length = 34 + tl.length := by rw [hbs, hv]; simp [h3]; omega
    have hu1 : bs.drop 0 = uv 18 ++ (32 :: d ++ tl) := by rw [hbs, hv]; rfl
    have hl34 : (mhB 18 d).length = 34 := by rw [hv]; simp [h3]
    have hcut : CutL (B (mhB 18 d) ++ List.replicate 30 (.int .u8 0)) 0 34 (B (mhB 18 d)) := CutL.all (by rw [B_length]; exact hl34)
    have hrow : (B (bs.take 1) ++ List.replicate (64 - 1) (Value.int .u8 0)).take 1 ++ B ((bs.drop 1).take 33) ++ (B (bs.take 1) ++ List.replicate (64 - 1) (Value.int .u8 0)).drop (1 + 33) = B (mhB 18 d) ++ List.replicate 30 (.int .u8 0) := by
      have h5 : bs.take 34 = mhB 18 d := by rw [hbs, List.take_left' hl34]
      have h6 : (B (bs.take 1)).length = 1 := by rw [B_length, List.length_take]; omega
      rw [List.take_left' h6, ← B_append, ← List.take_add, ← List.drop_drop, List.drop_left' h6, h5]
      rfl
    have hu18 : (uv 18).length = 1 := rfl
    rw [hl34]
    refine fn_enter 275 func90 rfl ntmps90 rfl ?_
    intro w0
    refine gn 3 ?_
    refine oZ ?_; intro g3 _
    refine gn 6 ?_
    refine oL (l_mks (l := List.replicate 64 (.int .u8 0)) underlying72 (info_of typeInfo5) rfl rfl rfl rfl (by decide) (by decide) (by decide) (by decide) (made_one (.int .u8 0) 64 rfl)) ?_
    intro gD _
    refine oL (lC (h.hto _) rfl .nil) ?_
    rintro ⟨r, H'⟩ ⟨gB, rfl, rfl⟩
    simp only [List.cons_append, List.nil_append]
    refine gn 7 ?_
    refine o_perm ((List.perm_append_comm (l₁ := [_, _]) (l₂ := [_])).append_right _) ?_
    simp only [List.cons_append, List.nil_append]
    refine oL (l_call (HI := BJ h gB gD 0 0) call78 (readU_is (x := 18) (crdB h gB gD 0 hu1 (by decide)) (by decide) (List.append_nil _).symm) rfl rfl (.cons (.tail .head) (.cons (.tail .head) (Sel.appR [_] (W 0))))) ?_
    rintro ⟨r, H'⟩ ⟨rfl, rfl⟩
    refine o_perm List.perm_append_comm ?_
    simp only [BJ, List.cons_append, List.nil_append, hu18, Nat.zero_add]
    refine gn 34 ?_
    refine oL (lC (fullC_is h (k := 1) (L := 33) (gb := gD) (ob := 1) (cb := 63) (pl := B (bs.take 1) ++ List.replicate (64 - 1) (.int .u8 0)) (by omega) (by rw [List.length_append, B_length, List.length_take, List.length_replicate]; omega) (by decide) (by decide)) rfl (.cons (.tail (.tail .head)) (Sel.appR [_, _] (W 1)))) ?_
    rintro ⟨r, H'⟩ ⟨rfl, rfl⟩
    refine o_perm List.perm_append_comm ?_
    simp only [List.cons_append, List.nil_append]
    rw [hrow]
    refine gn 26 ?_
    refine oT ?_; intro _ _
    refine gn 8 ?_
    refine oL (lJ (HJ := [(gD, C (B (mhB 18 d) ++ List.replicate 30 (.int .u8 0)) 5)]) (castM_is (h := 18) (d := d) (by decide) (by omega) (List.mem_append_right _ (.head _)) hcut (by decide) (by decide)) rfl .nil (by intro p hp; rcases List.mem_singleton.1 hp with rfl; exact .tail _ (.tail _ (.head _)))) ?_
    rintro ⟨r, H'⟩ ⟨rfl, rfl⟩
    simp only [List.nil_append]
    refine gn 18 ?_
    refine c_regiong [9] (by kernel_rfl) ?_
    refine lg [0, 1, 2, 1003, 4, 5, 8] ?_
    refine gE 6 rfl (e_bs underlying178 underlying5 underlying9 rfl aM hcut) ?_
    refine gM 7 rfl (eB [S (mhB 18 d)]) ?_
    refine gL 9 rfl (l_storea sizeOf111 rfl rfl rfl (by simp [Value.oneCell']) aU (.take .done) nofrs0) ?_
    intro _ _
    refine ld [10] ?_
    refine gn 3 ?_
    refine r_fnx results90 (.tmp rfl (.cella isAgg111 sizeOf111 rfl aM (.take .done) (.tmp rfl .nil))) (Sel.appR [_, _, _] (W 34)) rfl ?_
    exact ⟨rfl, rfl⟩
  · have hcid : cidB ⟨1, (c : Nat), (hh : Nat), d, o⟩ = 1 :: (uv c ++ mhB hh d) := if_neg (show ¬ (1 : Int) = 0 by decide)
    rw [hcid] at hbs ⊢
    have hu1 : (uv 1).length = 1 := rfl
    have hcp := uv_pos c
    have hc9 := uv_le9 (x := c) (by omega)
    have hhp := uv_pos hh
    have hh9 := uv_le9 (x := hh) (by omega)
    have hdp := uv_pos d.length
    have hd9 := uv_le9 (x := d.length) (by omega)
    have hbs' : bs = uv 1 ++ (uv c ++ (uv hh ++ (uv d.length ++ (d ++ tl)))) := by rw [hbs]; simp [mhB]; rfl
    obtain ⟨p2, hp2⟩ : ∃ p2, p2 = 1 + (uv c).length := ⟨_, rfl⟩
    obtain ⟨p3, hp3⟩ : ∃ p3, p3 = p2 + (uv hh).length := ⟨_, rfl⟩
    obtain ⟨p4, hp4⟩ : ∃ p4, p4 = p3 + (uv d.length).length := ⟨_, rfl⟩
    have hlen : (1 :: (uv c ++ mhB hh d)).length = p4 + d.length := by simp [mhB]; omega
    have hbl : bs.length = p4 + d.length + tl.length := by rw [hbs, List.length_append, hlen]
    have d0 : bs.drop 0 = uv 1 ++ (uv c ++ (uv hh ++ (uv d.length ++ (d ++ tl)))) := by rw [List.drop_zero]; exact hbs'
    have d1 : bs.drop 1 = uv c ++ (uv hh ++ (uv d.length ++ (d ++ tl))) := drop_at hbs' rfl
    have d2 : bs.drop p2 = uv hh ++ (uv d.length ++ (d ++ tl)) := drop_at (a := uv 1 ++ uv c) (by rw [hbs']; simp) (by simp [hu1, hp2])
    have d3 : bs.drop p3 = uv d.length ++ (d ++ tl) := drop_at (a := uv 1 ++ uv c ++ uv hh) (by rw [hbs']; simp) (by simp [hu1, hp3, hp2]; omega)
    have d4 : bs.drop p4 = d ++ tl := drop_at (a := uv 1 ++ uv c ++ uv hh ++ uv d.length) (by rw [hbs']; simp) (by simp [hu1, hp4, hp3, hp2]; omega)
    have htk : bs.take (p4 + d.length) = 1 :: (uv c ++ mhB hh d) := by rw [hbs, List.take_left' hlen]
    have hcm : ∀ Z, CutL (B (1 :: (uv c ++ mhB hh d)) ++ Z) p2 (p4 + d.length - p2) (B (mhB hh d)) := fun Z => by
      have e1 : 1 :: (uv c ++ mhB hh d) = (1 :: uv c) ++ mhB hh d := rfl
      have h5 : CutL (B (1 :: (uv c ++ mhB hh d)) ++ Z) 0 (p4 + d.length) (B ((1 :: uv c) ++ mhB hh d)) := by rw [← e1]; exact CutL.all (by rw [B_length]; exact hlen)
      have h6 := h5.front (a := p2) (by simp [hp2]; omega)
      rwa [Nat.zero_add] at h6
    have hca : ∀ Z, CutL (B (1 :: (uv c ++ mhB hh d)) ++ Z) 0 (p4 + d.length) (B (1 :: (uv c ++ mhB hh d))) := fun Z => CutL.all (by rw [B_length]; exact hlen)
    have hrow : ∀ Z : List Value, d.length ≤ Z.length → (B (bs.take p4) ++ Z).take p4 ++ B ((bs.drop p4).take d.length) ++ (B (bs.take p4) ++ Z).drop (p4 + d.length) = B (1 :: (uv c ++ mhB hh d)) ++ Z.drop d.length := fun Z hZ => by
      have h6 : (B (bs.take p4)).length = p4 := by rw [B_length, List.length_take]; omega
      rw [List.take_left' h6, ← B_append, ← List.take_add, htk, ← List.drop_drop, List.drop_left' h6]
    have hmh := hlen
    generalize 1 :: (uv c ++ mhB hh d) = cb at *
    rw [hlen]
    refine fn_enter 275 func90 rfl ntmps90 rfl ?_
    intro w0
    refine gn 3 ?_
    refine oZ ?_; intro g3 _
    refine gn 6 ?_
    refine oL (l_mks (l := List.replicate 64 (.int .u8 0)) underlying72 (info_of typeInfo5) rfl rfl rfl rfl (by decide) (by decide) (by decide) (by decide) (made_one (.int .u8 0) 64 rfl)) ?_
    intro gD _
    refine oL (lC (h.hto _) rfl .nil) ?_
    rintro ⟨r, H'⟩ ⟨gB, rfl, rfl⟩
    simp only [List.cons_append, List.nil_append]
    refine gn 7 ?_
    refine o_perm ((List.perm_append_comm (l₁ := [_, _]) (l₂ := [_])).append_right _) ?_
    simp only [List.cons_append, List.nil_append]
    refine oL (l_call (HI := BJ h gB gD 0 0) call78 (readU_is (x := 1) (crdB h gB gD 0 d0 (by decide)) (by decide) (List.append_nil _).symm) rfl rfl (.cons (.tail .head) (.cons (.tail .head) (Sel.appR [_] (W 0))))) ?_
    rintro ⟨r, H'⟩ ⟨rfl, rfl⟩
    refine o_perm List.perm_append_comm ?_
    simp only [BJ, List.cons_append, List.nil_append, hu1, Nat.zero_add]
    refine gn 41 ?_
    refine oL (l_call (HI := BJ h gB gD 1 0) call78 (readU_is (x := c) (crdB h gB gD 1 d1 (by omega)) (by omega) (List.append_nil _).symm) rfl rfl (.cons (.tail .head) (.cons (.tail .head) (Sel.appR [_] (W 1))))) ?_
    rintro ⟨r, H'⟩ ⟨rfl, rfl⟩
    refine o_perm List.perm_append_comm ?_
    simp only [BJ, List.cons_append, List.nil_append, ← hp2]
    refine gn 30 ?_
    refine oL (l_call (HI := BJ h gB gD p2 0) call78 (readU_is (x := hh) (crdB h gB gD p2 d2 (by omega)) (by omega) (List.append_nil _).symm) rfl rfl (.cons (.tail .head) (.cons (.tail .head) (Sel.appR [_] (W p2))))) ?_
    rintro ⟨r, H'⟩ ⟨rfl, rfl⟩
    refine o_perm List.perm_append_comm ?_
    simp only [BJ, List.cons_append, List.nil_append, ← hp3]
    refine gn 20 ?_
    refine oL (l_call (HI := BJ h gB gD p3 0) call78 (readU_is (x := d.length) (crdB h gB gD p3 d3 (by omega)) (by omega) (List.append_nil _).symm) rfl rfl (.cons (.tail .head) (.cons (.tail .head) (Sel.appR [_] (W p3))))) ?_
    rintro ⟨r, H'⟩ ⟨rfl, rfl⟩
    refine o_perm List.perm_append_comm ?_
    simp only [BJ, List.cons_append, List.nil_append, ← hp4]
    have hp4l : (B (bs.take p4)).length = p4 := by rw [B_length, List.length_take]; omega
    refine gn 24 ?_
    refine c_ifp rfl (fun h => absurd h (by omega)) (fun _ => ?_)
    refine gn 33 ?_
    refine c_cut (X := Nat × List Value) (fun _ => [(0, .iface tv v), (3, .pointer (some ⟨g3, 0, none⟩)), (5, .pointer (some ⟨gB, 0, none⟩)), (12, .int .i64 p2), (14, .int .i64 p4), (15, .int .i64 (p4 + d.length : Nat))]) (fun y => (g3, C [S []] 111) :: (gB, C [h.dir, h.fb, .slice (some ⟨y.1, 0, none⟩) (p4 + d.length) (p4 + y.2.length)] 277) :: (y.1, C (B (bs.take p4) ++ y.2) 5) :: W p4) (fun y => d.length ≤ y.2.length ∧ 0 < y.2.length ∧ p4 + y.2.length < 9223372036854775808) ?_ ?_
    · skip
      refine c_ifp rfl (fun hA => ?_) (fun hA => ?_)
      · refine c_regiong [12, 15] (by kernel_rfl) ?_
        refine lg [0, 1, 2, 3, 1004, 5, 6, 7, 8, 1009, 10, 11] ?_
        simp only [Nat.add_sub_cancel_left]
        refine gL 12 rfl (l_appZO (m := d.length) underlying72 underlying3 (info_of typeInfo5) rfl rfl rfl rfl rfl rfl rfl (.tail _ (.tail _ (.head _))) (CutL.all hp4l) (by omega) (by omega) (by omega)) ?_
        rintro ⟨gN, Z⟩ ⟨hZ1, hZ2⟩
        simp only at hZ1 hZ2 ⊢
        refine ld [13, 14] ?_
        refine dT 15 ?_
        intro _ _
        refine gn 1 ?_
        exact n_cut' (gN, Z) ⟨hZ1, by show 0 < Z.length; omega, hZ2⟩ aK ((List.perm_append_comm (l₁ := [_]) (l₂ := [_, _])).append_right _) (.cons_cons _ (.cons_cons _ (.cons_cons _ (.cons _ (List.Sublist.refl _)))))
      · skip
        have e64 : p4 + (List.replicate (64 - p4) (Value.int .u8 0)).length = 64 := by simp; omega
        refine gn 10 ?_
        refine oT ?_; intro _ _
        refine gn 1 ?_
        simp only [Int.toNat_natCast]
        exact n_cut (gD, List.replicate (64 - p4) (.int .u8 0)) ⟨by simp; omega, by simp; omega, by rw [e64]; decide⟩ aK (by simp only [e64]; exact .refl _)
    rintro ⟨gN, Z⟩ ⟨hZ1, hZ0, hZ2⟩
    simp only at hZ1 hZ0 hZ2 ⊢
    refine gn 12 ?_
    simp only [Int.toNat_natCast, Nat.mul_one, Nat.zero_add, Nat.add_sub_cancel_left]
    refine oL (lC (fullC_is h (k := p4) (L := d.length) (gb := gN) (ob := p4) (cb := Z.length) (pl := B (bs.take p4) ++ Z) (by omega) (by rw [List.length_append, hp4l]; omega) hZ1 (by omega)) rfl (.cons (.tail (.tail .head)) (Sel.appR [_, _] (W p4)))) ?_
    rintro ⟨r, H'⟩ ⟨rfl, rfl⟩
    refine o_perm List.perm_append_comm ?_
    simp only [List.cons_append, List.nil_append]
    rw [hrow Z hZ1]
    refine gn 24 ?_
    simp only [Int.toNat_natCast, Nat.mul_one, Nat.zero_add]
    refine oL (lJ (HJ := [(gN, C (B cb ++ Z.drop d.length) 5)]) (mhFrom_is (h := hh) (d := d) (by omega) (by omega) (List.mem_append_right _ (.head _)) (hcm _) (by omega) (by omega)) rfl .nil (by intro p hp; rcases List.mem_singleton.1 hp with rfl; exact .tail _ (.tail _ (.head _)))) ?_
    rintro ⟨r, H'⟩ ⟨rfl, rfl⟩
    simp only [List.nil_append]
    refine gn 18 ?_
    refine c_regiong [12] (by kernel_rfl) ?_
    refine lg [0, 1, 2, 1003, 4, 5, 6, 7, 1008, 11] ?_
    refine gE 9 rfl (e_bs underlying72 underlying5 underlying9 rfl aM (hca _)) ?_
    refine gM 10 rfl (eB [S cb]) ?_
    refine gL 12 rfl (l_storea sizeOf111 rfl rfl rfl (by simp [Value.oneCell']) aU (.take .done) nofrs0) ?_
    intro _ _
    refine ld [13] ?_
    refine gn 3 ?_
    refine r_fnx results90 (.tmp rfl (.cella isAgg111 sizeOf111 rfl aM (.take .done) (.tmp rfl .nil))) (Sel.appR [_, _, _] (W (p4 + d.length))) rfl ?_
    exact ⟨rfl, rfl⟩
end
end Go.Proofs
namespace Go.Proofs
open Go Go.Sl Tryz
set_option maxRecDepth 100000
set_option maxHeartbeats 1000000
section
variable {G : HP} {gr gs n cap i lo hi : Nat} {bs : List UInt8} {rest : List Value}
theorem toBuf_is {gD : Nat} : Ctr prog 159 [RV gr, .slice (some ⟨gD, 0, none⟩) 0 64] G [] (fun r H' => ∃ gB, r = .pointer (some ⟨gB, 0, none⟩) ∧ H' = [(gB, C [RV gr, .nilIface, .slice (some ⟨gD, 0, none⟩) 0 64] 277)]) := by
  refine fn_enter 21 func159 rfl ntmps159 rfl ?_
  intro w0
  refine gn 9 ?_
  refine oX (e_ta (r := .tuple #[RV gr, .bool true]) rfl (by intro w; kernel_rfl)) ?_
  refine gn 17 ?_
  refine oX (eB [RV gr, .nilIface, .slice (some ⟨gD, 0, none⟩) 0 64]) ?_
  refine oB ?_; intro g16 _
  refine gn 4 ?_
  refine r_fn1 results159 rfl ?_
  exact ⟨_, rfl, rfl⟩
theorem bufRB_is {gB gD k : Nat} {p q : List Value} {z : Value} {b : UInt8} (hD : (gs, DB bs rest lo hi) ∈ G) (hn : bs.length = n) (h63 : n < 9223372036854775808) (hb : bs[k]? = some b) (hpq : p.length + (q.length + 1) = 64) :
    Ctr prog 394 [.pointer (some ⟨gB, 0, none⟩)] G [(gB, C [RV gr, .nilIface, .slice (some ⟨gD, 0, none⟩) p.length 64] 277), (gD, C (p ++ z :: q) 5), (gr, RB gs n cap k)] (fun r H' => r = .tuple #[.int .u8 (b.toNat : Nat), .nilIface] ∧ H' = [(gB, C [RV gr, .nilIface, .slice (some ⟨gD, 0, none⟩) (p.length + 1) 64] 277), (gD, C (p ++ .int .u8 (b.toNat : Nat) :: q) 5), (gr, RB gs n cap (k + 1))]) := by
  refine fn_enter 60 func394 rfl ntmps394 rfl ?_
  intro w0
  refine gn 26 ?_
  refine oL (lI (byte_is hD hn h63 hb) rfl rfl (.cons (.tail (.tail .head)) .nil)) ?_
  rintro ⟨r, H'⟩ ⟨rfl, rfl⟩
  simp only [List.cons_append, List.nil_append]
  refine gn 25 ?_
  refine oL (l_bs1 runUnderlying72 sizeOf5 zeroValue5 rfl rfl rfl) ?_; intro g30 _
  refine oL (l_appR (sz := 1) (m := 1) (L := p ++ .int .u8 (b.toNat : Nat) :: q) underlying72 (info_of typeInfo5) rfl rfl rfl rfl (.tail (.tail (.tail .head))) (by simp; omega) (by omega) (.inr rfl) (.blk underlying72 (.inl (.head _)) (.take .done) (by simp [Value.oneCell'])) (by simp)) ?_
  rintro ⟨⟩ -
  refine gn 2 ?_
  refine oT ?_; intro _ _
  refine gn 10 ?_
  refine WR.sel (.cons (.tail (.tail .head)) (.cons (.tail (.tail .head)) (.cons (.tail .head) .nil))) ?_
  refine r_fn (l := [.tmp 2, .tmp 3]) results394 rfl rfl ?_
  exact ⟨rfl, rfl⟩
/-- A bytes.Reader. -/
def crdR (hD : (gs, DB bs rest lo hi) ∈ G) (hn : bs.length = n) (hc : n ≤ cap) (h63 : cap < 9223372036854775808) (hi' : i ≤ n) : CRd G 75 (.pointer (some ⟨gr, 0, none⟩)) (fun k => [(gr, RB gs n cap (i + k))]) (bs.drop i) where
  dir := RV gr
  fb := .nilIface
  hto := fun _ => toBuf_is
  hby := fun gB gD p q z k b hb hpq => by
    rw [List.getElem?_drop] at hb
    exact bufRB_is hD hn (by omega) hb hpq
  hrd := fun k L gb ob cb pl h1 hL h2 => by
    rw [List.length_drop] at h1
    have hr := rdF (gr := gr) (gb := gb) (ob := ob) (cb := cb) (i := i + k) (L := L) (pl := pl) hD hn hc h63 (by omega) hL h2
    rw [List.drop_drop]
    exact ⟨hr.f, hr.rv, hr.hf, hr.hm, hr.hn, hr.hc.perm (.swap _ _ _) (fun v K hK => by obtain ⟨rfl, rfl⟩ := hK; exact ⟨_, .swap _ _ _, rfl, by rw [Nat.add_assoc]⟩)⟩
end
end Go.Proofs
namespace Go.Proofs
open Go Go.Sl Tryz
set_option maxRecDepth 100000
set_option maxHeartbeats 1000000
section
variable {G : HP} {gr gs gb gq ob n cap cb i k L lo hi : Nat} {bs : List UInt8} {rest pl : List Value} {e : TypeId} {gE : Addr} {t3 : List Value} {e3 : TypeId} {f3 : Nat × Nat} {zl zb : Value} {ls : Int}
theorem read_any (hD : (gs, DB bs rest lo hi) ∈ G) (hn : bs.length = n) (hc : n ≤ cap) (h63 : cap < 9223372036854775808) (hi' : i < n) (hk : Nat.min (n - i) L = k) (hp : ob + L ≤ pl.length) :
    Ctr prog 288 [.pointer (some ⟨gr, 0, none⟩), .slice (some ⟨gb, ob, none⟩) L cb] G [(gr, RB gs n cap i), (gb, C pl e)] (fun r H' => r = .tuple #[.int .i64 (k : Nat), .nilIface] ∧ H' = [(gr, RB gs n cap (i + k)), (gb, C (pl.take ob ++ B ((bs.drop i).take k) ++ pl.drop (ob + k)) e)]) := by
  have hk1 : k ≤ n - i := by rw [← hk]; exact Nat.min_le_left _ _
  have hk2 : k ≤ L := by rw [← hk]; exact Nat.min_le_right _ _
  have hl0 : ((B ((bs.drop i).take (n - i))).take k).length = k := by rw [List.length_take, B_length, List.length_take, List.length_drop]; omega
  refine fn_enter 39 func288 rfl ntmps288 rfl ?_
  intro w0
  refine gn 21 ?_
  refine c_ifp rfl (fun h => absurd h (by omega)) (fun _ => ?_)
  refine gn 7 ?_
  refine oT ?_; intro _ _
  refine gn 3 ?_
  refine c_regiong [10] (by kernel_rfl) ?_
  refine lg [0, 1, 2, 3, 1004, 5, 6, 7, 1008, 9] ?_
  refine gL 10 rfl (l_copyE runUnderlying72 sizeOf5 rfl rfl rfl (.blk underlying72 (.inr hD) (DB_cut (k := n - i) (by omega)) (B_one _)) hk (.tail .head) (PutL.of (l := pl) (i := ob) (vs := (B ((bs.drop i).take (n - i))).take k) (by rw [hl0]; omega)) (.inr rfl)) ?_
  intro _ _
  refine ld [11] ?_
  refine gn 12 ?_
  refine oT ?_; intro _ _
  refine gn 3 ?_
  refine r_fn (l := [.tmp 4, .tmp 5]) results288 rfl rfl ?_
  have hb : (B ((bs.drop i).take (n - i))).take k = B ((bs.drop i).take k) := by simp [B, List.map_take, List.take_take, Nat.min_eq_left hk1]
  have hl : (B ((bs.drop i).take k)).length = k := by simp [B]; omega
  refine ⟨rfl, ?_⟩
  simp only [Int.toNat_natCast, hb, hl, RB]
theorem scanRd_is (hD : (gs, DB bs rest lo hi) ∈ G) (hE : (3, Obj.cells (EV gE :: t3).toArray e3 f3) ∈ G) (hn : bs.length = n) (hc : n ≤ cap) (h63 : cap < 9223372036854775808) (hi' : i + L ≤ n) (hL : 0 < L) (hp : ob + L ≤ pl.length) (hls : ls = 0 ∨ ls = 2) :
    Ctr prog 417 [.pointer (some ⟨gq, 0, none⟩), .slice (some ⟨gb, ob, none⟩) L cb] G [(gq, C [RV gr, zl, .int .u8 ls, zb] 363), (gr, RB gs n cap i), (gb, C pl e)] (fun r H' => r = .tuple #[.int .i64 (L : Nat), .nilIface] ∧ H' = [(gq, C [RV gr, .int .u8 ((bs.getD (i + (L - 1)) 0).toNat : Nat), .int .u8 2, zb] 363), (gr, RB gs n cap (i + L)), (gb, C (pl.take ob ++ B ((bs.drop i).take L) ++ pl.drop (ob + L)) e)]) := by
  have hrd := read_any (G := G) (gr := gr) (gb := gb) (ob := ob) (L := L) (cb := cb) (k := L) (pl := pl) (e := e) hD hn hc h63 (show i < n by omega) (Nat.min_eq_right (by omega)) hp
  have h1 : ((bs.drop i).take L).length = L := by rw [List.length_take, List.length_drop]; omega
  have h3 : (pl.take ob).length = ob := by rw [List.length_take]; omega
  have hrl : (pl.take ob ++ B ((bs.drop i).take L) ++ pl.drop (ob + L)).length = pl.length := by
    simp only [List.length_append, h3, B_length, h1, List.length_drop]; omega
  have hz : (pl.take ob ++ B ((bs.drop i).take L) ++ pl.drop (ob + L))[ob + (L - 1) * 1]? = some (.int .u8 ((bs.getD (i + (L - 1)) 0).toNat : Nat)) := by
    rw [Nat.mul_one, List.append_assoc, List.getElem?_append_right (by rw [h3]; omega), h3, Nat.add_sub_cancel_left, List.getElem?_append_left (by rw [B_length, h1]; omega)]
    rw [B, List.getElem?_map, List.getElem?_take_of_lt (by omega), List.getElem?_drop, List.getD_eq_getElem?_getD, List.getElem?_eq_getElem (by omega)]
    rfl
  generalize pl.take ob ++ B ((bs.drop i).take L) ++ pl.drop (ob + L) = q at *
  refine fn_enter 60 func417 rfl ntmps417 rfl ?_
  intro w0
  refine gn 21 ?_
  refine c_ifp rfl (fun h => absurd h (by omega)) (fun _ => ?_)
  refine gn 9 ?_
  refine oL (lI hrd rfl rfl (.cons (.tail .head) (.cons (.tail .head) .nil))) ?_
  rintro ⟨r, H'⟩ ⟨rfl, rfl⟩
  simp only [List.cons_append, List.nil_append]
  refine gn 14 ?_
  refine c_ifp rfl (fun _ => ?_) (fun h => absurd h (by omega))
  refine gn 5 ?_
  refine oX (e_ieq_n runUnderlying80 rfl rfl) ?_
  refine gn 21 ?_
  refine oT ?_; intro _ _
  refine gn 6 ?_
  refine oT ?_; intro _ _
  refine gn 12 ?_
  refine WR.sel (.cons (.tail (.tail .head)) (.cons .head (.cons .head .nil))) ?_
  refine r_fn (l := [.tmp 4, .tmp 5]) results417 rfl rfl ?_
  exact ⟨rfl, rfl⟩
theorem scanRdB_is {b : UInt8} (hD : (gs, DB bs rest lo hi) ∈ G) (hE : (3, Obj.cells (EV gE :: t3).toArray e3 f3) ∈ G) (hn : bs.length = n) (hc : n ≤ cap) (h63 : cap < 9223372036854775808) (hb : bs[i]? = some b) (hls : ls = 0 ∨ ls = 2) :
    Ctr prog 417 [.pointer (some ⟨gq, 0, none⟩), .slice (some ⟨gq, 3, none⟩) 1 1] G [(gq, C [RV gr, zl, .int .u8 ls, zb] 363), (gr, RB gs n cap i)] (fun r H' => r = .tuple #[.int .i64 1, .nilIface] ∧ H' = [(gq, C [RV gr, .int .u8 (b.toNat : Nat), .int .u8 2, .int .u8 (b.toNat : Nat)] 363), (gr, RB gs n cap (i + 1))]) := by
  have hi := (List.getElem?_eq_some_iff.1 hb).1
  have hrd := read_any (G := G) (gr := gr) (gb := gq) (ob := 3) (L := 1) (cb := 1) (k := 1) (pl := [RV gr, zl, .int .u8 ls, zb]) (e := 363) hD hn hc h63 (show i < n by omega) (Nat.min_eq_right (by omega)) (by simp)
  have h1 : (bs.drop i).take 1 = [b] := by
    rw [List.drop_eq_getElem_cons hi]
    have : bs[i] = b := by rw [List.getElem?_eq_getElem hi] at hb; exact Option.some.inj hb
    simp [this]
  rw [h1] at hrd
  have h2 : [RV gr, zl, Value.int .u8 ls, zb].take 3 ++ B [b] ++ [RV gr, zl, Value.int .u8 ls, zb].drop (3 + 1) = [RV gr, zl, .int .u8 ls, .int .u8 (b.toNat : Nat)] := rfl
  rw [h2] at hrd
  refine fn_enter 60 func417 rfl ntmps417 rfl ?_
  intro w0
  refine gn 21 ?_
  refine c_ifp rfl (fun h => absurd h (by omega)) (fun _ => ?_)
  refine gn 9 ?_
  refine oL (lI hrd rfl rfl (.cons (.tail .head) (.cons .head .nil))) ?_
  rintro ⟨r, H'⟩ ⟨rfl, rfl⟩
  simp only [List.cons_append, List.nil_append]
  refine gn 20 ?_
  refine oX (e_ieq_n runUnderlying80 rfl rfl) ?_
  refine gn 21 ?_
  refine oT ?_; intro _ _
  refine gn 6 ?_
  refine oT ?_; intro _ _
  refine gn 12 ?_
  refine WR.sel (.cons (.tail .head) (.cons .head .nil)) ?_
  refine r_fn (l := [.tmp 4, .tmp 5]) results417 rfl rfl ?_
  exact ⟨rfl, rfl⟩
theorem scanB_is {b : UInt8} (hD : (gs, DB bs rest lo hi) ∈ G) (hE : (3, Obj.cells (EV gE :: t3).toArray e3 f3) ∈ G) (hn : bs.length = n) (hc : n ≤ cap) (h63 : cap < 9223372036854775808) (hb : bs[i]? = some b) (hls : ls = 0 ∨ ls = 2) :
    Ctr prog 418 [.pointer (some ⟨gq, 0, none⟩)] G [(gq, C [RV gr, zl, .int .u8 ls, zb] 363), (gr, RB gs n cap i)] (fun r H' => r = .tuple #[.int .u8 (b.toNat : Nat), .nilIface] ∧ H' = [(gq, C [RV gr, .int .u8 (b.toNat : Nat), .int .u8 2, .int .u8 (b.toNat : Nat)] 363), (gr, RB gs n cap (i + 1))]) := by
  refine fn_enter 24 func418 rfl ntmps418 rfl ?_
  intro w0
  refine gn 13 ?_
  refine oL (lC (scanRdB_is hD hE hn hc h63 hb hls) rfl (.cons .head (.cons .head .nil))) ?_
  rintro ⟨r, H'⟩ ⟨rfl, rfl⟩
  simp only [List.cons_append, List.nil_append]
  refine gn 29 ?_
  refine oX (e_ieq_n runUnderlying80 rfl rfl) ?_
  refine gn 6 ?_
  refine r_fn (l := [.tmp 2, .tmp 3]) results418 rfl rfl ?_
  exact ⟨rfl, rfl⟩
end
end Go.Proofs
namespace Go.Sl
open Go
theorem SetAt.app {l l' : List Value} {k : Nat} {v : Value} (h : SetAt l k v l') : ∀ p : List Value, SetAt (p ++ l) (p.length + k) v (p ++ l')
  | [] => by simpa using h
  | a :: p => by
    have := SetAt.tail (a := a) (SetAt.app h p)
    rw [show (a :: p).length + k = p.length + k + 1 by simp; omega]
    exact this
end Go.Sl
namespace Go.Proofs
open Go Go.Sl Tryz
set_option maxRecDepth 100000
set_option maxHeartbeats 1000000
section
variable {x a b c v : Value} {sc d : List Value}
/-- The cells of the decoder's reader: the reader behind it, 32 bytes of its own, how many were read, what it tracks. -/
abbrev SkL (x : Value) (sc : List Value) (a b c : Value) : List Value := x :: (sc ++ [a, b, c])
theorem sk_set (h : sc.length = 32) : SetAt (SkL x sc a b c) 33 v (SkL x sc v b c) := by
  have h1 := (SetAt.head (a := a) (l := [b, c]) (v := v)).app sc
  rw [h] at h1
  exact .tail h1
theorem sk_33 (h : sc.length = 32) : (SkL x sc a b c)[33]? = some a := by simp [SkL, List.getElem?_append, h]
theorem sk_35 (h : sc.length = 32) : (SkL x sc a b c)[35]? = some c := by simp [SkL, List.getElem?_append, h]
theorem sk_put {L : Nat} (h : sc.length = 32) (hL : L ≤ 32) : (SkL x sc a b c).take 1 ++ d ++ (SkL x sc a b c).drop (1 + L) = SkL x (d ++ sc.drop L) a b c := by
  rw [Nat.add_comm]
  simp [SkL, List.drop_append_of_le_length (show L ≤ sc.length by omega)]
end
/-- The decoder's reader, its scanner, the bytes' reader at byte i. -/
inductive SkR (ga gq gr gs n cap i : Nat) : HP → Prop where
  | mk {sc : List Value} {z : Int} {l b : Value} {ls : Int} (h1 : sc.length = 32) (h2 : ls = 0 ∨ ls = 2) : SkR ga gq gr gs n cap i [(ga, C (SkL (.iface 361 (.pointer (some ⟨gq, 0, none⟩))) sc (.int .i64 z) (.slice none 0 0) (.bool false)) 368), (gq, C [RV gr, l, .int .u8 ls, b] 363), (gr, RB gs n cap i)]
section
variable {G HB : HP} {ga gr gs gb gq ob n cap cb i k L lo hi : Nat} {bs : List UInt8} {rest pl : List Value} {e : TypeId} {gE : Addr} {t3 : List Value} {e3 : TypeId} {f3 : Nat × Nat} {zl zb : Value} {ls : Int}
def scF (hD : (gs, DB bs rest lo hi) ∈ G) (hE : (3, Obj.cells (EV gE :: t3).toArray e3 f3) ∈ G) (hn : bs.length = n) (hc : n ≤ cap) (h63 : cap < 9223372036854775808) (hi' : i + L ≤ n) (hL : 0 < L) (hp : ob + L ≤ pl.length) (hls : ls = 0 ∨ ls = 2) : RdF G 361 (.pointer (some ⟨gq, 0, none⟩)) (.slice (some ⟨gb, ob, none⟩) L cb) L [(gq, C [RV gr, zl, .int .u8 ls, zb] 363), (gr, RB gs n cap i), (gb, C pl e)] [(gq, C [RV gr, .int .u8 ((bs.getD (i + (L - 1)) 0).toNat : Nat), .int .u8 2, zb] 363), (gr, RB gs n cap (i + L)), (gb, C (pl.take ob ++ B ((bs.drop i).take L) ++ pl.drop (ob + L)) e)] where
  f := 417
  rv := .pointer (some ⟨gq, 0, none⟩)
  hf := call417
  hm := by intro w; kernel_rfl
  hn := by intro w; kernel_rfl
  hc := scanRd_is hD hE hn hc h63 hi' hL hp hls
theorem readn1_is {b : UInt8} (hS : SkR ga gq gr gs n cap i HB) (hD : (gs, DB bs rest lo hi) ∈ G) (hE : (3, Obj.cells (EV gE :: t3).toArray e3 f3) ∈ G) (hn : bs.length = n) (hc : n ≤ cap) (h63 : cap < 9223372036854775808) (hb : bs[i]? = some b) :
    Ctr prog 411 [.pointer (some ⟨ga, 0, none⟩)] G HB (fun r H' => r = .tuple #[.int .u8 (b.toNat : Nat), .nilIface] ∧ SkR ga gq gr gs n cap (i + 1) H') := by
  cases hS with
  | @mk sc z l bv ls h1 h2 =>
    have k33 := sk_33 (x := .iface 361 (.pointer (some ⟨gq, 0, none⟩))) (a := .int .i64 z) (b := .slice none 0 0) (c := .bool false) h1
    refine fn_enter 35 func411 rfl ntmps411 rfl ?_
    intro w0
    refine gn 12 ?_
    refine oL (lI (scanB_is hD hE hn hc h63 hb h2) rfl rfl (.cons (.tail .head) (.cons (.tail .head) .nil))) ?_
    rintro ⟨r, H'⟩ ⟨rfl, rfl⟩
    simp only [List.cons_append, List.nil_append]
    refine gn 26 ?_
    refine oL (l_store sizeOf3 rfl rfl rfl (.tail (.tail .head)) (sk_set h1) (by omega)) ?_
    intro _ _
    have k35 := fun z' : Int => sk_35 (x := .iface 361 (.pointer (some ⟨gq, 0, none⟩))) (a := .int .i64 z') (b := .slice none 0 0) (c := .bool false) h1
    refine gn 8 ?_
    refine oX (e_load isAgg4 rfl aM (k35 _)) ?_
    refine gn 6 ?_
    refine WR.sel (.cons (.tail (.tail .head)) (.cons .head (.cons .head .nil))) ?_
    refine r_fn (l := [.tmp 2, .tmp 3]) results411 rfl rfl ?_
    exact ⟨rfl, .mk h1 (.inr rfl)⟩
/-- Fewer than 32 bytes, in the reader's own row. -/
theorem readnS_is (hS : SkR ga gq gr gs n cap i HB) (hD : (gs, DB bs rest lo hi) ∈ G) (hE : (3, Obj.cells (EV gE :: t3).toArray e3 f3) ∈ G) (hn : bs.length = n) (hc : n ≤ cap) (h63 : cap < 9223372036854775808) (hi' : i + L ≤ n) (hL : 0 < L) (hL2 : L < 32) :
    Ctr prog 416 [.pointer (some ⟨ga, 0, none⟩), .int .i64 L] G HB (fun r H' => r = .tuple #[.slice (some ⟨ga, 1, none⟩) L 32, .nilIface] ∧ SkR ga gq gr gs n cap (i + L) H' ∧ ∃ l, (ga, C l 368) ∈ H' ∧ CutL l 1 L (B ((bs.drop i).take L))) := by
  cases hS with
  | @mk sc z l bv ls h1 h2 =>
    have hdl : (B ((bs.drop i).take L)).length = L := by rw [B_length, List.length_take, List.length_drop]; omega
    have h3 : (B ((bs.drop i).take L) ++ sc.drop L).length = 32 := by rw [List.length_append, hdl, List.length_drop]; omega
    have hsl : (SkL (.iface 361 (.pointer (some ⟨gq, 0, none⟩))) sc (.int .i64 z) (.slice none 0 0) (.bool false)).length = 36 := by simp [SkL, h1]
    have k33 := sk_33 (x := .iface 361 (.pointer (some ⟨gq, 0, none⟩))) (a := .int .i64 z) (b := .slice none 0 0) (c := .bool false) h3
    have k35 := fun z' : Int => sk_35 (x := .iface 361 (.pointer (some ⟨gq, 0, none⟩))) (a := .int .i64 z') (b := .slice none 0 0) (c := .bool false) h3
    have hcut : ∀ a, CutL (SkL (.iface 361 (.pointer (some ⟨gq, 0, none⟩))) (B ((bs.drop i).take L) ++ sc.drop L) a (.slice none 0 0) (.bool false)) 1 L (B ((bs.drop i).take L)) := fun a => by
      refine .skip ?_
      rw [List.append_assoc]
      exact CutL.all hdl
    have hat := atLeast_is (scF (gb := ga) (gq := gq) (gr := gr) (ob := 1) (cb := 32) (i := i) (L := L) (e := 368) (zl := l) (zb := bv) (ls := ls) (pl := SkL (.iface 361 (.pointer (some ⟨gq, 0, none⟩))) sc (.int .i64 z) (.slice none 0 0) (.bool false)) hD hE hn hc h63 hi' hL (by omega) h2) hL (by omega) (by decide)
    rw [sk_put h1 (by omega)] at hat
    generalize B ((bs.drop i).take L) ++ sc.drop L = sc' at *
    refine fn_enter 166 func416 rfl ntmps416 rfl ?_
    intro w0
    refine gn 13 ?_
    refine c_ifp rfl (fun h => absurd h (by omega)) (fun _ => ?_)
    refine gn 9 ?_
    refine c_ifp rfl (fun _ => ?_) (fun h => absurd h (by omega))
    refine gn 18 ?_
    simp only [Int.toNat_natCast]
    refine oL (lC hat rfl (.cons (.tail .head) (.cons (.tail .head) (.cons .head .nil)))) ?_
    rintro ⟨r, H'⟩ ⟨rfl, rfl⟩
    simp only [List.cons_append, List.nil_append]
    refine gn 17 ?_
    refine oL (l_store sizeOf3 rfl rfl rfl (.tail (.tail .head)) (sk_set h3) (by omega)) ?_
    intro _ _
    refine gn 8 ?_
    refine oX (e_load isAgg4 rfl aM (k35 _)) ?_
    refine gn 27 ?_
    refine WR.sel (.cons (.tail (.tail .head)) (.cons .head (.cons .head .nil))) ?_
    refine r_fn (l := [.tmp 4, .tmp 5]) results416 rfl rfl ?_
    exact ⟨rfl, .mk h3 (.inr rfl), _, .head _, hcut _⟩
/-- 32 bytes and more, in a new row. -/
theorem readnL_is (hS : SkR ga gq gr gs n cap i HB) (hD : (gs, DB bs rest lo hi) ∈ G) (hE : (3, Obj.cells (EV gE :: t3).toArray e3 f3) ∈ G) (hn : bs.length = n) (hc : n ≤ cap) (h63 : cap < 9223372036854775808) (hi' : i + L ≤ n) (hL : 32 ≤ L) (hL2 : L ≤ 4096) :
    Ctr prog 416 [.pointer (some ⟨ga, 0, none⟩), .int .i64 L] G HB (fun r H' => ∃ gN HB', r = .tuple #[.slice (some ⟨gN, 0, none⟩) L L, .nilIface] ∧ SkR ga gq gr gs n cap (i + L) HB' ∧ H' = (gN, C (B ((bs.drop i).take L)) 5) :: HB') := by
  cases hS with
  | @mk sc z l bv ls h1 h2 =>
    have k33 := sk_33 (x := .iface 361 (.pointer (some ⟨gq, 0, none⟩))) (a := .int .i64 z) (b := .slice none 0 0) (c := .bool false) h1
    have k35 := fun z' : Int => sk_35 (x := .iface 361 (.pointer (some ⟨gq, 0, none⟩))) (a := .int .i64 z') (b := .slice none 0 0) (c := .bool false) h1
    have hat := fun gN => atLeast_is (scF (gb := gN) (gq := gq) (gr := gr) (ob := 0) (cb := L) (i := i) (L := L) (e := 5) (zl := l) (zb := bv) (ls := ls) (pl := List.replicate L (.int .u8 0)) hD hE hn hc h63 hi' (by omega) (by simp) h2) (by omega) (Nat.le_refl _) (by omega)
    have hpl : (List.replicate L (Value.int .u8 0)).take 0 ++ B ((bs.drop i).take L) ++ (List.replicate L (Value.int .u8 0)).drop (0 + L) = B ((bs.drop i).take L) := by simp
    rw [hpl] at hat
    refine fn_enter 166 func416 rfl ntmps416 rfl ?_
    intro w0
    refine gn 13 ?_
    refine c_ifp rfl (fun h => absurd h (by omega)) (fun _ => ?_)
    refine gn 9 ?_
    refine c_ifp rfl (fun h => absurd h (by omega)) (fun _ => ?_)
    refine gn 15 ?_
    refine c_ifp rfl (fun h => absurd h (by omega)) (fun _ => ?_)
    refine gn 5 ?_
    refine oL (l_mks (l := List.replicate L (.int .u8 0)) underlying72 (info_of typeInfo5) rfl rfl rfl rfl (by decide) (by omega) (by show (1 : Int) * _ ≤ _; omega) (by omega) (made_one (.int .u8 0) L rfl)) ?_
    intro gN _
    refine gn 5 ?_
    refine c_rounds 2 ?_
    refine gn 9 ?_
    refine c_ifp rfl (fun _ => ?_) (fun h => absurd h (by omega))
    refine gn 19 ?_
    refine c_ifp rfl (fun h => absurd h (by omega)) (fun _ => ?_)
    refine gn 20 ?_
    refine c_ifp rfl (fun h => absurd h (by omega)) (fun _ => ?_)
    refine gn 13 ?_
    refine c_regiong [8] (by kernel_rfl) ?_
    refine lg [0, 1, 2, 1003, 4, 5, 6, 7] ?_
    have e0 : Int.toNat 0 = 0 := rfl
    simp only [Int.toNat_natCast, e0, Nat.zero_add, Nat.sub_zero, Nat.zero_mul]
    refine gL 8 rfl (lC (hat gN) rfl (.cons (.tail (.tail .head)) (.cons (.tail (.tail .head)) (.cons .head .nil)))) ?_
    rintro ⟨r, H'⟩ ⟨rfl, rfl⟩
    simp only [List.cons_append, List.nil_append]
    refine ld [9, 10, 11, 12, 13] ?_
    refine gn 12 ?_
    refine oL (l_store sizeOf3 rfl rfl rfl (.tail (.tail (.tail .head))) (sk_set h1) (by omega)) ?_
    intro _ _
    refine gn 8 ?_
    refine oX (e_load isAgg4 rfl aM (k35 _)) ?_
    refine gn 18 ?_
    refine n_rounds ?_
    refine gn 9 ?_
    refine c_ifp rfl (fun h => absurd h (by omega)) (fun _ => ?_)
    refine gn 13 ?_
    refine WR.sel (.cons (.tail (.tail .head)) (.cons (.tail (.tail .head)) (.cons .head (.cons .head .nil)))) ?_
    refine r_fn (l := [.tmp 4, .tmp 5]) results416 rfl rfl ?_
    exact ⟨_, _, rfl, .mk h1 (.inr rfl), rfl⟩
theorem readnzc_is (hS : SkR ga gq gr gs n cap i HB) (hD : (gs, DB bs rest lo hi) ∈ G) (hE : (3, Obj.cells (EV gE :: t3).toArray e3 f3) ∈ G) (hn : bs.length = n) (hc : n ≤ cap) (h63 : cap < 9223372036854775808) (hi' : i + L ≤ n) (hL : 0 < L) (hL2 : L < 32) :
    Ctr prog 412 [.pointer (some ⟨ga, 0, none⟩), .int .i64 L] G HB (fun r H' => r = .tuple #[.slice (some ⟨ga, 1, none⟩) L 32, .nilIface] ∧ SkR ga gq gr gs n cap (i + L) H' ∧ ∃ l, (ga, C l 368) ∈ H' ∧ CutL l 1 L (B ((bs.drop i).take L))) := by
  refine fn_enter 11 func412 rfl ntmps412 rfl ?_
  intro w0
  refine gn 10 ?_
  refine oL (lC (readnS_is hS hD hE hn hc h63 hi' hL hL2) rfl (Sel.all _)) ?_
  rintro ⟨r, H'⟩ ⟨rfl, h1, h2⟩
  simp only [List.append_nil]
  refine gn 7 ?_
  refine r_fn (l := [.tmp 4, .tmp 5]) results412 rfl rfl ?_
  exact ⟨rfl, h1, h2⟩
/-- So many bytes, in a new row. -/
theorem readn_is (hS : SkR ga gq gr gs n cap i HB) (hD : (gs, DB bs rest lo hi) ∈ G) (hE : (3, Obj.cells (EV gE :: t3).toArray e3 f3) ∈ G) (hn : bs.length = n) (hc : n ≤ cap) (h63 : cap < 9223372036854775808) (hi' : i + L ≤ n) (hL : 0 < L) (hL2 : L ≤ 4096) :
    Ctr prog 410 [.pointer (some ⟨ga, 0, none⟩), .int .i64 L] G HB (fun r H' => ∃ (y : Tl) (HB' : HP), TlOk 1 L y ∧ r = .tuple #[.slice (some ⟨y.g, 0, none⟩) L y.cap, .nilIface] ∧ SkR ga gq gr gs n cap (i + L) HB' ∧ H' = (y.g, Ob (B ((bs.drop i).take L)) y 5) :: HB') := by
  by_cases h32 : L < 32
  · refine fn_enter 31 func410 rfl ntmps410 rfl ?_
    intro w0
    refine gn 10 ?_
    refine oL (lC (readnS_is hS hD hE hn hc h63 hi' hL h32) rfl (Sel.all _)) ?_
    rintro ⟨r, H'⟩ ⟨rfl, h1, l, h2, h3⟩
    simp only [List.append_nil]
    refine gn 24 ?_
    refine c_ifp rfl (fun _ => ?_) (fun h => absurd h (by omega))
    refine gn 3 ?_
    refine oL (l_app0 (sz := 1) underlying72 (info_of typeInfo5) rfl rfl rfl rfl rfl rfl (.blk underlying72 (.inl h2) (by simpa using h3) (B_one _)) (by simp [Nat.blt_eq]; exact hL) (by simp; show L * 1 ≤ _; omega) (by simp [Nat.blt_eq]; omega)) ?_
    intro y hy
    refine gn 5 ?_
    refine r_fn (l := [.tmp 4, .tmp 5]) results410 rfl rfl ?_
    exact ⟨y, H', hy, rfl, h1, rfl⟩
  · refine fn_enter 31 func410 rfl ntmps410 rfl ?_
    intro w0
    refine gn 10 ?_
    refine oL (lC (readnL_is hS hD hE hn hc h63 hi' (by omega) hL2) rfl (Sel.all _)) ?_
    rintro ⟨r, H'⟩ ⟨gN, HB', rfl, h1, rfl⟩
    simp only [List.append_nil]
    refine gn 24 ?_
    refine c_ifp rfl (fun h => absurd h (by omega)) (fun _ => ?_)
    refine gn 10 ?_
    refine r_fn (l := [.tmp 4, .tmp 5]) results410 rfl rfl ?_
    refine ⟨⟨gN, L, [], 0, 0⟩, HB', ⟨by simp, Nat.le_refl _, by show L < _; omega, .inr rfl⟩, rfl, h1, ?_⟩
    simp only [Ob, List.append_nil]
end
end Go.Proofs

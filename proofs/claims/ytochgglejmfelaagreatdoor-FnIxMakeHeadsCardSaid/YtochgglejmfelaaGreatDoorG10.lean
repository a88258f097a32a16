/- Numbers as varints: how long they are; written into a row, read from one; A number read from its varint; A multihash, made and taken apart; A strings.Builder that is written, its string; identifiers made; A multihash made; an identifier made; The guards on sizes: they answer something; The statements' own guard: what it lets in; What stands in an index, as parts; Identifiers made and taken apart; Regions that draw their order in a function with a deferred closure, whose results lie in two blocks; impl.cidIn; an identifier's bytes, version, multihash. (A part of the proof of this: for every input laws.FnIxMakeHeads returns true and its arguments read as they did, the listed package variables being what the program lays) -/
import Derived.Test.YtochgglejmfelaaGreatDoorSlZ
import Derived.Test.YtochgglejmfelaaGreatDoorG09
import Derived.Test.YtochgglejmfelaaGreatDoorG06
import Derived.Test.YtochgglejmfelaaGreatDoorG07
import Derived.Test.YtochgglejmfelaaGreatDoorG03
set_option linter.unusedVariables false
set_option linter.unusedSimpArgs false
namespace Go.Proofs
open Go Go.Sl Tryz
set_option maxRecDepth 100000
set_option maxHeartbeats 1000000
theorem put_byte {pre old : List Value} {u : List UInt8} {i off : Nat} {b : UInt8} {z : Int} (hoff : pre.length = off) (hb : u[i]? = some b) (hz : z = b.toNat) (ho : i < old.length) : SetAt (pre ++ (B (u.take i) ++ old.drop i)) (off + i * 1) (.int .u8 z) (pre ++ (B (u.take (i + 1)) ++ old.drop (i + 1))) := by
  obtain ⟨hi, rfl⟩ := List.getElem?_eq_some_iff.1 hb
  subst hz
  have h1 : (B (u.take i)).length = i := by simp [B]; omega
  have := SetAt.of (l := pre ++ (B (u.take i) ++ old.drop i)) (i := off + i * 1) (.int .u8 u[i].toNat) (by simp only [List.length_append, h1, List.length_drop]; omega)
  rw [List.set_append_right _ _ (by omega), List.set_append_right _ _ (by omega)] at this
  have e1 : off + i * 1 - pre.length - (B (u.take i)).length = 0 := by omega
  have e2 : old.drop i = old[i] :: old.drop (i + 1) := List.drop_eq_getElem_cons ho
  have e3 : B (u.take (i + 1)) = B (u.take i) ++ [.int .u8 u[i].toNat] := by
    rw [List.take_succ_eq_append_getElem hi, B_append]; rfl
  rw [e1, e2, List.set_cons_zero] at this
  rw [e3, List.append_assoc, e2]
  exact this
theorem div_step (x i : Nat) : x / 128 ^ i / 2 ^ 7 = x / 128 ^ (i + 1) := by
  show _ = x / (128 ^ i * 128)
  rw [← Nat.div_div_eq_div_mul]
theorem ofNat_z {q : Nat} (h : q < 256) : ((q : Nat) : Int) = (UInt8.ofNat q).toNat := by rw [UInt8.toNat_ofNat']; omega
section
variable {G : HP} {g x off n cap lo hi : Nat} {pre old l : List Value} {e : TypeId} {fr : Nat × Nat}
theorem len64g_is (hx : x < 18446744073709551616) : Ctr prog 123 [.int .u64 (x : Nat)] G [] (fun r H' => ∃ n : Nat, r = .int .i64 n ∧ Blen x n ∧ n ≤ 64 ∧ H' = []) := by
  refine fn_enter 25 func123 rfl ntmps123 rfl ?_
  intro w0
  refine gn 6 ?_
  refine c_cut (X := Nat × Nat) (fun y => [(0, .int .u64 y.1), (2, .int .i64 y.2)]) (fun _ => []) (fun y => x / 2 ^ y.2 = y.1 ∧ (y.2 = 0 ∨ 0 < y.1) ∧ y.2 ≤ 32 ∧ y.1 < 4294967296) ?_ ?_
  · skip
    refine gn 6 ?_
    refine c_ifp rfl (fun h1 => ?_) (fun h1 => ?_)
    · refine gn 3 ?_
      refine oX (e_shrk 32 rfl rfl rfl (by decide)) ?_
      refine gn 6 ?_
      exact n_cut (x / 2 ^ 32, 32) ⟨rfl, .inr (by show 0 < x / 2 ^ 32; omega), by show 32 ≤ 32; decide, by show x / 2 ^ 32 < _; omega⟩ aK (.refl _)
    · skip
      refine gn 1 ?_
      exact n_cut (x, 0) ⟨by simp, Or.inl rfl, by show 0 ≤ 32; decide, by show x < _; omega⟩ aK (.refl _)
  rintro ⟨y, n⟩ ⟨h2, h3, h4, h5⟩
  simp only at h2 h3 h4 h5 ⊢
  refine gn 2 ?_
  refine c_cut (X := Nat × Nat) (fun y => [(0, .int .u64 y.1), (2, .int .i64 y.2)]) (fun _ => []) (fun y => x / 2 ^ y.2 = y.1 ∧ (y.2 = 0 ∨ 0 < y.1) ∧ y.2 ≤ 48 ∧ y.1 < 65536) ?_ ?_
  · skip
    refine gn 6 ?_
    refine c_ifp rfl (fun h1 => ?_) (fun h1 => ?_)
    · refine gn 3 ?_
      refine oX (e_shrk 16 rfl rfl rfl (by decide)) ?_
      refine gn 8 ?_
      exact n_cut (y / 2 ^ 16, n + 16) ⟨by show x / 2 ^ (n + 16) = y / 2 ^ 16; rw [Nat.pow_add, ← Nat.div_div_eq_div_mul, h2], .inr (by show 0 < y / 2 ^ 16; omega), by show n + 16 ≤ 48; omega, by show y / 2 ^ 16 < _; omega⟩ aK (.refl _)
    · skip
      refine gn 1 ?_
      exact n_cut (y, n) ⟨h2, h3, by show n ≤ 48; omega, by show y < _; omega⟩ aK (.refl _)
  clear h2 h3 h4 h5
  rintro ⟨y, n⟩ ⟨h2, h3, h4, h5⟩
  simp only at h2 h3 h4 h5 ⊢
  refine gn 2 ?_
  refine c_cut (X := Nat × Nat) (fun y => [(0, .int .u64 y.1), (2, .int .i64 y.2)]) (fun _ => []) (fun y => x / 2 ^ y.2 = y.1 ∧ (y.2 = 0 ∨ 0 < y.1) ∧ y.2 ≤ 56 ∧ y.1 < 256) ?_ ?_
  · skip
    refine gn 6 ?_
    refine c_ifp rfl (fun h1 => ?_) (fun h1 => ?_)
    · refine gn 3 ?_
      refine oX (e_shrk 8 rfl rfl rfl (by decide)) ?_
      refine gn 8 ?_
      exact n_cut (y / 2 ^ 8, n + 8) ⟨by show x / 2 ^ (n + 8) = y / 2 ^ 8; rw [Nat.pow_add, ← Nat.div_div_eq_div_mul, h2], .inr (by show 0 < y / 2 ^ 8; omega), by show n + 8 ≤ 56; omega, by show y / 2 ^ 8 < _; omega⟩ aK (.refl _)
    · skip
      refine gn 1 ?_
      exact n_cut (y, n) ⟨h2, h3, by show n ≤ 56; omega, by show y < _; omega⟩ aK (.refl _)
  clear h2 h3 h4 h5
  rintro ⟨y, n⟩ ⟨h2, h3, h4, h5⟩
  simp only at h2 h3 h4 h5 ⊢
  have hb := tbl_get h5
  obtain ⟨hk, hk8⟩ := nbl h5
  have hk2 : (tbl.getD y 0).toNat ≤ 8 := hk8
  refine gn 13 ?_
  refine r_fn1 results123 rfl ?_
  exact ⟨n + nb y, rfl, bl_shift h2 h3 hk, by omega, rfl⟩
theorem usize_is (hx : x < 18446744073709551616) : CtrP prog 185 [.int .u64 (x : Nat)] G (.int .i64 ((uv x).length : Nat)) := by
  refine fn_enter 23 func185 rfl ntmps185 rfl ?_
  intro w0
  refine gn 8 ?_
  refine oL (lC (len64g_is hx) rfl .nil) ?_
  rintro ⟨r, H'⟩ ⟨n, rfl, hb, h64, rfl⟩
  have hL := uv_bits hx hb
  simp only [List.nil_append]
  refine gn 25 ?_
  refine o_splitp 16 rfl (fun h1 => ?_) (fun h1 => ?_)
  · refine gn 19 ?_
    refine r_fn1 results185 rfl ?_
    exact ⟨by rw [hL, if_pos (.inl (by omega))]; rfl, rfl⟩
  · skip
    refine gn 5 ?_
    refine c_ifp rfl (fun h2 => ?_) (fun h2 => ?_)
    · refine gn 13 ?_
      refine r_fn1 results185 rfl ?_
      exact ⟨by rw [hL, if_pos (.inr (by omega))]; rfl, rfl⟩
    · skip
      refine gn 9 ?_
      refine r_fn1 results185 rfl ?_
      exact ⟨by rw [hL, if_neg (by omega)]; exact congrArg (Value.int .i64) (by omega), rfl⟩
theorem putU_is (hx : x < 18446744073709551616) (hoff : pre.length = off) (hn : (uv x).length ≤ n) (hc : n ≤ cap) (hcap : cap < 9223372036854775808) (ho : (uv x).length ≤ old.length) (hf : off + old.length ≤ lo ∨ hi = 0) :
    Ctr prog 150 [.slice (some ⟨g, off, none⟩) n cap, .int .u64 (x : Nat)] G [(g, .cells (pre ++ old).toArray e (lo, hi))] (fun r H' => r = .int .i64 ((uv x).length : Nat) ∧ H' = [(g, .cells (pre ++ (B (uv x) ++ old.drop (uv x).length)).toArray e (lo, hi))]) := by
  have hp := uv_pos x
  refine fn_enter 25 func150 rfl ntmps150 rfl ?_
  intro w0
  refine gn 12 ?_
  refine c_loop (X := Nat) (fun i => [(0, .slice (some ⟨g, off, none⟩) n cap), (1, .int .u64 (x / 128 ^ i : Nat)), (5, .int .i64 i)]) (fun i => [(g, .cells (pre ++ (B ((uv x).take i) ++ old.drop i)).toArray e (lo, hi))]) (fun i => i < (uv x).length) (fun i => (uv x).length - i) 0 hp (sub_cons rfl (sub_cons (by show some _ = some _; simp) aK)) (.refl _) ?_
  intro i hi'
  refine gn 7 ?_
  refine c_ifp rfl (fun h1 => ?_) (fun h1 => ?_)
  · have hm : i + 1 < (uv x).length := by
      apply Decidable.byContradiction
      intro hc
      have := (uv_last hx (by omega : i + 1 = (uv x).length)).1
      omega
    obtain ⟨h2, h3⟩ := uv_mid hm
    have hset := put_byte (z := ((128 + x / 128 ^ i % 128 : Nat) : Int)) hoff h3 (ofNat_z (by omega)) (by omega : i < old.length)
    refine gn 11 ?_
    rw [or128 _ (x / 128 ^ i) rfl]
    refine oL (l_store sizeOf5 rfl rfl rfl .head hset (by omega)) ?_
    intro _ _
    refine gn 5 ?_
    refine oX (e_shrk 7 rfl rfl rfl (by decide)) ?_
    refine gn 9 ?_
    refine n_round' (y := i) (i + 1) (by omega) hm (sub_cons rfl (sub_cons (by rw [← div_step]; rfl) aK)) _ (.refl _) (List.Sublist.refl _)
  · skip
    have hm : i + 1 = (uv x).length := by
      apply Decidable.byContradiction
      intro hc
      have := (uv_mid (x := x) (by omega : i + 1 < (uv x).length)).1
      omega
    obtain ⟨h2, h3, -⟩ := uv_last hx hm
    have hset := put_byte (z := ((x / 128 ^ i : Nat) : Int)) hoff h3 (ofNat_z (Nat.lt_trans h2 (by decide))) (by omega : i < old.length)
    generalize x / 128 ^ i = q at h2 hset ⊢
    refine gn 12 ?_
    refine oL (l_store sizeOf5 rfl rfl rfl .head hset (by omega)) ?_
    intro _ _
    refine gn 10 ?_
    refine r_fn1 results150 rfl ?_
    rw [hm, List.take_length]
    exact ⟨by rw [← hm]; rfl, rfl⟩
theorem vputg_is (hx : x < 18446744073709551616) (hoff : pre.length = off) (hn : (uv x).length ≤ n) (hc : n ≤ cap) (hcap : cap < 9223372036854775808) (ho : (uv x).length ≤ old.length) (hf : off + old.length ≤ lo ∨ hi = 0) :
    Ctr prog 77 [.slice (some ⟨g, off, none⟩) n cap, .int .u64 (x : Nat)] G [(g, .cells (pre ++ old).toArray e (lo, hi))] (fun r H' => r = .int .i64 ((uv x).length : Nat) ∧ H' = [(g, .cells (pre ++ (B (uv x) ++ old.drop (uv x).length)).toArray e (lo, hi))]) := by
  refine fn_enter 8 func77 rfl ntmps77 rfl ?_
  intro w0
  refine gn 9 ?_
  refine oL (lC (putU_is hx hoff hn hc hcap ho hf) rfl (.cons .head .nil)) ?_
  rintro ⟨r, H'⟩ ⟨rfl, rfl⟩
  simp only [List.cons_append, List.nil_append]
  refine gn 4 ?_
  refine r_fn1 results77 rfl ?_
  exact ⟨rfl, rfl⟩
end
end Go.Proofs
namespace Go.Proofs
open Go Go.Sl Tryz
set_option maxRecDepth 100000
set_option maxHeartbeats 1000000
theorem byte_at {l : List Value} {off n i : Nat} {bs : List UInt8} {b : UInt8} {z : Nat} (h : CutL l off n (B bs)) (hb : bs[i]? = some b) (hz : b.toNat = z) : l[off + i * 1]? = some (.int .u8 (z : Nat)) := by
  subst hz
  obtain ⟨hi, rfl⟩ := List.getElem?_eq_some_iff.1 hb
  have h1 := congrArg (fun y => y[i]?) h.eq
  have h2 : (B bs).length = n := by have := congrArg List.length h.eq; have := h.le; simp at *; omega
  have h3 : i < n := by rw [← h2, B_length]; exact hi
  simp only [List.getElem?_take_of_lt h3, List.getElem?_drop] at h1
  rw [Nat.mul_one, ← h1]
  simp [B, hi]
section
variable {G : HP} {g x off n cap : Nat} {bs tl : List UInt8} {l : List Value} {e : TypeId} {fr : Nat × Nat}
theorem fromU_is (hx : x < 9223372036854775808) (hm : (g, .cells l.toArray e fr) ∈ G) (hcut : CutL l off n (B bs)) (hbs : bs = uv x ++ tl) (hc : n ≤ cap) (hcap : cap < 9223372036854775808) :
    CtrP prog 157 [.slice (some ⟨g, off, none⟩) n cap] G (.tuple #[.int .u64 (x : Nat), .int .i64 ((uv x).length : Nat), .nilIface]) := by
  have hp := uv_pos x
  have h9 := uv_le9 hx
  have hx' : x < 18446744073709551616 := by omega
  have hlen : bs.length = n := by have := congrArg List.length hcut.eq; have := hcut.le; simp [B_length] at *; omega
  have hL : (uv x).length ≤ n := by rw [← hlen, hbs, List.length_append]; omega
  refine fn_enter 55 func157 rfl ntmps157 rfl ?_
  intro w0
  refine gn 26 ?_
  refine c_loop (X := Nat) (fun i => [(9, .slice (some ⟨g, off, none⟩) n cap), (10, .int .i64 n), (11, .int .i64 i), (5, .int .u64 (x % 128 ^ i : Nat)), (6, .int .u64 (7 * i : Nat))]) (fun _ => []) (fun i => i < (uv x).length) (fun i => (uv x).length - i) 0 hp (sub_cons rfl (sub_cons rfl (sub_cons rfl (sub_cons (by show some _ = some _; simp [Nat.mod_one]) aK)))) (.refl _) ?_
  intro i hi'
  refine gn 6 ?_
  refine c_ifp rfl (fun h1 => ?_) (fun h1 => ?_)
  · skip
    by_cases hmid : i + 1 < (uv x).length
    · obtain ⟨h2, h3⟩ := uv_mid hmid
      have hb : bs[i]? = some (UInt8.ofNat (128 + x / 128 ^ i % 128)) := by rw [hbs, List.getElem?_append_left (by omega)]; exact h3
      have hcell := byte_at (z := 128 + x / 128 ^ i % 128) hcut hb (by rw [UInt8.toNat_ofNat']; omega)
      have e127 : (128 + x / 128 ^ i % 128) % 128 = x / 128 ^ i % 128 := by omega
      have hle : x % 128 ^ (i + 1) ≤ x := Nat.mod_le _ _
      refine gn 19 ?_
      refine o_splitp 18 rfl (fun h4 => ?_) (fun h4 => ?_)
      · exact absurd h4 (by omega)
      · skip
        refine gn 9 ?_
        refine c_ifp rfl (fun h5 => ?_) (fun h5 => ?_)
        · exact absurd h5 (by omega)
        · skip
          refine gn 9 ?_
          refine c_ifp rfl (fun h6 => ?_) (fun h6 => ?_)
          · exact absurd h6 (by omega)
          · skip
            refine gn 7 ?_
            rw [and127 (by omega), e127]
            refine gn 4 ?_
            rw [or_sh rfl _ (7 * i) (Int.toNat_natCast _) (by show 7 * i ≤ 64; omega) (mod_lt' x i) (by rw [mod_succ]; show _ < 18446744073709551616; omega), mod_succ]
            refine gn 14 ?_
            refine n_round' (y := i) (i + 1) (by omega) hmid (sub_cons rfl (sub_cons rfl (sub_cons rfl (sub_cons rfl (sub_cons (by show some (Value.int .u64 (((7 * i : Nat) : Int) + 7)) = some (Value.int .u64 ((7 * (i + 1) : Nat) : Int)); rw [show ((7 * i : Nat) : Int) + 7 = ((7 * (i + 1) : Nat) : Int) by omega]) sub_nil))))) _ (.refl _) (List.Sublist.refl _)
    · skip
      have hlast : i + 1 = (uv x).length := by omega
      obtain ⟨h2, h3, h0⟩ := uv_last hx' hlast
      have hb : bs[i]? = some (UInt8.ofNat (x / 128 ^ i)) := by rw [hbs, List.getElem?_append_left (by omega)]; exact h3
      have hcell := byte_at (z := x / 128 ^ i) hcut hb (by rw [UInt8.toNat_ofNat']; exact Nat.mod_eq_of_lt (Nat.lt_trans h2 (by decide)))
      have hor : ib .or .u64 ((x % 128 ^ i : Nat) : Int) (IntKind.u64.wrap (((x / 128 ^ i : Nat) : Int) * 2 ^ (min ((7 * i : Nat) : Int).toNat IntKind.u64.bits))) = ((x : Nat) : Int) := by
        rw [or_sh rfl _ (7 * i) (Int.toNat_natCast _) (by show 7 * i ≤ 64; omega) (mod_lt' x i) (by rw [mod_last]; show _ < 18446744073709551616; omega), mod_last]
      clear hb h3
      generalize x / 128 ^ i = q at h2 h0 hcell hor
      refine gn 14 ?_
      refine c_cut (X := Unit) (fun _ => [(5, .int .u64 (x % 128 ^ i : Nat)), (6, .int .u64 (7 * i : Nat)), (7, .int .i64 i), (8, .int .u8 (q : Nat))]) (fun _ => []) (fun _ => True) ?_ ?_
      · skip
        refine gn 5 ?_
        refine o_splitp 18 rfl (fun h4 => ?_) (fun h4 => ?_)
        · refine gn 4 ?_
          refine o_splitp 22 rfl (fun h5 => ?_) (fun h5 => ?_)
          · exact absurd h5 (by omega)
          · skip
            refine gn 5 ?_
            refine c_ifp rfl (fun h6 => ?_) (fun h6 => ?_)
            · exact absurd h6 (by omega)
            · skip
              refine gn 1 ?_
              exact n_cut () trivial aK (.refl _)
        · skip
          refine gn 9 ?_
          refine c_ifp rfl (fun h6 => ?_) (fun h6 => ?_)
          · exact absurd h6 (by omega)
          · skip
            refine gn 1 ?_
            exact n_cut () trivial aK (.refl _)
      rintro ⟨⟩ -
      refine gn 8 ?_
      refine c_ifp rfl (fun h6 => ?_) (fun h6 => ?_)
      · refine gn 6 ?_
        refine o_splitp 31 rfl (fun h7 => ?_) (fun h7 => ?_)
        · refine gn 5 ?_
          refine c_ifp rfl (fun h8 => ?_) (fun h8 => ?_)
          · exact absurd h8 (by have : i = 0 ∨ 0 < i := by omega
                                rcases this with rfl | h; simp; have := h0 h; omega)
          · skip
            refine gn 10 ?_
            rw [hor]
            refine gn 8 ?_
            refine r_fn (l := [.tmp 2, .tmp 3, .tmp 4]) results157 rfl rfl ?_
            exact ⟨by rw [← hlast]; rfl, rfl⟩
        · skip
          refine gn 16 ?_
          rw [hor]
          refine gn 8 ?_
          refine r_fn (l := [.tmp 2, .tmp 3, .tmp 4]) results157 rfl rfl ?_
          exact ⟨by rw [← hlast]; rfl, rfl⟩
      · exact absurd h6 (by omega)
  · exact absurd h1 (by omega)
end
end Go.Proofs
namespace Go.Sl
open Go
section
variable {x : Cx} {ops : Array Oper} {k : List KI} {rest : List Oper} {s : Slots} {H : HP} {d : Nat} {p pl : Operand} {ty t : TypeId} {pos : String} {af : Array Edge} {gd : Option (Nat × Bool)} {e g off n a cap : Nat} {kl : IntKind}
theorem o_ex {o : Oper} {d : Nat} {A : Value → Prop} (hw : wantS ops s o = some true) (hd : o.dst = some d) (hN : Nat.blt d x.N = true) (he : ∃ v, A v ∧ Ex x s H o v) (h : ∀ v, A v → WO x ops k rest ((d, v) :: s) H) : WO x ops k (o :: rest) s H := by
  obtain ⟨v, h1, h2⟩ := he
  exact o_e hw hd hN h2 (h v h1)
theorem q_ex {o : Oper} {d : Nat} {A : Value → Prop} (hw : wantS ops s o = some true) (hd : o.dst = some d) (hN : Nat.blt d x.N = true) (he : ∃ v, A v ∧ Ex x s H o v) (h : ∀ v, A v → QO x ops k rest ((d, v) :: s) H) : QO x ops k (o :: rest) s H := by
  obtain ⟨v, h1, h2⟩ := he
  exact q_e hw hd hN h2 (h v h1)
/-- A slice cut at its front, maybe at its room's end. -/
theorem e_slb (hU : ∀ w, (underlying t).run x.P w = .ok (.slice e) w) (hS : ∀ w, (sizeOf e).run x.P w = .ok 1 w) (hp : ev s p = some (.slice (some ⟨g, off, none⟩) n cap)) (hl : ev s pl = some (.int kl (a : Nat))) (h2 : a ≤ n) (h3 : n ≤ cap) :
    ∃ v, (∃ A, v = .slice A (n - a) (cap - a) ∧ (a < cap → A = some ⟨g, off + a, none⟩)) ∧ Ex x s H ⟨some d, .slice t p (some pl) none none, ty, pos, af, gd⟩ v := by
  by_cases hc : a < cap
  · refine ⟨_, ⟨some ⟨g, off + a, none⟩, rfl, fun _ => rfl⟩, ?_⟩
    have := e_sl_l (x := x) (s := s) (H := H) (d := d) (ty := ty) (pos := pos) (af := af) (gd := gd) hU hS hp hl (by omega) (by omega) (by omega)
    simpa using this
  · refine ⟨_, ⟨some ⟨g, off, none⟩, rfl, fun h => absurd h hc⟩, ?_⟩
    have := e_sl_le (x := x) (s := s) (H := H) (d := d) (ty := ty) (pos := pos) (af := af) (gd := gd) hU hS hp hl (by omega) (by omega) (by omega)
    have e1 : cap - a = 0 := by omega
    rw [e1]
    simpa using this
end
/-- A slice value that holds these bytes; of an empty one nothing more is told. -/
inductive BS (H : HP) : Value → List UInt8 → Prop where
  | emp {A : Option Addr} {cap : Nat} : BS H (.slice A 0 cap) []
  | blk {g off n cap : Nat} {l : List Value} {e : TypeId} {fr : Nat × Nat} {bs : List UInt8} (hm : (g, Obj.cells l.toArray e fr) ∈ H) (hc : CutL l off n (B bs)) (hn : n ≤ cap) (h63 : cap < 9223372036854775808) : BS H (.slice (some ⟨g, off, none⟩) n cap) bs
theorem BS.of {H : HP} {g off n cap : Nat} {A : Option Addr} {l : List Value} {e : TypeId} {fr : Nat × Nat} {bs : List UInt8} (hm : (g, Obj.cells l.toArray e fr) ∈ H) (hc : CutL l off n (B bs)) (hn : n ≤ cap) (h63 : cap < 9223372036854775808) (hA : 0 < cap → A = some ⟨g, off, none⟩) : BS H (.slice A n cap) bs := by
  by_cases h : 0 < cap
  · rw [hA h]; exact .blk hm hc hn h63
  · obtain rfl : n = 0 := by omega
    have : bs = [] := by
      have := congrArg List.length hc.eq
      simpa [B_length] using this
    subst this
    exact .emp
theorem CutL.len {l : List Value} {off n : Nat} {bs : List UInt8} (h : CutL l off n (B bs)) : bs.length = n := by
  have h1 := congrArg List.length h.eq
  have h2 := h.le
  simp [B_length] at h1
  omega
/-- What is cut out, cut at its front. -/
theorem CutL.front {l : List Value} {off n a : Nat} {u tl : List UInt8} (h : CutL l off n (B (u ++ tl))) (ha : u.length = a) : CutL l (off + a) (n - a) (B tl) := by
  have h1 := h.eq
  have h2 := h.le
  have h3 := h.len
  have h4 := CutL.of (l := l) (i := off + a) (n := n - a) (by rw [List.length_append] at h3; omega)
  have e : B tl = (l.drop (off + a)).take (n - a) := by
    have := congrArg (List.drop a) h1
    rw [B_append, List.drop_left' (by rw [B_length]; exact ha), List.drop_take, List.drop_drop] at this
    exact this
  rw [e]; exact h4
end Go.Sl
namespace Go.Proofs
open Go Go.Sl Tryz
set_option maxRecDepth 100000
set_option maxHeartbeats 1000000
/-- A multihash. -/
def mhB (h : Nat) (d : List UInt8) : List UInt8 := uv h ++ (uv d.length ++ d)
theorem mhB_length (h : Nat) (d : List UInt8) : (mhB h d).length = (uv h).length + (uv d.length).length + d.length := by simp [mhB]; omega
section
variable {G : HP} {g x h off n cap lo hi : Nat} {bs tl d : List UInt8} {l rest : List Value} {e : TypeId} {fr : Nat × Nat}
theorem muv_is (hx : x < 9223372036854775808) (hm : (g, .cells l.toArray e fr) ∈ G) (hcut : CutL l off n (B (uv x ++ tl))) (hc : n ≤ cap) (hcap : cap < 9223372036854775808) :
    Ctr prog 224 [.slice (some ⟨g, off, none⟩) n cap] G [] (fun r H' => ∃ A, r = .tuple #[.int .u64 (x : Nat), .slice A (n - (uv x).length) (cap - (uv x).length), .nilIface] ∧ ((uv x).length < cap → A = some ⟨g, off + (uv x).length, none⟩) ∧ H' = []) := by
  have hp := uv_pos x
  have hL : (uv x).length ≤ n := by have := hcut.len; rw [List.length_append] at this; omega
  refine fn_enter 36 func224 rfl ntmps224 rfl ?_
  intro w0
  refine gn 10 ?_
  refine oL (lC (fromU_is hx hm hcut rfl hc hcap) rfl .nil) ?_
  rintro ⟨r, H'⟩ ⟨rfl, rfl⟩
  simp only [List.nil_append]
  refine gn 25 ?_
  refine c_ifp rfl (fun h1 => ?_) (fun h1 => ?_)
  · exact absurd h1 (by omega)
  · skip
    refine gn 6 ?_
    refine c_ifp rfl (fun h2 => ?_) (fun h2 => ?_)
    · exact absurd h2 (by omega)
    · skip
      refine gn 5 ?_
      refine q_ex rfl rfl rfl (e_slb runUnderlying72 sizeOf5 rfl rfl hL hc) ?_
      rintro v ⟨A, rfl, hA⟩
      refine gn 6 ?_
      refine r_fn (l := [.tmp 2, .tmp 3, .tmp 4]) results224 rfl rfl ?_
      exact ⟨A, rfl, hA, rfl⟩
theorem rmh_is (hh : h < 9223372036854775808) (hd : d.length ≤ 1000) (hm : (g, .cells l.toArray e fr) ∈ G) (hcut : CutL l off n (B (mhB h d))) (hc : n ≤ cap) (hcap : cap < 9223372036854775808) :
    Ctr prog 211 [.slice (some ⟨g, off, none⟩) n cap] G [] (fun r H' => ∃ v, r = .tuple #[.int .i64 n, .int .u64 (h : Nat), v, .nilIface] ∧ (∃ A c, v = .slice A d.length c) ∧ BS G v d ∧ H' = []) := by
  have hp := uv_pos h
  have hp2 := uv_pos d.length
  have hn := hcut.len
  rw [mhB_length] at hn
  have hc2 := hcut.front (u := uv h) rfl
  have hc3 := hc2.front (u := uv d.length) rfl
  refine fn_enter 55 func211 rfl ntmps211 rfl ?_
  intro w0
  refine gn 22 ?_
  refine c_ifp rfl (fun h1 => ?_) (fun h1 => ?_)
  · exact absurd h1 (by omega)
  · skip
    refine gn 16 ?_
    refine oL (lC (muv_is hh hm hcut hc hcap) rfl .nil) ?_
    rintro ⟨r, H'⟩ ⟨A, rfl, hA, rfl⟩
    rw [hA (by omega)]
    simp only [List.nil_append]
    refine gn 22 ?_
    refine oL (lC (muv_is (x := d.length) (by omega) hm hc2 (by omega) (by omega)) rfl .nil) ?_
    rintro ⟨r, H'⟩ ⟨A2, rfl, hA2, rfl⟩
    simp only [List.nil_append]
    refine gn 26 ?_
    refine c_ifp rfl (fun h2 => ?_) (fun h2 => ?_)
    · exact absurd h2 (by omega)
    · skip
      refine gn 12 ?_
      refine c_ifp rfl (fun h3 => ?_) (fun h3 => ?_)
      · exact absurd h3 (by omega)
      · skip
        refine gn 28 ?_
        refine r_fn (l := [.tmp 2, .tmp 3, .tmp 4, .tmp 5]) results211 rfl rfl ?_
        refine ⟨_, ?_, ⟨A2, _, rfl⟩, BS.of hm (n := d.length) (cap := cap - (uv h).length - (uv d.length).length) (by have := hc3; rwa [show n - (uv h).length - (uv d.length).length = d.length by omega] at this) (by omega) (by omega) (fun h0 => hA2 (by omega)), rfl⟩
        rw [show n - (n - (uv h).length - (uv d.length).length) + d.length = n by omega, Int.toNat_natCast]
        rfl
theorem decode_is (hh : h < 9223372036854775808) (hd : d.length ≤ 1000) (hm : (g, .cells l.toArray e fr) ∈ G) (hcut : CutL l off n (B (mhB h d))) (hc : n ≤ cap) (hcap : cap < 9223372036854775808) :
    Ctr prog 162 [.slice (some ⟨g, off, none⟩) n cap] G [] (fun r H' => ∃ v, r = .tuple #[.agg #[.int .u64 (h : Nat), S [], .int .i64 d.length, v], .nilIface] ∧ (∃ A c, v = .slice A d.length c) ∧ BS G v d ∧ H' = []) := by
  refine fn_enter 33 func162 rfl ntmps162 rfl ?_
  intro w0
  refine gn 2 ?_
  refine oZ ?_; intro g2 _
  refine gn 6 ?_
  refine oL (lC (rmh_is hh hd hm hcut hc hcap) rfl .nil) ?_
  rintro ⟨r, H'⟩ ⟨v, rfl, ⟨A, c, rfl⟩, hb, rfl⟩
  simp only [List.nil_append]
  refine gn 27 ?_
  refine oX (eB [.int .u64 (h : Nat), S [], .int .i64 d.length, .slice A d.length c]) ?_
  refine oL (l_storea sizeOf181 rfl rfl rfl (by simp [Value.oneCell']) .head (.take (.take (.take (.take .done)))) nofrs0) ?_
  intro _ _
  refine gn 11 ?_
  refine c_ifp rfl (fun h1 => ?_) (fun h1 => ?_)
  · exact absurd h1 (by omega)
  · skip
    refine gn 5 ?_
    refine oL (l_storea sizeOf181 rfl rfl rfl (by simp [Value.oneCell']) .head (.take (.take (.take (.take .done)))) nofrs0) ?_
    intro _ _
    refine gn 4 ?_
    refine r_fnx results162 (.cella isAgg181 sizeOf181 rfl (.inl (.head _)) (.take (.take (.take (.take .done)))) (.tmp rfl .nil)) .nil rfl ?_
    exact ⟨_, rfl, ⟨A, c, rfl⟩, hb, rfl⟩
theorem Decode_is (hh : h < 9223372036854775808) (hd : d.length ≤ 1000) (hm : (g, .cells l.toArray e fr) ∈ G) (hcut : CutL l off n (B (mhB h d))) (hc : n ≤ cap) (hcap : cap < 9223372036854775808) :
    Ctr prog 92 [.slice (some ⟨g, off, none⟩) n cap] G [] (fun r H' => ∃ (gm : Nat) (v : Value), r = .tuple #[.pointer (some ⟨gm, 0, none⟩), .nilIface] ∧ (∃ A c, v = .slice A d.length c) ∧ BS G v d ∧ H' = [(gm, C [.int .u64 (h : Nat), S [], .int .i64 d.length, v] 181)]) := by
  refine fn_enter 14 func92 rfl ntmps92 rfl ?_
  intro w0
  refine gn 9 ?_
  refine oL (lC (decode_is hh hd hm hcut hc hcap) rfl .nil) ?_
  rintro ⟨r, H'⟩ ⟨v, rfl, ⟨A, c, rfl⟩, hb, rfl⟩
  simp only [List.nil_append]
  refine gn 3 ?_
  refine oZ ?_; intro g4 _
  refine oL (l_storea sizeOf181 rfl rfl rfl (by simp [Value.oneCell']) .head (.take (.take (.take (.take .done)))) nofrs0) ?_
  intro _ _
  refine gn 20 ?_
  refine r_fn (l := [.tmp 2, .tmp 3]) results92 rfl rfl ?_
  exact ⟨_, _, rfl, ⟨A, c, rfl⟩, hb, rfl⟩
end
end Go.Proofs
namespace Go.Proofs
open Go Go.Sl Tryz
set_option maxRecDepth 100000
set_option maxHeartbeats 1000000
/-- A strings.Builder. -/
abbrev Sb (gb : Nat) (v : Value) : Obj := C [.pointer (some ⟨gb, 0, none⟩), v] 307
section
variable {G HB : HP} {gb gd n m c off cap : Nat} {bs ds mh : List UInt8} {v : Value} {l : List Value} {e : TypeId} {fr : Nat × Nat}
theorem cc0_is : Ctr prog 216 [.pointer (some ⟨gb, 0, none⟩)] G [(gb, C [.pointer none, v] 307)] (fun r H' => r = .tuple #[] ∧ H' = [(gb, Sb gb v)]) := by
  refine fn_enter 20 func216 rfl ntmps216 rfl ?_
  intro w0
  refine gn 6 ?_
  refine oX (e_peqn runUnderlying305 rfl) ?_
  refine gn 6 ?_
  refine oX (e_tou underlying305 underlying123 (info_of typeInfo307) rfl rfl (.inl (.head _)) rfl) ?_
  refine oX (e_ext rfl (fun w => ext225 _ w)) ?_
  refine oX (e_fromu underlying123 underlying305 (info_of typeInfo307) rfl (.inl (.head _)) (by kernel_rfl)) ?_
  refine gn 2 ?_
  refine oT ?_; intro _ _
  refine gn 1 ?_
  refine n_fn0 results216 ?_
  exact ⟨rfl, rfl⟩
theorem cc1_is : Ctr prog 216 [.pointer (some ⟨gb, 0, none⟩)] G [(gb, Sb gb v)] (fun r H' => r = .tuple #[] ∧ H' = [(gb, Sb gb v)]) := by
  refine fn_enter 20 func216 rfl ntmps216 rfl ?_
  intro w0
  refine gn 6 ?_
  refine oX (e_peqn runUnderlying305 rfl) ?_
  refine gn 10 ?_
  refine oX (e_pne_same runUnderlying305 sizeOf307 (by decide) rfl rfl) ?_
  refine gn 4 ?_
  refine n_fn0 results216 ?_
  exact ⟨rfl, rfl⟩
theorem sgrow_is (h0 : 0 < m) (hm : m ≤ 1000000) : Ctr prog 217 [.pointer (some ⟨gb, 0, none⟩), .int .i64 m] G [(gb, Sb gb (.slice none 0 0))] (fun r H' => ∃ y : Tl, TlOk 1 0 y ∧ r = .tuple #[] ∧ H' = [(gb, Sb gb (.slice (some ⟨y.g, 0, none⟩) 0 y.cap)), (y.g, Ob [] y 5)]) := by
  refine fn_enter 30 func217 rfl ntmps217 rfl ?_
  intro w0
  refine gn 1 ?_
  refine c_regiond ([(gb, Sb gb (.slice none 0 0))]) (by kernel_rfl) (by first | exact List.Sublist.refl _ | exact List.nil_sublist _ | (repeat constructor)) ?_
  refine ld [0, 1, 2, 3, 4, 5, 6, 7, 9, 10, 11, 12, 13] ?_
  refine dL 8 rfl (l_mnz (ps := #[3]) (rt := 72) func226 (by kernel_rfl) (by kernel_rfl) (by kernel_rfl) (by kernel_rfl) underlying72 rfl rfl (by simp; omega)) ?_
  intro y hy
  refine ld [14, 15] ?_
  refine gn 9 ?_
  refine oX (e_copyn runUnderlying72 sizeOf5 rfl rfl (Sv.nil underlying72) rfl) ?_
  refine gn 7 ?_
  refine oT ?_; intro _ _
  refine gn 1 ?_
  refine WN.sel (.cons (.tail .head) (.cons .head .nil)) ?_
  refine n_fn0 results217 ?_
  exact ⟨y, hy.1, rfl, rfl⟩
theorem sGrow_is (h0 : 0 < m) (hm : m ≤ 1000000) : Ctr prog 187 [.pointer (some ⟨gb, 0, none⟩), .int .i64 m] G [(gb, C [.pointer none, .slice none 0 0] 307)] (fun r H' => ∃ y : Tl, TlOk 1 0 y ∧ r = .tuple #[] ∧ H' = [(gb, Sb gb (.slice (some ⟨y.g, 0, none⟩) 0 y.cap)), (y.g, Ob [] y 5)]) := by
  refine fn_enter 25 func187 rfl ntmps187 rfl ?_
  intro w0
  refine gn 3 ?_
  refine oL (lC cc0_is rfl (.cons .head .nil)) ?_
  rintro ⟨r, H'⟩ ⟨rfl, rfl⟩
  simp only [List.cons_append, List.nil_append]
  refine gn 9 ?_
  refine c_ifp rfl (fun h1 => ?_) (fun h1 => ?_)
  · exact absurd h1 (by omega)
  · skip
    refine gn 19 ?_
    refine c_ifp rfl (fun h2 => ?_) (fun h2 => ?_)
    · refine gn 3 ?_
      refine oL (lC (sgrow_is h0 hm) rfl (.cons .head .nil)) ?_
      rintro ⟨r, H'⟩ ⟨y, hy, rfl, rfl⟩
      simp only [List.cons_append, List.nil_append]
      refine gn 1 ?_
      refine n_fn0 results187 ?_
      exact ⟨y, hy, rfl, rfl⟩
    · exact absurd h2 (by omega)
theorem swb_is {b : UInt8} (ho : Osl 5 1 v n (B bs) HB) (hn : n ≤ 1000000) : Ctr prog 188 [.pointer (some ⟨gb, 0, none⟩), .int .u8 b.toNat] G ((gb, Sb gb v) :: HB) (fun r H' => ∃ (v' : Value) (HB' : HP), Osl 5 1 v' (n + 1) (B (bs ++ [b])) HB' ∧ r = .nilIface ∧ H' = (gb, Sb gb v') :: HB') := by
  refine fn_enter 17 func188 rfl ntmps188 rfl ?_
  intro w0
  refine gn 8 ?_
  refine oL (lC cc1_is rfl (.cons .head .nil)) ?_
  rintro ⟨r, H'⟩ ⟨rfl, rfl⟩
  simp only [List.cons_append, List.nil_append]
  refine gn 10 ?_
  refine oL (l_bs1 runUnderlying72 sizeOf5 zeroValue5 rfl rfl rfl) ?_; intro g13 _
  refine oL (l_append (sz := 1) underlying72 (info_of typeInfo5) rfl rfl rfl rfl rfl rfl ho (List.perm_append_comm (l₁ := [_, _])) (.blk (vs := [.int .u8 b.toNat]) underlying72 (.inl (.head _)) (.take .done) (by simp [Value.oneCell'])) (by show (n + 1) * 1 ≤ _; omega) (by omega)) ?_
  rintro ⟨v2, HB2⟩ ho2
  simp only at ho2 ⊢
  refine o_perm (List.perm_append_comm (l₂ := [_, _])) ?_
  simp only [List.cons_append, List.nil_append]
  have h1c : v2.oneCell' = true := ho2.one
  refine gn 2 ?_
  refine oL (l_store sizeOf72 rfl rfl h1c (.tail .head) (.tail .head) nofr0) ?_
  intro _ _
  refine gn 8 ?_
  refine WR.sel (.cons (.tail .head) (by simpa using Sel.mid [_] HB2 [])) ?_
  refine r_fn1 results188 rfl ?_
  exact ⟨v2, HB2, by rw [B_append]; exact ho2, rfl, rfl⟩
theorem swr_is (ho : Osl 5 1 v n (B bs) HB) (hn : n ≤ 1000000) (hm : m ≤ 1000000) (hD : (gd, .cells l.toArray e fr) ∈ G) (hcut : CutL l off m (B ds)) (h0 : 0 < m) : Ctr prog 189 [.pointer (some ⟨gb, 0, none⟩), .slice (some ⟨gd, off, none⟩) m cap] G ((gb, Sb gb v) :: HB) (fun r H' => ∃ (v' : Value) (HB' : HP), Osl 5 1 v' (n + m) (B (bs ++ ds)) HB' ∧ r = .tuple #[.int .i64 m, .nilIface] ∧ H' = (gb, Sb gb v') :: HB') := by
  refine fn_enter 19 func189 rfl ntmps189 rfl ?_
  intro w0
  refine gn 9 ?_
  refine oL (lC cc1_is rfl (.cons .head .nil)) ?_
  rintro ⟨r, H'⟩ ⟨rfl, rfl⟩
  simp only [List.cons_append, List.nil_append]
  refine gn 10 ?_
  refine oL (l_append (sz := 1) underlying72 (info_of typeInfo5) rfl rfl rfl rfl rfl rfl ho (List.perm_append_comm (l₁ := [_])) (.blk (vs := B ds) underlying72 (.inr hD) (by rw [Nat.mul_one]; exact hcut) (B_one ds)) (by show (n + m) * 1 ≤ _; omega) (by omega)) ?_
  rintro ⟨v2, HB2⟩ ho2
  simp only at ho2 ⊢
  refine o_perm (List.perm_append_comm (l₂ := [_])) ?_
  simp only [List.cons_append, List.nil_append]
  have h1c : v2.oneCell' = true := ho2.one
  refine gn 2 ?_
  refine oL (l_store sizeOf72 rfl rfl h1c .head (.tail .head) nofr0) ?_
  intro _ _
  refine gn 11 ?_
  refine r_fn (l := [.tmp 4, .tmp 5]) results189 rfl rfl ?_
  exact ⟨v2, HB2, by rw [B_append]; exact ho2, rfl, rfl⟩
theorem sstr_is (ho : Osl 5 1 v n (B bs) HB) (h0 : 0 < n) : Ctr prog 190 [.pointer (some ⟨gb, 0, none⟩)] G ((gb, Sb gb v) :: HB) (fun r H' => r = S bs ∧ H' = [(gb, Sb gb v)]) := by
  generalize hx : B bs = xs at ho
  cases ho with
  | nil => exact absurd h0 (by omega)
  | @own g n cap lo hi xs rest h1 h2 h3 h4 h5 =>
    subst hx
    have hlen : bs.length = n := by rw [← B_length bs, h1, Nat.mul_one]
    have hcut : CutL (B bs ++ rest) 0 n (B bs) := by
      have := CutL.of (l := B bs ++ rest) (i := 0) (n := n) (by rw [List.length_append, B_length]; omega)
      rwa [List.drop_zero, List.take_left' (by rw [B_length]; exact hlen)] at this
    refine fn_enter 14 func190 rfl ntmps190 rfl ?_
    intro w0
    refine gn 6 ?_
    refine c_regiond ([(gb, Sb gb (.slice (some ⟨g, 0, none⟩) n cap))]) (by kernel_rfl) (.cons_cons _ (.cons _ .slnil)) ?_
    refine ld [0, 1, 2, 3, 5, 6, 7, 8, 9] ?_
    refine dX 4 rfl (e_usd rfl (by omega)) ?_
    refine dL 10 rfl (l_ustr (bs := bs) underlying358 (by kernel_rfl) rfl rfl rfl (.tail .head) hlen (by simpa using h0) (by simp; omega) hcut) ?_
    intro _ _
    refine ld [11] ?_
    refine gn 3 ?_
    refine r_fn1 results190 rfl ?_
    exact ⟨rfl, rfl⟩
end
end Go.Proofs
namespace Go.Proofs
open Go Go.Sl Tryz
set_option maxRecDepth 100000
set_option maxHeartbeats 1000000
theorem enc_put {h : Nat} {d : List UInt8} {W : List Value} (hW : W.length = d.length) : PutL (B (uv h) ++ (B (uv d.length) ++ W)) ((uv h).length + (uv d.length).length) (B d) (B (mhB h d)) := by
  have := PutL.of (l := B (uv h) ++ B (uv d.length) ++ W) (i := (uv h).length + (uv d.length).length) (vs := B d) (by simp only [List.length_append, B_length]; omega)
  rw [List.drop_of_length_le (by simp only [List.length_append, B_length]; omega), List.take_left' (by rw [List.length_append, B_length, B_length]), List.append_nil] at this
  rw [mhB, B_append, B_append, ← List.append_assoc, ← List.append_assoc]
  exact this
theorem enc_nil {h : Nat} {z : Value} : B (uv h) ++ (B (uv 0) ++ ((List.replicate ((uv h).length + (uv 0).length + 0) z).drop (uv h).length).drop (uv 0).length) = B (mhB h []) := by
  rw [List.drop_of_length_le (by simp only [List.length_drop, List.length_replicate]; omega), mhB, B_append, B_append]
  rfl
section
variable {G : HP} {g gd gm h c n off cap lo hi : Nat} {bs d mh : List UInt8} {l rest : List Value} {e : TypeId} {fr : Nat × Nat}
theorem enc_is (hh : h < 18446744073709551616) (hD : (gd, DB d rest lo hi) ∈ G) (hd : d.length = n) (hn : n ≤ 1000) :
    Ctr prog 133 [.slice (some ⟨gd, 0, none⟩) n cap, .int .u64 (h : Nat)] G [] (fun r H' => ∃ g, r = .tuple #[.slice (some ⟨g, 0, none⟩) (mhB h d).length (mhB h d).length, .nilIface] ∧ H' = [(g, C (B (mhB h d)) 5)]) := by
  subst hd
  have hp := uv_pos h
  have hp2 := uv_pos d.length
  have h10 := uv_le h
  have h102 := uv_le d.length
  have hN : (uv h).length + (uv d.length).length + d.length = (mhB h d).length := (mhB_length h d).symm
  have hcutd : CutL (B d ++ rest) 0 (d.length * 1) (B d) := by
    have := CutL.of (l := B d ++ rest) (i := 0) (n := d.length * 1) (by rw [List.length_append, B_length]; omega)
    rw [List.drop_zero, Nat.mul_one, List.take_left' (B_length d)] at this
    rw [Nat.mul_one]
    exact this
  refine fn_enter 37 func133 rfl ntmps133 rfl ?_
  intro w0
  refine gn 9 ?_
  refine oL (lC (usize_is hh) rfl .nil) ?_
  rintro ⟨r, H'⟩ ⟨rfl, rfl⟩
  simp only [List.nil_append]
  refine gn 3 ?_
  refine oL (lC (usize_is (x := d.length) (by omega)) rfl .nil) ?_
  rintro ⟨r, H'⟩ ⟨rfl, rfl⟩
  simp only [List.nil_append]
  refine gn 4 ?_
  refine oL (l_mks (l := List.replicate ((uv h).length + (uv d.length).length + d.length) (.int .u8 0)) underlying72 (info_of typeInfo5) rfl rfl rfl rfl (by omega) (by omega) (by show (1 : Int) * _ ≤ _; omega) (by omega) (by rw [Int.toNat_natCast]; exact made_one (.int .u8 0) _ rfl)) ?_
  intro g _
  simp only [Int.toNat_natCast]
  refine gn 7 ?_
  refine oL (lC (vputg_is (pre := []) (old := List.replicate ((uv h).length + (uv d.length).length + d.length) (.int .u8 0)) (off := 0) hh rfl (by omega) (Nat.le_refl _) (by omega) (by rw [List.length_replicate]; omega) (.inr rfl)) rfl (.cons .head .nil)) ?_
  rintro ⟨r, H'⟩ ⟨rfl, rfl⟩
  simp only [List.cons_append, List.nil_append]
  refine gn 12 ?_
  simp only [Int.toNat_natCast, Nat.mul_one, Nat.zero_add]
  refine oL (lC (vputg_is (x := d.length) (pre := B (uv h)) (old := (List.replicate ((uv h).length + (uv d.length).length + d.length) (.int .u8 0)).drop (uv h).length) (by omega) (B_length _) (by omega) (by omega) (by omega) (by rw [List.length_drop, List.length_replicate]; omega) (.inr rfl)) rfl (.cons .head .nil)) ?_
  rintro ⟨r, H'⟩ ⟨rfl, rfl⟩
  simp only [List.cons_append, List.nil_append]
  refine gn 8 ?_
  refine o_ex rfl rfl rfl (e_slb (a := (uv h).length + (uv d.length).length) runUnderlying72 sizeOf5 rfl rfl (by omega) (by omega)) ?_
  rintro v ⟨A, rfl, hA⟩
  refine gn 1 ?_
  by_cases h0 : d.length = 0
  · obtain rfl : d = [] := List.length_eq_zero_iff.1 h0
    refine oX (e_copyn runUnderlying72 sizeOf5 rfl rfl (.blk (vs := B []) underlying72 (.inr hD) hcutd (B_one [])) rfl) ?_
    refine gn 10 ?_
    refine r_fn (l := [.tmp 4, .tmp 5]) results133 rfl rfl ?_
    exact ⟨g, by rw [hN], by rw [← enc_nil (z := .int .u8 0)]; rfl⟩
  · skip
    rw [hA (by omega)]
    simp only [Nat.zero_add]
    refine oL (l_copy (off := (uv h).length + (uv d.length).length) (l' := B (mhB h d)) runUnderlying72 sizeOf5 rfl rfl rfl (.blk (vs := B d) underlying72 (.inr hD) hcutd (B_one d)) rfl .head (by rw [show Nat.min d.length ((uv h).length + (uv d.length).length + d.length - ((uv h).length + (uv d.length).length)) = d.length from Nat.min_eq_left (by omega), List.take_of_length_le (by rw [B_length]; exact Nat.le_refl _)]; exact enc_put (by simp only [List.length_drop, List.length_replicate]; omega)) (.inr rfl)) ?_
    intro _ _
    refine gn 10 ?_
    refine r_fn (l := [.tmp 4, .tmp 5]) results133 rfl rfl ?_
    exact ⟨g, by rw [hN], rfl⟩
end
end Go.Proofs
namespace Go.Proofs
open Go Go.Sl Tryz
set_option maxRecDepth 100000

theorem fits1 {G : HP} (x : En) : Ctr prog 10 [.agg (cC x).toArray] G [] (fun r _ => ∃ b, r = .bool b) := by
  obtain ⟨v, c, h, d, o⟩ := x
  simp only [cC]
  refine fn_enter 7 func10 rfl ntmps10 rfl ?_
  intro w0
  refine gn 2 ?_
  refine oB ?_; intro g1 _
  refine gn 6 ?_
  refine oX (e_fa runUnderlying25 rfl sizeOf9 rfl rfl) ?_
  refine gn 5 ?_
  refine c_ifp rfl (fun h => ?_) (fun h => ?_)
  · refine gn 6 ?_
    refine r_fn1 results10 rfl ?_
    exact ⟨_, rfl⟩
  · skip
    refine gn 8 ?_
    refine r_fn1 results10 rfl ?_
    exact ⟨_, rfl⟩
end Go.Proofs
namespace Go.Proofs
open Go Go.Sl Tryz
set_option maxRecDepth 100000

def Tidy (x : En) : Prop := (x.v = 0 ∧ x.c = 112 ∧ x.h = 18 ∧ x.d.length = 32) ∨ (x.v = 1 ∧ x.c < 9223372036854775808 ∧ x.h < 9223372036854775808)
instance (x : En) : Decidable (Tidy x) := by unfold Tidy; infer_instance
theorem tidy_is {G : HP} (x : En) : Ctr prog 12 [.agg (cC x).toArray] G [] (fun r _ => r = .bool (decide (Tidy x))) := by
  obtain ⟨v, c, h, d, o⟩ := x
  simp only [cC]
  refine fn_enter 33 func12 rfl ntmps12 rfl ?_
  intro w0
  refine gn 2 ?_
  refine oB ?_; intro g1 _
  refine gn 6 ?_
  refine oX (e_fa runUnderlying25 rfl sizeOf23 rfl rfl) ?_
  refine gn 4 ?_
  refine c_ifp rfl (fun h1 => ?_) (fun h1 => ?_)
  · refine gn 2 ?_
    refine oX (e_fa runUnderlying25 rfl sizeOf23 rfl rfl) ?_
    refine gn 3 ?_
    refine o_splitp 9 rfl (fun h2 => ?_) (fun h2 => ?_)
    · refine oX (e_fa runUnderlying25 rfl sizeOf23 rfl rfl) ?_
      refine gn 4 ?_
      refine o_splitp 14 rfl (fun h3 => ?_) (fun h3 => ?_)
      · refine oX (e_fa runUnderlying25 rfl sizeOf9 rfl rfl) ?_
        refine gn 8 ?_
        refine r_fn1 results12 rfl ?_
        refine congrArg Value.bool ?_
        have : ((d.length : Int) = 32) ↔ d.length = 32 := by omega
        simp [Tidy, h1, h2, h3, this]
      · skip
        refine gn 9 ?_
        refine r_fn1 results12 rfl ?_
        simp [Tidy, h1, h2, h3]
    · skip
      refine gn 14 ?_
      refine r_fn1 results12 rfl ?_
      simp [Tidy, h1, h2]
  · skip
    refine gn 4 ?_
    refine oX (e_fa runUnderlying25 rfl sizeOf23 rfl rfl) ?_
    refine gn 3 ?_
    refine o_splitp 23 rfl (fun h2 => ?_) (fun h2 => ?_)
    · refine oX (e_fa runUnderlying25 rfl sizeOf23 rfl rfl) ?_
      refine gn 4 ?_
      refine o_splitp 28 rfl (fun h3 => ?_) (fun h3 => ?_)
      · refine oX (e_fa runUnderlying25 rfl sizeOf23 rfl rfl) ?_
        refine gn 7 ?_
        refine r_fn1 results12 rfl ?_
        refine congrArg Value.bool ?_
        simp [Tidy, h2, h3]
      · skip
        refine gn 8 ?_
        refine r_fn1 results12 rfl ?_
        simp [Tidy, h1, h3]
    · skip
      refine gn 13 ?_
      refine r_fn1 results12 rfl ?_
      simp [Tidy, h1, h2]
end Go.Proofs
namespace Go.Proofs
open Go Go.Sl
/-- What a number of an entry may be. -/
structure EnFit (x : En) : Prop where
  v0 : 0 ≤ x.v
  v1 : x.v < 18446744073709551616
  c0 : 0 ≤ x.c
  c1 : x.c < 18446744073709551616
  h0 : 0 ≤ x.h
  h1 : x.h < 18446744073709551616
  o0 : 0 ≤ x.o
  o1 : x.o < 18446744073709551616
def partOf (st : List En) (n : Int) : Part := (n.toNat + 8, rowsB st n)
def parts (l : List En) : List Part := (widths l).map (partOf (stable l))
def kparts (l : List En) : List Cpart := (codes l).map fun c => (c.toNat, parts (codedL l c))
theorem pbB_partOf {st : List En} {n : Int} (h : 0 ≤ n) : pbB (partOf st n) = partB st n := by
  obtain ⟨k, rfl⟩ := Int.eq_ofNat_of_zero_le h
  simp [pbB, partOf, partB]
theorem widths_nonneg {l : List En} {n : Int} (h : n ∈ widths l) : 0 ≤ n := by
  obtain ⟨x, _, rfl⟩ := widths_mem.1 h
  omega
theorem flatMap_congr' {α β : Type} {l : List α} {f g : α → List β} (h : ∀ a ∈ l, f a = g a) : l.flatMap f = l.flatMap g := by
  induction l with
  | nil => rfl
  | cons a l ih => simp only [List.flatMap_cons]; rw [h a (.head _), ih fun b hb => h b (.tail _ hb)]
theorem sortedB_parts (l : List En) : sortedB l = pmB (parts l) := by
  simp only [sortedB, pmB, parts, List.length_map, List.flatMap_map]
  congr 1
  exact flatMap_congr' fun n hn => (pbB_partOf (widths_nonneg hn)).symm
theorem codes_nonneg {l : List En} (hf : ∀ x ∈ l, EnFit x) {n : Int} (h : n ∈ codes l) : 0 ≤ n := by
  obtain ⟨x, hx, rfl⟩ := codes_mem.1 h
  exact (hf x hx).h0
theorem bodyB_S (l : List En) : bodyB l 1024 = lowB ((parts l).length : Nat) 4 ++ (parts l).flatMap pbB := by
  rw [bodyB, if_pos rfl, sortedB_parts]; rfl
theorem bodyB_M {l : List En} (hf : ∀ x ∈ l, EnFit x) : bodyB l 1025 = lowB ((kparts l).length : Nat) 4 ++ (kparts l).flatMap pcB := by
  rw [bodyB, if_neg (by decide)]
  simp only [kparts, List.length_map, List.flatMap_map]
  congr 1
  refine flatMap_congr' fun c hc => ?_
  obtain ⟨k, rfl⟩ := Int.eq_ofNat_of_zero_le (codes_nonneg hf hc)
  simp only [codeB, pcB, sortedB_parts]
  rfl
theorem srt_nodup {l : List Int} (h : l.Nodup) : (srt l).Nodup := (List.mergeSort_perm l _).symm.nodup h
theorem widths_nodup (l : List En) : (widths l).Nodup := srt_nodup (distI_nodup _)
theorem codes_nodup (l : List En) : (codes l).Nodup := srt_nodup (distI_nodup _)
theorem nodup_map_on {α β : Type} {f : α → β} : ∀ {l : List α}, (∀ a ∈ l, ∀ b ∈ l, f a = f b → a = b) → l.Nodup → (l.map f).Nodup
  | [], _, _ => by simp
  | a :: l, hf, h => by
    rw [List.nodup_cons] at h
    rw [List.map_cons, List.nodup_cons]
    refine ⟨fun hm => ?_, nodup_map_on (fun x hx y hy => hf x (.tail _ hx) y (.tail _ hy)) h.2⟩
    obtain ⟨b, hb, he⟩ := List.mem_map.1 hm
    exact h.1 (hf b (.tail _ hb) a (.head _) he ▸ hb)
theorem parts_nodup (l : List En) : ((parts l).map (·.1)).Nodup := by
  rw [parts, List.map_map]
  refine nodup_map_on (fun a ha b hb h => ?_) (widths_nodup l)
  have h1 := widths_nonneg ha
  have h2 := widths_nonneg hb
  simp only [Function.comp, partOf] at h
  omega
theorem kparts_nodup {l : List En} (hf : ∀ x ∈ l, EnFit x) : ((kparts l).map (·.1)).Nodup := by
  rw [kparts, List.map_map]
  refine nodup_map_on (fun a ha b hb h => ?_) (codes_nodup l)
  have h1 := codes_nonneg hf ha
  have h2 := codes_nonneg hf hb
  simp only [Function.comp] at h
  omega
theorem parts_ok {l : List En} (hd : ∀ x ∈ l, x.d.length ≤ 200) : ∀ p ∈ parts l, PartOk p := by
  intro p hp
  obtain ⟨n, hn, rfl⟩ := List.mem_map.1 hp
  obtain ⟨x, hx, rfl⟩ := widths_mem.1 hn
  have h200 := hd x hx
  refine ⟨by simp [partOf], by simp [partOf]; omega, ?_⟩
  have hxs : x ∈ stable l := (stable_perm l).mem_iff.2 hx
  have : (x.d ++ lowB x.o 8).length ≤ (rowsB (stable l) (x.d.length : Nat)).length := by
    have hs : x ∈ (stable l).filter fun y => decide ((y.d.length : Int) = (x.d.length : Nat)) := List.mem_filter.2 ⟨hxs, by simp⟩
    obtain ⟨s, t, he⟩ := List.append_of_mem hs
    rw [rowsB, he]
    simp
    omega
  simp only [List.length_append, lowB_length] at this
  simp only [partOf]
  omega
theorem parts_len {l : List En} : (parts l).length ≤ l.length := by rw [parts, List.length_map]; exact widths_len l
theorem kparts_len {l : List En} : (kparts l).length ≤ l.length := by rw [kparts, List.length_map]; exact codes_len l
end Go.Proofs
namespace Go.Proofs
open Go Go.Sl Tryz
set_option maxRecDepth 100000
set_option maxHeartbeats 1000000
theorem _root_.Go.Sl.TlOk.osl {y : Tl} {e : TypeId} (h : TlOk 1 0 y) : Osl e 1 (.slice (some ⟨y.g, 0, none⟩) 0 y.cap) 0 [] [(y.g, Ob [] y e)] :=
  .own (xs := []) (rest := y.rest) rfl h.rest (Nat.zero_le _) h.lt h.mark
section
variable {G : HP} {g gd gm h c n off cap lo hi : Nat} {bs d mh : List UInt8} {l rest : List Value} {e : TypeId} {fr : Nat × Nat}
theorem newV1_is (hc : c < 18446744073709551616) (hD : (gm, C (B mh) 5) ∈ G) (hn : mh.length = n) (h0 : 0 < n) (hn1 : n ≤ 100000) :
    CtrP prog 135 [.int .u64 (c : Nat), .slice (some ⟨gm, 0, none⟩) n n] G (.agg #[S (1 :: (uv c ++ mh))]) := by
  have hp := uv_pos c
  have h10 := uv_le c
  have hcutm : CutL (B mh) 0 n (B mh) := by
    have := CutL.of (l := B mh) (i := 0) (n := n) (by rw [B_length]; omega)
    rwa [List.drop_zero, List.take_of_length_le (by rw [B_length]; omega)] at this
  refine fn_enter 37 func135 rfl ntmps135 rfl ?_
  intro w0
  refine gn 2 ?_
  refine oZ ?_; intro g4 _
  refine gn 11 ?_
  refine oZ ?_; intro g6 _
  refine gn 5 ?_
  refine oL (lC (usize_is hc) rfl .nil) ?_
  rintro ⟨r, H'⟩ ⟨rfl, rfl⟩
  simp only [List.nil_append]
  refine gn 3 ?_
  refine oL (l_call call187 (sGrow_is (m := 1 + (uv c).length + n) (by omega) (by omega)) rfl (by show some _ = some _; congr 3) (.cons .head .nil)) ?_
  rintro ⟨r, H'⟩ ⟨y, hy, rfl, rfl⟩
  simp only [List.cons_append, List.nil_append]
  refine gn 4 ?_
  refine oL (lC (swb_is (bs := []) (b := 1) hy.osl (by omega)) rfl (.cons .head (.cons .head .nil))) ?_
  rintro ⟨r, H'⟩ ⟨v1, HB1, ho1, rfl, rfl⟩
  simp only [List.cons_append, List.nil_append] at ho1 ⊢
  refine gn 4 ?_
  refine oZ ?_; intro g7 _
  refine gn 6 ?_
  refine oL (lC (vputg_is (pre := []) (old := List.replicate 10 (.int .u8 0)) (off := 0) (lo := 0) (hi := 0) hc rfl (by omega) (Nat.le_refl _) (by omega) (by rw [List.length_replicate]; omega) (.inr rfl)) rfl (.cons .head .nil)) ?_
  rintro ⟨r, H'⟩ ⟨rfl, rfl⟩
  simp only [List.cons_append, List.nil_append]
  refine gn 7 ?_
  simp only [Int.toNat_natCast]
  refine oL (lJ (HJ := [(g7, C (B (uv c) ++ (List.replicate 10 (.int .u8 0)).drop (uv c).length) 310)]) (swr_is (ds := uv c) (m := (uv c).length) ho1 (by omega) (by omega) (List.mem_append_right _ (.head _)) (by have := CutL.of (l := B (uv c) ++ (List.replicate 10 (.int .u8 0)).drop (uv c).length) (i := 0) (n := (uv c).length) (by rw [List.length_append, B_length]; omega); rwa [List.drop_zero, List.take_left' (B_length _)] at this) hp) rfl (.cons (.tail .head) (Sel.mid [_] HB1 _)) (by intro p hp; exact List.mem_append_left _ hp)) ?_
  rintro ⟨r, H'⟩ ⟨v2, HB2, ho2, rfl, rfl⟩
  simp only [List.cons_append, List.nil_append] at ho2 ⊢
  refine gn 5 ?_
  refine oL (lC (swr_is (ds := mh) (m := n) ho2 (by omega) (by omega) hD hcutm h0) rfl (.cons .head (Sel.app HB2 _))) ?_
  rintro ⟨r, H'⟩ ⟨v3, HB3, ho3, rfl, rfl⟩
  simp only [List.cons_append, List.nil_append] at ho3 ⊢
  refine gn 15 ?_
  refine c_ifp rfl (fun h1 => ?_) (fun h1 => ?_)
  · exact absurd rfl h1
  · skip
    refine gn 4 ?_
    refine oL (lC (sstr_is ho3 (by omega)) rfl (.cons .head (Sel.app HB3 _))) ?_
    rintro ⟨r, H'⟩ ⟨rfl, rfl⟩
    simp only [List.cons_append, List.nil_append]
    refine oX (eB [S (1 :: (uv c ++ mh))]) ?_
    refine oL (l_storea sizeOf111 rfl rfl rfl (by simp [Value.oneCell']) aU (.take .done) nofrs0) ?_
    intro _ _
    refine gn 3 ?_
    refine r_fnx results135 (.cella isAgg111 sizeOf111 rfl aM (.take .done) .nil) .nil rfl ?_
    exact ⟨rfl, rfl⟩
theorem tryV0_is (hD : (gm, C (B (mhB 18 d)) 5) ∈ G) (hd : d.length = 32) :
    CtrP prog 186 [.slice (some ⟨gm, 0, none⟩) (mhB 18 d).length (mhB 18 d).length] G (.tuple #[.agg #[S (mhB 18 d)], .nilIface]) := by
  have hn : (mhB 18 d).length = 34 := by rw [mhB_length, hd]; rfl
  have hcutm : CutL (B (mhB 18 d)) 0 (mhB 18 d).length (B (mhB 18 d)) := by
    have := CutL.of (l := B (mhB 18 d)) (i := 0) (n := (mhB 18 d).length) (by rw [B_length]; omega)
    rwa [List.drop_zero, List.take_of_length_le (by rw [B_length]; omega)] at this
  refine fn_enter 36 func186 rfl ntmps186 rfl ?_
  intro w0
  refine gn 2 ?_
  refine oZ ?_; intro g2 _
  refine gn 6 ?_
  refine oL (lC (Decode_is (h := 18) (d := d) (by omega) (by omega) hD hcutm (Nat.le_refl _) (by omega)) rfl .nil) ?_
  rintro ⟨r, H'⟩ ⟨g9, v, rfl, -, hb, rfl⟩
  simp only [List.cons_append, List.nil_append]
  refine gn 26 ?_
  refine o_splitp 22 rfl (fun h1 => ?_) (fun h1 => ?_)
  · exact absurd rfl h1
  · skip
    refine gn 8 ?_
    refine c_ifp rfl (fun h2 => ?_) (fun h2 => ?_)
    · exact absurd h2 (by omega)
    · skip
      refine gn 5 ?_
      refine oX (e_bs underlying178 underlying5 underlying9 rfl (.inr hD) hcutm) ?_
      refine oX (eB [S (mhB 18 d)]) ?_
      refine oL (l_storea sizeOf111 rfl rfl rfl (by simp [Value.oneCell']) aU (.take .done) nofrs0) ?_
      intro _ _
      refine gn 4 ?_
      refine r_fnx results186 (.cella isAgg111 sizeOf111 rfl aM (.take .done) (.tmp rfl .nil)) .nil rfl ?_
      exact ⟨rfl, rfl⟩
theorem newV0_is (hD : (gm, C (B (mhB 18 d)) 5) ∈ G) (hd : d.length = 32) :
    CtrP prog 134 [.slice (some ⟨gm, 0, none⟩) (mhB 18 d).length (mhB 18 d).length] G (.agg #[S (mhB 18 d)]) := by
  refine fn_enter 14 func134 rfl ntmps134 rfl ?_
  intro w0
  refine gn 2 ?_
  refine oZ ?_; intro g2 _
  refine gn 5 ?_
  refine oL (lC (tryV0_is hD hd) rfl .nil) ?_
  rintro ⟨r, H'⟩ ⟨rfl, rfl⟩
  simp only [List.nil_append]
  refine gn 3 ?_
  refine oZ ?_; intro g3 _
  refine oL (l_storea sizeOf111 rfl rfl rfl (by simp [Value.oneCell']) aU (.take .done) nofrs0) ?_
  intro _ _
  refine gn 16 ?_
  refine oL (l_storea sizeOf111 rfl rfl rfl (by simp [Value.oneCell']) aU (.take .done) nofrs0) ?_
  intro _ _
  refine gn 3 ?_
  refine r_fnx results134 (.cella isAgg111 sizeOf111 rfl aM (.take .done) .nil) .nil rfl ?_
  exact ⟨rfl, rfl⟩
end
end Go.Proofs
namespace Go.Sl
open Go
theorem results_put {fn : Func} {a b d : Nat} {t u : TypeId} (hr : fn.results = #[.cell a t, .cell b u]) (ha : d ≠ a) (hb : d ≠ b) (tm : Array Value) (v : Value) : results fn (tm.setIfInBounds d v) = results fn tm := by
  have h : ∀ k, d ≠ k → (tm.setIfInBounds d v)[k]?.getD undef = tm[k]?.getD undef := fun k hk => by
    rw [Array.getElem?_setIfInBounds, if_neg hk]
  unfold results
  rw [hr]
  simp [h a ha, h b hb]
theorem Leaves.congr {P : Program} {fn : Func} {t1 t2 : Array Value} {R : Ending → World → Prop} (h : results fn t1 = results fn t2) : ∀ (ds : List Deferred) (u : FrameMode) (w : World), Leaves P fn t1 R ds u w → Leaves P fn t2 R ds u w := by
  have e : Leaves P fn t1 R = Leaves P fn t2 R := by
    funext ds
    induction ds with
    | nil => funext u w; cases u <;> simp only [Leaves, h]
    | cons d ds ih => funext u w; simp only [Leaves, ih]
  intro ds u w hl
  rwa [← e]
section
variable {x : Cx} {ops : Array Oper} {k : List KI} {s : Slots} {H : HP}
theorem d_eD (i : Nat) {o : Oper} {d : Nat} {v : Value} {HS : HP} {fuel : Nat} {listed : Array Bool} (hQ : ∀ c a w v, x.Q (.panic c) (Act.put a (some d) v) w → x.Q (.panic c) a w) (hi : ops[i]? = some o) (hs0 : Region.noSelect ops = true) (hf : Region.free .any ops listed i = true) (hr : (Region.ready .any ops listed).contains i = true)
    (hw : wantS ops s o = some true) (hd : o.dst = some d) (hN : Nat.blt d x.N = true) (he : Ex x s HS o v) (h : DO x ops k HS fuel (listed.setIfInBounds i true) ((d, v) :: s) H) : DO x ops k HS (fuel + 1) listed s H := fun a w hs hS => by
  have hN' : d < x.N := by simpa [Nat.blt_eq] using hN
  refine wpAnyH_take hi hs0 hf hr (fun c a w hq => by rw [kp_panic] at hq ⊢; rw [hd] at hq; exact hQ _ _ _ _ hq) (.inl ⟨want_of hs hw, fun w' hw' => he a w' (hS.of_sw hw')⟩) (hS.sw fun _ hp => hp) ?_
  rw [hd]
  exact h _ w (hs.put _ hN') (hS.put _ hN')
theorem q_defer {P : Program} {fn : Func} {R : Ending → World → Prop} {a b d : Nat} {t u : TypeId} (hr : fn.results = #[.cell a t, .cell b u]) (ha : d ≠ a) (hb : d ≠ b) : ∀ (c : List PanicEntry) (ac : Act) (w : World) (v : Value), bodyPostD P fn R (.panic c) (Act.put ac (some d) v) w → bodyPostD P fn R (.panic c) ac w := by
  intro c ac w v h
  exact Leaves.congr (results_put hr ha hb ac.tmps v) ac.defers _ w h
end
end Go.Sl
namespace Go.Proofs
open Go Go.Sl Tryz
set_option maxRecDepth 100000
set_option maxHeartbeats 1000000
/-- An identifier's bytes. -/
def cidB (x : En) : List UInt8 := if x.v = 0 then mhB 18 x.d else 1 :: (uv x.c.toNat ++ mhB x.h.toNat x.d)
section
variable {G : HP} {x : En}
theorem cidIn_is (ht : Tidy x) (hf : EnFit x) (hd : x.d.length ≤ 200) : CtrP prog 68 [.agg (cC x).toArray] G (.tuple #[.agg #[S (cidB x)], .bool true]) := by
  obtain ⟨v, c, h, d, o⟩ := x
  obtain ⟨_, _, hc0, hc1, hh0, hh1, _, _⟩ := hf
  simp only at hc0 hc1 hh0 hh1 hd
  simp only [Tidy] at ht
  obtain ⟨c, rfl⟩ := Int.eq_ofNat_of_zero_le hc0
  obtain ⟨h, rfl⟩ := Int.eq_ofNat_of_zero_le hh0
  have hlp := uv_pos h
  have hmh : (mhB h d).length ≤ 220 := by rw [mhB_length]; have := uv_le h; have := uv_le d.length; omega
  have hmh0 : 0 < (mhB h d).length := by rw [mhB_length]; omega
  simp only [cC]
  refine fn_enterD 32 func68 rfl ntmps68 rfl ?_
  intro w0
  refine gn 2 ?_
  refine oB ?_; intro g1 _
  refine oZ ?_; intro g2 _
  refine oZ ?_; intro g3 _
  refine gn 5 ?_
  refine o_defer rfl ?_
  refine gn 6 ?_
  refine oL (l_sbc underlying9 underlying72 underlying5 rfl rfl (by simp; omega) rfl rfl) ?_
  rintro ⟨gs, cap, rest, lo, hi⟩ hy
  refine gn 2 ?_
  refine oL (lJ (HJ := [(gs, DB d rest lo hi)]) (enc_is (h := h) (by omega) (List.mem_append_right _ (.head _)) rfl (by omega)) rfl .nil (by simp)) ?_
  rintro ⟨r, H'⟩ ⟨gm, rfl, rfl⟩
  simp only [List.cons_append, List.nil_append]
  refine gn 21 ?_
  rcases ht with ⟨rfl, h1, h2, h3⟩ | ⟨rfl, h1, h2⟩
  · have h1' : c = 112 := by omega
    have h2' : h = 18 := by omega
    subst h1' h2'
    refine c_ifp rfl (fun h4 => ?_) (fun h4 => ?_)
    · refine gn 1 ?_
      refine c_regiond ([(gm, C (B (mhB 18 d)) 5), (g1, C [.int .u64 0, .int .u64 112, .int .u64 18, S d] 25)]) (by kernel_rfl) (.cons_cons _ (.cons _ (.cons _ (.cons _ (.cons_cons _ .slnil))))) ?_
      refine d_eD 0 (q_defer results68 (by decide) (by decide)) rfl (by kernel_rfl) (by kernel_rfl) (by kernel_rfl) rfl rfl rfl (e_move rfl) ?_
      refine d_eD 2 (q_defer results68 (by decide) (by decide)) rfl (by kernel_rfl) (by kernel_rfl) (by kernel_rfl) rfl rfl rfl (e_fak 1 runUnderlying25 rfl sizeOf23 rfl rfl rfl) ?_
      refine d_eD 3 (q_defer results68 (by decide) (by decide)) rfl (by kernel_rfl) (by kernel_rfl) (by kernel_rfl) rfl rfl rfl (e_load isAgg23 rfl (.inl (.tail _ (.head _))) rfl) ?_
      refine d_eD 4 (q_defer results68 (by decide) (by decide)) rfl (by kernel_rfl) (by kernel_rfl) (by kernel_rfl) rfl rfl rfl (e_eql rfl rfl) ?_
      refine d_l 1 (by kernel_rfl) rfl rfl (l_callj (HJ := [(gm, C (B (mhB 18 d)) 5)]) call134 (newV0_is (List.mem_append_right _ (.head _)) h3) rfl rfl .nil (by simp)) (by rintro ⟨r, H'⟩ ⟨rfl, rfl⟩ p hp; simp only [List.mem_cons, List.not_mem_nil, or_false, List.nil_append] at hp ⊢; rcases hp with rfl | rfl <;> simp) ?_
      rintro ⟨r, H'⟩ ⟨rfl, rfl⟩
      simp only [List.nil_append]
      refine d_l 5 (by kernel_rfl) rfl rfl (l_storea sizeOf111 rfl rfl rfl (by simp [Value.oneCell']) aU (.take .done) nofrs0) (by intro _ _ p hp; simp only [List.mem_cons, List.not_mem_nil, or_false] at hp ⊢; rcases hp with rfl | rfl <;> simp) ?_
      intro _ _
      refine d_l 6 (by kernel_rfl) rfl rfl (l_store sizeOf4 rfl rfl rfl aU .head nofr0) (by intro _ _ p hp; simp only [List.mem_cons, List.not_mem_nil, or_false] at hp ⊢; rcases hp with rfl | rfl <;> simp) ?_
      intro _ _
      refine gn 3 ?_
      refine r_fnxD (idle132 _ _) results68 (.cella isAgg111 sizeOf111 rfl aM (.take .done) (.cell isAgg4 rfl aM rfl .nil)) .nil rfl ?_
      exact ⟨rfl, rfl⟩
    · skip
      exact absurd rfl h4
  · skip
    refine c_ifp rfl (fun h4 => ?_) (fun h4 => ?_)
    · exact absurd h4 (by decide)
    · skip
      refine gn 6 ?_
      refine c_ifp rfl (fun h5 => ?_) (fun h5 => ?_)
      · refine gn 5 ?_
        refine oL (lJ (HJ := [(gm, C (B (mhB h d)) 5)]) (newV1_is (c := c) (by omega) (List.mem_append_right _ (.head _)) rfl hmh0 (by omega)) rfl .nil (by simp)) ?_
        rintro ⟨r, H'⟩ ⟨rfl, rfl⟩
        simp only [List.nil_append]
        refine oL (l_storea sizeOf111 rfl rfl rfl (by simp [Value.oneCell']) aU (.take .done) nofrs0) ?_
        intro _ _
        refine oT ?_; intro _ _
        refine gn 3 ?_
        refine r_fnxD (idle132 _ _) results68 (.cella isAgg111 sizeOf111 rfl aM (.take .done) (.cell isAgg4 rfl aM rfl .nil)) .nil rfl ?_
        exact ⟨rfl, rfl⟩
      · exact absurd rfl h5
end
end Go.Proofs

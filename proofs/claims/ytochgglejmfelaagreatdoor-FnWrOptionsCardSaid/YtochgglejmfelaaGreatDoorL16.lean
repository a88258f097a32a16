/- The readers out of which identifiers are read: a bytes.Reader, one with a limit; The scanner in front of a reader: so many bytes, one byte; The reader in front of the decoder: one byte, so many bytes; The decoder's numbers, bytes and texts; The decoder's items: a number, a text, a byte string, one with a tag, an array's begin, a map's begin. (A part of the proof of this: for every input laws.FnWrOptions returns true and its arguments read as they did, the listed package variables being what the program lays) -/
import Derived.Test.YtochgglejmfelaaGreatDoorLSlZ
import Derived.Test.YtochgglejmfelaaGreatDoorL15
set_option linter.unusedVariables false
set_option linter.unusedSimpArgs false
namespace Go.Proofs
open Go Go.Sl Tryz
set_option maxRecDepth 100000
set_option maxHeartbeats 1000000
section
variable {G : HP} {gr gs n cap i lo hi : Nat} {bs : List UInt8} {rest : List Value}
theorem toBuf_is {gD : Nat} : Ctr prog 159 [RV gr, .slice (some ⟨gD, 0, none⟩) 0 64] G [] (fun r H' => ∃ gB, r = .pointer (some ⟨gB, 0, none⟩) ∧ H' = [(gB, C [RV gr, .nilIface, .slice (some ⟨gD, 0, none⟩) 0 64] 277)]) := by
  refine fn_enter 21 func159 rfl ntmps159 rfl ?_
  intro w0
  refine gn 9 ?_
  refine oX (e_ta (r := .tuple #[RV gr, .bool true]) rfl (by intro w; kernel_rfl)) ?_
  refine gn 17 ?_
  refine oX (eB [RV gr, .nilIface, .slice (some ⟨gD, 0, none⟩) 0 64]) ?_
  refine oB ?_; intro g16 _
  refine gn 4 ?_
  refine r_fn1 results159 rfl ?_
  exact ⟨_, rfl, rfl⟩
theorem bufRB_is {gB gD k : Nat} {p q : List Value} {z : Value} {b : UInt8} (hD : (gs, DB bs rest lo hi) ∈ G) (hn : bs.length = n) (h63 : n < 9223372036854775808) (hb : bs[k]? = some b) (hpq : p.length + (q.length + 1) = 64) :
    Ctr prog 394 [.pointer (some ⟨gB, 0, none⟩)] G [(gB, C [RV gr, .nilIface, .slice (some ⟨gD, 0, none⟩) p.length 64] 277), (gD, C (p ++ z :: q) 5), (gr, RB gs n cap k)] (fun r H' => r = .tuple #[.int .u8 (b.toNat : Nat), .nilIface] ∧ H' = [(gB, C [RV gr, .nilIface, .slice (some ⟨gD, 0, none⟩) (p.length + 1) 64] 277), (gD, C (p ++ .int .u8 (b.toNat : Nat) :: q) 5), (gr, RB gs n cap (k + 1))]) := by
  refine fn_enter 60 func394 rfl ntmps394 rfl ?_
  intro w0
  refine gn 26 ?_
  refine oL (lI (byte_is hD hn h63 hb) rfl rfl (.cons (.tail (.tail .head)) .nil)) ?_
  rintro ⟨r, H'⟩ ⟨rfl, rfl⟩
  simp only [List.cons_append, List.nil_append]
  refine gn 25 ?_
  refine oL (l_bs1 runUnderlying72 sizeOf5 zeroValue5 rfl rfl rfl) ?_; intro g30 _
  refine oL (l_appR (sz := 1) (m := 1) (L := p ++ .int .u8 (b.toNat : Nat) :: q) underlying72 (info_of typeInfo5) rfl rfl rfl rfl (.tail (.tail (.tail .head))) (by simp; omega) (by omega) (.inr rfl) (.blk underlying72 (.inl (.head _)) (.take .done) (by simp [Value.oneCell'])) (by simp)) ?_
  rintro ⟨⟩ -
  refine gn 2 ?_
  refine oT ?_; intro _ _
  refine gn 10 ?_
  refine WR.sel (.cons (.tail (.tail .head)) (.cons (.tail (.tail .head)) (.cons (.tail .head) .nil))) ?_
  refine r_fn (l := [.tmp 2, .tmp 3]) results394 rfl rfl ?_
  exact ⟨rfl, rfl⟩
/-- A bytes.Reader. -/
def crdR (hD : (gs, DB bs rest lo hi) ∈ G) (hn : bs.length = n) (hc : n ≤ cap) (h63 : cap < 9223372036854775808) (hi' : i ≤ n) : CRd G 75 (.pointer (some ⟨gr, 0, none⟩)) (fun k => [(gr, RB gs n cap (i + k))]) (bs.drop i) where
  dir := RV gr
  fb := .nilIface
  hto := fun _ => toBuf_is
  hby := fun gB gD p q z k b hb hpq => by
    rw [List.getElem?_drop] at hb
    exact bufRB_is hD hn (by omega) hb hpq
  hrd := fun k L gb ob cb pl h1 hL h2 => by
    rw [List.length_drop] at h1
    have hr := rdF (gr := gr) (gb := gb) (ob := ob) (cb := cb) (i := i + k) (L := L) (pl := pl) hD hn hc h63 (by omega) hL h2
    rw [List.drop_drop]
    exact ⟨hr.f, hr.rv, hr.hf, hr.hm, hr.hn, hr.hc.perm (.swap _ _ _) (fun v K hK => by obtain ⟨rfl, rfl⟩ := hK; exact ⟨_, .swap _ _ _, rfl, by rw [Nat.add_assoc]⟩)⟩
end
end Go.Proofs
namespace Go.Proofs
open Go Go.Sl Tryz
set_option maxRecDepth 100000
set_option maxHeartbeats 1000000
section
variable {G : HP} {gr gs gb gq ob n cap cb i k L lo hi : Nat} {bs : List UInt8} {rest pl : List Value} {e : TypeId} {gE : Addr} {t3 : List Value} {e3 : TypeId} {f3 : Nat × Nat} {zl zb : Value} {ls : Int}
theorem read_any (hD : (gs, DB bs rest lo hi) ∈ G) (hn : bs.length = n) (hc : n ≤ cap) (h63 : cap < 9223372036854775808) (hi' : i < n) (hk : Nat.min (n - i) L = k) (hp : ob + L ≤ pl.length) :
    Ctr prog 288 [.pointer (some ⟨gr, 0, none⟩), .slice (some ⟨gb, ob, none⟩) L cb] G [(gr, RB gs n cap i), (gb, C pl e)] (fun r H' => r = .tuple #[.int .i64 (k : Nat), .nilIface] ∧ H' = [(gr, RB gs n cap (i + k)), (gb, C (pl.take ob ++ B ((bs.drop i).take k) ++ pl.drop (ob + k)) e)]) := by
  have hk1 : k ≤ n - i := by rw [← hk]; exact Nat.min_le_left _ _
  have hk2 : k ≤ L := by rw [← hk]; exact Nat.min_le_right _ _
  have hl0 : ((B ((bs.drop i).take (n - i))).take k).length = k := by rw [List.length_take, B_length, List.length_take, List.length_drop]; omega
  refine fn_enter 39 func288 rfl ntmps288 rfl ?_
  intro w0
  refine gn 21 ?_
  refine c_ifp rfl (fun h => absurd h (by omega)) (fun _ => ?_)
  refine gn 7 ?_
  refine oT ?_; intro _ _
  refine gn 3 ?_
  refine c_regiong [10] (by kernel_rfl) ?_
  refine lg [0, 1, 2, 3, 1004, 5, 6, 7, 1008, 9] ?_
  refine gL 10 rfl (l_copyE runUnderlying72 sizeOf5 rfl rfl rfl (.blk underlying72 (.inr hD) (DB_cut (k := n - i) (by omega)) (B_one _)) hk (.tail .head) (PutL.of (l := pl) (i := ob) (vs := (B ((bs.drop i).take (n - i))).take k) (by rw [hl0]; omega)) (.inr rfl)) ?_
  intro _ _
  refine ld [11] ?_
  refine gn 12 ?_
  refine oT ?_; intro _ _
  refine gn 3 ?_
  refine r_fn (l := [.tmp 4, .tmp 5]) results288 rfl rfl ?_
  have hb : (B ((bs.drop i).take (n - i))).take k = B ((bs.drop i).take k) := by simp [B, List.map_take, List.take_take, Nat.min_eq_left hk1]
  have hl : (B ((bs.drop i).take k)).length = k := by simp [B]; omega
  refine ⟨rfl, ?_⟩
  simp only [Int.toNat_natCast, hb, hl, RB]
theorem scanRd_is (hD : (gs, DB bs rest lo hi) ∈ G) (hE : (3, Obj.cells (EV gE :: t3).toArray e3 f3) ∈ G) (hn : bs.length = n) (hc : n ≤ cap) (h63 : cap < 9223372036854775808) (hi' : i + L ≤ n) (hL : 0 < L) (hp : ob + L ≤ pl.length) (hls : ls = 0 ∨ ls = 2) :
    Ctr prog 417 [.pointer (some ⟨gq, 0, none⟩), .slice (some ⟨gb, ob, none⟩) L cb] G [(gq, C [RV gr, zl, .int .u8 ls, zb] 363), (gr, RB gs n cap i), (gb, C pl e)] (fun r H' => r = .tuple #[.int .i64 (L : Nat), .nilIface] ∧ H' = [(gq, C [RV gr, .int .u8 ((bs.getD (i + (L - 1)) 0).toNat : Nat), .int .u8 2, zb] 363), (gr, RB gs n cap (i + L)), (gb, C (pl.take ob ++ B ((bs.drop i).take L) ++ pl.drop (ob + L)) e)]) := by
  have hrd := read_any (G := G) (gr := gr) (gb := gb) (ob := ob) (L := L) (cb := cb) (k := L) (pl := pl) (e := e) hD hn hc h63 (show i < n by omega) (Nat.min_eq_right (by omega)) hp
  have h1 : ((bs.drop i).take L).length = L := by rw [List.length_take, List.length_drop]; omega
  have h3 : (pl.take ob).length = ob := by rw [List.length_take]; omega
  have hrl : (pl.take ob ++ B ((bs.drop i).take L) ++ pl.drop (ob + L)).length = pl.length := by
    simp only [List.length_append, h3, B_length, h1, List.length_drop]; omega
  have hz : (pl.take ob ++ B ((bs.drop i).take L) ++ pl.drop (ob + L))[ob + (L - 1) * 1]? = some (.int .u8 ((bs.getD (i + (L - 1)) 0).toNat : Nat)) := by
    rw [Nat.mul_one, List.append_assoc, List.getElem?_append_right (by rw [h3]; omega), h3, Nat.add_sub_cancel_left, List.getElem?_append_left (by rw [B_length, h1]; omega)]
    rw [B, List.getElem?_map, List.getElem?_take_of_lt (by omega), List.getElem?_drop, List.getD_eq_getElem?_getD, List.getElem?_eq_getElem (by omega)]
    rfl
  generalize pl.take ob ++ B ((bs.drop i).take L) ++ pl.drop (ob + L) = q at *
  refine fn_enter 60 func417 rfl ntmps417 rfl ?_
  intro w0
  refine gn 21 ?_
  refine c_ifp rfl (fun h => absurd h (by omega)) (fun _ => ?_)
  refine gn 9 ?_
  refine oL (lI hrd rfl rfl (.cons (.tail .head) (.cons (.tail .head) .nil))) ?_
  rintro ⟨r, H'⟩ ⟨rfl, rfl⟩
  simp only [List.cons_append, List.nil_append]
  refine gn 14 ?_
  refine c_ifp rfl (fun _ => ?_) (fun h => absurd h (by omega))
  refine gn 5 ?_
  refine oX (e_ieq_n runUnderlying80 rfl rfl) ?_
  refine gn 21 ?_
  refine oT ?_; intro _ _
  refine gn 6 ?_
  refine oT ?_; intro _ _
  refine gn 12 ?_
  refine WR.sel (.cons (.tail (.tail .head)) (.cons .head (.cons .head .nil))) ?_
  refine r_fn (l := [.tmp 4, .tmp 5]) results417 rfl rfl ?_
  exact ⟨rfl, rfl⟩
theorem scanRdB_is {b : UInt8} (hD : (gs, DB bs rest lo hi) ∈ G) (hE : (3, Obj.cells (EV gE :: t3).toArray e3 f3) ∈ G) (hn : bs.length = n) (hc : n ≤ cap) (h63 : cap < 9223372036854775808) (hb : bs[i]? = some b) (hls : ls = 0 ∨ ls = 2) :
    Ctr prog 417 [.pointer (some ⟨gq, 0, none⟩), .slice (some ⟨gq, 3, none⟩) 1 1] G [(gq, C [RV gr, zl, .int .u8 ls, zb] 363), (gr, RB gs n cap i)] (fun r H' => r = .tuple #[.int .i64 1, .nilIface] ∧ H' = [(gq, C [RV gr, .int .u8 (b.toNat : Nat), .int .u8 2, .int .u8 (b.toNat : Nat)] 363), (gr, RB gs n cap (i + 1))]) := by
  have hi := (List.getElem?_eq_some_iff.1 hb).1
  have hrd := read_any (G := G) (gr := gr) (gb := gq) (ob := 3) (L := 1) (cb := 1) (k := 1) (pl := [RV gr, zl, .int .u8 ls, zb]) (e := 363) hD hn hc h63 (show i < n by omega) (Nat.min_eq_right (by omega)) (by simp)
  have h1 : (bs.drop i).take 1 = [b] := by
    rw [List.drop_eq_getElem_cons hi]
    have : bs[i] = b := by rw [List.getElem?_eq_getElem hi] at hb; exact Option.some.inj hb
    simp [this]
  rw [h1] at hrd
  have h2 : [RV gr, zl, Value.int .u8 ls, zb].take 3 ++ B [b] ++ [RV gr, zl, Value.int .u8 ls, zb].drop (3 + 1) = [RV gr, zl, .int .u8 ls, .int .u8 (b.toNat : Nat)] := rfl
  rw [h2] at hrd
  refine fn_enter 60 func417 rfl ntmps417 rfl ?_
  intro w0
  refine gn 21 ?_
  refine c_ifp rfl (fun h => absurd h (by omega)) (fun _ => ?_)
  refine gn 9 ?_
  refine oL (lI hrd rfl rfl (.cons (.tail .head) (.cons .head .nil))) ?_
  rintro ⟨r, H'⟩ ⟨rfl, rfl⟩
  simp only [List.cons_append, List.nil_append]
  refine gn 20 ?_
  refine oX (e_ieq_n runUnderlying80 rfl rfl) ?_
  refine gn 21 ?_
  refine oT ?_; intro _ _
  refine gn 6 ?_
  refine oT ?_; intro _ _
  refine gn 12 ?_
  refine WR.sel (.cons (.tail .head) (.cons .head .nil)) ?_
  refine r_fn (l := [.tmp 4, .tmp 5]) results417 rfl rfl ?_
  exact ⟨rfl, rfl⟩
theorem scanB_is {b : UInt8} (hD : (gs, DB bs rest lo hi) ∈ G) (hE : (3, Obj.cells (EV gE :: t3).toArray e3 f3) ∈ G) (hn : bs.length = n) (hc : n ≤ cap) (h63 : cap < 9223372036854775808) (hb : bs[i]? = some b) (hls : ls = 0 ∨ ls = 2) :
    Ctr prog 418 [.pointer (some ⟨gq, 0, none⟩)] G [(gq, C [RV gr, zl, .int .u8 ls, zb] 363), (gr, RB gs n cap i)] (fun r H' => r = .tuple #[.int .u8 (b.toNat : Nat), .nilIface] ∧ H' = [(gq, C [RV gr, .int .u8 (b.toNat : Nat), .int .u8 2, .int .u8 (b.toNat : Nat)] 363), (gr, RB gs n cap (i + 1))]) := by
  refine fn_enter 24 func418 rfl ntmps418 rfl ?_
  intro w0
  refine gn 13 ?_
  refine oL (lC (scanRdB_is hD hE hn hc h63 hb hls) rfl (.cons .head (.cons .head .nil))) ?_
  rintro ⟨r, H'⟩ ⟨rfl, rfl⟩
  simp only [List.cons_append, List.nil_append]
  refine gn 29 ?_
  refine oX (e_ieq_n runUnderlying80 rfl rfl) ?_
  refine gn 6 ?_
  refine r_fn (l := [.tmp 2, .tmp 3]) results418 rfl rfl ?_
  exact ⟨rfl, rfl⟩
end
end Go.Proofs
namespace Go.Sl
open Go
theorem SetAt.app {l l' : List Value} {k : Nat} {v : Value} (h : SetAt l k v l') : ∀ p : List Value, SetAt (p ++ l) (p.length + k) v (p ++ l')
  | [] => by simpa using h
  | a :: p => by
    have := SetAt.tail (a := a) (SetAt.app h p)
    rw [show (a :: p).length + k = p.length + k + 1 by simp; omega]
    exact this
end Go.Sl
namespace Go.Proofs
open Go Go.Sl Tryz
set_option maxRecDepth 100000
set_option maxHeartbeats 1000000
section
variable {x a b c v : Value} {sc d : List Value}
/-- The cells of the decoder's reader: the reader behind it, 32 bytes of its own, how many were read, what it tracks. -/
abbrev SkL (x : Value) (sc : List Value) (a b c : Value) : List Value := x :: (sc ++ [a, b, c])
theorem sk_set (h : sc.length = 32) : SetAt (SkL x sc a b c) 33 v (SkL x sc v b c) := by
  have h1 := (SetAt.head (a := a) (l := [b, c]) (v := v)).app sc
  rw [h] at h1
  exact .tail h1
theorem sk_33 (h : sc.length = 32) : (SkL x sc a b c)[33]? = some a := by simp [SkL, List.getElem?_append, h]
theorem sk_35 (h : sc.length = 32) : (SkL x sc a b c)[35]? = some c := by simp [SkL, List.getElem?_append, h]
theorem sk_put {L : Nat} (h : sc.length = 32) (hL : L ≤ 32) : (SkL x sc a b c).take 1 ++ d ++ (SkL x sc a b c).drop (1 + L) = SkL x (d ++ sc.drop L) a b c := by
  rw [Nat.add_comm]
  simp [SkL, List.drop_append_of_le_length (show L ≤ sc.length by omega)]
end
/-- The decoder's reader, its scanner, the bytes' reader at byte i. -/
inductive SkR (ga gq gr gs n cap i : Nat) : HP → Prop where
  | mk {sc : List Value} {z : Int} {l b : Value} {ls : Int} (h1 : sc.length = 32) (h2 : ls = 0 ∨ ls = 2) : SkR ga gq gr gs n cap i [(ga, C (SkL (.iface 361 (.pointer (some ⟨gq, 0, none⟩))) sc (.int .i64 z) (.slice none 0 0) (.bool false)) 368), (gq, C [RV gr, l, .int .u8 ls, b] 363), (gr, RB gs n cap i)]
section
variable {G HB : HP} {ga gr gs gb gq ob n cap cb i k L lo hi : Nat} {bs : List UInt8} {rest pl : List Value} {e : TypeId} {gE : Addr} {t3 : List Value} {e3 : TypeId} {f3 : Nat × Nat} {zl zb : Value} {ls : Int}
def scF (hD : (gs, DB bs rest lo hi) ∈ G) (hE : (3, Obj.cells (EV gE :: t3).toArray e3 f3) ∈ G) (hn : bs.length = n) (hc : n ≤ cap) (h63 : cap < 9223372036854775808) (hi' : i + L ≤ n) (hL : 0 < L) (hp : ob + L ≤ pl.length) (hls : ls = 0 ∨ ls = 2) : RdF G 361 (.pointer (some ⟨gq, 0, none⟩)) (.slice (some ⟨gb, ob, none⟩) L cb) L [(gq, C [RV gr, zl, .int .u8 ls, zb] 363), (gr, RB gs n cap i), (gb, C pl e)] [(gq, C [RV gr, .int .u8 ((bs.getD (i + (L - 1)) 0).toNat : Nat), .int .u8 2, zb] 363), (gr, RB gs n cap (i + L)), (gb, C (pl.take ob ++ B ((bs.drop i).take L) ++ pl.drop (ob + L)) e)] where
  f := 417
  rv := .pointer (some ⟨gq, 0, none⟩)
  hf := call417
  hm := by intro w; kernel_rfl
  hn := by intro w; kernel_rfl
  hc := scanRd_is hD hE hn hc h63 hi' hL hp hls
theorem readn1_is {b : UInt8} (hS : SkR ga gq gr gs n cap i HB) (hD : (gs, DB bs rest lo hi) ∈ G) (hE : (3, Obj.cells (EV gE :: t3).toArray e3 f3) ∈ G) (hn : bs.length = n) (hc : n ≤ cap) (h63 : cap < 9223372036854775808) (hb : bs[i]? = some b) :
    Ctr prog 411 [.pointer (some ⟨ga, 0, none⟩)] G HB (fun r H' => r = .tuple #[.int .u8 (b.toNat : Nat), .nilIface] ∧ SkR ga gq gr gs n cap (i + 1) H') := by
  cases hS with
  | @mk sc z l bv ls h1 h2 =>
    have k33 := sk_33 (x := .iface 361 (.pointer (some ⟨gq, 0, none⟩))) (a := .int .i64 z) (b := .slice none 0 0) (c := .bool false) h1
    refine fn_enter 35 func411 rfl ntmps411 rfl ?_
    intro w0
    refine gn 12 ?_
    refine oL (lI (scanB_is hD hE hn hc h63 hb h2) rfl rfl (.cons (.tail .head) (.cons (.tail .head) .nil))) ?_
    rintro ⟨r, H'⟩ ⟨rfl, rfl⟩
    simp only [List.cons_append, List.nil_append]
    refine gn 26 ?_
    refine oL (l_store sizeOf3 rfl rfl rfl (.tail (.tail .head)) (sk_set h1) (by omega)) ?_
    intro _ _
    have k35 := fun z' : Int => sk_35 (x := .iface 361 (.pointer (some ⟨gq, 0, none⟩))) (a := .int .i64 z') (b := .slice none 0 0) (c := .bool false) h1
    refine gn 8 ?_
    refine oX (e_load isAgg4 rfl aM (k35 _)) ?_
    refine gn 6 ?_
    refine WR.sel (.cons (.tail (.tail .head)) (.cons .head (.cons .head .nil))) ?_
    refine r_fn (l := [.tmp 2, .tmp 3]) results411 rfl rfl ?_
    exact ⟨rfl, .mk h1 (.inr rfl)⟩
/-- Fewer than 32 bytes, in the reader's own row. -/
theorem readnS_is (hS : SkR ga gq gr gs n cap i HB) (hD : (gs, DB bs rest lo hi) ∈ G) (hE : (3, Obj.cells (EV gE :: t3).toArray e3 f3) ∈ G) (hn : bs.length = n) (hc : n ≤ cap) (h63 : cap < 9223372036854775808) (hi' : i + L ≤ n) (hL : 0 < L) (hL2 : L < 32) :
    Ctr prog 416 [.pointer (some ⟨ga, 0, none⟩), .int .i64 L] G HB (fun r H' => r = .tuple #[.slice (some ⟨ga, 1, none⟩) L 32, .nilIface] ∧ SkR ga gq gr gs n cap (i + L) H' ∧ ∃ l, (ga, C l 368) ∈ H' ∧ CutL l 1 L (B ((bs.drop i).take L))) := by
  cases hS with
  | @mk sc z l bv ls h1 h2 =>
    have hdl : (B ((bs.drop i).take L)).length = L := by rw [B_length, List.length_take, List.length_drop]; omega
    have h3 : (B ((bs.drop i).take L) ++ sc.drop L).length = 32 := by rw [List.length_append, hdl, List.length_drop]; omega
    have hsl : (SkL (.iface 361 (.pointer (some ⟨gq, 0, none⟩))) sc (.int .i64 z) (.slice none 0 0) (.bool false)).length = 36 := by simp [SkL, h1]
    have k33 := sk_33 (x := .iface 361 (.pointer (some ⟨gq, 0, none⟩))) (a := .int .i64 z) (b := .slice none 0 0) (c := .bool false) h3
    have k35 := fun z' : Int => sk_35 (x := .iface 361 (.pointer (some ⟨gq, 0, none⟩))) (a := .int .i64 z') (b := .slice none 0 0) (c := .bool false) h3
    have hcut : ∀ a, CutL (SkL (.iface 361 (.pointer (some ⟨gq, 0, none⟩))) (B ((bs.drop i).take L) ++ sc.drop L) a (.slice none 0 0) (.bool false)) 1 L (B ((bs.drop i).take L)) := fun a => by
      refine .skip ?_
      rw [List.append_assoc]
      exact CutL.all hdl
    have hat := atLeast_is (scF (gb := ga) (gq := gq) (gr := gr) (ob := 1) (cb := 32) (i := i) (L := L) (e := 368) (zl := l) (zb := bv) (ls := ls) (pl := SkL (.iface 361 (.pointer (some ⟨gq, 0, none⟩))) sc (.int .i64 z) (.slice none 0 0) (.bool false)) hD hE hn hc h63 hi' hL (by omega) h2) hL (by omega) (by decide)
    rw [sk_put h1 (by omega)] at hat
    generalize B ((bs.drop i).take L) ++ sc.drop L = sc' at *
    refine fn_enter 166 func416 rfl ntmps416 rfl ?_
    intro w0
    refine gn 13 ?_
    refine c_ifp rfl (fun h => absurd h (by omega)) (fun _ => ?_)
    refine gn 9 ?_
    refine c_ifp rfl (fun _ => ?_) (fun h => absurd h (by omega))
    refine gn 18 ?_
    simp only [Int.toNat_natCast]
    refine oL (lC hat rfl (.cons (.tail .head) (.cons (.tail .head) (.cons .head .nil)))) ?_
    rintro ⟨r, H'⟩ ⟨rfl, rfl⟩
    simp only [List.cons_append, List.nil_append]
    refine gn 17 ?_
    refine oL (l_store sizeOf3 rfl rfl rfl (.tail (.tail .head)) (sk_set h3) (by omega)) ?_
    intro _ _
    refine gn 8 ?_
    refine oX (e_load isAgg4 rfl aM (k35 _)) ?_
    refine gn 27 ?_
    refine WR.sel (.cons (.tail (.tail .head)) (.cons .head (.cons .head .nil))) ?_
    refine r_fn (l := [.tmp 4, .tmp 5]) results416 rfl rfl ?_
    exact ⟨rfl, .mk h3 (.inr rfl), _, .head _, hcut _⟩
/-- 32 bytes and more, in a new row. -/
theorem readnL_is (hS : SkR ga gq gr gs n cap i HB) (hD : (gs, DB bs rest lo hi) ∈ G) (hE : (3, Obj.cells (EV gE :: t3).toArray e3 f3) ∈ G) (hn : bs.length = n) (hc : n ≤ cap) (h63 : cap < 9223372036854775808) (hi' : i + L ≤ n) (hL : 32 ≤ L) (hL2 : L ≤ 4096) :
    Ctr prog 416 [.pointer (some ⟨ga, 0, none⟩), .int .i64 L] G HB (fun r H' => ∃ gN HB', r = .tuple #[.slice (some ⟨gN, 0, none⟩) L L, .nilIface] ∧ SkR ga gq gr gs n cap (i + L) HB' ∧ H' = (gN, C (B ((bs.drop i).take L)) 5) :: HB') := by
  cases hS with
  | @mk sc z l bv ls h1 h2 =>
    have k33 := sk_33 (x := .iface 361 (.pointer (some ⟨gq, 0, none⟩))) (a := .int .i64 z) (b := .slice none 0 0) (c := .bool false) h1
    have k35 := fun z' : Int => sk_35 (x := .iface 361 (.pointer (some ⟨gq, 0, none⟩))) (a := .int .i64 z') (b := .slice none 0 0) (c := .bool false) h1
    have hat := fun gN => atLeast_is (scF (gb := gN) (gq := gq) (gr := gr) (ob := 0) (cb := L) (i := i) (L := L) (e := 5) (zl := l) (zb := bv) (ls := ls) (pl := List.replicate L (.int .u8 0)) hD hE hn hc h63 hi' (by omega) (by simp) h2) (by omega) (Nat.le_refl _) (by omega)
    have hpl : (List.replicate L (Value.int .u8 0)).take 0 ++ B ((bs.drop i).take L) ++ (List.replicate L (Value.int .u8 0)).drop (0 + L) = B ((bs.drop i).take L) := by simp
    rw [hpl] at hat
    refine fn_enter 166 func416 rfl ntmps416 rfl ?_
    intro w0
    refine gn 13 ?_
    refine c_ifp rfl (fun h => absurd h (by omega)) (fun _ => ?_)
    refine gn 9 ?_
    refine c_ifp rfl (fun h => absurd h (by omega)) (fun _ => ?_)
    refine gn 15 ?_
    refine c_ifp rfl (fun h => absurd h (by omega)) (fun _ => ?_)
    refine gn 5 ?_
    refine oL (l_mks (l := List.replicate L (.int .u8 0)) underlying72 (info_of typeInfo5) rfl rfl rfl rfl (by decide) (by omega) (by show (1 : Int) * _ ≤ _; omega) (by omega) (made_one (.int .u8 0) L rfl)) ?_
    intro gN _
    refine gn 5 ?_
    refine c_rounds 2 ?_
    refine gn 9 ?_
    refine c_ifp rfl (fun _ => ?_) (fun h => absurd h (by omega))
    refine gn 19 ?_
    refine c_ifp rfl (fun h => absurd h (by omega)) (fun _ => ?_)
    refine gn 20 ?_
    refine c_ifp rfl (fun h => absurd h (by omega)) (fun _ => ?_)
    refine gn 13 ?_
    refine c_regiong [8] (by kernel_rfl) ?_
    refine lg [0, 1, 2, 1003, 4, 5, 6, 7] ?_
    have e0 : Int.toNat 0 = 0 := rfl
    simp only [Int.toNat_natCast, e0, Nat.zero_add, Nat.sub_zero, Nat.zero_mul]
    refine gL 8 rfl (lC (hat gN) rfl (.cons (.tail (.tail .head)) (.cons (.tail (.tail .head)) (.cons .head .nil)))) ?_
    rintro ⟨r, H'⟩ ⟨rfl, rfl⟩
    simp only [List.cons_append, List.nil_append]
    refine ld [9, 10, 11, 12, 13] ?_
    refine gn 12 ?_
    refine oL (l_store sizeOf3 rfl rfl rfl (.tail (.tail (.tail .head))) (sk_set h1) (by omega)) ?_
    intro _ _
    refine gn 8 ?_
    refine oX (e_load isAgg4 rfl aM (k35 _)) ?_
    refine gn 18 ?_
    refine n_rounds ?_
    refine gn 9 ?_
    refine c_ifp rfl (fun h => absurd h (by omega)) (fun _ => ?_)
    refine gn 13 ?_
    refine WR.sel (.cons (.tail (.tail .head)) (.cons (.tail (.tail .head)) (.cons .head (.cons .head .nil)))) ?_
    refine r_fn (l := [.tmp 4, .tmp 5]) results416 rfl rfl ?_
    exact ⟨_, _, rfl, .mk h1 (.inr rfl), rfl⟩
theorem readnzc_is (hS : SkR ga gq gr gs n cap i HB) (hD : (gs, DB bs rest lo hi) ∈ G) (hE : (3, Obj.cells (EV gE :: t3).toArray e3 f3) ∈ G) (hn : bs.length = n) (hc : n ≤ cap) (h63 : cap < 9223372036854775808) (hi' : i + L ≤ n) (hL : 0 < L) (hL2 : L < 32) :
    Ctr prog 412 [.pointer (some ⟨ga, 0, none⟩), .int .i64 L] G HB (fun r H' => r = .tuple #[.slice (some ⟨ga, 1, none⟩) L 32, .nilIface] ∧ SkR ga gq gr gs n cap (i + L) H' ∧ ∃ l, (ga, C l 368) ∈ H' ∧ CutL l 1 L (B ((bs.drop i).take L))) := by
  refine fn_enter 11 func412 rfl ntmps412 rfl ?_
  intro w0
  refine gn 10 ?_
  refine oL (lC (readnS_is hS hD hE hn hc h63 hi' hL hL2) rfl (Sel.all _)) ?_
  rintro ⟨r, H'⟩ ⟨rfl, h1, h2⟩
  simp only [List.append_nil]
  refine gn 7 ?_
  refine r_fn (l := [.tmp 4, .tmp 5]) results412 rfl rfl ?_
  exact ⟨rfl, h1, h2⟩
/-- So many bytes, in a new row. -/
theorem readn_is (hS : SkR ga gq gr gs n cap i HB) (hD : (gs, DB bs rest lo hi) ∈ G) (hE : (3, Obj.cells (EV gE :: t3).toArray e3 f3) ∈ G) (hn : bs.length = n) (hc : n ≤ cap) (h63 : cap < 9223372036854775808) (hi' : i + L ≤ n) (hL : 0 < L) (hL2 : L ≤ 4096) :
    Ctr prog 410 [.pointer (some ⟨ga, 0, none⟩), .int .i64 L] G HB (fun r H' => ∃ (y : Tl) (HB' : HP), TlOk 1 L y ∧ r = .tuple #[.slice (some ⟨y.g, 0, none⟩) L y.cap, .nilIface] ∧ SkR ga gq gr gs n cap (i + L) HB' ∧ H' = (y.g, Ob (B ((bs.drop i).take L)) y 5) :: HB') := by
  by_cases h32 : L < 32
  · refine fn_enter 31 func410 rfl ntmps410 rfl ?_
    intro w0
    refine gn 10 ?_
    refine oL (lC (readnS_is hS hD hE hn hc h63 hi' hL h32) rfl (Sel.all _)) ?_
    rintro ⟨r, H'⟩ ⟨rfl, h1, l, h2, h3⟩
    simp only [List.append_nil]
    refine gn 24 ?_
    refine c_ifp rfl (fun _ => ?_) (fun h => absurd h (by omega))
    refine gn 3 ?_
    refine oL (l_app0 (sz := 1) underlying72 (info_of typeInfo5) rfl rfl rfl rfl rfl rfl (.blk underlying72 (.inl h2) (by simpa using h3) (B_one _)) (by simp [Nat.blt_eq]; exact hL) (by simp; show L * 1 ≤ _; omega) (by simp [Nat.blt_eq]; omega)) ?_
    intro y hy
    refine gn 5 ?_
    refine r_fn (l := [.tmp 4, .tmp 5]) results410 rfl rfl ?_
    exact ⟨y, H', hy, rfl, h1, rfl⟩
  · refine fn_enter 31 func410 rfl ntmps410 rfl ?_
    intro w0
    refine gn 10 ?_
    refine oL (lC (readnL_is hS hD hE hn hc h63 hi' (by omega) hL2) rfl (Sel.all _)) ?_
    rintro ⟨r, H'⟩ ⟨gN, HB', rfl, h1, rfl⟩
    simp only [List.append_nil]
    refine gn 24 ?_
    refine c_ifp rfl (fun h => absurd h (by omega)) (fun _ => ?_)
    refine gn 10 ?_
    refine r_fn (l := [.tmp 4, .tmp 5]) results410 rfl rfl ?_
    refine ⟨⟨gN, L, [], 0, 0⟩, HB', ⟨by simp, Nat.le_refl _, by show L < _; omega, .inr rfl⟩, rfl, h1, ?_⟩
    simp only [Ob, List.append_nil]
end
end Go.Proofs
namespace Go.Proofs
open Go Go.Sl Tryz
set_option maxRecDepth 100000
set_option maxHeartbeats 1000000
theorem and31_all : (List.range 256).all (fun y => (BitVec.ofNat 8 y &&& BitVec.ofNat 8 31).toNat == y % 32) = true := by decide
theorem and31 {n : Nat} (hn : n < 256) : ib .and .u8 (n : Nat) 31 = ((n % 32 : Nat) : Int) := by
  have h := List.all_eq_true.1 and31_all n (List.mem_range.2 hn)
  simp only [beq_iff_eq] at h
  simp only [ib]
  rw [show ((31 : Int)) = ((31 : Nat) : Int) from rfl, BitVec.ofInt_natCast, BitVec.ofInt_natCast]
  show IntKind.u8.wrap ((BitVec.ofNat 8 n &&& BitVec.ofNat 8 31).toNat : Int) = _
  rw [h]
  refine wrap_in .u8 _ ?_ ?_ <;> simp [IntKind.min, IntKind.max, IntKind.signed, IntKind.bits] <;> omega
/-- The decoder: what it was told, its reader, its phases, its phase, what is left. -/
abbrev DcO (ga gS gL ns nl : Nat) (ph : Int) : Obj := C [.bool true, .bool false, .int .i64 0, .bool false, .bool false, .bool false, .bool false, .iface 360 (.pointer (some ⟨ga, 0, none⟩)), .slice (some ⟨gS, 0, none⟩) ns 10, .int .u8 ph, .slice (some ⟨gL, 0, none⟩) nl 10] 338
/-- An item's head: its number in the first byte, or in the second. -/
def hx (n : Nat) : Nat := if n < 24 then n else 24
def hk (n : Nat) : Nat := if n < 24 then 0 else 1
def hdB (base n : Nat) : List UInt8 := if n < 24 then [UInt8.ofNat (base + n)] else [UInt8.ofNat (base + 24), UInt8.ofNat n]
section
variable {G HB : HP} {ga gd gS gL gr gs gq ns nl n cap i k L lo hi base : Nat} {ph : Int} {bs : List UInt8} {rest pl : List Value} {e : TypeId} {gE : Addr} {t3 : List Value} {e3 : TypeId} {f3 : Nat × Nat}
theorem decU_is (hS : SkR ga gq gr gs n cap i HB) (hD : (gs, DB bs rest lo hi) ∈ G) (hE : (3, Obj.cells (EV gE :: t3).toArray e3 f3) ∈ G) (hn : bs.length = n) (hc : n ≤ cap) (h63 : cap < 9223372036854775808) (hb : base % 32 = 0) (hb2 : base < 224) (hk256 : k < 256) (h24 : 24 ≤ k → bs[i]? = some (UInt8.ofNat k)) :
    Ctr prog 236 [.pointer (some ⟨gd, 0, none⟩), .int .u8 (base + hx k : Nat)] G ((gd, DcO ga gS gL ns nl ph) :: HB) (fun r H' => ∃ HB', r = .tuple #[.int .u64 (k : Nat), .nilIface] ∧ SkR ga gq gr gs n cap (i + hk k) HB' ∧ H' = (gd, DcO ga gS gL ns nl ph) :: HB') := by
  have hand : ib .and .u8 ((base + hx k : Nat) : Int) 31 = ((hx k : Nat) : Int) := by
    rw [and31 (by unfold hx; split <;> omega)]
    congr 1
    unfold hx; split <;> omega
  by_cases h : k < 24
  · have e1 : hx k = k := if_pos h
    have e2 : hk k = 0 := if_pos h
    rw [e1] at hand ⊢
    rw [e2]
    refine fn_enter 123 func236 rfl ntmps236 rfl ?_
    intro w0
    refine gn 10 ?_
    rw [hand]
    refine gn 10 ?_
    refine c_ifp rfl (fun _ => ?_) (fun h => absurd h (by omega))
    refine gn 7 ?_
    refine r_fn (l := [.tmp 4, .tmp 5]) results236 rfl rfl ?_
    exact ⟨_, rfl, hS, rfl⟩
  · have e1 : hx k = 24 := if_neg h
    have e2 : hk k = 1 := if_neg h
    have e3 : (UInt8.ofNat k).toNat = k := by rw [UInt8.toNat_ofNat']; omega
    have hr := readn1_is hS hD hE hn hc h63 (h24 (by omega))
    rw [e3] at hr
    rw [e1] at hand ⊢
    rw [e2]
    refine fn_enter 123 func236 rfl ntmps236 rfl ?_
    intro w0
    refine gn 10 ?_
    rw [hand]
    refine gn 10 ?_
    refine c_ifp rfl (fun h => absurd h (by omega)) (fun _ => ?_)
    refine gn 6 ?_
    refine c_ifp rfl (fun _ => ?_) (fun h => absurd h (by omega))
    refine gn 11 ?_
    refine oL (lI hr rfl rfl (Sel.appR [_] HB)) ?_
    rintro ⟨r, H'⟩ ⟨rfl, h1⟩
    refine o_perm List.perm_append_comm ?_
    simp only [List.cons_append, List.nil_append]
    refine gn 41 ?_
    refine r_fn (l := [.tmp 4, .tmp 5]) results236 rfl rfl ?_
    exact ⟨_, rfl, h1, rfl⟩
theorem decL_is (hS : SkR ga gq gr gs n cap i HB) (hD : (gs, DB bs rest lo hi) ∈ G) (hE : (3, Obj.cells (EV gE :: t3).toArray e3 f3) ∈ G) (hn : bs.length = n) (hc : n ≤ cap) (h63 : cap < 9223372036854775808) (hb : base % 32 = 0) (hb2 : base < 224) (hk256 : k < 256) (h24 : 24 ≤ k → bs[i]? = some (UInt8.ofNat k)) :
    Ctr prog 240 [.pointer (some ⟨gd, 0, none⟩), .int .u8 (base + hx k : Nat)] G ((gd, DcO ga gS gL ns nl ph) :: HB) (fun r H' => ∃ HB', r = .tuple #[.int .i64 (k : Nat), .nilIface] ∧ SkR ga gq gr gs n cap (i + hk k) HB' ∧ H' = (gd, DcO ga gS gL ns nl ph) :: HB') := by
  refine fn_enter 21 func240 rfl ntmps240 rfl ?_
  intro w0
  refine gn 10 ?_
  refine oL (lC (decU_is hS hD hE hn hc h63 hb hb2 hk256 h24) rfl (Sel.all _)) ?_
  rintro ⟨r, H'⟩ ⟨HB', rfl, h1, rfl⟩
  simp only [List.append_nil]
  refine gn 24 ?_
  refine c_ifp rfl (fun h => absurd h (by omega)) (fun _ => ?_)
  refine gn 11 ?_
  refine r_fn (l := [.tmp 4, .tmp 5]) results240 rfl rfl ?_
  exact ⟨_, rfl, h1, rfl⟩
/-- A byte string. -/
theorem decB_is (hS : SkR ga gq gr gs n cap i HB) (hD : (gs, DB bs rest lo hi) ∈ G) (hE : (3, Obj.cells (EV gE :: t3).toArray e3 f3) ∈ G) (hn : bs.length = n) (hc : n ≤ cap) (h63 : cap < 9223372036854775808) (hk256 : k < 256) (h24 : 24 ≤ k → bs[i]? = some (UInt8.ofNat k)) (hk0 : 0 < k) (hi' : i + hk k + k ≤ n) :
    Ctr prog 238 [.pointer (some ⟨gd, 0, none⟩), .int .u8 (64 + hx k : Nat)] G ((gd, DcO ga gS gL ns nl ph) :: HB) (fun r H' => ∃ (y : Tl) (HB' : HP), TlOk 1 k y ∧ r = .tuple #[.slice (some ⟨y.g, 0, none⟩) k y.cap, .nilIface] ∧ SkR ga gq gr gs n cap (i + hk k + k) HB' ∧ H' = (gd, DcO ga gS gL ns nl ph) :: (y.g, Ob (B ((bs.drop (i + hk k)).take k)) y 5) :: HB') := by
  refine fn_enter 27 func238 rfl ntmps238 rfl ?_
  intro w0
  refine gn 10 ?_
  refine oL (lC (decL_is hS hD hE hn hc h63 (by decide) (by decide) hk256 h24) rfl (Sel.all _)) ?_
  rintro ⟨r, H'⟩ ⟨HB', rfl, h1, rfl⟩
  simp only [List.append_nil]
  refine gn 24 ?_
  refine c_ifp rfl (fun h => absurd h (by omega)) (fun _ => ?_)
  refine gn 9 ?_
  refine oL (lI (readn_is h1 hD hE hn hc h63 hi' hk0 (by omega)) rfl rfl (Sel.appR [_] HB')) ?_
  rintro ⟨r, H'⟩ ⟨y, HB2, hy, rfl, h2, rfl⟩
  refine o_perm List.perm_append_comm ?_
  simp only [List.cons_append, List.nil_append]
  refine gn 7 ?_
  refine r_fn (l := [.tmp 4, .tmp 5]) results238 rfl rfl ?_
  exact ⟨y, HB2, hy, rfl, h2, rfl⟩
/-- A short text. -/
theorem decS_is (hS : SkR ga gq gr gs n cap i HB) (hD : (gs, DB bs rest lo hi) ∈ G) (hE : (3, Obj.cells (EV gE :: t3).toArray e3 f3) ∈ G) (hn : bs.length = n) (hc : n ≤ cap) (h63 : cap < 9223372036854775808) (hk24 : k < 24) (hk0 : 0 < k) (hi' : i + k ≤ n) :
    Ctr prog 239 [.pointer (some ⟨gd, 0, none⟩), .int .u8 (96 + hx k : Nat)] G ((gd, DcO ga gS gL ns nl ph) :: HB) (fun r H' => ∃ (HB' : HP), r = .tuple #[S ((bs.drop i).take k), .nilIface] ∧ SkR ga gq gr gs n cap (i + k) HB' ∧ H' = (gd, DcO ga gS gL ns nl ph) :: HB') := by
  have e2 : hk k = 0 := if_pos hk24
  have hl := decL_is (gd := gd) (gS := gS) (gL := gL) (ns := ns) (nl := nl) (ph := ph) (base := 96) hS hD hE hn hc h63 (by decide) (by decide) (show k < 256 by omega) (fun h => absurd h (by omega))
  rw [e2, Nat.add_zero] at hl
  refine fn_enter 32 func239 rfl ntmps239 rfl ?_
  intro w0
  refine gn 10 ?_
  refine oL (lC hl rfl (Sel.all _)) ?_
  rintro ⟨r, H'⟩ ⟨HB', rfl, h1, rfl⟩
  simp only [List.append_nil]
  refine gn 24 ?_
  refine c_ifp rfl (fun h => absurd h (by omega)) (fun _ => ?_)
  refine gn 9 ?_
  refine oL (lI (readnzc_is h1 hD hE hn hc h63 hi' hk0 (by omega)) rfl rfl (Sel.appR [_] HB')) ?_
  rintro ⟨r, H'⟩ ⟨rfl, h2, l, h3, h4⟩
  refine o_perm List.perm_append_comm ?_
  simp only [List.cons_append, List.nil_append]
  refine gn 10 ?_
  refine oX (e_bsE underlying72 underlying5 underlying9 rfl (.inl (.tail _ h3)) h4) ?_
  refine gn 6 ?_
  refine r_fn (l := [.tmp 4, .tmp 5]) results239 rfl rfl ?_
  exact ⟨_, rfl, h2, rfl⟩
theorem push_is {p : Int} {a b : Int} (hns : ns = 0 ∨ ns = 1) :
    Ctr prog 235 [.pointer (some ⟨gd, 0, none⟩), .int .u8 p] G [(gd, DcO ga gS gL ns nl ph), (gS, C [.int .u8 a, .int .u8 b, .int .u8 0, .int .u8 0, .int .u8 0, .int .u8 0, .int .u8 0, .int .u8 0, .int .u8 0, .int .u8 0] 336)] (fun r H' => H' = [(gd, DcO ga gS gL (ns + 1) nl p), (gS, C [.int .u8 (if ns = 0 then ph else a), .int .u8 (if ns = 0 then b else ph), .int .u8 0, .int .u8 0, .int .u8 0, .int .u8 0, .int .u8 0, .int .u8 0, .int .u8 0, .int .u8 0] 336)]) := by
  rcases hns with rfl | rfl
  · refine fn_enter 21 func235 rfl ntmps235 rfl ?_
    intro w0
    refine gn 1 ?_
    refine c_regiont ([(gd, _)]) [13] (by kernel_rfl) (.cons_cons _ (List.nil_sublist _)) ?_
    refine lt [0, 1, 2, 3, 1004, 5, 6, 7, 1008] ?_
    refine kL 9 rfl (l_bs1 runUnderlying335 sizeOf336 zeroValue336 rfl rfl rfl) ?_
    intro g13 _
    refine kL 10 rfl (l_appR (sz := 1) (m := 1) (news := [.int .u8 ph]) underlying335 (info_of typeInfo336) rfl rfl rfl rfl (.tail (.tail .head)) rfl (by decide) (.inr rfl) (.blk underlying335 (.inl (.head _)) (.take .done) (by simp [Value.oneCell'])) rfl) ?_
    rintro ⟨⟩ -
    refine lt [11, 12] ?_
    refine tT 13 ?_
    intro _ _
    refine gn 7 ?_
    refine oT ?_; intro _ _
    refine gn 1 ?_
    refine WN.less (fun _ _ h => h) (List.sublist_cons_self _ _) ?_
    refine n_fn0 results235 ?_
    rfl
  · refine fn_enter 21 func235 rfl ntmps235 rfl ?_
    intro w0
    refine gn 1 ?_
    refine c_regiont ([(gd, _)]) [13] (by kernel_rfl) (.cons_cons _ (List.nil_sublist _)) ?_
    refine lt [0, 1, 2, 3, 1004, 5, 6, 7, 1008] ?_
    refine kL 9 rfl (l_bs1 runUnderlying335 sizeOf336 zeroValue336 rfl rfl rfl) ?_
    intro g13 _
    refine kL 10 rfl (l_appR (sz := 1) (m := 1) (news := [.int .u8 ph]) underlying335 (info_of typeInfo336) rfl rfl rfl rfl (.tail (.tail .head)) rfl (by decide) (.inr rfl) (.blk underlying335 (.inl (.head _)) (.take .done) (by simp [Value.oneCell'])) rfl) ?_
    rintro ⟨⟩ -
    refine lt [11, 12] ?_
    refine tT 13 ?_
    intro _ _
    refine gn 7 ?_
    refine oT ?_; intro _ _
    refine gn 1 ?_
    refine WN.less (fun _ _ h => h) (List.sublist_cons_self _ _) ?_
    refine n_fn0 results235 ?_
    rfl
end
end Go.Proofs
namespace Go.Proofs
open Go Go.Sl Tryz
set_option maxRecDepth 100000
set_option maxHeartbeats 1000000
/-- A token's cells. -/
abbrev TkO (ty ln st y bo it ui fl tg ta : Value) : Obj := C [ty, ln, st, y, bo, it, ui, fl, tg, ta] 255
/-- The rows of phases and of what is left: two places are used. -/
abbrev StO (a b : Int) : Obj := C [.int .u8 a, .int .u8 b, .int .u8 0, .int .u8 0, .int .u8 0, .int .u8 0, .int .u8 0, .int .u8 0, .int .u8 0, .int .u8 0] 336
abbrev LfO (a b : Int) : Obj := C [.int .i64 a, .int .i64 b, .int .i64 0, .int .i64 0, .int .i64 0, .int .i64 0, .int .i64 0, .int .i64 0, .int .i64 0, .int .i64 0] 3
section
variable {G HB : HP} {ga gd gS gL gr gs gq gt ns nl n cap i k L lo hi base : Nat} {ph a b l0 l1 : Int} {bs : List UInt8} {rest pl : List Value} {e : TypeId} {gE : Addr} {t3 : List Value} {e3 : TypeId} {f3 : Nat × Nat} {ty ln st y bo it ui fl tg ta : Value}
theorem hU_is (hS : SkR ga gq gr gs n cap i HB) (hD : (gs, DB bs rest lo hi) ∈ G) (hE : (3, Obj.cells (EV gE :: t3).toArray e3 f3) ∈ G) (hn : bs.length = n) (hc : n ≤ cap) (h63 : cap < 9223372036854775808) :
    Ctr prog 223 [.pointer (some ⟨gd, 0, none⟩), .int .u8 1, .pointer (some ⟨gt, 0, none⟩)] G ((gd, DcO ga gS gL ns nl ph) :: (gt, TkO ty ln st y bo it ui fl tg ta) :: HB) (fun r H' => ∃ HB', r = .tuple #[.bool true, .nilIface] ∧ SkR ga gq gr gs n cap i HB' ∧ H' = (gd, DcO ga gS gL ns nl ph) :: (gt, TkO (.int .u8 117) ln st y bo it (.int .u64 1) fl tg ta) :: HB') := by
  have hu := decU_is (gd := gd) (gS := gS) (gL := gL) (ns := ns) (nl := nl) (ph := ph) (base := 0) (k := 1) hS hD hE hn hc h63 (by decide) (by decide) (by decide) (fun h => absurd h (by decide))
  refine fn_enter 335 func223 rfl ntmps223 rfl ?_
  intro w0
  refine gn 107 ?_
  refine oT ?_; intro _ _
  refine gn 7 ?_
  refine oL (lC hu rfl (.cons .head (Sel.appR [_] HB))) ?_
  rintro ⟨r, H'⟩ ⟨HB', rfl, h1, rfl⟩
  refine o_perm List.perm_append_comm ?_
  simp only [List.cons_append, List.nil_append]
  refine gn 5 ?_
  refine oT ?_; intro _ _
  refine gn 11 ?_
  refine WR.sel (.cons (.tail .head) (.cons .head (Sel.all HB'))) ?_
  refine r_fn (l := [.tmp 6, .tmp 7]) results223 rfl rfl ?_
  exact ⟨_, rfl, h1, rfl⟩
theorem hS_is (hS : SkR ga gq gr gs n cap i HB) (hD : (gs, DB bs rest lo hi) ∈ G) (hE : (3, Obj.cells (EV gE :: t3).toArray e3 f3) ∈ G) (hn : bs.length = n) (hc : n ≤ cap) (h63 : cap < 9223372036854775808) (hk24 : k < 24) (hk0 : 0 < k) (hi' : i + k ≤ n) :
    Ctr prog 223 [.pointer (some ⟨gd, 0, none⟩), .int .u8 (96 + hx k : Nat), .pointer (some ⟨gt, 0, none⟩)] G ((gd, DcO ga gS gL ns nl ph) :: (gt, TkO ty ln st y bo it ui fl tg ta) :: HB) (fun r H' => ∃ HB', r = .tuple #[.bool true, .nilIface] ∧ SkR ga gq gr gs n cap (i + k) HB' ∧ H' = (gd, DcO ga gS gL ns nl ph) :: (gt, TkO (.int .u8 115) ln (S ((bs.drop i).take k)) y bo it ui fl tg ta) :: HB') := by
  have hhx : hx k ≤ 24 := by unfold hx; split <;> omega
  refine fn_enter 335 func223 rfl ntmps223 rfl ?_
  intro w0
  refine gn 18 ?_
  refine c_ifp rfl (fun h => absurd h (by omega)) (fun _ => ?_)
  refine gn 6 ?_
  refine c_ifp rfl (fun h => absurd h (by omega)) (fun _ => ?_)
  refine gn 6 ?_
  refine c_ifp rfl (fun h => absurd h (by omega)) (fun _ => ?_)
  refine gn 6 ?_
  refine c_ifp rfl (fun h => absurd h (by omega)) (fun _ => ?_)
  refine gn 7 ?_
  refine c_ifp rfl (fun h => absurd h (by omega)) (fun _ => ?_)
  refine gn 6 ?_
  refine c_ifp rfl (fun h => absurd h (by omega)) (fun _ => ?_)
  refine gn 5 ?_
  refine c_ifp rfl (fun h => absurd h (by omega)) (fun _ => ?_)
  refine gn 6 ?_
  refine c_ifp rfl (fun h => absurd h (by omega)) (fun _ => ?_)
  refine gn 6 ?_
  refine c_ifp rfl (fun h => absurd h (by omega)) (fun _ => ?_)
  refine gn 6 ?_
  refine c_ifp rfl (fun h => absurd h (by omega)) (fun _ => ?_)
  refine gn 6 ?_
  refine c_ifp rfl (fun h => absurd h (by omega)) (fun _ => ?_)
  refine gn 6 ?_
  refine o_splitp 17 rfl (fun _ => ?_) (fun h => absurd h (by omega))
  refine gn 6 ?_
  refine c_ifp rfl (fun h => absurd h (by omega)) (fun _ => ?_)
  refine gn 5 ?_
  refine o_splitp 37 rfl (fun _ => ?_) (fun h => absurd h (by omega))
  refine gn 6 ?_
  refine c_ifp rfl (fun h => absurd h (by omega)) (fun _ => ?_)
  refine gn 5 ?_
  refine o_splitp 57 rfl (fun _ => ?_) (fun h => absurd h (by omega))
  refine gn 6 ?_
  refine c_ifp rfl (fun h => absurd h (by omega)) (fun _ => ?_)
  refine gn 5 ?_
  refine o_splitp 77 rfl (fun _ => ?_) (fun h => absurd h (by omega))
  refine gn 6 ?_
  refine c_ifp rfl (fun _ => ?_) (fun h => absurd h (by omega))
  refine gn 5 ?_
  refine oT ?_; intro _ _
  refine gn 7 ?_
  refine oL (lC (decS_is hS hD hE hn hc h63 hk24 hk0 hi') rfl (.cons .head (Sel.appR [_] HB))) ?_
  rintro ⟨r, H'⟩ ⟨HB', rfl, h1, rfl⟩
  refine o_perm List.perm_append_comm ?_
  simp only [List.cons_append, List.nil_append]
  refine gn 5 ?_
  refine oT ?_; intro _ _
  refine gn 11 ?_
  refine WR.sel (.cons (.tail .head) (.cons .head (Sel.all HB'))) ?_
  refine r_fn (l := [.tmp 6, .tmp 7]) results223 rfl rfl ?_
  exact ⟨_, rfl, h1, rfl⟩
theorem hB_is (hS : SkR ga gq gr gs n cap i HB) (hD : (gs, DB bs rest lo hi) ∈ G) (hE : (3, Obj.cells (EV gE :: t3).toArray e3 f3) ∈ G) (hn : bs.length = n) (hc : n ≤ cap) (h63 : cap < 9223372036854775808) (hk256 : k < 256) (h24 : 24 ≤ k → bs[i]? = some (UInt8.ofNat k)) (hk0 : 0 < k) (hi' : i + hk k + k ≤ n) :
    Ctr prog 223 [.pointer (some ⟨gd, 0, none⟩), .int .u8 (64 + hx k : Nat), .pointer (some ⟨gt, 0, none⟩)] G ((gd, DcO ga gS gL ns nl ph) :: (gt, TkO ty ln st y bo it ui fl tg ta) :: HB) (fun r H' => ∃ (z : Tl) (HB' : HP), TlOk 1 k z ∧ r = .tuple #[.bool true, .nilIface] ∧ SkR ga gq gr gs n cap (i + hk k + k) HB' ∧ H' = (gd, DcO ga gS gL ns nl ph) :: (gt, TkO (.int .u8 120) ln st (.slice (some ⟨z.g, 0, none⟩) k z.cap) bo it ui fl tg ta) :: (z.g, Ob (B ((bs.drop (i + hk k)).take k)) z 5) :: HB') := by
  have hhx : hx k ≤ 24 := by unfold hx; split <;> omega
  refine fn_enter 335 func223 rfl ntmps223 rfl ?_
  intro w0
  refine gn 18 ?_
  refine c_ifp rfl (fun h => absurd h (by omega)) (fun _ => ?_)
  refine gn 6 ?_
  refine c_ifp rfl (fun h => absurd h (by omega)) (fun _ => ?_)
  refine gn 6 ?_
  refine c_ifp rfl (fun h => absurd h (by omega)) (fun _ => ?_)
  refine gn 6 ?_
  refine c_ifp rfl (fun h => absurd h (by omega)) (fun _ => ?_)
  refine gn 7 ?_
  refine c_ifp rfl (fun h => absurd h (by omega)) (fun _ => ?_)
  refine gn 6 ?_
  refine c_ifp rfl (fun h => absurd h (by omega)) (fun _ => ?_)
  refine gn 5 ?_
  refine c_ifp rfl (fun h => absurd h (by omega)) (fun _ => ?_)
  refine gn 6 ?_
  refine c_ifp rfl (fun h => absurd h (by omega)) (fun _ => ?_)
  refine gn 6 ?_
  refine c_ifp rfl (fun h => absurd h (by omega)) (fun _ => ?_)
  refine gn 6 ?_
  refine c_ifp rfl (fun h => absurd h (by omega)) (fun _ => ?_)
  refine gn 6 ?_
  refine c_ifp rfl (fun h => absurd h (by omega)) (fun _ => ?_)
  refine gn 6 ?_
  refine o_splitp 17 rfl (fun _ => ?_) (fun h => absurd h (by omega))
  refine gn 6 ?_
  refine c_ifp rfl (fun h => absurd h (by omega)) (fun _ => ?_)
  refine gn 5 ?_
  refine o_splitp 37 rfl (fun _ => ?_) (fun h => absurd h (by omega))
  refine gn 6 ?_
  refine c_ifp rfl (fun h => absurd h (by omega)) (fun _ => ?_)
  refine gn 5 ?_
  refine o_splitp 57 rfl (fun _ => ?_) (fun h => absurd h (by omega))
  refine gn 6 ?_
  refine c_ifp rfl (fun _ => ?_) (fun h => absurd h (by omega))
  refine gn 5 ?_
  refine oT ?_; intro _ _
  refine gn 7 ?_
  refine oL (lC (decB_is hS hD hE hn hc h63 hk256 h24 hk0 hi') rfl (.cons .head (Sel.appR [_] HB))) ?_
  rintro ⟨r, H'⟩ ⟨z, HB', hz, rfl, h1, rfl⟩
  refine o_perm List.perm_append_comm ?_
  simp only [List.cons_append, List.nil_append]
  refine gn 5 ?_
  refine oT ?_; intro _ _
  refine gn 11 ?_
  refine WR.sel (.cons (.tail .head) (.cons .head (.cons .head (Sel.all HB')))) ?_
  refine r_fn (l := [.tmp 6, .tmp 7]) results223 rfl rfl ?_
  exact ⟨z, _, hz, rfl, h1, rfl⟩
/-- A link: a byte string with tag 42. -/
theorem hT_is {j : Nat} (hj : j = i + 2) (hS : SkR ga gq gr gs n cap i HB) (hD : (gs, DB bs rest lo hi) ∈ G) (hE : (3, Obj.cells (EV gE :: t3).toArray e3 f3) ∈ G) (hn : bs.length = n) (hc : n ≤ cap) (h63 : cap < 9223372036854775808) (h42 : bs[i]? = some 42) (hmaj : bs[i + 1]? = some (UInt8.ofNat (64 + hx k))) (hk256 : k < 256) (h24 : 24 ≤ k → bs[j]? = some (UInt8.ofNat k)) (hk0 : 0 < k) (hi' : j + hk k + k ≤ n) :
    Ctr prog 223 [.pointer (some ⟨gd, 0, none⟩), .int .u8 216, .pointer (some ⟨gt, 0, none⟩)] G ((gd, DcO ga gS gL ns nl ph) :: (gt, TkO ty ln st y bo it ui fl (.bool false) ta) :: HB) (fun r H' => ∃ (z : Tl) (HB' : HP), TlOk 1 k z ∧ r = .tuple #[.bool true, .nilIface] ∧ SkR ga gq gr gs n cap (j + hk k + k) HB' ∧ H' = (gd, DcO ga gS gL ns nl ph) :: (gt, TkO (.int .u8 120) ln st (.slice (some ⟨z.g, 0, none⟩) k z.cap) bo it ui fl (.bool true) (.int .i64 42)) :: (z.g, Ob (B ((bs.drop (j + hk k)).take k)) z 5) :: HB') := by
  have hhx : hx k ≤ 24 := by unfold hx; split <;> omega
  have hu := decL_is (gd := gd) (gS := gS) (gL := gL) (ns := ns) (nl := nl) (ph := ph) (base := 192) (k := 42) hS hD hE hn hc h63 (by decide) (by decide) (by decide) (fun _ => h42)
  have hbz : (UInt8.ofNat (64 + hx k)).toNat = 64 + hx k := by rw [UInt8.toNat_ofNat']; omega
  subst hj
  refine fn_enter 335 func223 rfl ntmps223 rfl ?_
  intro w0
  refine gn 191 ?_
  refine oT ?_; intro _ _
  refine gn 7 ?_
  refine oL (lC hu rfl (.cons .head (Sel.appR [_] HB))) ?_
  rintro ⟨r, H'⟩ ⟨HB', rfl, h1, rfl⟩
  refine o_perm List.perm_append_comm ?_
  simp only [List.cons_append, List.nil_append]
  have h1' : SkR ga gq gr gs n cap (i + 1) HB' := h1
  have hrb := readn1_is h1' hD hE hn hc h63 hmaj
  rw [hbz] at hrb
  refine gn 5 ?_
  refine oT ?_; intro _ _
  refine gn 19 ?_
  refine oL (lI hrb rfl rfl (Sel.appR [_, _] HB')) ?_
  rintro ⟨r, H'⟩ ⟨rfl, h2⟩
  refine o_perm List.perm_append_comm ?_
  simp only [List.cons_append, List.nil_append]
  refine gn 22 ?_
  refine oL (lC (hB_is h2 hD hE hn hc h63 hk256 h24 hk0 hi') rfl (.cons (.tail .head) (.cons .head (Sel.all H')))) ?_
  rintro ⟨r, H''⟩ ⟨z, HB2, hz, rfl, h3, rfl⟩
  simp only [List.append_nil]
  refine gn 7 ?_
  refine r_fn (l := [.tmp 6, .tmp 7]) results223 rfl rfl ?_
  exact ⟨z, _, hz, rfl, h3, rfl⟩
theorem hA_is (hS : SkR ga gq gr gs n cap i HB) (hD : (gs, DB bs rest lo hi) ∈ G) (hE : (3, Obj.cells (EV gE :: t3).toArray e3 f3) ∈ G) (hn : bs.length = n) (hc : n ≤ cap) (h63 : cap < 9223372036854775808) (hk256 : k < 256) (h24 : 24 ≤ k → bs[i]? = some (UInt8.ofNat k)) :
    Ctr prog 223 [.pointer (some ⟨gd, 0, none⟩), .int .u8 (128 + hx k : Nat), .pointer (some ⟨gt, 0, none⟩)] G ((gd, DcO ga gS gL 1 1 ph) :: (gt, TkO ty ln st y bo it ui fl tg ta) :: (gS, StO a b) :: (gL, LfO l0 l1) :: HB) (fun r H' => ∃ HB', r = .tuple #[.bool false, .nilIface] ∧ SkR ga gq gr gs n cap (i + hk k) HB' ∧ H' = (gd, DcO ga gS gL 2 2 4) :: (gt, TkO (.int .u8 91) (.int .i64 k) st y bo it ui fl tg ta) :: (gS, StO a ph) :: (gL, LfO l0 k) :: HB') := by
  have hhx : hx k ≤ 24 := by unfold hx; split <;> omega
  refine fn_enter 335 func223 rfl ntmps223 rfl ?_
  intro w0
  refine gn 18 ?_
  refine c_ifp rfl (fun h => absurd h (by omega)) (fun _ => ?_)
  refine gn 6 ?_
  refine c_ifp rfl (fun h => absurd h (by omega)) (fun _ => ?_)
  refine gn 6 ?_
  refine c_ifp rfl (fun h => absurd h (by omega)) (fun _ => ?_)
  refine gn 6 ?_
  refine c_ifp rfl (fun h => absurd h (by omega)) (fun _ => ?_)
  refine gn 7 ?_
  refine c_ifp rfl (fun h => absurd h (by omega)) (fun _ => ?_)
  refine gn 6 ?_
  refine c_ifp rfl (fun h => absurd h (by omega)) (fun _ => ?_)
  refine gn 5 ?_
  refine c_ifp rfl (fun h => absurd h (by omega)) (fun _ => ?_)
  refine gn 6 ?_
  refine c_ifp rfl (fun h => absurd h (by omega)) (fun _ => ?_)
  refine gn 6 ?_
  refine c_ifp rfl (fun h => absurd h (by omega)) (fun _ => ?_)
  refine gn 6 ?_
  refine c_ifp rfl (fun h => absurd h (by omega)) (fun _ => ?_)
  refine gn 6 ?_
  refine c_ifp rfl (fun h => absurd h (by omega)) (fun _ => ?_)
  refine gn 6 ?_
  refine o_splitp 17 rfl (fun _ => ?_) (fun h => absurd h (by omega))
  refine gn 6 ?_
  refine c_ifp rfl (fun h => absurd h (by omega)) (fun _ => ?_)
  refine gn 5 ?_
  refine o_splitp 37 rfl (fun _ => ?_) (fun h => absurd h (by omega))
  refine gn 6 ?_
  refine c_ifp rfl (fun h => absurd h (by omega)) (fun _ => ?_)
  refine gn 5 ?_
  refine o_splitp 57 rfl (fun _ => ?_) (fun h => absurd h (by omega))
  refine gn 6 ?_
  refine c_ifp rfl (fun h => absurd h (by omega)) (fun _ => ?_)
  refine gn 5 ?_
  refine o_splitp 77 rfl (fun _ => ?_) (fun h => absurd h (by omega))
  refine gn 6 ?_
  refine c_ifp rfl (fun h => absurd h (by omega)) (fun _ => ?_)
  refine gn 5 ?_
  refine o_splitp 97 rfl (fun _ => ?_) (fun h => absurd h (by omega))
  refine gn 6 ?_
  refine c_ifp rfl (fun _ => ?_) (fun h => absurd h (by omega))
  refine gn 9 ?_
  refine oL (lC (decL_is hS hD hE hn hc h63 (by decide) (by decide) hk256 h24) rfl (.cons .head (Sel.appR [_, _, _] HB))) ?_
  rintro ⟨r, H'⟩ ⟨HB', rfl, h1, rfl⟩
  refine o_perm List.perm_append_comm ?_
  simp only [List.cons_append, List.nil_append]
  refine gn 12 ?_
  refine oT ?_; intro _ _
  refine gn 8 ?_
  refine oT ?_; intro _ _
  refine gn 10 ?_
  refine oL (l_bs1 runUnderlying99 sizeOf3 zeroValue3 rfl rfl rfl) ?_; intro g120 _
  refine oL (l_appR (sz := 1) (m := 1) (news := [.int .i64 k]) underlying99 (info_of typeInfo3) rfl rfl rfl rfl (.tail (.tail (.tail .head))) rfl (by decide) (.inr rfl) (.blk underlying99 (.inl (.head _)) (.take .done) (by simp [Value.oneCell'])) rfl) ?_
  rintro ⟨⟩ -
  refine gn 2 ?_
  refine oT ?_; intro _ _
  refine gn 5 ?_
  refine oL (lC (push_is (ns := 1) (p := 4) (.inr rfl)) rfl (.cons (.tail (.tail (.tail (.tail .head)))) (.cons (.tail (.tail .head)) .nil))) ?_
  rintro ⟨r, H''⟩ rfl
  simp only [List.cons_append, List.nil_append]
  refine gn 10 ?_
  refine WR.sel (.cons .head (.cons (.tail (.tail .head)) (.cons .head (.cons (.tail .head) (Sel.appR [_] HB'))))) ?_
  refine r_fn (l := [.tmp 6, .tmp 7]) results223 rfl rfl ?_
  exact ⟨_, rfl, h1, rfl⟩
theorem hM_is (hS : SkR ga gq gr gs n cap i HB) (hD : (gs, DB bs rest lo hi) ∈ G) (hE : (3, Obj.cells (EV gE :: t3).toArray e3 f3) ∈ G) (hn : bs.length = n) (hc : n ≤ cap) (h63 : cap < 9223372036854775808) :
    Ctr prog 223 [.pointer (some ⟨gd, 0, none⟩), .int .u8 162, .pointer (some ⟨gt, 0, none⟩)] G ((gd, DcO ga gS gL 0 0 ph) :: (gt, TkO ty ln st y bo it ui fl tg ta) :: (gS, StO a b) :: (gL, LfO l0 l1) :: HB) (fun r H' => ∃ HB', r = .tuple #[.bool false, .nilIface] ∧ SkR ga gq gr gs n cap i HB' ∧ H' = (gd, DcO ga gS gL 1 1 5) :: (gt, TkO (.int .u8 123) (.int .i64 2) st y bo it ui fl tg ta) :: (gS, StO ph b) :: (gL, LfO 2 l1) :: HB') := by
  have hu := decL_is (gd := gd) (gS := gS) (gL := gL) (ns := 0) (nl := 0) (ph := ph) (base := 160) (k := 2) hS hD hE hn hc h63 (by decide) (by decide) (by decide) (fun h => absurd h (by decide))
  refine fn_enter 335 func223 rfl ntmps223 rfl ?_
  intro w0
  refine gn 171 ?_
  refine oL (lC hu rfl (.cons .head (Sel.appR [_, _, _] HB))) ?_
  rintro ⟨r, H'⟩ ⟨HB', rfl, h1, rfl⟩
  refine o_perm List.perm_append_comm ?_
  simp only [List.cons_append, List.nil_append]
  refine gn 12 ?_
  refine oT ?_; intro _ _
  refine gn 8 ?_
  refine oT ?_; intro _ _
  refine gn 10 ?_
  refine oL (l_bs1 runUnderlying99 sizeOf3 zeroValue3 rfl rfl rfl) ?_; intro g153 _
  refine oL (l_appR (sz := 1) (m := 1) (news := [.int .i64 2]) underlying99 (info_of typeInfo3) rfl rfl rfl rfl (.tail (.tail (.tail .head))) rfl (by decide) (.inr rfl) (.blk underlying99 (.inl (.head _)) (.take .done) (by simp [Value.oneCell'])) rfl) ?_
  rintro ⟨⟩ -
  refine gn 2 ?_
  refine oT ?_; intro _ _
  refine gn 5 ?_
  refine oL (lC (push_is (ns := 0) (p := 5) (.inl rfl)) rfl (.cons (.tail (.tail (.tail (.tail .head)))) (.cons (.tail (.tail .head)) .nil))) ?_
  rintro ⟨r, H''⟩ rfl
  simp only [List.cons_append, List.nil_append]
  refine gn 10 ?_
  refine WR.sel (.cons .head (.cons (.tail (.tail .head)) (.cons .head (.cons (.tail .head) (Sel.appR [_] HB'))))) ?_
  refine r_fn (l := [.tmp 6, .tmp 7]) results223 rfl rfl ?_
  exact ⟨_, rfl, h1, rfl⟩
end
end Go.Proofs

/- Numbers of bytes, the least first; A reader of bytes; Reading so many bytes; Numbers read; The codec that is read; An index that ends within its numbers is none; impl.IxAgain of an index that ends within its numbers; A bytes.Buffer: its length, room for more; bytes.growSlice; bytes.Buffer's grow and Write; bytes.Buffer's Write; Entries, as memory holds them; Numbers, their lowest byte first; Numbers written; Entries of one hash function; The program's functions for which the machine stands in, and its deferred closure; The swap that sort.SliceStable is handed, at entries; Which of two entries comes first; What sort.SliceStable does with entries, step by step; Insertion sort of entries; Merging of sorted parts, as it is done; The stable sort, walked; Entries sorted by digests; ByDigest: a sorted copy. (A part of the proof of this: for every input laws.FnIxMakeHeads returns true and its arguments read as they did, the listed package variables being what the program lays) -/
import Derived.Test.YtochgglejmfelaaGreatDoorG03
import Derived.Test.YtochgglejmfelaaGreatDoorSlZ
import Derived.Test.YtochgglejmfelaaGreatDoorProg
import Derived.KernelRfl
import Derived.LaidEql
import Derived.Test.YtochgglejmfelaaGreatDoorG04
import Derived.WalkKit
import Derived.Lib.ReflectliteSlice
import Derived.Lib.Bytealg
import Derived.Lib.ReflectliteSwap
set_option linter.unusedVariables false
set_option linter.unusedSimpArgs false
namespace Go.Sl
open Go
def le : List UInt8 → Nat
  | [] => 0
  | b :: l => b.toNat + 256 * le l
theorem or_add {a b k : Nat} (ha : a < 2 ^ k) : a ||| b * 2 ^ k = a + b * 2 ^ k := by
  have := Nat.shiftLeft_add_eq_or_of_lt ha b
  rw [Nat.shiftLeft_eq] at this
  rw [Nat.or_comm, ← this, Nat.add_comm]
/-- What 'or' comes to where no bit is in both. -/
theorem ib_or {kd : IntKind} (hk : kd.signed = false) {a b k : Nat} (ha : a < 2 ^ k) (hb : a + b * 2 ^ k < 2 ^ kd.bits) : ib .or kd (a : Nat) ((b * 2 ^ k : Nat) : Int) = ((a + b * 2 ^ k : Nat) : Int) := by
  have h1 : a < 2 ^ kd.bits := by omega
  have h2 : b * 2 ^ k < 2 ^ kd.bits := by omega
  simp only [ib, BitVec.toNat_or, BitVec.ofInt_natCast, BitVec.toNat_ofNat, Nat.mod_eq_of_lt h1, Nat.mod_eq_of_lt h2, or_add ha]
  generalize a + b * 2 ^ k = z at hb
  refine wrap_in kd _ ?_ ?_
  · cases kd <;> simp_all [IntKind.min, IntKind.signed] <;> omega
  · cases kd <;> simp_all [IntKind.max, IntKind.signed, IntKind.bits] <;> omega
theorem or_sh {kd : IntKind} (hk : kd.signed = false) {a b : Nat} (m : Int) (k : Nat) (hm : m.toNat = k) (hkb : k ≤ kd.bits) (ha : a < 2 ^ k) (hb : a + b * 2 ^ k < 2 ^ kd.bits) : ib .or kd (a : Nat) (kd.wrap ((b : Nat) * 2 ^ (min m.toNat kd.bits))) = ((a + b * 2 ^ k : Nat) : Int) := by
  have h1 : kd.wrap ((b : Nat) * 2 ^ (min m.toNat kd.bits)) = ((b * 2 ^ k : Nat) : Int) := by
    rw [hm, Nat.min_eq_left hkb, show ((b : Nat) : Int) * 2 ^ k = ((b * 2 ^ k : Nat) : Int) by simp]
    have h2 : b * 2 ^ k < 2 ^ kd.bits := by omega
    generalize b * 2 ^ k = z at h2
    refine wrap_in kd _ ?_ ?_
    · cases kd <;> simp_all [IntKind.min, IntKind.signed] <;> omega
    · cases kd <;> simp_all [IntKind.max, IntKind.signed, IntKind.bits] <;> omega
  rw [h1, ib_or hk ha hb]
end Go.Sl
namespace Go.Sl
open Go
end Go.Sl
namespace Go.Proofs
open Go Go.Sl Tryz
set_option maxRecDepth 100000
/-- What io.EOF and its like hold: a pointer to a block of its own. -/
abbrev EV (a : Addr) : Value := .iface 260 (.pointer (some a))
abbrev RB (gs n cap i : Nat) : Obj := C [.slice (some ⟨gs, 0, none⟩) n cap, .int .i64 (i : Nat), .int .i64 (-1)] 144
abbrev DB (bs : List UInt8) (rest : List Value) (lo hi : Nat) : Obj := .cells (B bs ++ rest).toArray 5 (lo, hi)
abbrev RV (gr : Nat) : Value := .iface 75 (.pointer (some ⟨gr, 0, none⟩))
section
variable {G : HP} {gr gs n cap i k lo hi e3 e5 eE eU : Nat} {f3 f5 : Nat × Nat} {bs : List UInt8} {rest cE' cU' : List Value} {gE gU : Addr} {t3 t5 : List Value}
theorem newReader_is : Ctr prog 40 [.slice (some ⟨gs, 0, none⟩) n cap] G [] (fun r H' => ∃ g, r = .pointer (some ⟨g, 0, none⟩) ∧ H' = [(g, RB gs n cap 0)]) := by
  refine fn_enter 6 func40 rfl ntmps40 rfl ?_
  intro w0
  refine gn 8 ?_
  refine oX (eB [.slice (some ⟨gs, 0, none⟩) n cap, .int .i64 0, .int .i64 (-1)]) ?_
  refine oB ?_; intro g5 _
  refine gn 4 ?_
  refine r_fn1 results40 rfl ?_
  exact ⟨_, rfl, rfl⟩
theorem DB_cut (h : i + k ≤ bs.length) : CutL (B bs ++ rest) (0 + i * 1) (k * 1) (B ((bs.drop i).take k)) := by
  rw [Nat.zero_add, Nat.mul_one, Nat.mul_one]
  have := CutL.of (l := B bs ++ rest) (i := i) (n := k) (by simp [B]; omega)
  rw [List.drop_append_of_le_length (by simp [B]; omega), List.take_append_of_le_length (by simp [B]; omega)] at this
  simpa [B, List.map_drop, List.map_take] using this
/-- Some are left. -/
theorem read_some {gb ob L capb k : Nat} {pl : List Value} (hD : (gs, DB bs rest lo hi) ∈ G) (hn : bs.length = n) (hc : n ≤ cap) (h63 : cap < 9223372036854775808) (hi' : i < n) (hk : Nat.min (n - i) L = k) (hp : ob + L ≤ pl.length) :
    Ctr prog 288 [.pointer (some ⟨gr, 0, none⟩), .slice (some ⟨gb, ob, none⟩) L capb] G [(gr, RB gs n cap i), (gb, C pl 5)] (fun r H' => r = .tuple #[.int .i64 (k : Nat), .nilIface] ∧ H' = [(gr, RB gs n cap (i + k)), (gb, C (pl.take ob ++ B ((bs.drop i).take k) ++ pl.drop (ob + k)) 5)]) := by
  have hk1 : k ≤ n - i := by rw [← hk]; exact Nat.min_le_left _ _
  have hk2 : k ≤ L := by rw [← hk]; exact Nat.min_le_right _ _
  refine fn_enter 39 func288 rfl ntmps288 rfl ?_
  intro w0
  refine gn 21 ?_
  refine c_ifp rfl (fun h1 => ?_) (fun h1 => ?_)
  · exact absurd h1 (by omega)
  · skip
    refine gn 7 ?_
    refine oT ?_; intro _ _
    refine gn 3 ?_
    refine c_regiong [10] (by kernel_rfl) ?_
    refine lg [0, 1, 2, 3, 1004, 5, 6, 7, 1008, 9] ?_
    refine gL 10 rfl (l_copy runUnderlying72 sizeOf5 rfl rfl rfl (.blk underlying72 (.inr hD) (DB_cut (k := n - i) (by omega)) (B_one _)) hk (.tail .head) (PutL.of (by simp [B]; omega)) (.inr rfl)) ?_
    intro _ _
    refine ld [11] ?_
    refine gn 12 ?_
    refine oT ?_; intro _ _
    refine gn 3 ?_
    refine r_fn (l := [.tmp 4, .tmp 5]) results288 rfl rfl ?_
    have hb : (B ((bs.drop i).take (n - i))).take k = B ((bs.drop i).take k) := by simp [B, List.map_take, List.take_take, Nat.min_eq_left hk1]
    have hl : (B ((bs.drop i).take k)).length = k := by simp [B]; omega
    refine ⟨rfl, ?_⟩
    simp only [Int.toNat_natCast, hb, hl, RB]
end
end Go.Proofs
namespace Go.Proofs
open Go Go.Sl Tryz
set_option maxRecDepth 100000
set_option maxHeartbeats 1000000
section
variable {G : HP} {gr gs gb n cap i k L lo hi e3 e5 eE eU : Nat} {f3 f5 : Nat × Nat} {bs : List UInt8} {rest pl cE' cU' : List Value} {gE gU : Addr} {t3 t5 : List Value}
/-- As many as are asked for. -/
theorem full_is (hD : (gs, DB bs rest lo hi) ∈ G) (hn : bs.length = n) (hc : n ≤ cap) (h63 : cap < 9223372036854775808) (hi' : i + L ≤ n) (hL : 0 < L) (hp : pl.length = L) :
    Ctr prog 201 [RV gr, .slice (some ⟨gb, 0, none⟩) L L, .int .i64 L] G [(gr, RB gs n cap i), (gb, C pl 5)] (fun r H' => r = .tuple #[.int .i64 L, .nilIface] ∧ H' = [(gr, RB gs n cap (i + L)), (gb, C (B ((bs.drop i).take L)) 5)]) := by
  have hrd := read_some (G := G) (gr := gr) (gb := gb) (ob := 0) (L := L) (capb := L) (k := L) (pl := pl) hD hn hc h63 (show i < n by omega) (Nat.min_eq_right (by omega)) (by omega)
  have hpl : pl.take 0 ++ B ((bs.drop i).take L) ++ pl.drop (0 + L) = B ((bs.drop i).take L) := by
    have h0 : pl.drop (0 + L) = [] := List.drop_eq_nil_of_le (by omega)
    rw [h0]; simp
  rw [hpl] at hrd
  refine fn_enter 46 func201 rfl ntmps201 rfl ?_
  intro w0
  refine gn 15 ?_
  refine c_ifp rfl (fun h1 => ?_) (fun h1 => ?_)
  · exact absurd h1 (by omega)
  · skip
    refine gn 4 ?_
    refine c_rounds 2 ?_
    refine gn 7 ?_
    refine o_splitp 17 rfl (fun h2 => ?_) (fun h2 => ?_)
    · refine gn 15 ?_
      refine c_regiong [7] (by kernel_rfl) ?_
      refine lg [0, 1, 2, 4, 5, 6, 3] ?_
      refine gL 7 rfl (lI hrd rfl rfl (.cons .head (.cons .head .nil))) ?_
      rintro ⟨r, H'⟩ ⟨rfl, rfl⟩
      simp only [List.cons_append, List.nil_append]
      refine ld [8, 9, 10, 11, 12] ?_
      refine gn 9 ?_
      refine n_rounds ?_
      refine gn 7 ?_
      refine o_splitp 17 rfl (fun h3 => ?_) (fun h3 => ?_)
      · exact absurd h3 (by omega)
      · skip
        refine gn 19 ?_
        refine c_ifp rfl (fun h4 => ?_) (fun h4 => ?_)
        · refine gn 5 ?_
          refine r_fn (l := [.tmp 6, .tmp 7]) results201 rfl rfl ?_
          exact ⟨by simp, rfl⟩
        · exact absurd h4 (by omega)
    · exact absurd h2 (by simp; omega)
end
end Go.Proofs
namespace Go.Proofs
open Go Go.Sl Tryz
set_option maxRecDepth 100000
set_option maxHeartbeats 1000000
section
variable {G : HP} {gr gs gb n cap i k L lo hi e3 e5 eE eU : Nat} {f3 f5 : Nat × Nat} {bs : List UInt8} {rest pl cE' cU' : List Value} {gE gU : Addr} {t3 t5 : List Value}
theorem readFull_is (hD : (gs, DB bs rest lo hi) ∈ G) (hn : bs.length = n) (hc : n ≤ cap) (h63 : cap < 9223372036854775808) (hi' : i + L ≤ n) (hL : 0 < L) (hp : pl.length = L) :
    Ctr prog 152 [RV gr, .slice (some ⟨gb, 0, none⟩) L L] G [(gr, RB gs n cap i), (gb, C pl 5)] (fun r H' => r = .tuple #[.int .i64 L, .nilIface] ∧ H' = [(gr, RB gs n cap (i + L)), (gb, C (B ((bs.drop i).take L)) 5)]) := by
  refine fn_enter 13 func152 rfl ntmps152 rfl ?_
  intro w0
  refine gn 12 ?_
  refine oL (lC (full_is hD hn hc h63 hi' hL hp) rfl (.cons .head (.cons .head .nil))) ?_
  rintro ⟨r, H'⟩ ⟨rfl, rfl⟩
  simp only [List.cons_append, List.nil_append]
  refine gn 7 ?_
  refine r_fn (l := [.tmp 4, .tmp 5]) results152 rfl rfl ?_
  exact ⟨rfl, rfl⟩
end
end Go.Proofs
namespace Go.Proofs
open Go Go.Sl Tryz
set_option maxRecDepth 100000
set_option maxHeartbeats 1000000
section
variable {G : HP} {gr gs gb n cap i k L lo hi e3 e5 eE eU : Nat} {f3 f5 : Nat × Nat} {bs : List UInt8} {rest pl cE' cU' : List Value} {gE gU : Addr} {t3 t5 : List Value}
theorem byte_is {b : UInt8} (hD : (gs, DB bs rest lo hi) ∈ G) (hn : bs.length = n) (h63 : n < 9223372036854775808) (hb : bs[i]? = some b) :
    Ctr prog 289 [.pointer (some ⟨gr, 0, none⟩)] G [(gr, RB gs n cap i)] (fun r H' => r = .tuple #[.int .u8 (b.toNat : Nat), .nilIface] ∧ H' = [(gr, RB gs n cap (i + 1))]) := by
  have hi := (List.getElem?_eq_some_iff.1 hb).1
  have hb2 : (B bs ++ rest)[0 + i * 1]? = some (.int .u8 (b.toNat : Nat)) := by
    rw [Nat.zero_add, Nat.mul_one, List.getElem?_append_left (by simp [B]; exact hi)]
    simp [B, hb]
  refine fn_enter 37 func289 rfl ntmps289 rfl ?_
  intro w0
  refine gn 11 ?_
  refine oT ?_; intro _ _
  refine gn 17 ?_
  refine c_ifp rfl (fun h1 => ?_) (fun h1 => ?_)
  · exact absurd h1 (by omega)
  · skip
    refine gn 26 ?_
    refine oT ?_; intro _ _
    refine gn 10 ?_
    refine r_fn (l := [.tmp 2, .tmp 3]) results289 rfl rfl ?_
    exact ⟨rfl, rfl⟩
theorem byte_eof (hE : (3, Obj.cells (EV gE :: t3).toArray e3 f3) ∈ G) :
    Ctr prog 289 [.pointer (some ⟨gr, 0, none⟩)] G [(gr, RB gs n cap n)] (fun r H' => r = .tuple #[.int .u8 0, EV gE] ∧ H' = [(gr, RB gs n cap n)]) := by
  refine fn_enter 37 func289 rfl ntmps289 rfl ?_
  intro w0
  refine gn 11 ?_
  refine oT ?_; intro _ _
  refine gn 17 ?_
  refine c_then (by simp [ev, lk]) ?_
  refine gn 8 ?_
  refine r_fn (l := [.tmp 2, .tmp 3]) results289 rfl rfl ?_
  exact ⟨rfl, rfl⟩
theorem seek_is (h63 : i < 9223372036854775808) :
    Ctr prog 290 [.pointer (some ⟨gr, 0, none⟩), .int .i64 0, .int .i64 1] G [(gr, RB gs n cap i)] (fun r H' => r = .tuple #[.int .i64 i, .nilIface] ∧ H' = [(gr, RB gs n cap i)]) := by
  refine fn_enter 42 func290 rfl ntmps290 rfl ?_
  intro w0
  refine gn 11 ?_
  refine oT ?_; intro _ _
  refine gn 46 ?_
  refine c_ifp rfl (fun h1 => ?_) (fun h1 => ?_)
  · exact absurd h1 (by omega)
  · skip
    refine gn 8 ?_
    refine oT ?_; intro _ _
    refine gn 10 ?_
    refine r_fn (l := [.tmp 6, .tmp 7]) results290 rfl rfl ?_
    exact ⟨by simp, by simp⟩
theorem toByte_is : CtrP prog 79 [RV gr] G (RV gr) := by
  refine fn_enter 16 func79 rfl ntmps79 rfl ?_
  intro w0
  refine gn 9 ?_
  refine oX (e_ta (r := .tuple #[RV gr, .bool true]) rfl (by intro w; kernel_rfl)) ?_
  refine gn 20 ?_
  refine r_fn1 results79 rfl ?_
  exact ⟨rfl, rfl⟩
theorem toSeek_is : CtrP prog 164 [RV gr] G (RV gr) := by
  refine fn_enter 28 func164 rfl ntmps164 rfl ?_
  intro w0
  refine gn 9 ?_
  refine oX (e_ta (r := .tuple #[RV gr, .bool true]) rfl (by intro w; kernel_rfl)) ?_
  refine gn 20 ?_
  refine r_fn1 results164 rfl ?_
  exact ⟨rfl, rfl⟩
end
end Go.Proofs
namespace Go.Proofs
open Go Go.Sl Tryz
set_option maxRecDepth 100000
set_option maxHeartbeats 1000000
/-- io.EOF and io.ErrUnexpectedEOF, as memory holds them. -/
structure Ge (G : HP) (gE gU : Addr) : Prop where
  eof : ∃ t e f, (3, Obj.cells (EV gE :: t).toArray e f) ∈ G
  uex : ∃ t e f, (5, Obj.cells (EV gU :: t).toArray e f) ∈ G
  bE : ∃ c e, (gE.block, C c e) ∈ G
  bU : ∃ c e, (gU.block, C c e) ∈ G
  ne : gU ≠ gE
theorem Ge.mono {G G' : HP} {gE gU : Addr} (h : Ge G gE gU) (hs : ∀ p ∈ G, p ∈ G') : Ge G' gE gU := by
  obtain ⟨⟨t3, e3, f3, h1⟩, ⟨t5, e5, f5, h2⟩, ⟨c1, e1, h3⟩, ⟨c2, e2, h4⟩, h5⟩ := h
  exact ⟨⟨_, _, _, hs _ h1⟩, ⟨_, _, _, hs _ h2⟩, ⟨_, _, hs _ h3⟩, ⟨_, _, hs _ h4⟩, h5⟩
section
variable {G : HP} {gr gs gb n cap i k L lo hi : Nat} {bs : List UInt8} {rest pl : List Value} {gE gU : Addr} {t3 t5 : List Value}
theorem newMWC_is : Ctr prog 315 [] G [] (fun r H' => ∃ g gx, r = .pointer (some ⟨g, 0, none⟩) ∧ H' = [(g, C [.map (some gx), .int .u64 0] 437), (gx, Mo .u32 [])]) := by
  refine fn_enter 4 func315 rfl ntmps315 rfl ?_
  intro w0
  refine gn 7 ?_
  refine oL (l_mkmap rfl .u32) ?_
  intro gx _
  refine oX (eB [.map (some gx), .int .u64 0]) ?_
  refine oB ?_; intro g3 _
  refine gn 4 ?_
  refine r_fn1 results315 rfl ?_
  exact ⟨_, _, rfl, rfl⟩
end
end Go.Proofs
namespace Go.Proofs
open Go Go.Sl Tryz
set_option maxRecDepth 100000
set_option maxHeartbeats 1000000
section
variable {G : HP} {gr gs gb n cap i k L lo hi : Nat} {bs : List UInt8} {rest pl : List Value} {gE gU : Addr} {t3 t5 : List Value}
theorem newS_is : Ctr prog 148 [] G [] (fun r H' => ∃ gm gx, r = .iface 328 (.pointer (some ⟨gm, 0, none⟩)) ∧ H' = [(gm, C [.map (some gx)] 327), (gx, Mo .u32 [])]) := by
  refine fn_enter 4 func148 rfl ntmps148 rfl ?_
  intro w0
  refine gn 7 ?_
  refine oL (l_mkmap rfl .u32) ?_
  intro gx _
  refine oZ ?_; intro g1 _
  refine oT ?_; intro _ _
  refine gn 9 ?_
  refine r_fn1 results148 rfl ?_
  exact ⟨_, _, rfl, rfl⟩
theorem newM_is : Ctr prog 149 [] G [] (fun r H' => ∃ gm gx, r = .pointer (some ⟨gm, 0, none⟩) ∧ H' = [(gm, C [.map (some gx)] 330), (gx, Mo .u64 [])]) := by
  refine fn_enter 3 func149 rfl ntmps149 rfl ?_
  intro w0
  refine gn 7 ?_
  refine oL (l_mkmap rfl .u64) ?_
  intro gx _
  refine oZ ?_; intro g1 _
  refine oT ?_; intro _ _
  refine gn 8 ?_
  refine r_fn1 results149 rfl ?_
  exact ⟨_, _, rfl, rfl⟩
theorem new_1024 : Ctr prog 76 [.int .u64 1024] G [] (fun r H' => ∃ gm gx, r = .tuple #[.iface 328 (.pointer (some ⟨gm, 0, none⟩)), .nilIface] ∧ H' = [(gm, C [.map (some gx)] 327), (gx, Mo .u32 [])]) := by
  refine fn_enter 13 func76 rfl ntmps76 rfl ?_
  intro w0
  refine gn 21 ?_
  refine oL (lC newS_is rfl .nil) ?_
  rintro ⟨r, H'⟩ ⟨gm, gx, rfl, rfl⟩
  simp only [List.cons_append, List.nil_append]
  refine gn 5 ?_
  refine r_fn (l := [.tmp 2, .tmp 3]) results76 rfl rfl ?_
  exact ⟨_, _, rfl, rfl⟩
theorem new_1025 : Ctr prog 76 [.int .u64 1025] G [] (fun r H' => ∃ gm gx, r = .tuple #[.iface 237 (.pointer (some ⟨gm, 0, none⟩)), .nilIface] ∧ H' = [(gm, C [.map (some gx)] 330), (gx, Mo .u64 [])]) := by
  refine fn_enter 13 func76 rfl ntmps76 rfl ?_
  intro w0
  refine gn 28 ?_
  refine oL (lC newM_is rfl .nil) ?_
  rintro ⟨r, H'⟩ ⟨gm, gx, rfl, rfl⟩
  simp only [List.cons_append, List.nil_append]
  refine gn 6 ?_
  refine r_fn (l := [.tmp 2, .tmp 3]) results76 rfl rfl ?_
  exact ⟨_, _, rfl, rfl⟩
end
end Go.Proofs
namespace Go.Proofs
open Go Go.Sl Tryz
set_option maxRecDepth 100000
set_option maxHeartbeats 1000000
/-- A buffer that is written only. -/
abbrev Bu (v : Value) (lr : Int) : Obj := C [v, .int .i64 0, .int .i8 lr] 86
section
variable {G : HP} {gb g n cap lo hi L : Nat} {A : Option Addr} {lr : Int}
theorem bufLen_is (h3 : n < 9223372036854775808) : Ctr prog 298 [.pointer (some ⟨gb, 0, none⟩)] G [(gb, Bu (.slice A n cap) lr)] (fun r H' => r = .int .i64 n ∧ H' = [(gb, Bu (.slice A n cap) lr)]) := by
  refine fn_enter 13 func298 rfl ntmps298 rfl ?_
  intro w0
  refine gn 21 ?_
  refine r_fn1 results298 rfl ?_
  exact ⟨by simp only [Int.sub_zero], rfl⟩
theorem tg_none (h1 : cap < n + L) (h2 : n ≤ cap) (h3 : cap < 9223372036854775808) : Ctr prog 296 [.pointer (some ⟨gb, 0, none⟩), .int .i64 L] G [(gb, Bu (.slice A n cap) lr)] (fun r H' => r = .tuple #[.int .i64 0, .bool false] ∧ H' = [(gb, Bu (.slice A n cap) lr)]) := by
  refine fn_enter 33 func296 rfl ntmps296 rfl ?_
  intro w0
  refine gn 30 ?_
  refine c_ifp rfl (fun h5 => ?_) (fun h5 => ?_)
  · exact absurd h5 (by omega)
  · skip
    refine gn 9 ?_
    refine r_fn (l := [.tmp 4, .tmp 5]) results296 rfl rfl ?_
    exact ⟨rfl, rfl⟩
theorem tg_room (h1 : n + L ≤ cap) (h3 : cap < 9223372036854775808) : Ctr prog 296 [.pointer (some ⟨gb, 0, none⟩), .int .i64 L] G [(gb, Bu (.slice (some ⟨g, 0, none⟩) n cap) lr)] (fun r H' => r = .tuple #[.int .i64 n, .bool true] ∧ H' = [(gb, Bu (.slice (some ⟨g, 0, none⟩) (n + L) cap) lr)]) := by
  refine fn_enter 33 func296 rfl ntmps296 rfl ?_
  intro w0
  refine gn 30 ?_
  refine c_ifp rfl (fun h5 => ?_) (fun h5 => ?_)
  · refine gn 13 ?_
    refine oT ?_; intro _ _
    refine gn 10 ?_
    refine r_fn (l := [.tmp 4, .tmp 5]) results296 rfl rfl ?_
    exact ⟨rfl, rfl⟩
  · exact absurd h5 (by omega)
end
end Go.Proofs
namespace Go.Proofs
open Go Go.Sl Tryz
set_option maxRecDepth 100000
set_option maxHeartbeats 1000000
theorem idle300 : Idle prog 300 #[] := by
  refine ⟨#[], fun w => by simp [invoke, call300], fun w => ?_⟩
  refine callsD_of_wpS func300 rfl fun c₀ cs hu => ?_
  apply wpS_seq
  apply wpS_region
  simp [wpOpsS, go_sem, recoverD, hu, ntmps300, Exit.thenS]
  refine wpS_cond (t := false) (by simp [Act.eval, Array.replicate]) ?_
  simp only [Bool.false_eq_true, if_false]
  refine wpS_of_wp (wp_skip ?_)
  cases c₀
  simp_all [bodyPostS, results, results300]
section
variable {G : HP} {gb g n cap lo hi L : Nat} {bs : List UInt8} {rest : List Value}
theorem gs_is (hD : (g, DB bs rest lo hi) ∈ G) (hn : bs.length = n) (hc : n ≤ cap) (hs : cap < 2147483648) (hL : L < 2147483648) (h1 : 0 < L) :
    Ctr prog 299 [.slice (some ⟨g, 0, none⟩) n cap, .int .i64 L] G [] (fun r H' => ∃ (g2 : Nat) (rest2 : List Value), r = .slice (some ⟨g2, 0, none⟩) n (n + rest2.length) ∧ L ≤ rest2.length ∧ n + rest2.length < 9223372036854775808 ∧ H' = [(g2, C (B bs ++ rest2) 5)]) := by
  refine fn_enterD 28 func299 rfl ntmps299 rfl ?_
  intro w0
  refine gn 7 ?_
  refine o_defer rfl ?_
  refine gn 12 ?_
  refine c_cut (X := Nat) (fun c => [(0, .slice (some ⟨g, 0, none⟩) n cap), (5, .int .i64 c)]) (fun _ => []) (fun c => n + L ≤ c ∧ c < 17179869184) ?_ ?_
  · skip
    refine gn 9 ?_
    refine c_ifp rfl (fun h2 => ?_) (fun h2 => ?_)
    · refine gn 6 ?_
      exact n_cut (2 * cap) ⟨by omega, by omega⟩ aK (.refl _)
    · skip
      refine gn 1 ?_
      exact n_cut (n + L) ⟨by omega, by omega⟩ aK (.refl _)
  · rintro c ⟨hc1, hc2⟩
    refine gn 4 ?_
    refine oL (l_appZ (n := c) underlying72 underlying3 (info_of typeInfo5) rfl rfl rfl rfl rfl rfl rfl (by omega) (by omega)) ?_
    rintro ⟨g2, cs⟩ ⟨hcs1, hcs2⟩
    simp only at hcs1 hcs2 ⊢
    refine gn 7 ?_
    have hput : PutL cs 0 (B bs) ([] ++ B bs ++ cs.drop (0 + (B bs).length)) := PutL.of (by simp [B]; omega)
    simp only [List.nil_append, Nat.zero_add, B_length, hn] at hput
    have ht : (B bs).take n = B bs := List.take_of_length_le (by rw [B_length]; omega)
    rw [← ht] at hput
    have hcut := CutL.of (l := B bs ++ rest) (i := 0) (n := n * 1) (by rw [List.length_append, B_length]; omega)
    rw [List.drop_zero, Nat.mul_one, List.take_left' (by rw [B_length]; exact hn)] at hcut
    refine oL (l_copy (cap := cs.length) (l := cs) (l' := (B bs).take n ++ cs.drop n) runUnderlying72 sizeOf5 rfl rfl rfl (.blk (vs := B bs) underlying72 (.inr hD) (by rw [Nat.mul_one]; exact hcut) (B_one bs)) (Nat.min_eq_left (show n ≤ c by omega)) .head hput (.inr rfl)) ?_
    intro _ _
    rw [ht]
    refine gn 12 ?_
    refine r_fnxD idle300 results299 (.tmp rfl .nil) (.cons .head .nil) rfl ?_
    refine ⟨g2, cs.drop n, ?_, by simp; omega, by simp; omega, rfl⟩
    rw [List.length_drop, show n + (cs.length - n) = cs.length by omega]
    rfl
end
end Go.Proofs
namespace Go.Proofs
open Go Go.Sl Tryz
set_option maxRecDepth 100000
set_option maxHeartbeats 1000000
/-- A buffer that holds these bytes: its slice, its row's block. -/
inductive Bb : Value → List UInt8 → HP → Prop where
  | nil : Bb (.slice none 0 0) [] []
  | row {g cap lo hi : Nat} {bs : List UInt8} {rest : List Value} (h0 : 0 < bs.length) (h1 : rest.length = cap - bs.length) (h2 : bs.length ≤ cap) (h3 : cap < 9223372036854775808) (h4 : cap ≤ lo ∨ hi = 0) : Bb (.slice (some ⟨g, 0, none⟩) bs.length cap) bs [(g, DB bs rest lo hi)]
section
variable {G : HP} {gb g n cap lo hi L : Nat} {bs : List UInt8} {rest : List Value} {lr : Int}
/-- Room made in a row that has none. -/
theorem grow_row (hn : bs.length = n) (hc : n ≤ cap) (h1 : cap < n + L) (h2 : n < 1073741824) (h3 : L < 1073741824) (h0 : 0 < n) :
    Ctr prog 297 [.pointer (some ⟨gb, 0, none⟩), .int .i64 L] G [(gb, Bu (.slice (some ⟨g, 0, none⟩) n cap) lr), (g, DB bs rest lo hi)] (fun r H' => ∃ (g2 : Nat) (rest2 : List Value), r = .int .i64 n ∧ L ≤ rest2.length ∧ n + rest2.length < 9223372036854775808 ∧ H' = [(gb, Bu (.slice (some ⟨g2, 0, none⟩) (n + L) (n + rest2.length)) lr), (g2, C (B bs ++ rest2) 5)]) := by
  refine fn_enter 110 func297 rfl ntmps297 rfl ?_
  intro w0
  refine gn 8 ?_
  refine oL (lC (bufLen_is (by omega)) rfl (.cons .head .nil)) ?_
  rintro ⟨r, H'⟩ ⟨rfl, rfl⟩
  simp only [List.cons_append, List.nil_append]
  refine gn 9 ?_
  refine o_splitp 13 rfl (fun h5 => ?_) (fun h5 => ?_)
  · exact absurd h5 (by omega)
  · skip
    refine gn 16 ?_
    refine oL (lC (tg_none (by omega) hc (by omega)) rfl (.cons .head .nil)) ?_
    rintro ⟨r, H'⟩ ⟨rfl, rfl⟩
    simp only [List.cons_append, List.nil_append]
    refine gn 53 ?_
    refine c_ifp rfl (fun h6 => ?_) (fun h6 => ?_)
    · exact absurd h6 (by omega)
    · skip
      refine gn 10 ?_
      refine c_ifp rfl (fun h7 => ?_) (fun h7 => ?_)
      · exact absurd h7 (by omega)
      · skip
        refine c_regiong [16, 19] (by kernel_rfl) ?_
        refine lg [0, 1, 2, 3, 1004, 5, 6, 7, 1008, 9, 10, 11, 12, 1013, 14, 15] ?_
        rw [Int.zero_add]
        refine gL 16 rfl (l_callj (HI := []) (HJ := [(g, DB bs rest lo hi)]) call299 (gs_is (g := g) (bs := bs) (L := L) (n := n) (cap := cap) (lo := lo) (hi := hi) (rest := rest) (List.mem_append_right _ (.head _)) hn hc (by omega) (by omega) (by omega)) rfl rfl .nil (fun p hp => .tail _ hp)) ?_
        rintro ⟨r, H'⟩ ⟨g2, rest2, rfl, hr1, hr2, rfl⟩
        simp only [List.cons_append, List.nil_append]
        refine ld [17, 18] ?_
        refine dT 19 ?_
        intro _ _
        refine gn 7 ?_
        refine oT ?_; intro _ _
        refine gn 15 ?_
        refine oT ?_; intro _ _
        refine gn 9 ?_
        refine WR.sel (.cons (.tail .head) (.cons .head .nil)) ?_
        refine r_fn1 results297 rfl ?_
        exact ⟨g2, rest2, rfl, hr1, hr2, rfl⟩
/-- Room made where there is nothing yet. -/
theorem grow_nil (h0 : 0 < L) (h1 : L ≤ 64) :
    Ctr prog 297 [.pointer (some ⟨gb, 0, none⟩), .int .i64 L] G [(gb, Bu (.slice none 0 0) lr)] (fun r H' => ∃ g2 : Nat, r = .int .i64 0 ∧ H' = [(gb, Bu (.slice (some ⟨g2, 0, none⟩) L 64) lr), (g2, C (List.replicate 64 (.int .u8 0)) 5)]) := by
  refine fn_enter 110 func297 rfl ntmps297 rfl ?_
  intro w0
  refine gn 8 ?_
  refine oL (lC (bufLen_is (n := 0) (by omega)) rfl (.cons .head .nil)) ?_
  rintro ⟨r, H'⟩ ⟨rfl, rfl⟩
  simp only [List.cons_append, List.nil_append]
  refine gn 9 ?_
  refine o_splitp 13 rfl (fun h5 => ?_) (fun h5 => ?_)
  · refine gn 16 ?_
    refine oL (lC (tg_none (n := 0) (cap := 0) (L := L) (by omega) (by omega) (by omega)) rfl (.cons .head .nil)) ?_
    rintro ⟨r, H'⟩ ⟨rfl, rfl⟩
    simp only [List.cons_append, List.nil_append]
    refine gn 29 ?_
    refine c_ifp rfl (fun h6 => ?_) (fun h6 => ?_)
    · refine gn 4 ?_
      refine oL (l_mks (l := List.replicate 64 (.int .u8 0)) underlying72 (info_of typeInfo5) rfl rfl rfl rfl (by omega) (by omega) (by decide) (by decide) (made_one (.int .u8 0) 64 rfl)) ?_
      intro g2 _
      refine gn 2 ?_
      refine oT ?_; intro _ _
      refine gn 8 ?_
      refine WR.sel (.cons (.tail .head) (.cons .head .nil)) ?_
      refine r_fn1 results297 rfl ?_
      exact ⟨g2, rfl, rfl⟩
    · exact absurd h6 (by omega)
  · exact absurd rfl h5
end
end Go.Proofs
namespace Go.Proofs
open Go Go.Sl Tryz
set_option maxRecDepth 100000
set_option maxHeartbeats 1000000
section
variable {G : HP} {gb gd n cap lo hi L k : Nat} {bs ds : List UInt8} {rest restd HB : List Value} {lr : Int} {v : Value} {lod hid : Nat}
theorem put_cells {bs ds : List UInt8} {rest : List Value} (h : ds.length ≤ rest.length) : PutL (B bs ++ rest) bs.length (B ds) (B (bs ++ ds) ++ rest.drop ds.length) := by
  have := PutL.of (l := B bs ++ rest) (i := bs.length) (vs := B ds) (by rw [List.length_append, B_length, B_length]; omega)
  rw [List.take_left' (B_length bs), B_length] at this
  have hd : (B bs ++ rest).drop (bs.length + ds.length) = rest.drop ds.length := by
    rw [← List.drop_drop, List.drop_left' (B_length bs)]
  rw [hd] at this
  rwa [B_append]
theorem write_is {HB : HP} (hb : Bb v bs HB) (hD : (gd, DB ds restd lod hid) ∈ G) (hL : ds.length = L) (h0 : 0 < L) (h1 : L < 1073741824) (h2 : bs.length < 1073741824) (h3 : bs = [] → L ≤ 64) (hk : L ≤ k) :
    Ctr prog 294 [.pointer (some ⟨gb, 0, none⟩), .slice (some ⟨gd, 0, none⟩) L k] G ((gb, Bu v lr) :: HB) (fun r H' => ∃ (v' : Value) (HB' : HP), r = .tuple #[.int .i64 L, .nilIface] ∧ Bb v' (bs ++ ds) HB' ∧ H' = (gb, Bu v' 0) :: HB') := by
  have hcutd : CutL (B ds ++ restd) 0 (L * 1) (B ds) := by
    have := CutL.of (l := B ds ++ restd) (i := 0) (n := L * 1) (by rw [List.length_append, B_length]; omega)
    rw [List.drop_zero, Nat.mul_one, List.take_left' (by rw [B_length]; exact hL)] at this
    rw [Nat.mul_one]
    exact this
  have htk : (B ds).take L = B ds := List.take_of_length_le (by rw [B_length]; omega)
  cases hb with
  | nil =>
    have hput0 : PutL (List.replicate 64 (.int .u8 0)) 0 (B ds) (B ds ++ (List.replicate 64 (.int .u8 0)).drop ds.length) := put_cells (bs := []) (rest := List.replicate 64 (.int .u8 0)) (by have := h3 rfl; simp; omega)
    refine fn_enter 32 func294 rfl ntmps294 rfl ?_
    intro w0
    refine gn 11 ?_
    refine oT ?_; intro _ _
    refine gn 7 ?_
    refine oL (lC (tg_none (n := 0) (cap := 0) (L := L) (by omega) (by omega) (by omega)) rfl (.cons .head .nil)) ?_
    rintro ⟨r, H'⟩ ⟨rfl, rfl⟩
    simp only [List.cons_append, List.nil_append]
    refine gn 19 ?_
    refine oL (lC (grow_nil h0 (h3 rfl)) rfl (.cons .head .nil)) ?_
    rintro ⟨r, H'⟩ ⟨g2, rfl, rfl⟩
    simp only [List.cons_append, List.nil_append]
    refine gn 12 ?_
    simp only [Int.toNat_zero, Nat.sub_zero, Nat.zero_mul, Nat.add_zero]
    refine oL (l_copy (off := 0) (cap := 64) (l := List.replicate 64 (.int .u8 0)) (l' := B ds ++ (List.replicate 64 (.int .u8 0)).drop ds.length) runUnderlying72 sizeOf5 rfl rfl rfl (.blk (vs := B ds) underlying72 (.inr hD) hcutd (B_one ds)) (Nat.min_self L) (.tail .head) (by rw [htk]; exact hput0) (.inr rfl)) ?_
    intro _ _
    refine gn 5 ?_
    refine WR.sel (.cons .head (.cons .head .nil)) ?_
    refine r_fn (l := [.tmp 4, .tmp 5]) results294 rfl rfl ?_
    refine ⟨_, _, rfl, .row (g := g2) (bs := ds) (cap := 64) (rest := (List.replicate 64 (.int .u8 0)).drop ds.length) (lo := 0) (hi := 0) (by omega) (by simp) (by have := h3 rfl; omega) (by decide) (.inr rfl), ?_⟩
    rw [hL]
  | @row g cap lo hi bs rest hb0 h4 h5 h6 h7 =>
    by_cases hroom : bs.length + L ≤ cap
    · have hput := put_cells (bs := bs) (ds := ds) (rest := rest) (by omega)
      refine fn_enter 32 func294 rfl ntmps294 rfl ?_
      intro w0
      refine gn 11 ?_
      refine oT ?_; intro _ _
      refine gn 7 ?_
      refine oL (lC (tg_room (n := bs.length) (cap := cap) (L := L) hroom (by omega)) rfl (.cons .head .nil)) ?_
      rintro ⟨r, H'⟩ ⟨rfl, rfl⟩
      simp only [List.cons_append, List.nil_append]
      refine gn 26 ?_
      simp only [Int.toNat_natCast, Nat.add_sub_cancel_left, Nat.mul_one, Nat.zero_add]
      refine oL (l_copy (off := bs.length) (cap := cap - bs.length) (l := B bs ++ rest) (l' := B (bs ++ ds) ++ rest.drop ds.length) runUnderlying72 sizeOf5 rfl rfl rfl (.blk (vs := B ds) underlying72 (.inr hD) hcutd (B_one ds)) (Nat.min_self L) (.tail .head) (by rw [htk]; exact hput) (by omega)) ?_
      intro _ _
      refine gn 5 ?_
      refine WR.sel (.cons .head (.cons .head .nil)) ?_
      refine r_fn (l := [.tmp 4, .tmp 5]) results294 rfl rfl ?_
      refine ⟨_, _, rfl, .row (g := g) (bs := bs ++ ds) (cap := cap) (rest := rest.drop ds.length) (lo := lo) (hi := hi) (by simp; omega) (by simp; omega) (by simp; omega) h6 h7, ?_⟩
      rw [List.length_append, hL]
    · refine fn_enter 32 func294 rfl ntmps294 rfl ?_
      intro w0
      refine gn 11 ?_
      refine oT ?_; intro _ _
      refine gn 7 ?_
      refine oL (lC (tg_none (n := bs.length) (cap := cap) (L := L) (by omega) (by omega) (by omega)) rfl (.cons .head .nil)) ?_
      rintro ⟨r, H'⟩ ⟨rfl, rfl⟩
      simp only [List.cons_append, List.nil_append]
      refine gn 19 ?_
      refine oL (lC (grow_row (bs := bs) (n := bs.length) (cap := cap) (L := L) rfl h5 (by omega) h2 h1 hb0) rfl (.cons .head (.cons .head .nil))) ?_
      rintro ⟨r, H'⟩ ⟨g2, rest2, rfl, hr1, hr2, rfl⟩
      simp only [List.cons_append, List.nil_append]
      have hput := put_cells (bs := bs) (ds := ds) (rest := rest2) (by omega)
      refine gn 12 ?_
      simp only [Int.toNat_natCast, Nat.add_sub_cancel_left, Nat.mul_one, Nat.zero_add]
      refine oL (l_copy (off := bs.length) (cap := rest2.length) (l := B bs ++ rest2) (l' := B (bs ++ ds) ++ rest2.drop ds.length) runUnderlying72 sizeOf5 rfl rfl rfl (.blk (vs := B ds) underlying72 (.inr hD) hcutd (B_one ds)) (Nat.min_self L) (.tail .head) (by rw [htk]; exact hput) (.inr rfl)) ?_
      intro _ _
      refine gn 5 ?_
      refine WR.sel (.cons .head (.cons .head .nil)) ?_
      refine r_fn (l := [.tmp 4, .tmp 5]) results294 rfl rfl ?_
      refine ⟨_, _, rfl, .row (g := g2) (bs := bs ++ ds) (cap := bs.length + rest2.length) (rest := rest2.drop ds.length) (lo := 0) (hi := 0) (by simp; omega) (by simp; omega) (by simp; omega) hr2 (.inr rfl), ?_⟩
      rw [List.length_append, hL]
end
end Go.Proofs
namespace Go.Proofs
open Go Go.Sl
structure En where
  v : Int
  c : Int
  h : Int
  d : List UInt8
  o : Int
def cE (x : En) : List Value := [.int .u64 x.v, .int .u64 x.c, .int .u64 x.h, S x.d, .int .u64 x.o]
def cC (x : En) : List Value := [.int .u64 x.v, .int .u64 x.c, .int .u64 x.h, S x.d]
/-- A slice value that holds these entries. -/
inductive EnS (H : HP) : Value → List En → Prop where
  | none {A : Option Addr} {cap : Nat} : EnS H (.slice A 0 cap) []
  | blk {l : List En} {L : List Value} {g off n cap : Nat} {e : TypeId} {fr : Nat × Nat} (hm : (g, Obj.cells L.toArray e fr) ∈ H) (hn : l.length = n) (hc : ∀ i (h : i < l.length), CutL L (off + i * 5) 5 (cE l[i])) : EnS H (.slice (some ⟨g, off, none⟩) n cap) l
end Go.Proofs
namespace Go.Proofs
open Go Go.Sl Tryz
set_option maxRecDepth 100000

def lowb (n : Int) (i : Nat) : UInt8 := UInt8.ofNat (n / 2 ^ (8 * i) % 256).toNat
def lowB (n : Int) (k : Nat) : List UInt8 := (List.range k).map (lowb n)
theorem lowB_length (n : Int) (k : Nat) : (lowB n k).length = k := by simp [lowB]
theorem low_eq (n : Int) (i : Nat) (hi : i < 8) : IntKind.u8.wrap (n.fdiv (2 ^ (min (8 * (i : Int)).toNat 64))) = ((lowb n i).toNat : Int) := by
  have h1 : min (8 * (i : Int)).toNat 64 = 8 * i := by omega
  rw [h1, Int.fdiv_eq_ediv_of_nonneg _ (Int.le_of_lt (Int.pow_pos (by decide)))]
  unfold lowb
  have h2 : IntKind.u8.wrap (n / 2 ^ (8 * i)) = (n / 2 ^ (8 * i)) % 256 := by
    generalize n / 2 ^ (8 * i) = z
    simp [IntKind.wrap, IntKind.bits, IntKind.signed]
  rw [h2]
  have h3 : 0 ≤ n / 2 ^ (8 * i) % 256 := Int.emod_nonneg _ (by decide)
  have h4 : n / 2 ^ (8 * i) % 256 < 256 := Int.emod_lt_of_pos _ (by decide)
  generalize n / 2 ^ (8 * i) % 256 = z at *
  obtain ⟨z, rfl⟩ := Int.eq_ofNat_of_zero_le h3
  simp
  omega
end Go.Proofs
namespace Go.Proofs
open Go Go.Sl Tryz
set_option maxRecDepth 100000
set_option maxHeartbeats 1000000
section
variable {G : HP} {g : Nat} {c0 c1 c2 c3 c4 c5 c6 c7 : Int} {k : Nat}
theorem put32_is : Ctr prog 326 [.agg #[], .slice (some ⟨g, 0, none⟩) 4 4, .int .u32 k] G [(g, C [.int .u8 c0, .int .u8 c1, .int .u8 c2, .int .u8 c3] 5)] (fun r H' => r = .tuple #[] ∧ H' = [(g, C (B (lowB (k : Nat) 4)) 5)]) := by
  refine fn_enter 28 func326 rfl ntmps326 rfl ?_
  intro w0
  refine gn 2 ?_
  refine oB ?_; intro g3 _
  refine gn 15 ?_
  refine oT ?_; intro _ _
  refine gn 9 ?_
  refine oT ?_; intro _ _
  refine gn 9 ?_
  refine oT ?_; intro _ _
  refine gn 8 ?_
  refine oT ?_; intro _ _
  refine gn 1 ?_
  refine WN.sel (.cons (.tail .head) .nil) ?_
  refine n_fn0 results326 ?_
  refine ⟨rfl, ?_⟩
  have e0 : IntKind.u8.wrap (k : Int) = ((lowb (k : Nat) 0).toNat : Int) := by
    have := low_eq (k : Nat) 0 (by decide)
    simpa using this
  have e1 : IntKind.u8.wrap (((k : Nat) : Int).fdiv (2 ^ min (Int.toNat 8) IntKind.u32.bits)) = ((lowb (k : Nat) 1).toNat : Int) := low_eq (k : Nat) 1 (by decide)
  have e2 : IntKind.u8.wrap (((k : Nat) : Int).fdiv (2 ^ min (Int.toNat 16) IntKind.u32.bits)) = ((lowb (k : Nat) 2).toNat : Int) := low_eq (k : Nat) 2 (by decide)
  have e3 : IntKind.u8.wrap (((k : Nat) : Int).fdiv (2 ^ min (Int.toNat 24) IntKind.u32.bits)) = ((lowb (k : Nat) 3).toNat : Int) := low_eq (k : Nat) 3 (by decide)
  show [(g, C [.int .u8 (IntKind.u8.wrap (k : Int)), .int .u8 (IntKind.u8.wrap (((k : Nat) : Int).fdiv (2 ^ min (Int.toNat 8) IntKind.u32.bits))), .int .u8 (IntKind.u8.wrap (((k : Nat) : Int).fdiv (2 ^ min (Int.toNat 16) IntKind.u32.bits))), .int .u8 (IntKind.u8.wrap (((k : Nat) : Int).fdiv (2 ^ min (Int.toNat 24) IntKind.u32.bits)))] 5)] = _
  rw [e0, e1, e2, e3]
  rfl
theorem put64_is : Ctr prog 179 [.agg #[], .slice (some ⟨g, 0, none⟩) 8 8, .int .u64 k] G [(g, C [.int .u8 c0, .int .u8 c1, .int .u8 c2, .int .u8 c3, .int .u8 c4, .int .u8 c5, .int .u8 c6, .int .u8 c7] 5)] (fun r H' => r = .tuple #[] ∧ H' = [(g, C (B (lowB (k : Nat) 8)) 5)]) := by
  refine fn_enter 48 func179 rfl ntmps179 rfl ?_
  intro w0
  refine gn 2 ?_
  refine oB ?_; intro g3 _
  refine gn 15 ?_
  refine oT ?_; intro _ _
  refine gn 9 ?_
  refine oT ?_; intro _ _
  refine gn 9 ?_
  refine oT ?_; intro _ _
  refine gn 9 ?_
  refine oT ?_; intro _ _
  refine gn 9 ?_
  refine oT ?_; intro _ _
  refine gn 9 ?_
  refine oT ?_; intro _ _
  refine gn 9 ?_
  refine oT ?_; intro _ _
  refine gn 8 ?_
  refine oT ?_; intro _ _
  refine gn 1 ?_
  refine WN.sel (.cons (.tail .head) .nil) ?_
  refine n_fn0 results179 ?_
  refine ⟨rfl, ?_⟩
  have e0 : IntKind.u8.wrap (k : Int) = ((lowb (k : Nat) 0).toNat : Int) := by
    have := low_eq (k : Nat) 0 (by decide)
    simpa using this
  have e1 : IntKind.u8.wrap (((k : Nat) : Int).fdiv (2 ^ min (Int.toNat 8) IntKind.u64.bits)) = ((lowb (k : Nat) 1).toNat : Int) := low_eq (k : Nat) 1 (by decide)
  have e2 : IntKind.u8.wrap (((k : Nat) : Int).fdiv (2 ^ min (Int.toNat 16) IntKind.u64.bits)) = ((lowb (k : Nat) 2).toNat : Int) := low_eq (k : Nat) 2 (by decide)
  have e3 : IntKind.u8.wrap (((k : Nat) : Int).fdiv (2 ^ min (Int.toNat 24) IntKind.u64.bits)) = ((lowb (k : Nat) 3).toNat : Int) := low_eq (k : Nat) 3 (by decide)
  have e4 : IntKind.u8.wrap (((k : Nat) : Int).fdiv (2 ^ min (Int.toNat 32) IntKind.u64.bits)) = ((lowb (k : Nat) 4).toNat : Int) := low_eq (k : Nat) 4 (by decide)
  have e5 : IntKind.u8.wrap (((k : Nat) : Int).fdiv (2 ^ min (Int.toNat 40) IntKind.u64.bits)) = ((lowb (k : Nat) 5).toNat : Int) := low_eq (k : Nat) 5 (by decide)
  have e6 : IntKind.u8.wrap (((k : Nat) : Int).fdiv (2 ^ min (Int.toNat 48) IntKind.u64.bits)) = ((lowb (k : Nat) 6).toNat : Int) := low_eq (k : Nat) 6 (by decide)
  have e7 : IntKind.u8.wrap (((k : Nat) : Int).fdiv (2 ^ min (Int.toNat 56) IntKind.u64.bits)) = ((lowb (k : Nat) 7).toNat : Int) := low_eq (k : Nat) 7 (by decide)
  show [(g, C [.int .u8 (IntKind.u8.wrap (k : Int)), .int .u8 (IntKind.u8.wrap (((k : Nat) : Int).fdiv (2 ^ min (Int.toNat 8) IntKind.u64.bits))), .int .u8 (IntKind.u8.wrap (((k : Nat) : Int).fdiv (2 ^ min (Int.toNat 16) IntKind.u64.bits))), .int .u8 (IntKind.u8.wrap (((k : Nat) : Int).fdiv (2 ^ min (Int.toNat 24) IntKind.u64.bits))), .int .u8 (IntKind.u8.wrap (((k : Nat) : Int).fdiv (2 ^ min (Int.toNat 32) IntKind.u64.bits))), .int .u8 (IntKind.u8.wrap (((k : Nat) : Int).fdiv (2 ^ min (Int.toNat 40) IntKind.u64.bits))), .int .u8 (IntKind.u8.wrap (((k : Nat) : Int).fdiv (2 ^ min (Int.toNat 48) IntKind.u64.bits))), .int .u8 (IntKind.u8.wrap (((k : Nat) : Int).fdiv (2 ^ min (Int.toNat 56) IntKind.u64.bits)))] 5)] = _
  rw [e0, e1, e2, e3, e4, e5, e6, e7]
  rfl
/-- Numbers written to a buffer. -/
theorem w32_is {gb : Nat} {bs : List UInt8} {HB : HP} {lr : Int} {v : Value} (hb : Bb v bs HB) (h2 : bs.length < 1073741824) :
    Ctr prog 318 [.iface 89 (.pointer (some ⟨gb, 0, none⟩)), .int .u32 k] G ((gb, Bu v lr) :: HB) (fun r H' => r = .nilIface ∧ ∃ (v' : Value) (HB' : HP), Bb v' (bs ++ lowB (k : Nat) 4) HB' ∧ H' = (gb, Bu v' 0) :: HB') := by
  have eD : C (B (lowB (k : Nat) 4)) 5 = DB (lowB (k : Nat) 4) [] 0 0 := by
    show Obj.cells _ _ _ = Obj.cells (B _ ++ []).toArray 5 (0, 0)
    rw [List.append_nil]
  refine fn_enter 20 func318 rfl ntmps318 rfl ?_
  intro w0
  refine gn 7 ?_
  refine oL (l_mks (l := [.int .u8 0, .int .u8 0, .int .u8 0, .int .u8 0]) underlying72 (info_of typeInfo5) rfl rfl rfl rfl (by decide) (by decide) (by decide) (by decide) (made_one (.int .u8 0) 4 rfl)) ?_
  intro g8 _
  refine gn 5 ?_
  refine oX (e_load0 isAgg294 sizeOf294 rfl) ?_
  refine gn 2 ?_
  refine oL (lC put32_is rfl (.cons .head .nil)) ?_
  rintro ⟨r, H'⟩ ⟨rfl, rfl⟩
  simp only [List.cons_append, List.nil_append]
  rw [eD]
  refine gn 6 ?_
  refine oL (l_calli (HJ := [(g8, DB (lowB (k : Nat) 4) [] 0 0)]) call294 (by intro w; kernel_rfl) (write_is hb (List.mem_append_right _ (.head _)) (lowB_length _ _) (by decide) (by decide) h2 (by intro _; decide) (Nat.le_refl _)) rfl rfl rfl (.cons (.tail .head) (Sel.appR [_] HB)) (fun p hp => hp)) ?_
  rintro ⟨r, H'⟩ ⟨v', HB', rfl, hb', rfl⟩
  refine gn 14 ?_
  refine WR.less (fun _ _ h => h) (List.sublist_append_left _ _) ?_
  refine r_fn1 results318 rfl ?_
  exact ⟨rfl, v', HB', hb', rfl⟩
theorem w64_is {gb : Nat} {bs : List UInt8} {HB : HP} {lr : Int} {v : Value} (hb : Bb v bs HB) (h2 : bs.length < 1073741824) :
    Ctr prog 328 [.iface 89 (.pointer (some ⟨gb, 0, none⟩)), .int .u64 k] G ((gb, Bu v lr) :: HB) (fun r H' => r = .nilIface ∧ ∃ (v' : Value) (HB' : HP), Bb v' (bs ++ lowB (k : Nat) 8) HB' ∧ H' = (gb, Bu v' 0) :: HB') := by
  have eD : C (B (lowB (k : Nat) 8)) 5 = DB (lowB (k : Nat) 8) [] 0 0 := by
    show Obj.cells _ _ _ = Obj.cells (B _ ++ []).toArray 5 (0, 0)
    rw [List.append_nil]
  refine fn_enter 20 func328 rfl ntmps328 rfl ?_
  intro w0
  refine gn 7 ?_
  refine oL (l_mks (l := [.int .u8 0, .int .u8 0, .int .u8 0, .int .u8 0, .int .u8 0, .int .u8 0, .int .u8 0, .int .u8 0]) underlying72 (info_of typeInfo5) rfl rfl rfl rfl (by decide) (by decide) (by decide) (by decide) (made_one (.int .u8 0) 8 rfl)) ?_
  intro g8 _
  refine gn 5 ?_
  refine oX (e_load0 isAgg294 sizeOf294 rfl) ?_
  refine gn 2 ?_
  refine oL (lC put64_is rfl (.cons .head .nil)) ?_
  rintro ⟨r, H'⟩ ⟨rfl, rfl⟩
  simp only [List.cons_append, List.nil_append]
  rw [eD]
  refine gn 6 ?_
  refine oL (l_calli (HJ := [(g8, DB (lowB (k : Nat) 8) [] 0 0)]) call294 (by intro w; kernel_rfl) (write_is hb (List.mem_append_right _ (.head _)) (lowB_length _ _) (by decide) (by decide) h2 (by intro _; decide) (Nat.le_refl _)) rfl rfl rfl (.cons (.tail .head) (Sel.appR [_] HB)) (fun p hp => hp)) ?_
  rintro ⟨r, H'⟩ ⟨v', HB', rfl, hb', rfl⟩
  refine gn 14 ?_
  refine WR.less (fun _ _ h => h) (List.sublist_append_left _ _) ?_
  refine r_fn1 results328 rfl ?_
  exact ⟨rfl, v', HB', hb', rfl⟩
end
end Go.Proofs
namespace Go.Proofs
open Go Go.Sl Tryz
set_option maxRecDepth 100000

def codedL (l : List En) (code : Int) : List En := l.filter (fun x => decide (x.h = code))
def cells5 (l : List En) : List Value := l.flatMap cE
end Go.Proofs
namespace Go.Proofs
open Go Go.Sl Tryz
theorem idle132 (a b : Addr) : Idle prog 132 #[.pointer (some a), .pointer (some b)] := by
  refine ⟨#[.pointer (some a), .pointer (some b)], fun w => by simp [invoke, call132], fun w => ?_⟩
  refine callsD_of_wpS func132 rfl fun c₀ cs hu => ?_
  apply wpS_seq
  apply wpS_region
  simp [wpOpsS, go_sem, recoverD, hu, ntmps132, Exit.thenS]
  refine wpS_cond (t := false) (by simp [Act.eval, Array.replicate]) ?_
  simp only [Bool.false_eq_true, if_false]
  refine wpS_of_wp (wp_skip ?_)
  cases c₀
  simp_all [bodyPostS, results, results132]

section
variable {x : Cx} {s : Slots} {H : HP} {d : Nat} {p : Operand} {ty : TypeId} {pos : String} {af : Array Edge} {gd : Option (Nat × Bool)}
/-- A value that holds these bytes. -/
inductive Bv (x : Cx) (H : HP) : Value → List UInt8 → Prop where
  | nil {n cap : Nat} : Bv x H (.slice none n cap) []
  | blk {bs : List UInt8} {g off n cap : Nat} {l : List Value} {e : TypeId} {fr : Nat × Nat} (hm : (g, .cells l.toArray e fr) ∈ H ∨ (g, Obj.cells l.toArray e fr) ∈ x.G) (hn : bs.length = n) (hc : CutL l off n (B bs)) : Bv x H (.slice (some ⟨g, off, none⟩) n cap) bs
theorem run_loadB {P : Program} {w : World} : ∀ (l : List UInt8) (a : Addr) (acc : ByteArray), (∀ j x, l[j]? = some x → w.cell? (a.add j) = some (.int .u8 x.toNat)) → (Extern.Bytes.loadBytes a l.length acc).run P w = .ok ⟨acc.data ++ l.toArray⟩ w
  | [], a, acc, _ => by simp [Extern.Bytes.loadBytes]
  | x :: l, a, acc, h => by
    have h0 : w.cell? a = some (.int .u8 x.toNat) := by
      have := h 0 x rfl
      simpa [Addr.add] using this
    have ih := run_loadB (P := P) l (a.add 1) (acc.push x) (fun j y hj => by
      have := h (j + 1) y (by simpa using hj)
      rwa [show (a.add 1).add j = a.add (j + 1) by simp [Addr.add_add, Nat.add_comm]])
    have hx : ((x.toNat : Int).toNat).toUInt8 = x := by simp
    simp only [List.length_cons, Extern.Bytes.loadBytes, Sem.run_bind, run_load, h0, Result.andThen, hx]
    rw [ih]
    congr 1
    apply ByteArray.ext
    simp [ByteArray.push]
theorem Bv.run {a : Act} {w : World} (hs : St x s H a w) {v : Value} {bs : List UInt8} (h : Bv x H v bs) : (Extern.Bytes.bytesOf v).run x.P w = .ok ⟨bs.toArray⟩ w := by
  cases h with
  | nil => rfl
  | @blk _ g off n cap l e fr hm hn hc =>
    subst hn
    have := run_loadB (P := x.P) (w := w) bs ⟨g, off, none⟩ .empty (fun j b hj => by
      rw [add_addr, cell_of (hs.mem hm)]
      have hlt := (List.getElem?_eq_some_iff.1 hj).1
      have := congrArg (fun z => z[j]?) hc.eq
      simp only [List.getElem?_take_of_lt hlt, List.getElem?_drop] at this
      rw [← this]
      simp [B, hj])
    simp only [Extern.Bytes.bytesOf, this]
    have he : ByteArray.empty.data = #[] := rfl
    rw [he]
    simp
theorem ext225 (v : Value) (w : World) : (callFunc 225 #[v]).run prog w = .ok (.value v) w := by
  rw [run_callFunc_extern func225 (by kernel_rfl) (by kernel_rfl) (by kernel_rfl) (e := Extern.AbiNoEscape.same) (by kernel_rfl), Lib.run_noEscape]
  rfl
end
end Go.Proofs
namespace Go.Proofs
open Go Go.Sl Tryz
set_option maxRecDepth 100000

theorem cut_skip (p : List Value) {l vs : List Value} {i n : Nat} (h : CutL l i n vs) : CutL (p ++ l) (p.length + i) n vs := by
  induction p with
  | nil => simpa using h
  | cons a p ih => rw [List.length_cons, Nat.add_right_comm]; exact .skip ih
theorem cells5_cut {l : List En} {i : Nat} (h : i < l.length) (rest : List Value) : CutL (cells5 l ++ rest) (i * 5) 5 (cE l[i]) := by
  induction l generalizing i with
  | nil => cases h
  | cons x l ih =>
    cases i with
    | zero => exact .take (.take (.take (.take (.take .done))))
    | succ i =>
      have := ih (i := i) (by simpa using h)
      have e1 : cells5 (x :: l) ++ rest = cE x ++ (cells5 l ++ rest) := by simp [cells5]
      rw [e1, show (i + 1) * 5 = (cE x).length + i * 5 by simp [cE]; omega]
      exact cut_skip _ this
/-- Two entries exchanged. -/
def swapL (l : List En) (i j : Nat) (hi : i < l.length) (hj : j < l.length) : List En := (l.set i l[j]).set j l[i]
theorem cE_one (x : En) : ∀ v ∈ cE x, v.oneCell' = true := by
  intro v hv
  simp [cE] at hv
  rcases hv with rfl | rfl | rfl | rfl | rfl <;> rfl

end Go.Proofs
namespace Go.Proofs
open Go Go.Sl Tryz
set_option maxRecDepth 100000

/-- By digests, then by offsets. -/
def ltE (x y : En) : Bool := if x.d ≠ y.d then Op.bytesLess x.d y.d else decide (x.o < y.o)
theorem less_is {G : HP} {l : List En} {rest : List Value} {g3 g n cap : Nat} {lo hi i j : Nat} (h3 : (g3, C [.slice (some ⟨g, 0, none⟩) n cap] 22) ∈ G) (hg : (g, Obj.cells (cells5 l ++ rest).toArray 56 (lo, hi)) ∈ G) (hn : l.length = n) (hi' : i < l.length) (hj : j < l.length) :
    Ctr prog 193 [.int .i64 (i : Nat), .int .i64 (j : Nat), .pointer (some ⟨g3, 0, none⟩)] G [] (fun r _ => r = .bool (ltE l[i] l[j])) := by
  have hci : CutL (cells5 l ++ rest) (0 + i * 5) 5 (cE l[i]) := by rw [Nat.zero_add]; exact cells5_cut hi' rest
  have hcj : CutL (cells5 l ++ rest) (0 + j * 5) 5 (cE l[j]) := by rw [Nat.zero_add]; exact cells5_cut hj rest
  generalize l[i] = x at *
  generalize l[j] = y at *
  obtain ⟨xv, xc, xh, xd, xo⟩ := x
  obtain ⟨yv, yc, yh, yd, yo⟩ := y
  simp only [cE] at hci hcj
  refine fn_enter 35 func193 rfl ntmps193 rfl ?_
  intro w0
  refine gn 6 ?_
  refine c_regiond ([]) (by kernel_rfl) (by first | exact List.Sublist.refl _ | exact List.nil_sublist _ | (repeat constructor)) ?_
  refine ld [0, 1, 2, 3, 4, 5, 6, 7] ?_
  refine d_l2 8 9 (by kernel_rfl) rfl rfl rfl rfl (l_alloc zeroValue56 rfl rfl) (l_alloc zeroValue56 rfl rfl) aH aH ?_ ?_
  · intro g6 _
    refine dZ 9 ?_; intro g7 _
    refine dL 10 rfl (l_storea sizeOf56 rfl rfl rfl (by simp [Value.oneCell']) (.tail .head) (.take (.take (.take (.take (.take .done))))) nofrs0) ?_
    intro _ _
    refine dL 11 rfl (l_storea sizeOf56 rfl rfl rfl (by simp [Value.oneCell']) .head (.take (.take (.take (.take (.take .done))))) nofrs0) ?_
    intro _ _
    refine gn 5 ?_
    refine oX (e_fa runUnderlying56 rfl sizeOf25 rfl rfl) ?_
    refine oX (e_fa runUnderlying25 rfl sizeOf9 rfl rfl) ?_
    refine gn 1 ?_
    refine oX (e_fa runUnderlying56 rfl sizeOf25 rfl rfl) ?_
    refine oX (e_fa runUnderlying25 rfl sizeOf9 rfl rfl) ?_
    refine gn 4 ?_
    refine c_ifp rfl (fun h1 => ?_) (fun h1 => ?_)
    · refine gn 2 ?_
      refine oX (e_fa runUnderlying56 rfl sizeOf25 rfl rfl) ?_
      refine oX (e_fa runUnderlying25 rfl sizeOf9 rfl rfl) ?_
      refine gn 1 ?_
      refine oX (e_fa runUnderlying56 rfl sizeOf25 rfl rfl) ?_
      refine oX (e_fa runUnderlying25 rfl sizeOf9 rfl rfl) ?_
      refine gn 6 ?_
      refine r_fn1 results193 rfl ?_
      simp [ltE, show ¬ xd = yd from h1]
    · skip
      refine gn 4 ?_
      refine oX (e_fa runUnderlying56 rfl sizeOf23 rfl rfl) ?_
      refine gn 1 ?_
      refine oX (e_fa runUnderlying56 rfl sizeOf23 rfl rfl) ?_
      refine gn 6 ?_
      refine r_fn1 results193 rfl ?_
      simp [ltE, show xd = yd from Classical.byContradiction h1]
  · skip
    intro g7 _
    refine dZ 8 ?_; intro g6 _
    refine dL 10 rfl (l_storea sizeOf56 rfl rfl rfl (by simp [Value.oneCell']) .head (.take (.take (.take (.take (.take .done))))) nofrs0) ?_
    intro _ _
    refine dL 11 rfl (l_storea sizeOf56 rfl rfl rfl (by simp [Value.oneCell']) (.tail .head) (.take (.take (.take (.take (.take .done))))) nofrs0) ?_
    intro _ _
    refine gn 5 ?_
    refine oX (e_fa runUnderlying56 rfl sizeOf25 rfl rfl) ?_
    refine oX (e_fa runUnderlying25 rfl sizeOf9 rfl rfl) ?_
    refine gn 1 ?_
    refine oX (e_fa runUnderlying56 rfl sizeOf25 rfl rfl) ?_
    refine oX (e_fa runUnderlying25 rfl sizeOf9 rfl rfl) ?_
    refine gn 4 ?_
    refine c_ifp rfl (fun h1 => ?_) (fun h1 => ?_)
    · refine gn 2 ?_
      refine oX (e_fa runUnderlying56 rfl sizeOf25 rfl rfl) ?_
      refine oX (e_fa runUnderlying25 rfl sizeOf9 rfl rfl) ?_
      refine gn 1 ?_
      refine oX (e_fa runUnderlying56 rfl sizeOf25 rfl rfl) ?_
      refine oX (e_fa runUnderlying25 rfl sizeOf9 rfl rfl) ?_
      refine gn 6 ?_
      refine r_fn1 results193 rfl ?_
      simp [ltE, show ¬ xd = yd from h1]
    · skip
      refine gn 4 ?_
      refine oX (e_fa runUnderlying56 rfl sizeOf23 rfl rfl) ?_
      refine gn 1 ?_
      refine oX (e_fa runUnderlying56 rfl sizeOf23 rfl rfl) ?_
      refine gn 6 ?_
      refine r_fn1 results193 rfl ?_
      simp [ltE, show xd = yd from Classical.byContradiction h1]
end Go.Proofs
namespace Go.Proofs
open Go Go.Sl Tryz
set_option maxRecDepth 100000

def sw (l : List En) (i j : Nat) : List En := if h : i < l.length ∧ j < l.length then swapL l i j h.1 h.2 else l
theorem sw_length (l : List En) (i j : Nat) : (sw l i j).length = l.length := by
  unfold sw; split
  · simp [swapL]
  · rfl
/-- m swaps, of what begins at a and at b. -/
def swR (l : List En) (a b : Nat) : Nat → List En
  | 0 => l
  | i + 1 => sw (swR l a b i) (a + i) (b + i)
theorem swR_length (l : List En) (a b m : Nat) : (swR l a b m).length = l.length := by
  induction m with
  | zero => rfl
  | succ m ih => rw [swR, sw_length, ih]

section
variable {G : HP} {gs g n cap lo hi : Nat} {rest : List Value}
/-- Two neighbouring parts exchanged: the left one i long, the right one j. -/
def rotL (m : Nat) : Nat → List En → Nat → Nat → List En
  | 0, l, _, _ => l
  | f + 1, l, i, j => if i = j then swR l (m - i) m i else if j < i then rotL m f (swR l (m - i) m j) (i - j) j else rotL m f (swR l (m - i) (m + j - i) i) i (j - i)
theorem rotL_length (m f : Nat) (l : List En) (i j : Nat) : (rotL m f l i j).length = l.length := by
  induction f generalizing l i j with
  | zero => rfl
  | succ f ih =>
    simp only [rotL]
    split
    · exact swR_length ..
    · split <;> rw [ih, swR_length]
end
end Go.Proofs
namespace Go.Proofs
open Go Go.Sl Tryz
set_option maxRecDepth 100000

def ltAt (l : List En) (i j : Nat) : Bool := match l[i]?, l[j]? with
  | some x, some y => ltE x y
  | _, _ => false
def insJ (a : Nat) : Nat → List En → List En
  | 0, l => l
  | j + 1, l => if a < j + 1 ∧ ltAt l (j + 1) j = true then insJ a j (sw l (j + 1) j) else l
theorem insJ_length (a j : Nat) (l : List En) : (insJ a j l).length = l.length := by
  induction j generalizing l with
  | zero => rfl
  | succ j ih => simp only [insJ]; split <;> simp [ih, sw_length]
def isortN (a : Nat) : Nat → List En → List En
  | 0, l => l
  | k + 1, l => insJ a (a + 1 + k) (isortN a k l)
theorem isortN_length (a k : Nat) (l : List En) : (isortN a k l).length = l.length := by
  induction k with
  | zero => rfl
  | succ k ih => rw [isortN, insJ_length, ih]
end Go.Proofs
namespace Go.Proofs
open Go Go.Sl
set_option maxRecDepth 100000

def bsch (p : Nat → Bool) : Nat → Nat → Nat → Nat
  | 0, i, _ => i
  | f + 1, i, j => if i < j then (if p ((i + j) / 2) then bsch p f ((i + j) / 2 + 1) j else bsch p f i ((i + j) / 2)) else i
theorem bsch_bounds (p : Nat → Bool) : ∀ (f i j : Nat), i ≤ j → i ≤ bsch p f i j ∧ bsch p f i j ≤ j := by
  intro f
  induction f with
  | zero => intro i j h; simp [bsch, h]
  | succ f ih =>
    intro i j h
    simp only [bsch]
    split
    · split
      · have := ih ((i + j) / 2 + 1) j (by omega); omega
      · have := ih i ((i + j) / 2) (by omega); omega
    · omega
def upS (l : List En) (k : Nat) : Nat → List En
  | 0 => l
  | c + 1 => sw (upS l k c) (k + c) (k + c + 1)
def dnS (l : List En) (k : Nat) : Nat → List En
  | 0 => l
  | c + 1 => sw (dnS l k c) (k - c) (k - c - 1)
theorem upS_length (l : List En) (k c : Nat) : (upS l k c).length = l.length := by
  induction c with
  | zero => rfl
  | succ c ih => rw [upS, sw_length, ih]
theorem dnS_length (l : List En) (k c : Nat) : (dnS l k c).length = l.length := by
  induction c with
  | zero => rfl
  | succ c ih => rw [dnS, sw_length, ih]
def symM : Nat → List En → Nat → Nat → Nat → List En
  | 0, l, _, _, _ => l
  | f + 1, l, a, m, b =>
    if m - a = 1 then upS l a (bsch (fun h => ltAt l h a) (b - m) m b - 1 - a)
    else if b - m = 1 then dnS l m (m - bsch (fun h => !ltAt l m h) (m - a) a m)
    else
      let mid := (a + b) / 2
      let st := if mid < m then bsch (fun c => !ltAt l (mid + m - 1 - c) c) (b - a) (mid + m - b) mid else bsch (fun c => !ltAt l (mid + m - 1 - c) c) (b - a) a m
      let en := mid + m - st
      let l1 := if st < m ∧ m < en then rotL m (en - st) l (m - st) (en - m) else l
      let l2 := if a < st ∧ st < mid then symM f l1 a st mid else l1
      if mid < en ∧ en < b then symM f l2 mid en b else l2
theorem symM_length : ∀ (f : Nat) (l : List En) (a m b : Nat), (symM f l a m b).length = l.length := by
  intro f
  induction f with
  | zero => intros; rfl
  | succ f ih =>
    intro l a m b
    simp only [symM]
    split
    · exact upS_length ..
    · split
      · exact dnS_length ..
      · split <;> (repeat (first | rfl | rw [ih] | rw [rotL_length] | split))
end Go.Proofs
namespace Go.Proofs
open Go Go.Sl Tryz
set_option maxRecDepth 100000
set_option maxHeartbeats 1000000

def isP (n : Nat) : Nat → Nat → List En → List En
  | 0, a, l => isortN a (n - (a + 1)) l
  | f + 1, a, l => if a + 20 ≤ n then isP n f (a + 20) (isortN a 19 l) else isortN a (n - (a + 1)) l
theorem isP_length (n : Nat) : ∀ (f a : Nat) (l : List En), (isP n f a l).length = l.length := by
  intro f
  induction f with
  | zero => intro a l; exact isortN_length ..
  | succ f ih => intro a l; simp only [isP]; split <;> simp [ih, isortN_length]
def mgP (n s : Nat) : Nat → Nat → List En → List En
  | 0, a, l => if a + s < n then symM (n - a) l a (a + s) n else l
  | f + 1, a, l => if a + 2 * s ≤ n then mgP n s f (a + 2 * s) (symM (2 * s) l a (a + s) (a + 2 * s)) else if a + s < n then symM (n - a) l a (a + s) n else l
theorem mgP_length (n s : Nat) : ∀ (f a : Nat) (l : List En), (mgP n s f a l).length = l.length := by
  intro f
  induction f with
  | zero => intro a l; simp only [mgP]; split <;> simp [symM_length]
  | succ f ih => intro a l; simp only [mgP]; split <;> (try split) <;> simp [ih, symM_length]
def stM (n : Nat) : Nat → Nat → List En → List En
  | 0, _, l => l
  | f + 1, s, l => if s < n then stM n f (2 * s) (mgP n s n 0 l) else l
def stable (l : List En) : List En := stM l.length l.length 20 (isP l.length l.length 0 l)
end Go.Proofs
namespace Go.Proofs
open Go Go.Sl
set_option maxRecDepth 100000
set_option maxHeartbeats 1000000
theorem cut_app {l a b : List Value} {i n m : Nat} (h1 : CutL l i n a) (h2 : CutL l (i + n) m b) : CutL l i (n + m) (a ++ b) := by
  have e1 := h1.eq
  have e2 := h2.eq
  have l1 := h1.le
  have l2 := h2.le
  have : a ++ b = (l.drop i).take (n + m) := by
    rw [e1, e2, ← List.drop_drop, List.take_add]
  rw [this]
  exact CutL.of (by omega)
theorem cut_all {L : List Value} {off : Nat} : ∀ {l : List En}, (∀ i (h : i < l.length), CutL L (off + i * 5) 5 (cE l[i])) → off ≤ L.length → CutL L off (l.length * 5) (cells5 l) := by
  intro l
  induction l generalizing off with
  | nil => intro _ h; simpa [cells5] using CutL.of (l := L) (i := off) (n := 0) (by omega)
  | cons x l ih =>
    intro h _
    have h0 : CutL L off 5 (cE x) := by
      have := h 0 (by simp)
      rw [Nat.zero_mul, Nat.add_zero] at this
      exact this
    have h1 := ih (off := off + 5) (fun i hi => by
      have := h (i + 1) (by simpa using hi)
      rw [show off + 5 + i * 5 = off + (i + 1) * 5 by omega]
      exact this) (by have := h0.le; omega)
    have := cut_app h0 h1
    rw [show (x :: l).length * 5 = 5 + l.length * 5 by simp; omega]
    simpa [cells5] using this
end Go.Proofs
namespace Go.Proofs
open Go Go.Sl Tryz
set_option maxRecDepth 100000
set_option maxHeartbeats 1000000
theorem EnS.src {x : Cx} {H : HP} {v : Value} {l : List En} (h : EnS x.G v l) (hU : x.P.underlying 22 = some (.slice 56)) : Sv x H 5 22 v l.length (cells5 l) := by
  cases h with
  | @none A cap =>
    cases A with
    | none => exact .nil hU
    | some a => exact .zero hU
  | @blk _ L g off n cap e fr hm hn hc =>
    by_cases h0 : l = []
    · subst h0; simp at hn; subst hn; exact .zero hU
    · have hpos : 0 < l.length := List.length_pos_iff.2 h0
      have hle := (hc 0 hpos).le
      have := cut_all hc (by omega)
      subst hn
      exact .blk hU (.inr hm) this (by
        intro v hv
        simp only [cells5, List.mem_flatMap] at hv
        obtain ⟨x, _, hx⟩ := hv
        exact cE_one x v hx)
theorem stM_length (n : Nat) : ∀ (f s : Nat) (l : List En), (stM n f s l).length = l.length := by
  intro f
  induction f with
  | zero => intro s l; rfl
  | succ f ih => intro s l; simp only [stM]; split <;> simp [ih, mgP_length]
theorem stable_length (l : List En) : (stable l).length = l.length := by rw [stable, stM_length, isP_length]
end Go.Proofs

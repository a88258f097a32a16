/- Numbers of bytes, the least first; A reader of bytes; Reading so many bytes; Numbers read; The codec that is read; An index that ends within its numbers is none; impl.IxAgain of an index that ends within its numbers; A bytes.Buffer: its length, room for more; bytes.growSlice; bytes.Buffer's grow and Write; bytes.Buffer's Write; Entries, as memory holds them; Numbers, their lowest byte first; Numbers written; The shelf's contracts of sort.Ints and sort.Slice hold of this program: the bodies are the shelf's, other numbers in them; Entries of one hash function. (A part of the proof of this: for every input laws.FnWrOptions returns true and its arguments read as they did, the listed package variables being what the program lays) -/
import Derived.Test.YtochgglejmfelaaGreatDoorL02
import Derived.Test.YtochgglejmfelaaGreatDoorLSlZ
import Derived.Test.YtochgglejmfelaaGreatDoorProg
import Derived.KernelRfl
import Derived.Test.YtochgglejmfelaaGreatDoorL03
import Derived.LaidEql
import Derived.Test.YtochgglejmfelaaGreatDoorL04
import Derived.Shelf.Slices.In.SortNone2
import Derived.Shelf.Sort.Plain
import Derived.Shelf.GgSortFunc.Whole
set_option linter.unusedVariables false
set_option linter.unusedSimpArgs false
namespace Go.Sl
open Go
def le : List UInt8 → Nat
  | [] => 0
  | b :: l => b.toNat + 256 * le l
theorem or_add {a b k : Nat} (ha : a < 2 ^ k) : a ||| b * 2 ^ k = a + b * 2 ^ k := by
  have := Nat.shiftLeft_add_eq_or_of_lt ha b
  rw [Nat.shiftLeft_eq] at this
  rw [Nat.or_comm, ← this, Nat.add_comm]
/-- What 'or' comes to where no bit is in both. -/
theorem ib_or {kd : IntKind} (hk : kd.signed = false) {a b k : Nat} (ha : a < 2 ^ k) (hb : a + b * 2 ^ k < 2 ^ kd.bits) : ib .or kd (a : Nat) ((b * 2 ^ k : Nat) : Int) = ((a + b * 2 ^ k : Nat) : Int) := by
  have h1 : a < 2 ^ kd.bits := by omega
  have h2 : b * 2 ^ k < 2 ^ kd.bits := by omega
  simp only [ib, BitVec.toNat_or, BitVec.ofInt_natCast, BitVec.toNat_ofNat, Nat.mod_eq_of_lt h1, Nat.mod_eq_of_lt h2, or_add ha]
  generalize a + b * 2 ^ k = z at hb
  refine wrap_in kd _ ?_ ?_
  · cases kd <;> simp_all [IntKind.min, IntKind.signed] <;> omega
  · cases kd <;> simp_all [IntKind.max, IntKind.signed, IntKind.bits] <;> omega
theorem or_sh {kd : IntKind} (hk : kd.signed = false) {a b : Nat} (m : Int) (k : Nat) (hm : m.toNat = k) (hkb : k ≤ kd.bits) (ha : a < 2 ^ k) (hb : a + b * 2 ^ k < 2 ^ kd.bits) : ib .or kd (a : Nat) (kd.wrap ((b : Nat) * 2 ^ (min m.toNat kd.bits))) = ((a + b * 2 ^ k : Nat) : Int) := by
  have h1 : kd.wrap ((b : Nat) * 2 ^ (min m.toNat kd.bits)) = ((b * 2 ^ k : Nat) : Int) := by
    rw [hm, Nat.min_eq_left hkb, show ((b : Nat) : Int) * 2 ^ k = ((b * 2 ^ k : Nat) : Int) by simp]
    have h2 : b * 2 ^ k < 2 ^ kd.bits := by omega
    generalize b * 2 ^ k = z at h2
    refine wrap_in kd _ ?_ ?_
    · cases kd <;> simp_all [IntKind.min, IntKind.signed] <;> omega
    · cases kd <;> simp_all [IntKind.max, IntKind.signed, IntKind.bits] <;> omega
  rw [h1, ib_or hk ha hb]
end Go.Sl
namespace Go.Sl
open Go
end Go.Sl
namespace Go.Proofs
open Go Go.Sl Tryz
set_option maxRecDepth 100000
/-- What io.EOF and its like hold: a pointer to a block of its own. -/
abbrev EV (a : Addr) : Value := .iface 260 (.pointer (some a))
abbrev RB (gs n cap i : Nat) : Obj := C [.slice (some ⟨gs, 0, none⟩) n cap, .int .i64 (i : Nat), .int .i64 (-1)] 144
abbrev DB (bs : List UInt8) (rest : List Value) (lo hi : Nat) : Obj := .cells (B bs ++ rest).toArray 5 (lo, hi)
abbrev RV (gr : Nat) : Value := .iface 75 (.pointer (some ⟨gr, 0, none⟩))
section
variable {G : HP} {gr gs n cap i k lo hi e3 e5 eE eU : Nat} {f3 f5 : Nat × Nat} {bs : List UInt8} {rest cE' cU' : List Value} {gE gU : Addr} {t3 t5 : List Value}
theorem newReader_is : Ctr prog 40 [.slice (some ⟨gs, 0, none⟩) n cap] G [] (fun r H' => ∃ g, r = .pointer (some ⟨g, 0, none⟩) ∧ H' = [(g, RB gs n cap 0)]) := by
  refine fn_enter 6 func40 rfl ntmps40 rfl ?_
  intro w0
  refine gn 8 ?_
  refine oX (eB [.slice (some ⟨gs, 0, none⟩) n cap, .int .i64 0, .int .i64 (-1)]) ?_
  refine oB ?_; intro g5 _
  refine gn 4 ?_
  refine r_fn1 results40 rfl ?_
  exact ⟨_, rfl, rfl⟩
/-- Nothing is left. -/
theorem read_eof {v : Value} (hE : (3, Obj.cells (EV gE :: t3).toArray e3 f3) ∈ G) : Ctr prog 288 [.pointer (some ⟨gr, 0, none⟩), v] G [(gr, RB gs n cap n)] (fun r H' => r = .tuple #[.int .i64 0, EV gE] ∧ H' = [(gr, RB gs n cap n)]) := by
  refine fn_enter 39 func288 rfl ntmps288 rfl ?_
  intro w0
  refine gn 21 ?_
  refine c_then (by simp [ev, lk]) ?_
  refine gn 8 ?_
  refine r_fn (l := [.tmp 4, .tmp 5]) results288 rfl rfl ?_
  exact ⟨rfl, rfl⟩
theorem DB_cut (h : i + k ≤ bs.length) : CutL (B bs ++ rest) (0 + i * 1) (k * 1) (B ((bs.drop i).take k)) := by
  rw [Nat.zero_add, Nat.mul_one, Nat.mul_one]
  have := CutL.of (l := B bs ++ rest) (i := i) (n := k) (by simp [B]; omega)
  rw [List.drop_append_of_le_length (by simp [B]; omega), List.take_append_of_le_length (by simp [B]; omega)] at this
  simpa [B, List.map_drop, List.map_take] using this
/-- Some are left. -/
theorem read_some {gb ob L capb k : Nat} {pl : List Value} (hD : (gs, DB bs rest lo hi) ∈ G) (hn : bs.length = n) (hc : n ≤ cap) (h63 : cap < 9223372036854775808) (hi' : i < n) (hk : Nat.min (n - i) L = k) (hp : ob + L ≤ pl.length) :
    Ctr prog 288 [.pointer (some ⟨gr, 0, none⟩), .slice (some ⟨gb, ob, none⟩) L capb] G [(gr, RB gs n cap i), (gb, C pl 5)] (fun r H' => r = .tuple #[.int .i64 (k : Nat), .nilIface] ∧ H' = [(gr, RB gs n cap (i + k)), (gb, C (pl.take ob ++ B ((bs.drop i).take k) ++ pl.drop (ob + k)) 5)]) := by
  have hk1 : k ≤ n - i := by rw [← hk]; exact Nat.min_le_left _ _
  have hk2 : k ≤ L := by rw [← hk]; exact Nat.min_le_right _ _
  refine fn_enter 39 func288 rfl ntmps288 rfl ?_
  intro w0
  refine gn 21 ?_
  refine c_ifp rfl (fun h1 => ?_) (fun h1 => ?_)
  · exact absurd h1 (by omega)
  · skip
    refine gn 7 ?_
    refine oT ?_; intro _ _
    refine gn 3 ?_
    refine c_regiong [10] (by kernel_rfl) ?_
    refine lg [0, 1, 2, 3, 1004, 5, 6, 7, 1008, 9] ?_
    refine gL 10 rfl (l_copy runUnderlying72 sizeOf5 rfl rfl rfl (.blk underlying72 (.inr hD) (DB_cut (k := n - i) (by omega)) (B_one _)) hk (.tail .head) (PutL.of (by simp [B]; omega)) (.inr rfl)) ?_
    intro _ _
    refine ld [11] ?_
    refine gn 12 ?_
    refine oT ?_; intro _ _
    refine gn 3 ?_
    refine r_fn (l := [.tmp 4, .tmp 5]) results288 rfl rfl ?_
    have hb : (B ((bs.drop i).take (n - i))).take k = B ((bs.drop i).take k) := by simp [B, List.map_take, List.take_take, Nat.min_eq_left hk1]
    have hl : (B ((bs.drop i).take k)).length = k := by simp [B]; omega
    refine ⟨rfl, ?_⟩
    simp only [Int.toNat_natCast, hb, hl, RB]
end
end Go.Proofs
namespace Go.Proofs
open Go Go.Sl Tryz
set_option maxRecDepth 100000
set_option maxHeartbeats 1000000
section
variable {G : HP} {gr gs gb n cap i k L lo hi e3 e5 eE eU : Nat} {f3 f5 : Nat × Nat} {bs : List UInt8} {rest pl cE' cU' : List Value} {gE gU : Addr} {t3 t5 : List Value}
/-- As many as are asked for. -/
theorem full_is (hD : (gs, DB bs rest lo hi) ∈ G) (hn : bs.length = n) (hc : n ≤ cap) (h63 : cap < 9223372036854775808) (hi' : i + L ≤ n) (hL : 0 < L) (hp : pl.length = L) :
    Ctr prog 201 [RV gr, .slice (some ⟨gb, 0, none⟩) L L, .int .i64 L] G [(gr, RB gs n cap i), (gb, C pl 5)] (fun r H' => r = .tuple #[.int .i64 L, .nilIface] ∧ H' = [(gr, RB gs n cap (i + L)), (gb, C (B ((bs.drop i).take L)) 5)]) := by
  have hrd := read_some (G := G) (gr := gr) (gb := gb) (ob := 0) (L := L) (capb := L) (k := L) (pl := pl) hD hn hc h63 (show i < n by omega) (Nat.min_eq_right (by omega)) (by omega)
  have hpl : pl.take 0 ++ B ((bs.drop i).take L) ++ pl.drop (0 + L) = B ((bs.drop i).take L) := by
    have h0 : pl.drop (0 + L) = [] := List.drop_eq_nil_of_le (by omega)
    rw [h0]; simp
  rw [hpl] at hrd
  refine fn_enter 46 func201 rfl ntmps201 rfl ?_
  intro w0
  refine gn 15 ?_
  refine c_ifp rfl (fun h1 => ?_) (fun h1 => ?_)
  · exact absurd h1 (by omega)
  · skip
    refine gn 4 ?_
    refine c_rounds 2 ?_
    refine gn 7 ?_
    refine o_splitp 17 rfl (fun h2 => ?_) (fun h2 => ?_)
    · refine gn 15 ?_
      refine c_regiong [7] (by kernel_rfl) ?_
      refine lg [0, 1, 2, 4, 5, 6, 3] ?_
      refine gL 7 rfl (lI hrd rfl rfl (.cons .head (.cons .head .nil))) ?_
      rintro ⟨r, H'⟩ ⟨rfl, rfl⟩
      simp only [List.cons_append, List.nil_append]
      refine ld [8, 9, 10, 11, 12] ?_
      refine gn 9 ?_
      refine n_rounds ?_
      refine gn 7 ?_
      refine o_splitp 17 rfl (fun h3 => ?_) (fun h3 => ?_)
      · exact absurd h3 (by omega)
      · skip
        refine gn 19 ?_
        refine c_ifp rfl (fun h4 => ?_) (fun h4 => ?_)
        · refine gn 5 ?_
          refine r_fn (l := [.tmp 6, .tmp 7]) results201 rfl rfl ?_
          exact ⟨by simp, rfl⟩
        · exact absurd h4 (by omega)
    · exact absurd h2 (by simp; omega)
end
end Go.Proofs
namespace Go.Proofs
open Go Go.Sl Tryz
set_option maxRecDepth 100000
set_option maxHeartbeats 1000000
section
variable {G : HP} {gr gs gb n cap i k L lo hi e3 e5 eE eU : Nat} {f3 f5 : Nat × Nat} {bs : List UInt8} {rest pl cE' cU' : List Value} {gE gU : Addr} {t3 t5 : List Value}
theorem readFull_is (hD : (gs, DB bs rest lo hi) ∈ G) (hn : bs.length = n) (hc : n ≤ cap) (h63 : cap < 9223372036854775808) (hi' : i + L ≤ n) (hL : 0 < L) (hp : pl.length = L) :
    Ctr prog 152 [RV gr, .slice (some ⟨gb, 0, none⟩) L L] G [(gr, RB gs n cap i), (gb, C pl 5)] (fun r H' => r = .tuple #[.int .i64 L, .nilIface] ∧ H' = [(gr, RB gs n cap (i + L)), (gb, C (B ((bs.drop i).take L)) 5)]) := by
  refine fn_enter 13 func152 rfl ntmps152 rfl ?_
  intro w0
  refine gn 12 ?_
  refine oL (lC (full_is hD hn hc h63 hi' hL hp) rfl (.cons .head (.cons .head .nil))) ?_
  rintro ⟨r, H'⟩ ⟨rfl, rfl⟩
  simp only [List.cons_append, List.nil_append]
  refine gn 7 ?_
  refine r_fn (l := [.tmp 4, .tmp 5]) results152 rfl rfl ?_
  exact ⟨rfl, rfl⟩
theorem take8 {l : List UInt8} (h : 8 ≤ l.length) : ∃ b0 b1 b2 b3 b4 b5 b6 b7, l.take 8 = [b0, b1, b2, b3, b4, b5, b6, b7] := by
  match l, h with
  | a :: b :: c :: d :: a' :: b' :: c' :: d' :: _, _ => exact ⟨a, b, c, d, a', b', c', d', rfl⟩
end
end Go.Proofs
namespace Go.Proofs
open Go Go.Sl Tryz
set_option maxRecDepth 100000
set_option maxHeartbeats 1000000
section
variable {G : HP} {gr gs gb n cap i k L lo hi e3 e5 eE eU : Nat} {f3 f5 : Nat × Nat} {bs : List UInt8} {rest pl cE' cU' : List Value} {gE gU : Addr} {t3 t5 : List Value}
theorem byte_is {b : UInt8} (hD : (gs, DB bs rest lo hi) ∈ G) (hn : bs.length = n) (h63 : n < 9223372036854775808) (hb : bs[i]? = some b) :
    Ctr prog 289 [.pointer (some ⟨gr, 0, none⟩)] G [(gr, RB gs n cap i)] (fun r H' => r = .tuple #[.int .u8 (b.toNat : Nat), .nilIface] ∧ H' = [(gr, RB gs n cap (i + 1))]) := by
  have hi := (List.getElem?_eq_some_iff.1 hb).1
  have hb2 : (B bs ++ rest)[0 + i * 1]? = some (.int .u8 (b.toNat : Nat)) := by
    rw [Nat.zero_add, Nat.mul_one, List.getElem?_append_left (by simp [B]; exact hi)]
    simp [B, hb]
  refine fn_enter 37 func289 rfl ntmps289 rfl ?_
  intro w0
  refine gn 11 ?_
  refine oT ?_; intro _ _
  refine gn 17 ?_
  refine c_ifp rfl (fun h1 => ?_) (fun h1 => ?_)
  · exact absurd h1 (by omega)
  · skip
    refine gn 26 ?_
    refine oT ?_; intro _ _
    refine gn 10 ?_
    refine r_fn (l := [.tmp 2, .tmp 3]) results289 rfl rfl ?_
    exact ⟨rfl, rfl⟩
theorem byte_eof (hE : (3, Obj.cells (EV gE :: t3).toArray e3 f3) ∈ G) :
    Ctr prog 289 [.pointer (some ⟨gr, 0, none⟩)] G [(gr, RB gs n cap n)] (fun r H' => r = .tuple #[.int .u8 0, EV gE] ∧ H' = [(gr, RB gs n cap n)]) := by
  refine fn_enter 37 func289 rfl ntmps289 rfl ?_
  intro w0
  refine gn 11 ?_
  refine oT ?_; intro _ _
  refine gn 17 ?_
  refine c_then (by simp [ev, lk]) ?_
  refine gn 8 ?_
  refine r_fn (l := [.tmp 2, .tmp 3]) results289 rfl rfl ?_
  exact ⟨rfl, rfl⟩
theorem seek_is (h63 : i < 9223372036854775808) :
    Ctr prog 290 [.pointer (some ⟨gr, 0, none⟩), .int .i64 0, .int .i64 1] G [(gr, RB gs n cap i)] (fun r H' => r = .tuple #[.int .i64 i, .nilIface] ∧ H' = [(gr, RB gs n cap i)]) := by
  refine fn_enter 42 func290 rfl ntmps290 rfl ?_
  intro w0
  refine gn 11 ?_
  refine oT ?_; intro _ _
  refine gn 46 ?_
  refine c_ifp rfl (fun h1 => ?_) (fun h1 => ?_)
  · exact absurd h1 (by omega)
  · skip
    refine gn 8 ?_
    refine oT ?_; intro _ _
    refine gn 10 ?_
    refine r_fn (l := [.tmp 6, .tmp 7]) results290 rfl rfl ?_
    exact ⟨by simp, by simp⟩
theorem toByte_is : CtrP prog 79 [RV gr] G (RV gr) := by
  refine fn_enter 16 func79 rfl ntmps79 rfl ?_
  intro w0
  refine gn 9 ?_
  refine oX (e_ta (r := .tuple #[RV gr, .bool true]) rfl (by intro w; kernel_rfl)) ?_
  refine gn 20 ?_
  refine r_fn1 results79 rfl ?_
  exact ⟨rfl, rfl⟩
theorem toSeek_is : CtrP prog 164 [RV gr] G (RV gr) := by
  refine fn_enter 28 func164 rfl ntmps164 rfl ?_
  intro w0
  refine gn 9 ?_
  refine oX (e_ta (r := .tuple #[RV gr, .bool true]) rfl (by intro w; kernel_rfl)) ?_
  refine gn 20 ?_
  refine r_fn1 results164 rfl ?_
  exact ⟨rfl, rfl⟩
end
end Go.Proofs
namespace Go.Proofs
open Go Go.Sl Tryz
set_option maxRecDepth 100000
set_option maxHeartbeats 1000000
/-- io.EOF and io.ErrUnexpectedEOF, as memory holds them. -/
structure Ge (G : HP) (gE gU : Addr) : Prop where
  eof : ∃ t e f, (3, Obj.cells (EV gE :: t).toArray e f) ∈ G
  uex : ∃ t e f, (5, Obj.cells (EV gU :: t).toArray e f) ∈ G
  bE : ∃ c e, (gE.block, C c e) ∈ G
  bU : ∃ c e, (gU.block, C c e) ∈ G
  ne : gU ≠ gE
theorem Ge.mono {G G' : HP} {gE gU : Addr} (h : Ge G gE gU) (hs : ∀ p ∈ G, p ∈ G') : Ge G' gE gU := by
  obtain ⟨⟨t3, e3, f3, h1⟩, ⟨t5, e5, f5, h2⟩, ⟨c1, e1, h3⟩, ⟨c2, e2, h4⟩, h5⟩ := h
  exact ⟨⟨_, _, _, hs _ h1⟩, ⟨_, _, _, hs _ h2⟩, ⟨_, _, hs _ h3⟩, ⟨_, _, hs _ h4⟩, h5⟩
section
variable {G : HP} {gr gs gb n cap i k L lo hi : Nat} {bs : List UInt8} {rest pl : List Value} {gE gU : Addr} {t3 t5 : List Value}
theorem newMWC_is : Ctr prog 315 [] G [] (fun r H' => ∃ g gx, r = .pointer (some ⟨g, 0, none⟩) ∧ H' = [(g, C [.map (some gx), .int .u64 0] 437), (gx, Mo .u32 [])]) := by
  refine fn_enter 4 func315 rfl ntmps315 rfl ?_
  intro w0
  refine gn 7 ?_
  refine oL (l_mkmap rfl .u32) ?_
  intro gx _
  refine oX (eB [.map (some gx), .int .u64 0]) ?_
  refine oB ?_; intro g3 _
  refine gn 4 ?_
  refine r_fn1 results315 rfl ?_
  exact ⟨_, _, rfl, rfl⟩
end
end Go.Proofs
namespace Go.Proofs
open Go Go.Sl Tryz
set_option maxRecDepth 100000
set_option maxHeartbeats 1000000
section
variable {G : HP} {gr gs gb n cap i k L lo hi : Nat} {bs : List UInt8} {rest pl : List Value} {gE gU : Addr} {t3 t5 : List Value}
theorem newS_is : Ctr prog 148 [] G [] (fun r H' => ∃ gm gx, r = .iface 328 (.pointer (some ⟨gm, 0, none⟩)) ∧ H' = [(gm, C [.map (some gx)] 327), (gx, Mo .u32 [])]) := by
  refine fn_enter 4 func148 rfl ntmps148 rfl ?_
  intro w0
  refine gn 7 ?_
  refine oL (l_mkmap rfl .u32) ?_
  intro gx _
  refine oZ ?_; intro g1 _
  refine oT ?_; intro _ _
  refine gn 9 ?_
  refine r_fn1 results148 rfl ?_
  exact ⟨_, _, rfl, rfl⟩
theorem newM_is : Ctr prog 149 [] G [] (fun r H' => ∃ gm gx, r = .pointer (some ⟨gm, 0, none⟩) ∧ H' = [(gm, C [.map (some gx)] 330), (gx, Mo .u64 [])]) := by
  refine fn_enter 3 func149 rfl ntmps149 rfl ?_
  intro w0
  refine gn 7 ?_
  refine oL (l_mkmap rfl .u64) ?_
  intro gx _
  refine oZ ?_; intro g1 _
  refine oT ?_; intro _ _
  refine gn 8 ?_
  refine r_fn1 results149 rfl ?_
  exact ⟨_, _, rfl, rfl⟩
theorem new_1024 : Ctr prog 76 [.int .u64 1024] G [] (fun r H' => ∃ gm gx, r = .tuple #[.iface 328 (.pointer (some ⟨gm, 0, none⟩)), .nilIface] ∧ H' = [(gm, C [.map (some gx)] 327), (gx, Mo .u32 [])]) := by
  refine fn_enter 13 func76 rfl ntmps76 rfl ?_
  intro w0
  refine gn 21 ?_
  refine oL (lC newS_is rfl .nil) ?_
  rintro ⟨r, H'⟩ ⟨gm, gx, rfl, rfl⟩
  simp only [List.cons_append, List.nil_append]
  refine gn 5 ?_
  refine r_fn (l := [.tmp 2, .tmp 3]) results76 rfl rfl ?_
  exact ⟨_, _, rfl, rfl⟩
theorem new_1025 : Ctr prog 76 [.int .u64 1025] G [] (fun r H' => ∃ gm gx, r = .tuple #[.iface 237 (.pointer (some ⟨gm, 0, none⟩)), .nilIface] ∧ H' = [(gm, C [.map (some gx)] 330), (gx, Mo .u64 [])]) := by
  refine fn_enter 13 func76 rfl ntmps76 rfl ?_
  intro w0
  refine gn 28 ?_
  refine oL (lC newM_is rfl .nil) ?_
  rintro ⟨r, H'⟩ ⟨gm, gx, rfl, rfl⟩
  simp only [List.cons_append, List.nil_append]
  refine gn 6 ?_
  refine r_fn (l := [.tmp 2, .tmp 3]) results76 rfl rfl ?_
  exact ⟨_, _, rfl, rfl⟩
end
end Go.Proofs
namespace Go.Proofs
open Go Go.Sl Tryz
set_option maxRecDepth 100000
set_option maxHeartbeats 1000000
/-- A buffer that is written only. -/
abbrev Bu (v : Value) (lr : Int) : Obj := C [v, .int .i64 0, .int .i8 lr] 86
section
variable {G : HP} {gb g n cap lo hi L : Nat} {A : Option Addr} {lr : Int}
theorem bufLen_is (h3 : n < 9223372036854775808) : Ctr prog 298 [.pointer (some ⟨gb, 0, none⟩)] G [(gb, Bu (.slice A n cap) lr)] (fun r H' => r = .int .i64 n ∧ H' = [(gb, Bu (.slice A n cap) lr)]) := by
  refine fn_enter 13 func298 rfl ntmps298 rfl ?_
  intro w0
  refine gn 21 ?_
  refine r_fn1 results298 rfl ?_
  exact ⟨by simp only [Int.sub_zero], rfl⟩
theorem tg_none (h1 : cap < n + L) (h2 : n ≤ cap) (h3 : cap < 9223372036854775808) : Ctr prog 296 [.pointer (some ⟨gb, 0, none⟩), .int .i64 L] G [(gb, Bu (.slice A n cap) lr)] (fun r H' => r = .tuple #[.int .i64 0, .bool false] ∧ H' = [(gb, Bu (.slice A n cap) lr)]) := by
  refine fn_enter 33 func296 rfl ntmps296 rfl ?_
  intro w0
  refine gn 30 ?_
  refine c_ifp rfl (fun h5 => ?_) (fun h5 => ?_)
  · exact absurd h5 (by omega)
  · skip
    refine gn 9 ?_
    refine r_fn (l := [.tmp 4, .tmp 5]) results296 rfl rfl ?_
    exact ⟨rfl, rfl⟩
theorem tg_room (h1 : n + L ≤ cap) (h3 : cap < 9223372036854775808) : Ctr prog 296 [.pointer (some ⟨gb, 0, none⟩), .int .i64 L] G [(gb, Bu (.slice (some ⟨g, 0, none⟩) n cap) lr)] (fun r H' => r = .tuple #[.int .i64 n, .bool true] ∧ H' = [(gb, Bu (.slice (some ⟨g, 0, none⟩) (n + L) cap) lr)]) := by
  refine fn_enter 33 func296 rfl ntmps296 rfl ?_
  intro w0
  refine gn 30 ?_
  refine c_ifp rfl (fun h5 => ?_) (fun h5 => ?_)
  · refine gn 13 ?_
    refine oT ?_; intro _ _
    refine gn 10 ?_
    refine r_fn (l := [.tmp 4, .tmp 5]) results296 rfl rfl ?_
    exact ⟨rfl, rfl⟩
  · exact absurd h5 (by omega)
end
end Go.Proofs
namespace Go.Proofs
open Go Go.Sl Tryz
set_option maxRecDepth 100000
set_option maxHeartbeats 1000000
theorem idle300 : Idle prog 300 #[] := by
  refine ⟨#[], fun w => by simp [invoke, call300], fun w => ?_⟩
  refine callsD_of_wpS func300 rfl fun c₀ cs hu => ?_
  apply wpS_seq
  apply wpS_region
  simp [wpOpsS, go_sem, recoverD, hu, ntmps300, Exit.thenS]
  refine wpS_cond (t := false) (by simp [Act.eval, Array.replicate]) ?_
  simp only [Bool.false_eq_true, if_false]
  refine wpS_of_wp (wp_skip ?_)
  cases c₀
  simp_all [bodyPostS, results, results300]
section
variable {G : HP} {gb g n cap lo hi L : Nat} {bs : List UInt8} {rest : List Value}
theorem gs_is (hD : (g, DB bs rest lo hi) ∈ G) (hn : bs.length = n) (hc : n ≤ cap) (hs : cap < 2147483648) (hL : L < 2147483648) (h1 : 0 < L) :
    Ctr prog 299 [.slice (some ⟨g, 0, none⟩) n cap, .int .i64 L] G [] (fun r H' => ∃ (g2 : Nat) (rest2 : List Value), r = .slice (some ⟨g2, 0, none⟩) n (n + rest2.length) ∧ L ≤ rest2.length ∧ n + rest2.length < 9223372036854775808 ∧ H' = [(g2, C (B bs ++ rest2) 5)]) := by
  refine fn_enterD 28 func299 rfl ntmps299 rfl ?_
  intro w0
  refine gn 7 ?_
  refine o_defer rfl ?_
  refine gn 12 ?_
  refine c_cut (X := Nat) (fun c => [(0, .slice (some ⟨g, 0, none⟩) n cap), (5, .int .i64 c)]) (fun _ => []) (fun c => n + L ≤ c ∧ c < 17179869184) ?_ ?_
  · skip
    refine gn 9 ?_
    refine c_ifp rfl (fun h2 => ?_) (fun h2 => ?_)
    · refine gn 6 ?_
      exact n_cut (2 * cap) ⟨by omega, by omega⟩ aK (.refl _)
    · skip
      refine gn 1 ?_
      exact n_cut (n + L) ⟨by omega, by omega⟩ aK (.refl _)
  · rintro c ⟨hc1, hc2⟩
    refine gn 4 ?_
    refine oL (l_appZ (n := c) underlying72 underlying3 (info_of typeInfo5) rfl rfl rfl rfl rfl rfl rfl (by omega) (by omega)) ?_
    rintro ⟨g2, cs⟩ ⟨hcs1, hcs2⟩
    simp only at hcs1 hcs2 ⊢
    refine gn 7 ?_
    have hput : PutL cs 0 (B bs) ([] ++ B bs ++ cs.drop (0 + (B bs).length)) := PutL.of (by simp [B]; omega)
    simp only [List.nil_append, Nat.zero_add, B_length, hn] at hput
    have ht : (B bs).take n = B bs := List.take_of_length_le (by rw [B_length]; omega)
    rw [← ht] at hput
    have hcut := CutL.of (l := B bs ++ rest) (i := 0) (n := n * 1) (by rw [List.length_append, B_length]; omega)
    rw [List.drop_zero, Nat.mul_one, List.take_left' (by rw [B_length]; exact hn)] at hcut
    refine oL (l_copy (cap := cs.length) (l := cs) (l' := (B bs).take n ++ cs.drop n) runUnderlying72 sizeOf5 rfl rfl rfl (.blk (vs := B bs) underlying72 (.inr hD) (by rw [Nat.mul_one]; exact hcut) (B_one bs)) (Nat.min_eq_left (show n ≤ c by omega)) .head hput (.inr rfl)) ?_
    intro _ _
    rw [ht]
    refine gn 12 ?_
    refine r_fnxD idle300 results299 (.tmp rfl .nil) (.cons .head .nil) rfl ?_
    refine ⟨g2, cs.drop n, ?_, by simp; omega, by simp; omega, rfl⟩
    rw [List.length_drop, show n + (cs.length - n) = cs.length by omega]
    rfl
end
end Go.Proofs
namespace Go.Proofs
open Go Go.Sl Tryz
set_option maxRecDepth 100000
set_option maxHeartbeats 1000000
/-- A buffer that holds these bytes: its slice, its row's block. -/
inductive Bb : Value → List UInt8 → HP → Prop where
  | nil : Bb (.slice none 0 0) [] []
  | row {g cap lo hi : Nat} {bs : List UInt8} {rest : List Value} (h0 : 0 < bs.length) (h1 : rest.length = cap - bs.length) (h2 : bs.length ≤ cap) (h3 : cap < 9223372036854775808) (h4 : cap ≤ lo ∨ hi = 0) : Bb (.slice (some ⟨g, 0, none⟩) bs.length cap) bs [(g, DB bs rest lo hi)]
section
variable {G : HP} {gb g n cap lo hi L : Nat} {bs : List UInt8} {rest : List Value} {lr : Int}
/-- Room made in a row that has none. -/
theorem grow_row (hn : bs.length = n) (hc : n ≤ cap) (h1 : cap < n + L) (h2 : n < 1073741824) (h3 : L < 1073741824) (h0 : 0 < n) :
    Ctr prog 297 [.pointer (some ⟨gb, 0, none⟩), .int .i64 L] G [(gb, Bu (.slice (some ⟨g, 0, none⟩) n cap) lr), (g, DB bs rest lo hi)] (fun r H' => ∃ (g2 : Nat) (rest2 : List Value), r = .int .i64 n ∧ L ≤ rest2.length ∧ n + rest2.length < 9223372036854775808 ∧ H' = [(gb, Bu (.slice (some ⟨g2, 0, none⟩) (n + L) (n + rest2.length)) lr), (g2, C (B bs ++ rest2) 5)]) := by
  refine fn_enter 110 func297 rfl ntmps297 rfl ?_
  intro w0
  refine gn 8 ?_
  refine oL (lC (bufLen_is (by omega)) rfl (.cons .head .nil)) ?_
  rintro ⟨r, H'⟩ ⟨rfl, rfl⟩
  simp only [List.cons_append, List.nil_append]
  refine gn 9 ?_
  refine o_splitp 13 rfl (fun h5 => ?_) (fun h5 => ?_)
  · exact absurd h5 (by omega)
  · skip
    refine gn 16 ?_
    refine oL (lC (tg_none (by omega) hc (by omega)) rfl (.cons .head .nil)) ?_
    rintro ⟨r, H'⟩ ⟨rfl, rfl⟩
    simp only [List.cons_append, List.nil_append]
    refine gn 53 ?_
    refine c_ifp rfl (fun h6 => ?_) (fun h6 => ?_)
    · exact absurd h6 (by omega)
    · skip
      refine gn 10 ?_
      refine c_ifp rfl (fun h7 => ?_) (fun h7 => ?_)
      · exact absurd h7 (by omega)
      · skip
        refine c_regiong [16, 19] (by kernel_rfl) ?_
        refine lg [0, 1, 2, 3, 1004, 5, 6, 7, 1008, 9, 10, 11, 12, 1013, 14, 15] ?_
        rw [Int.zero_add]
        refine gL 16 rfl (l_callj (HI := []) (HJ := [(g, DB bs rest lo hi)]) call299 (gs_is (g := g) (bs := bs) (L := L) (n := n) (cap := cap) (lo := lo) (hi := hi) (rest := rest) (List.mem_append_right _ (.head _)) hn hc (by omega) (by omega) (by omega)) rfl rfl .nil (fun p hp => .tail _ hp)) ?_
        rintro ⟨r, H'⟩ ⟨g2, rest2, rfl, hr1, hr2, rfl⟩
        simp only [List.cons_append, List.nil_append]
        refine ld [17, 18] ?_
        refine dT 19 ?_
        intro _ _
        refine gn 7 ?_
        refine oT ?_; intro _ _
        refine gn 15 ?_
        refine oT ?_; intro _ _
        refine gn 9 ?_
        refine WR.sel (.cons (.tail .head) (.cons .head .nil)) ?_
        refine r_fn1 results297 rfl ?_
        exact ⟨g2, rest2, rfl, hr1, hr2, rfl⟩
/-- Room made where there is nothing yet. -/
theorem grow_nil (h0 : 0 < L) (h1 : L ≤ 64) :
    Ctr prog 297 [.pointer (some ⟨gb, 0, none⟩), .int .i64 L] G [(gb, Bu (.slice none 0 0) lr)] (fun r H' => ∃ g2 : Nat, r = .int .i64 0 ∧ H' = [(gb, Bu (.slice (some ⟨g2, 0, none⟩) L 64) lr), (g2, C (List.replicate 64 (.int .u8 0)) 5)]) := by
  refine fn_enter 110 func297 rfl ntmps297 rfl ?_
  intro w0
  refine gn 8 ?_
  refine oL (lC (bufLen_is (n := 0) (by omega)) rfl (.cons .head .nil)) ?_
  rintro ⟨r, H'⟩ ⟨rfl, rfl⟩
  simp only [List.cons_append, List.nil_append]
  refine gn 9 ?_
  refine o_splitp 13 rfl (fun h5 => ?_) (fun h5 => ?_)
  · refine gn 16 ?_
    refine oL (lC (tg_none (n := 0) (cap := 0) (L := L) (by omega) (by omega) (by omega)) rfl (.cons .head .nil)) ?_
    rintro ⟨r, H'⟩ ⟨rfl, rfl⟩
    simp only [List.cons_append, List.nil_append]
    refine gn 29 ?_
    refine c_ifp rfl (fun h6 => ?_) (fun h6 => ?_)
    · refine gn 4 ?_
      refine oL (l_mks (l := List.replicate 64 (.int .u8 0)) underlying72 (info_of typeInfo5) rfl rfl rfl rfl (by omega) (by omega) (by decide) (by decide) (made_one (.int .u8 0) 64 rfl)) ?_
      intro g2 _
      refine gn 2 ?_
      refine oT ?_; intro _ _
      refine gn 8 ?_
      refine WR.sel (.cons (.tail .head) (.cons .head .nil)) ?_
      refine r_fn1 results297 rfl ?_
      exact ⟨g2, rfl, rfl⟩
    · exact absurd h6 (by omega)
  · exact absurd rfl h5
end
end Go.Proofs
namespace Go.Proofs
open Go Go.Sl Tryz
set_option maxRecDepth 100000
set_option maxHeartbeats 1000000
section
variable {G : HP} {gb gd n cap lo hi L k : Nat} {bs ds : List UInt8} {rest restd HB : List Value} {lr : Int} {v : Value} {lod hid eD : Nat}
theorem put_cells {bs ds : List UInt8} {rest : List Value} (h : ds.length ≤ rest.length) : PutL (B bs ++ rest) bs.length (B ds) (B (bs ++ ds) ++ rest.drop ds.length) := by
  have := PutL.of (l := B bs ++ rest) (i := bs.length) (vs := B ds) (by rw [List.length_append, B_length, B_length]; omega)
  rw [List.take_left' (B_length bs), B_length] at this
  have hd : (B bs ++ rest).drop (bs.length + ds.length) = rest.drop ds.length := by
    rw [← List.drop_drop, List.drop_left' (B_length bs)]
  rw [hd] at this
  rwa [B_append]
theorem write_is {HB : HP} (hb : Bb v bs HB) (hD : (gd, Obj.cells (B ds ++ restd).toArray eD (lod, hid)) ∈ G) (hL : ds.length = L) (h0 : 0 < L) (h1 : L < 1073741824) (h2 : bs.length < 1073741824) (h3 : bs = [] → L ≤ 64) (hk : L ≤ k) :
    Ctr prog 294 [.pointer (some ⟨gb, 0, none⟩), .slice (some ⟨gd, 0, none⟩) L k] G ((gb, Bu v lr) :: HB) (fun r H' => ∃ (v' : Value) (HB' : HP), r = .tuple #[.int .i64 L, .nilIface] ∧ Bb v' (bs ++ ds) HB' ∧ H' = (gb, Bu v' 0) :: HB') := by
  have hcutd : CutL (B ds ++ restd) 0 (L * 1) (B ds) := by
    have := CutL.of (l := B ds ++ restd) (i := 0) (n := L * 1) (by rw [List.length_append, B_length]; omega)
    rw [List.drop_zero, Nat.mul_one, List.take_left' (by rw [B_length]; exact hL)] at this
    rw [Nat.mul_one]
    exact this
  have htk : (B ds).take L = B ds := List.take_of_length_le (by rw [B_length]; omega)
  cases hb with
  | nil =>
    have hput0 : PutL (List.replicate 64 (.int .u8 0)) 0 (B ds) (B ds ++ (List.replicate 64 (.int .u8 0)).drop ds.length) := put_cells (bs := []) (rest := List.replicate 64 (.int .u8 0)) (by have := h3 rfl; simp; omega)
    refine fn_enter 32 func294 rfl ntmps294 rfl ?_
    intro w0
    refine gn 11 ?_
    refine oT ?_; intro _ _
    refine gn 7 ?_
    refine oL (lC (tg_none (n := 0) (cap := 0) (L := L) (by omega) (by omega) (by omega)) rfl (.cons .head .nil)) ?_
    rintro ⟨r, H'⟩ ⟨rfl, rfl⟩
    simp only [List.cons_append, List.nil_append]
    refine gn 19 ?_
    refine oL (lC (grow_nil h0 (h3 rfl)) rfl (.cons .head .nil)) ?_
    rintro ⟨r, H'⟩ ⟨g2, rfl, rfl⟩
    simp only [List.cons_append, List.nil_append]
    refine gn 12 ?_
    simp only [Int.toNat_zero, Nat.sub_zero, Nat.zero_mul, Nat.add_zero]
    refine oL (l_copy (off := 0) (cap := 64) (l := List.replicate 64 (.int .u8 0)) (l' := B ds ++ (List.replicate 64 (.int .u8 0)).drop ds.length) runUnderlying72 sizeOf5 rfl rfl rfl (.blk (vs := B ds) underlying72 (.inr hD) hcutd (B_one ds)) (Nat.min_self L) (.tail .head) (by rw [htk]; exact hput0) (.inr rfl)) ?_
    intro _ _
    refine gn 5 ?_
    refine WR.sel (.cons .head (.cons .head .nil)) ?_
    refine r_fn (l := [.tmp 4, .tmp 5]) results294 rfl rfl ?_
    refine ⟨_, _, rfl, .row (g := g2) (bs := ds) (cap := 64) (rest := (List.replicate 64 (.int .u8 0)).drop ds.length) (lo := 0) (hi := 0) (by omega) (by simp) (by have := h3 rfl; omega) (by decide) (.inr rfl), ?_⟩
    rw [hL]
  | @row g cap lo hi bs rest hb0 h4 h5 h6 h7 =>
    by_cases hroom : bs.length + L ≤ cap
    · have hput := put_cells (bs := bs) (ds := ds) (rest := rest) (by omega)
      refine fn_enter 32 func294 rfl ntmps294 rfl ?_
      intro w0
      refine gn 11 ?_
      refine oT ?_; intro _ _
      refine gn 7 ?_
      refine oL (lC (tg_room (n := bs.length) (cap := cap) (L := L) hroom (by omega)) rfl (.cons .head .nil)) ?_
      rintro ⟨r, H'⟩ ⟨rfl, rfl⟩
      simp only [List.cons_append, List.nil_append]
      refine gn 26 ?_
      simp only [Int.toNat_natCast, Nat.add_sub_cancel_left, Nat.mul_one, Nat.zero_add]
      refine oL (l_copy (off := bs.length) (cap := cap - bs.length) (l := B bs ++ rest) (l' := B (bs ++ ds) ++ rest.drop ds.length) runUnderlying72 sizeOf5 rfl rfl rfl (.blk (vs := B ds) underlying72 (.inr hD) hcutd (B_one ds)) (Nat.min_self L) (.tail .head) (by rw [htk]; exact hput) (by omega)) ?_
      intro _ _
      refine gn 5 ?_
      refine WR.sel (.cons .head (.cons .head .nil)) ?_
      refine r_fn (l := [.tmp 4, .tmp 5]) results294 rfl rfl ?_
      refine ⟨_, _, rfl, .row (g := g) (bs := bs ++ ds) (cap := cap) (rest := rest.drop ds.length) (lo := lo) (hi := hi) (by simp; omega) (by simp; omega) (by simp; omega) h6 h7, ?_⟩
      rw [List.length_append, hL]
    · refine fn_enter 32 func294 rfl ntmps294 rfl ?_
      intro w0
      refine gn 11 ?_
      refine oT ?_; intro _ _
      refine gn 7 ?_
      refine oL (lC (tg_none (n := bs.length) (cap := cap) (L := L) (by omega) (by omega) (by omega)) rfl (.cons .head .nil)) ?_
      rintro ⟨r, H'⟩ ⟨rfl, rfl⟩
      simp only [List.cons_append, List.nil_append]
      refine gn 19 ?_
      refine oL (lC (grow_row (bs := bs) (n := bs.length) (cap := cap) (L := L) rfl h5 (by omega) h2 h1 hb0) rfl (.cons .head (.cons .head .nil))) ?_
      rintro ⟨r, H'⟩ ⟨g2, rest2, rfl, hr1, hr2, rfl⟩
      simp only [List.cons_append, List.nil_append]
      have hput := put_cells (bs := bs) (ds := ds) (rest := rest2) (by omega)
      refine gn 12 ?_
      simp only [Int.toNat_natCast, Nat.add_sub_cancel_left, Nat.mul_one, Nat.zero_add]
      refine oL (l_copy (off := bs.length) (cap := rest2.length) (l := B bs ++ rest2) (l' := B (bs ++ ds) ++ rest2.drop ds.length) runUnderlying72 sizeOf5 rfl rfl rfl (.blk (vs := B ds) underlying72 (.inr hD) hcutd (B_one ds)) (Nat.min_self L) (.tail .head) (by rw [htk]; exact hput) (.inr rfl)) ?_
      intro _ _
      refine gn 5 ?_
      refine WR.sel (.cons .head (.cons .head .nil)) ?_
      refine r_fn (l := [.tmp 4, .tmp 5]) results294 rfl rfl ?_
      refine ⟨_, _, rfl, .row (g := g2) (bs := bs ++ ds) (cap := bs.length + rest2.length) (rest := rest2.drop ds.length) (lo := 0) (hi := 0) (by simp; omega) (by simp; omega) (by simp; omega) hr2 (.inr rfl), ?_⟩
      rw [List.length_append, hL]
end
end Go.Proofs
namespace Go.Proofs
open Go Go.Sl
structure En where
  v : Int
  c : Int
  h : Int
  d : List UInt8
  o : Int
def cE (x : En) : List Value := [.int .u64 x.v, .int .u64 x.c, .int .u64 x.h, S x.d, .int .u64 x.o]
def cC (x : En) : List Value := [.int .u64 x.v, .int .u64 x.c, .int .u64 x.h, S x.d]
/-- A slice value that holds these entries. -/
inductive EnS (H : HP) : Value → List En → Prop where
  | none {A : Option Addr} {cap : Nat} : EnS H (.slice A 0 cap) []
  | blk {l : List En} {L : List Value} {g off n cap : Nat} {e : TypeId} {fr : Nat × Nat} (hm : (g, Obj.cells L.toArray e fr) ∈ H) (hn : l.length = n) (hc : ∀ i (h : i < l.length), CutL L (off + i * 5) 5 (cE l[i])) : EnS H (.slice (some ⟨g, off, none⟩) n cap) l
end Go.Proofs
namespace Go.Proofs
open Go Go.Sl Tryz
set_option maxRecDepth 100000

def lowb (n : Int) (i : Nat) : UInt8 := UInt8.ofNat (n / 2 ^ (8 * i) % 256).toNat
def lowB (n : Int) (k : Nat) : List UInt8 := (List.range k).map (lowb n)
theorem lowB_succ (n : Int) (k : Nat) : lowB n (k + 1) = lowB n k ++ [lowb n k] := by simp [lowB, List.range_succ]
theorem lowB_length (n : Int) (k : Nat) : (lowB n k).length = k := by simp [lowB]
theorem low_eq (n : Int) (i : Nat) (hi : i < 8) : IntKind.u8.wrap (n.fdiv (2 ^ (min (8 * (i : Int)).toNat 64))) = ((lowb n i).toNat : Int) := by
  have h1 : min (8 * (i : Int)).toNat 64 = 8 * i := by omega
  rw [h1, Int.fdiv_eq_ediv_of_nonneg _ (Int.le_of_lt (Int.pow_pos (by decide)))]
  unfold lowb
  have h2 : IntKind.u8.wrap (n / 2 ^ (8 * i)) = (n / 2 ^ (8 * i)) % 256 := by
    generalize n / 2 ^ (8 * i) = z
    simp [IntKind.wrap, IntKind.bits, IntKind.signed]
  rw [h2]
  have h3 : 0 ≤ n / 2 ^ (8 * i) % 256 := Int.emod_nonneg _ (by decide)
  have h4 : n / 2 ^ (8 * i) % 256 < 256 := Int.emod_lt_of_pos _ (by decide)
  generalize n / 2 ^ (8 * i) % 256 = z at *
  obtain ⟨z, rfl⟩ := Int.eq_ofNat_of_zero_le h3
  simp
  omega
theorem low_is {G HB : HP} {v : Value} {m : Nat} {xs : List Value} {n : Int} {k : Nat} (h : Osl 5 1 v m xs HB) (hk : k ≤ 8) (hm : m ≤ 1000000000) :
    Ctr prog 73 [v, .int .u64 n, .int .i64 k] G HB (fun r H' => Osl 5 1 r (m + k) (xs ++ B (lowB n k)) H') := by
  refine fn_enter 23 func73 rfl ntmps73 rfl ?_
  intro w0
  refine gn 12 ?_
  refine c_loop (X := Nat × Value × HP) (fun y => [(0, y.2.1), (1, .int .u64 n), (2, .int .i64 k), (7, .int .i64 y.1)]) (fun y => y.2.2) (fun y => y.1 ≤ k ∧ Osl 5 1 y.2.1 (m + y.1) (xs ++ B (lowB n y.1)) y.2.2) (fun y => k - y.1) (0, v, HB) ⟨Nat.zero_le _, by simpa [lowB, B] using h⟩ aK (.refl _) ?_
  rintro ⟨i, v', HB'⟩ ⟨hi, ho⟩
  simp only at hi ho ⊢
  refine gn 8 ?_
  refine c_ifp rfl (fun h1 => ?_) (fun h1 => ?_)
  · refine gn 11 ?_
    refine oX (e_as (r := .int .u8 ((lowb n i).toNat : Int)) (e_conv runUnderlying23 runUnderlying5 rfl) (congrArg (Value.int .u8) (low_eq n i (by omega)))) ?_
    refine oL (l_bs1 runUnderlying72 sizeOf5 zeroValue5 rfl rfl rfl) ?_; intro g20 _
    refine oL (l_append (sz := 1) underlying72 (info_of typeInfo5) rfl rfl rfl rfl rfl rfl ho (List.perm_append_comm (l₁ := [_])) (.blk underlying72 (.inl (.head _)) (.take .done) (by simp [Value.oneCell'])) (by show _ * 1 ≤ _; omega) (by omega)) ?_
    rintro ⟨v2, HB2⟩ ho2
    refine gn 9 ?_
    refine n_round' (y := (i, v', HB')) (i + 1, v2, HB2) (by show k - (i + 1) < k - i; omega) ?_ aK _ (.refl _) (List.sublist_append_left _ _)
    refine ⟨by show i + 1 ≤ k; omega, ?_⟩
    simpa [lowB_succ, B_append, B, Nat.add_assoc] using ho2
  · skip
    refine gn 12 ?_
    refine r_fn1 results73 rfl ?_
    have : i = k := by omega
    subst this
    exact ho
end Go.Proofs
namespace Go.Proofs
open Go Go.Sl Tryz
set_option maxRecDepth 100000
set_option maxHeartbeats 1000000
section
variable {G : HP} {g : Nat} {c0 c1 c2 c3 c4 c5 c6 c7 : Int} {k : Nat}
theorem put32_is : Ctr prog 326 [.agg #[], .slice (some ⟨g, 0, none⟩) 4 4, .int .u32 k] G [(g, C [.int .u8 c0, .int .u8 c1, .int .u8 c2, .int .u8 c3] 5)] (fun r H' => r = .tuple #[] ∧ H' = [(g, C (B (lowB (k : Nat) 4)) 5)]) := by
  refine fn_enter 28 func326 rfl ntmps326 rfl ?_
  intro w0
  refine gn 2 ?_
  refine oB ?_; intro g3 _
  refine gn 15 ?_
  refine oT ?_; intro _ _
  refine gn 9 ?_
  refine oT ?_; intro _ _
  refine gn 9 ?_
  refine oT ?_; intro _ _
  refine gn 8 ?_
  refine oT ?_; intro _ _
  refine gn 1 ?_
  refine WN.sel (.cons (.tail .head) .nil) ?_
  refine n_fn0 results326 ?_
  refine ⟨rfl, ?_⟩
  have e0 : IntKind.u8.wrap (k : Int) = ((lowb (k : Nat) 0).toNat : Int) := by
    have := low_eq (k : Nat) 0 (by decide)
    simpa using this
  have e1 : IntKind.u8.wrap (((k : Nat) : Int).fdiv (2 ^ min (Int.toNat 8) IntKind.u32.bits)) = ((lowb (k : Nat) 1).toNat : Int) := low_eq (k : Nat) 1 (by decide)
  have e2 : IntKind.u8.wrap (((k : Nat) : Int).fdiv (2 ^ min (Int.toNat 16) IntKind.u32.bits)) = ((lowb (k : Nat) 2).toNat : Int) := low_eq (k : Nat) 2 (by decide)
  have e3 : IntKind.u8.wrap (((k : Nat) : Int).fdiv (2 ^ min (Int.toNat 24) IntKind.u32.bits)) = ((lowb (k : Nat) 3).toNat : Int) := low_eq (k : Nat) 3 (by decide)
  show [(g, C [.int .u8 (IntKind.u8.wrap (k : Int)), .int .u8 (IntKind.u8.wrap (((k : Nat) : Int).fdiv (2 ^ min (Int.toNat 8) IntKind.u32.bits))), .int .u8 (IntKind.u8.wrap (((k : Nat) : Int).fdiv (2 ^ min (Int.toNat 16) IntKind.u32.bits))), .int .u8 (IntKind.u8.wrap (((k : Nat) : Int).fdiv (2 ^ min (Int.toNat 24) IntKind.u32.bits)))] 5)] = _
  rw [e0, e1, e2, e3]
  rfl
theorem put64_is : Ctr prog 179 [.agg #[], .slice (some ⟨g, 0, none⟩) 8 8, .int .u64 k] G [(g, C [.int .u8 c0, .int .u8 c1, .int .u8 c2, .int .u8 c3, .int .u8 c4, .int .u8 c5, .int .u8 c6, .int .u8 c7] 5)] (fun r H' => r = .tuple #[] ∧ H' = [(g, C (B (lowB (k : Nat) 8)) 5)]) := by
  refine fn_enter 48 func179 rfl ntmps179 rfl ?_
  intro w0
  refine gn 2 ?_
  refine oB ?_; intro g3 _
  refine gn 15 ?_
  refine oT ?_; intro _ _
  refine gn 9 ?_
  refine oT ?_; intro _ _
  refine gn 9 ?_
  refine oT ?_; intro _ _
  refine gn 9 ?_
  refine oT ?_; intro _ _
  refine gn 9 ?_
  refine oT ?_; intro _ _
  refine gn 9 ?_
  refine oT ?_; intro _ _
  refine gn 9 ?_
  refine oT ?_; intro _ _
  refine gn 8 ?_
  refine oT ?_; intro _ _
  refine gn 1 ?_
  refine WN.sel (.cons (.tail .head) .nil) ?_
  refine n_fn0 results179 ?_
  refine ⟨rfl, ?_⟩
  have e0 : IntKind.u8.wrap (k : Int) = ((lowb (k : Nat) 0).toNat : Int) := by
    have := low_eq (k : Nat) 0 (by decide)
    simpa using this
  have e1 : IntKind.u8.wrap (((k : Nat) : Int).fdiv (2 ^ min (Int.toNat 8) IntKind.u64.bits)) = ((lowb (k : Nat) 1).toNat : Int) := low_eq (k : Nat) 1 (by decide)
  have e2 : IntKind.u8.wrap (((k : Nat) : Int).fdiv (2 ^ min (Int.toNat 16) IntKind.u64.bits)) = ((lowb (k : Nat) 2).toNat : Int) := low_eq (k : Nat) 2 (by decide)
  have e3 : IntKind.u8.wrap (((k : Nat) : Int).fdiv (2 ^ min (Int.toNat 24) IntKind.u64.bits)) = ((lowb (k : Nat) 3).toNat : Int) := low_eq (k : Nat) 3 (by decide)
  have e4 : IntKind.u8.wrap (((k : Nat) : Int).fdiv (2 ^ min (Int.toNat 32) IntKind.u64.bits)) = ((lowb (k : Nat) 4).toNat : Int) := low_eq (k : Nat) 4 (by decide)
  have e5 : IntKind.u8.wrap (((k : Nat) : Int).fdiv (2 ^ min (Int.toNat 40) IntKind.u64.bits)) = ((lowb (k : Nat) 5).toNat : Int) := low_eq (k : Nat) 5 (by decide)
  have e6 : IntKind.u8.wrap (((k : Nat) : Int).fdiv (2 ^ min (Int.toNat 48) IntKind.u64.bits)) = ((lowb (k : Nat) 6).toNat : Int) := low_eq (k : Nat) 6 (by decide)
  have e7 : IntKind.u8.wrap (((k : Nat) : Int).fdiv (2 ^ min (Int.toNat 56) IntKind.u64.bits)) = ((lowb (k : Nat) 7).toNat : Int) := low_eq (k : Nat) 7 (by decide)
  show [(g, C [.int .u8 (IntKind.u8.wrap (k : Int)), .int .u8 (IntKind.u8.wrap (((k : Nat) : Int).fdiv (2 ^ min (Int.toNat 8) IntKind.u64.bits))), .int .u8 (IntKind.u8.wrap (((k : Nat) : Int).fdiv (2 ^ min (Int.toNat 16) IntKind.u64.bits))), .int .u8 (IntKind.u8.wrap (((k : Nat) : Int).fdiv (2 ^ min (Int.toNat 24) IntKind.u64.bits))), .int .u8 (IntKind.u8.wrap (((k : Nat) : Int).fdiv (2 ^ min (Int.toNat 32) IntKind.u64.bits))), .int .u8 (IntKind.u8.wrap (((k : Nat) : Int).fdiv (2 ^ min (Int.toNat 40) IntKind.u64.bits))), .int .u8 (IntKind.u8.wrap (((k : Nat) : Int).fdiv (2 ^ min (Int.toNat 48) IntKind.u64.bits))), .int .u8 (IntKind.u8.wrap (((k : Nat) : Int).fdiv (2 ^ min (Int.toNat 56) IntKind.u64.bits)))] 5)] = _
  rw [e0, e1, e2, e3, e4, e5, e6, e7]
  rfl
/-- Numbers written to a buffer. -/
theorem w32_is {gb : Nat} {bs : List UInt8} {HB : HP} {lr : Int} {v : Value} (hb : Bb v bs HB) (h2 : bs.length < 1073741824) :
    Ctr prog 318 [.iface 89 (.pointer (some ⟨gb, 0, none⟩)), .int .u32 k] G ((gb, Bu v lr) :: HB) (fun r H' => r = .nilIface ∧ ∃ (v' : Value) (HB' : HP), Bb v' (bs ++ lowB (k : Nat) 4) HB' ∧ H' = (gb, Bu v' 0) :: HB') := by
  have eD : C (B (lowB (k : Nat) 4)) 5 = DB (lowB (k : Nat) 4) [] 0 0 := by
    show Obj.cells _ _ _ = Obj.cells (B _ ++ []).toArray 5 (0, 0)
    rw [List.append_nil]
  refine fn_enter 20 func318 rfl ntmps318 rfl ?_
  intro w0
  refine gn 7 ?_
  refine oL (l_mks (l := [.int .u8 0, .int .u8 0, .int .u8 0, .int .u8 0]) underlying72 (info_of typeInfo5) rfl rfl rfl rfl (by decide) (by decide) (by decide) (by decide) (made_one (.int .u8 0) 4 rfl)) ?_
  intro g8 _
  refine gn 5 ?_
  refine oX (e_load0 isAgg294 sizeOf294 rfl) ?_
  refine gn 2 ?_
  refine oL (lC put32_is rfl (.cons .head .nil)) ?_
  rintro ⟨r, H'⟩ ⟨rfl, rfl⟩
  simp only [List.cons_append, List.nil_append]
  rw [eD]
  refine gn 6 ?_
  refine oL (l_calli (HJ := [(g8, DB (lowB (k : Nat) 4) [] 0 0)]) call294 (by intro w; kernel_rfl) (write_is hb (List.mem_append_right _ (.head _)) (lowB_length _ _) (by decide) (by decide) h2 (by intro _; decide) (Nat.le_refl _)) rfl rfl rfl (.cons (.tail .head) (Sel.appR [_] HB)) (fun p hp => hp)) ?_
  rintro ⟨r, H'⟩ ⟨v', HB', rfl, hb', rfl⟩
  refine gn 14 ?_
  refine WR.less (fun _ _ h => h) (List.sublist_append_left _ _) ?_
  refine r_fn1 results318 rfl ?_
  exact ⟨rfl, v', HB', hb', rfl⟩
theorem w64_is {gb : Nat} {bs : List UInt8} {HB : HP} {lr : Int} {v : Value} (hb : Bb v bs HB) (h2 : bs.length < 1073741824) :
    Ctr prog 328 [.iface 89 (.pointer (some ⟨gb, 0, none⟩)), .int .u64 k] G ((gb, Bu v lr) :: HB) (fun r H' => r = .nilIface ∧ ∃ (v' : Value) (HB' : HP), Bb v' (bs ++ lowB (k : Nat) 8) HB' ∧ H' = (gb, Bu v' 0) :: HB') := by
  have eD : C (B (lowB (k : Nat) 8)) 5 = DB (lowB (k : Nat) 8) [] 0 0 := by
    show Obj.cells _ _ _ = Obj.cells (B _ ++ []).toArray 5 (0, 0)
    rw [List.append_nil]
  refine fn_enter 20 func328 rfl ntmps328 rfl ?_
  intro w0
  refine gn 7 ?_
  refine oL (l_mks (l := [.int .u8 0, .int .u8 0, .int .u8 0, .int .u8 0, .int .u8 0, .int .u8 0, .int .u8 0, .int .u8 0]) underlying72 (info_of typeInfo5) rfl rfl rfl rfl (by decide) (by decide) (by decide) (by decide) (made_one (.int .u8 0) 8 rfl)) ?_
  intro g8 _
  refine gn 5 ?_
  refine oX (e_load0 isAgg294 sizeOf294 rfl) ?_
  refine gn 2 ?_
  refine oL (lC put64_is rfl (.cons .head .nil)) ?_
  rintro ⟨r, H'⟩ ⟨rfl, rfl⟩
  simp only [List.cons_append, List.nil_append]
  rw [eD]
  refine gn 6 ?_
  refine oL (l_calli (HJ := [(g8, DB (lowB (k : Nat) 8) [] 0 0)]) call294 (by intro w; kernel_rfl) (write_is hb (List.mem_append_right _ (.head _)) (lowB_length _ _) (by decide) (by decide) h2 (by intro _; decide) (Nat.le_refl _)) rfl rfl rfl (.cons (.tail .head) (Sel.appR [_] HB)) (fun p hp => hp)) ?_
  rintro ⟨r, H'⟩ ⟨v', HB', rfl, hb', rfl⟩
  refine gn 14 ?_
  refine WR.less (fun _ _ h => h) (List.sublist_append_left _ _) ?_
  refine r_fn1 results328 rfl ?_
  exact ⟨rfl, v', HB', hb', rfl⟩
end
end Go.Proofs
namespace Go.Proofs
open Tryz
open Go Go.Shelf
def laysInts_ren : Go.Shelf.Ren := ⟨fun | 191 => 191 | 189 => 218 | 125 => 66 | 257 => 227 | 128 => 122 | 129 => 123 | 294 => 241 | 295 => 242 | 296 => 243 | 297 => 244 | 298 => 245 | 299 => 246 | 216 => 247 | 300 => 248 | 301 => 249 | 328 => 261 | 329 => 262 | 330 => 263 | 331 => 264 | 332 => 265 | 215 => 266 | 343 => 272 | n => n, fun | 28 => 99 | 0 => 0 | 3 => 3 | 46 => 131 | 51 => 212 | 53 => 23 | 4 => 4 | 183 => 393 | 182 => 392 | 131 => 220 | 5 => 5 | 9 => 9 | 218 => 408 | 222 => 301 | 228 => 413 | 229 => 356 | n => n, fun n => n⟩
theorem laysInts : Lays.n191 prog laysInts_ren where
  mixed := by kernel_rfl
  f125 := func66.trans (congrArg some (by kernel_rfl))
  f128 := func122.trans (congrArg some (by kernel_rfl))
  f129 := func123.trans (congrArg some (by kernel_rfl))
  f189 := func218.trans (congrArg some (by kernel_rfl))
  f191 := func191.trans (congrArg some (by kernel_rfl))
  f215 := func266.trans (congrArg some (by kernel_rfl))
  f216 := func247.trans (congrArg some (by kernel_rfl))
  f257 := func227.trans (congrArg some (by kernel_rfl))
  f294 := func241.trans (congrArg some (by kernel_rfl))
  f295 := func242.trans (congrArg some (by kernel_rfl))
  f296 := func243.trans (congrArg some (by kernel_rfl))
  f297 := func244.trans (congrArg some (by kernel_rfl))
  f298 := func245.trans (congrArg some (by kernel_rfl))
  f299 := func246.trans (congrArg some (by kernel_rfl))
  f300 := func248.trans (congrArg some (by kernel_rfl))
  f301 := func249.trans (congrArg some (by kernel_rfl))
  f328 := func261.trans (congrArg some (by kernel_rfl))
  f329 := func262.trans (congrArg some (by kernel_rfl))
  f330 := func263.trans (congrArg some (by kernel_rfl))
  f331 := func264.trans (congrArg some (by kernel_rfl))
  f332 := func265.trans (congrArg some (by kernel_rfl))
  f343 := func272.trans (congrArg some (by kernel_rfl))
  t0 := underlying0
  a0 := isAgg0
  z0 := sizeOf0
  v0 := zeroValue0
  t3 := underlying3
  a3 := isAgg3
  z3 := sizeOf3
  v3 := zeroValue3
  t4 := underlying4
  a4 := isAgg4
  z4 := sizeOf4
  v4 := zeroValue4
  t5 := underlying5
  a5 := isAgg5
  z5 := sizeOf5
  v5 := zeroValue5
  t9 := underlying9
  a9 := isAgg9
  z9 := sizeOf9
  v9 := zeroValue9
  t28 := underlying99
  a28 := isAgg99
  z28 := sizeOf99
  v28 := zeroValue99
  t46 := underlying131
  a46 := isAgg131
  z46 := sizeOf131
  v46 := zeroValue131
  t51 := underlying212
  a51 := isAgg212
  z51 := sizeOf212
  v51 := zeroValue212
  t53 := underlying23
  a53 := isAgg23
  z53 := sizeOf23
  v53 := zeroValue23
  t131 := underlying220
  a131 := isAgg220
  z131 := sizeOf220
  v131 := zeroValue220
  t182 := underlying392
  a182 := isAgg392
  z182 := sizeOf392
  v182 := zeroValue392
  t183 := underlying393
  a183 := isAgg393
  z183 := sizeOf393
  v183 := zeroValue393
  t218 := underlying408
  a218 := isAgg408
  z218 := sizeOf408
  v218 := zeroValue408
  t222 := underlying301
  a222 := isAgg301
  z222 := sizeOf301
  v222 := zeroValue301
  t228 := underlying413
  a228 := isAgg413
  z228 := sizeOf413
  v228 := zeroValue413
  t229 := underlying356
  a229 := isAgg356
  z229 := sizeOf356
  v229 := zeroValue356
def laysSlice_ren : Go.Shelf.Ren := ⟨fun | 6 => 34 | 10 => 63 | 11 => 64 | 12 => 65 | 13 => 66 | 14 => 67 | 24 => 122 | 25 => 123 | 26 => 124 | 27 => 125 | 28 => 126 | 29 => 127 | 30 => 128 | 31 => 129 | 32 => 130 | 33 => 131 | 34 => 180 | 35 => 181 | 36 => 182 | 37 => 183 | 38 => 184 | 39 => 215 | n => n, fun | 20 => 20 | 26 => 71 | 35 => 126 | 0 => 0 | 37 => 128 | 3 => 3 | 41 => 131 | 44 => 134 | 49 => 212 | 51 => 23 | 4 => 4 | 54 => 216 | 53 => 215 | 58 => 220 | 5 => 5 | 9 => 9 | 60 => 298 | 64 => 301 | 66 => 355 | 67 => 356 | 17 => 17 | 32 => 123 | 33 => 124 | 82 => 426 | 12 => 12 | 75 => 420 | 76 => 421 | 77 => 422 | 78 => 358 | 79 => 423 | 80 => 424 | n => n, fun n => n⟩
theorem laysSlice : LaysGg.n6 prog laysSlice_ren where
  mixed := by kernel_rfl
  f6 := func34.trans (congrArg some (by kernel_rfl))
  f10 := func63.trans (congrArg some (by kernel_rfl))
  f11 := func64.trans (congrArg some (by kernel_rfl))
  f12 := func65.trans (congrArg some (by kernel_rfl))
  f13 := func66.trans (congrArg some (by kernel_rfl))
  f14 := func67.trans (congrArg some (by kernel_rfl))
  f24 := func122.trans (congrArg some (by kernel_rfl))
  f25 := func123.trans (congrArg some (by kernel_rfl))
  f26 := func124.trans (congrArg some (by kernel_rfl))
  f27 := func125.trans (congrArg some (by kernel_rfl))
  f28 := func126.trans (congrArg some (by kernel_rfl))
  f29 := func127.trans (congrArg some (by kernel_rfl))
  f30 := func128.trans (congrArg some (by kernel_rfl))
  f31 := func129.trans (congrArg some (by kernel_rfl))
  f32 := func130.trans (congrArg some (by kernel_rfl))
  f33 := func131.trans (congrArg some (by kernel_rfl))
  f34 := func180.trans (congrArg some (by kernel_rfl))
  f35 := func181.trans (congrArg some (by kernel_rfl))
  f36 := func182.trans (congrArg some (by kernel_rfl))
  f37 := func183.trans (congrArg some (by kernel_rfl))
  f38 := func184.trans (congrArg some (by kernel_rfl))
  f39 := func215.trans (congrArg some (by kernel_rfl))
  t0 := underlying0
  a0 := isAgg0
  z0 := sizeOf0
  v0 := zeroValue0
  i0 := by kernel_rfl
  t3 := underlying3
  a3 := isAgg3
  z3 := sizeOf3
  v3 := zeroValue3
  i3 := by kernel_rfl
  t4 := underlying4
  a4 := isAgg4
  z4 := sizeOf4
  v4 := zeroValue4
  i4 := by kernel_rfl
  t5 := underlying5
  a5 := isAgg5
  z5 := sizeOf5
  v5 := zeroValue5
  i5 := by kernel_rfl
  t9 := underlying9
  a9 := isAgg9
  z9 := sizeOf9
  v9 := zeroValue9
  i9 := by kernel_rfl
  t12 := underlying12
  a12 := isAgg12
  z12 := sizeOf12
  v12 := zeroValue12
  i12 := by kernel_rfl
  t17 := underlying17
  a17 := isAgg17
  z17 := sizeOf17
  v17 := zeroValue17
  i17 := by kernel_rfl
  t20 := underlying20
  a20 := isAgg20
  z20 := sizeOf20
  v20 := zeroValue20
  i20 := by kernel_rfl
  t26 := underlying71
  a26 := isAgg71
  z26 := sizeOf71
  v26 := zeroValue71
  i26 := by kernel_rfl
  t32 := underlying123
  a32 := isAgg123
  z32 := sizeOf123
  v32 := zeroValue123
  i32 := by kernel_rfl
  t33 := underlying124
  a33 := isAgg124
  z33 := sizeOf124
  v33 := zeroValue124
  i33 := by kernel_rfl
  t35 := underlying126
  a35 := isAgg126
  z35 := sizeOf126
  v35 := zeroValue126
  i35 := by kernel_rfl
  t37 := underlying128
  a37 := isAgg128
  z37 := sizeOf128
  v37 := zeroValue128
  i37 := by kernel_rfl
  t41 := underlying131
  a41 := isAgg131
  z41 := sizeOf131
  v41 := zeroValue131
  i41 := by kernel_rfl
  t44 := underlying134
  a44 := isAgg134
  z44 := sizeOf134
  v44 := zeroValue134
  i44 := by kernel_rfl
  t49 := underlying212
  a49 := isAgg212
  z49 := sizeOf212
  v49 := zeroValue212
  i49 := by kernel_rfl
  t51 := underlying23
  a51 := isAgg23
  z51 := sizeOf23
  v51 := zeroValue23
  i51 := by kernel_rfl
  t53 := underlying215
  a53 := isAgg215
  z53 := sizeOf215
  v53 := zeroValue215
  i53 := by kernel_rfl
  t54 := underlying216
  a54 := isAgg216
  z54 := sizeOf216
  v54 := zeroValue216
  i54 := by kernel_rfl
  t58 := underlying220
  a58 := isAgg220
  z58 := sizeOf220
  v58 := zeroValue220
  i58 := by kernel_rfl
  t60 := underlying298
  a60 := isAgg298
  z60 := sizeOf298
  v60 := zeroValue298
  i60 := by kernel_rfl
  t64 := underlying301
  a64 := isAgg301
  z64 := sizeOf301
  v64 := zeroValue301
  i64 := by kernel_rfl
  t66 := underlying355
  a66 := isAgg355
  z66 := sizeOf355
  v66 := zeroValue355
  i66 := by kernel_rfl
  t67 := underlying356
  a67 := isAgg356
  z67 := sizeOf356
  v67 := zeroValue356
  i67 := by kernel_rfl
  t75 := underlying420
  a75 := isAgg420
  z75 := sizeOf420
  v75 := zeroValue420
  i75 := by kernel_rfl
  t76 := underlying421
  a76 := isAgg421
  z76 := sizeOf421
  v76 := zeroValue421
  i76 := by kernel_rfl
  t77 := underlying422
  a77 := isAgg422
  z77 := sizeOf422
  v77 := zeroValue422
  i77 := by kernel_rfl
  t78 := underlying358
  a78 := isAgg358
  z78 := sizeOf358
  v78 := zeroValue358
  i78 := by kernel_rfl
  t79 := underlying423
  a79 := isAgg423
  z79 := sizeOf423
  v79 := zeroValue423
  i79 := by kernel_rfl
  t80 := underlying424
  a80 := isAgg424
  z80 := sizeOf424
  v80 := zeroValue424
  i80 := by kernel_rfl
  t82 := underlying426
  a82 := isAgg426
  z82 := sizeOf426
  v82 := zeroValue426
  i82 := by kernel_rfl
end Go.Proofs
namespace Go.Proofs
open Go Go.Sl Tryz
set_option maxRecDepth 100000

def codedL (l : List En) (code : Int) : List En := l.filter (fun x => decide (x.h = code))
def cells5 (l : List En) : List Value := l.flatMap cE
theorem cells5_length (l : List En) : (cells5 l).length = l.length * 5 := by
  induction l with
  | nil => rfl
  | cons x l ih => simp [cells5, cE] at ih ⊢; omega
theorem codedL_take {l : List En} {code : Int} {i : Nat} (h : i < l.length) : codedL (l.take (i + 1)) code = codedL (l.take i) code ++ if l[i].h = code then [l[i]] else [] := by
  simp only [codedL]
  rw [List.take_succ_eq_append_getElem h, List.filter_append]
  congr 1
  by_cases hc : l[i].h = code <;> simp [hc]
theorem coded_is {G : HP} {v : Value} {l : List En} {code : Int} (h : EnS G v l) (hl : l.length ≤ 1000) :
    Ctr prog 74 [v, .int .u64 code] G [] (fun r H' => Osl 56 5 r (codedL l code).length (cells5 (codedL l code)) H') := by
  cases h with
  | none =>
    refine fn_enter 25 func74 rfl ntmps74 rfl ?_
    intro w0
    refine gn 19 ?_
    refine c_rounds 1 ?_
    refine gn 19 ?_
    refine r_fn1 results74 rfl ?_
    exact .nil
  | @blk l L g off n cap e fr hm hn hc =>
    refine fn_enter 25 func74 rfl ntmps74 rfl ?_
    intro w0
    refine gn 19 ?_
    refine c_loop (X := Nat × Value × HP) (fun y => [(1, .int .u64 code), (5, y.2.1), (8, .slice (some ⟨g, off, none⟩) n cap), (9, .int .i64 n), (10, .int .i64 y.1)]) (fun y => y.2.2) (fun y => y.1 ≤ n ∧ Osl 56 5 y.2.1 (codedL (l.take y.1) code).length (cells5 (codedL (l.take y.1) code)) y.2.2) (fun y => n - y.1) (0, .slice none 0 0, []) ⟨Nat.zero_le _, .nil⟩ aK (.refl _) ?_
    rintro ⟨i, v', HB'⟩ ⟨hi, ho⟩
    simp only at hi ho ⊢
    refine gn 6 ?_
    refine c_ifp rfl (fun h2 => ?_) (fun h2 => ?_)
    · have hi2 : i < l.length := by omega
      have hci := hc i hi2
      have hnx := codedL_take (code := code) hi2
      have hlen : (codedL (l.take i) code).length ≤ l.length := Nat.le_trans (List.length_filter_le _ _) (by simp; omega)
      generalize l[i] = x at hci hnx
      obtain ⟨xv, xc, xh, xd, xo⟩ := x
      simp only [cE] at hci hnx
      refine gn 7 ?_
      refine oX (e_loada isAgg56 sizeOf56 rfl (.inr hm) hci) ?_
      refine oZ ?_; intro g7 _
      refine oL (l_storea sizeOf56 rfl rfl rfl (by simp [Value.oneCell']) .head (.take (.take (.take (.take (.take .done))))) nofrs0) ?_
      intro _ _
      refine gn 4 ?_
      refine oX (e_fa runUnderlying56 rfl sizeOf25 rfl rfl) ?_
      refine oX (e_fa runUnderlying25 rfl sizeOf23 rfl rfl) ?_
      refine gn 5 ?_
      refine c_ifp rfl (fun h3 => ?_) (fun h3 => ?_)
      · refine gn 3 ?_
        refine oL (l_bs (l := [.int .u64 xv, .int .u64 xc, .int .u64 xh, S xd, .int .u64 xo]) runUnderlying22 sizeOf56 zeroValue56 rfl rfl rfl rfl (by kernel_rfl)) ?_
        intro g21 _
        refine oL (l_append (sz := 5) underlying22 (info_of typeInfo56) rfl rfl rfl rfl rfl rfl ho (List.perm_append_comm (l₁ := [_, _])) (.blk underlying22 (.inl (.head _)) (.take (.take (.take (.take (.take .done))))) (by simp [Value.oneCell'])) (by show _ * 48 ≤ _; omega) (by omega)) ?_
        rintro ⟨v2, HB2⟩ ho2
        refine gn 8 ?_
        refine n_round' (y := (i, v', HB')) (i + 1, v2, HB2) (by show n - (i + 1) < n - i; omega) ?_ aK _ (.refl _) (List.sublist_append_left _ _)
        refine ⟨by show i + 1 ≤ n; omega, ?_⟩
        simp only [hnx]
        simpa [cells5, cE, show xh = code from h3] using ho2
      · skip
        refine gn 7 ?_
        refine n_round' (y := (i, v', HB')) (i + 1, v', HB') (by show n - (i + 1) < n - i; omega) ?_ aK _ (.refl _) (List.sublist_cons_self _ _)
        refine ⟨by show i + 1 ≤ n; omega, ?_⟩
        simp only [hnx]
        simpa [show ¬ xh = code from h3] using ho
    · skip
      refine gn 12 ?_
      refine r_fn1 results74 rfl ?_
      have : i = l.length := by omega
      subst this
      simpa using ho
end Go.Proofs

/- bytes.Buffer's Write; Entries, as memory holds them; Numbers, their lowest byte first; Numbers written; A part of an index, read; The shelf's contracts of sort.Ints and sort.Slice hold of this program: the bodies are the shelf's, other numbers in them; Entries of one hash function; The program's functions for which the machine stands in, and its deferred closure; The swap that sort.SliceStable is handed, at entries; Which of two entries comes first. (A part of the proof of this: for every input laws.FnIxRead returns true and its arguments read as they did, the listed package variables being what the program lays.) -/
import Derived.Test.YtochgglejmfelaaGreatDoorG02
import Derived.Test.YtochgglejmfelaaGreatDoorG04
import Derived.Test.YtochgglejmfelaaGreatDoorProg
import Derived.KernelRfl
import Derived.Shelf.Slices.In.SortNone2
import Derived.Shelf.Sort.Plain
import Derived.Shelf.GgSortFunc.Whole
import Derived.WalkKit
import Derived.Lib.ReflectliteSlice
import Derived.Lib.Bytealg
import Derived.Lib.ReflectliteSwap
namespace Go.Proofs
open Go Go.Sl Tryz
set_option maxRecDepth 100000
set_option maxHeartbeats 1000000
section
variable {G : HP} {gb gd n cap lo hi L k : Nat} {bs ds : List UInt8} {rest restd HB : List Value} {lr : Int} {v : Value} {lod hid : Nat}
theorem put_cells {bs ds : List UInt8} {rest : List Value} (h : ds.length ≤ rest.length) : PutL (B bs ++ rest) bs.length (B ds) (B (bs ++ ds) ++ rest.drop ds.length) := by
  have := PutL.of (l := B bs ++ rest) (i := bs.length) (vs := B ds) (by rw [List.length_append, B_length, B_length]; omega)
  rw [List.take_left' (B_length bs), B_length] at this
  have hd : (B bs ++ rest).drop (bs.length + ds.length) = rest.drop ds.length := by
    rw [← List.drop_drop, List.drop_left' (B_length bs)]
  rw [hd] at this
  rwa [B_append]
theorem write_is {HB : HP} (hb : Bb v bs HB) (hD : (gd, DB ds restd lod hid) ∈ G) (hL : ds.length = L) (h0 : 0 < L) (h1 : L < 1073741824) (h2 : bs.length < 1073741824) (h3 : bs = [] → L ≤ 64) (hk : L ≤ k) :
    Ctr Tryz.prog 294 [.pointer (some ⟨gb, 0, none⟩), .slice (some ⟨gd, 0, none⟩) L k] G ((gb, Bu v lr) :: HB) (fun r H' => ∃ (v' : Value) (HB' : HP), r = .tuple #[.int .i64 L, .nilIface] ∧ Bb v' (bs ++ ds) HB' ∧ H' = (gb, Bu v' 0) :: HB') := by
  have hcutd : CutL (B ds ++ restd) 0 (L * 1) (B ds) := by
    have := CutL.of (l := B ds ++ restd) (i := 0) (n := L * 1) (by rw [List.length_append, B_length]; omega)
    rw [List.drop_zero, Nat.mul_one, List.take_left' (by rw [B_length]; exact hL)] at this
    rw [Nat.mul_one]
    exact this
  have htk : (B ds).take L = B ds := List.take_of_length_le (by rw [B_length]; omega)
  cases hb with
  | nil =>
    have hput0 : PutL (List.replicate 64 (.int .u8 0)) 0 (B ds) (B ds ++ (List.replicate 64 (.int .u8 0)).drop ds.length) := put_cells (bs := []) (rest := List.replicate 64 (.int .u8 0)) (by have := h3 rfl; simp; omega)
    refine fn_enter 32 func294 rfl ntmps294 rfl ?_
    intro w0
    refine cR <| oA rfl <| oA rfl <| oN <| cR <| oM rfl <| oC rfl <| oX (e_fak 2 runUnderlying86 rfl sizeOf84 rfl rfl rfl) ?_
    refine o_l rfl (l_store sizeOf84 rfl rfl rfl .head (.tail (.tail .head)) (by omega)) ?_; intro _ _
    refine oN <| cR <| oM rfl <| oM rfl <| oX (e_lenl runUnderlying72 rfl) ?_
    refine o_l rfl (l_call call296 (tg_none (n := 0) (cap := 0) (L := L) (by omega) (by omega) (by omega)) rfl rfl (.cons .head .nil)) ?_
    rintro ⟨r, H'⟩ ⟨rfl, rfl⟩
    simp only [List.cons_append, List.nil_append]
    refine oM rfl <| oX (e_extract rfl rfl) <| oX (e_extract rfl rfl) <| oA rfl <| oA rfl <| oN <| c_seq <| cR <| oM rfl <| oX (e_not rfl) <| oN <| c_then rfl <| c_region <| oM rfl <| oM rfl <| oX (e_lenl runUnderlying72 rfl) ?_
    refine o_l rfl (l_call call297 (grow_nil h0 (h3 rfl)) rfl rfl (.cons .head .nil)) ?_
    rintro ⟨r, H'⟩ ⟨g2, rfl, rfl⟩
    simp only [List.cons_append, List.nil_append]
    refine oA rfl <| oN <| cR <| oM rfl <| oC rfl <| oX (e_fak 0 runUnderlying86 rfl sizeOf72 rfl rfl rfl) <| oX (e_load isAgg72 rfl (.inl M0) rfl) <| oM rfl <| oX (e_sl_l runUnderlying72 sizeOf5 rfl rfl (by omega) (by omega) (by omega)) <| oM rfl ?_
    simp only [Int.toNat_zero, Nat.sub_zero, Nat.zero_mul, Nat.add_zero]
    refine o_l rfl (l_copy (off := 0) (cap := 64) (l := List.replicate 64 (.int .u8 0)) (l' := B ds ++ (List.replicate 64 (.int .u8 0)).drop ds.length) runUnderlying72 sizeOf5 rfl rfl rfl (.blk (vs := B ds) underlying72 (.inr hD) hcutd (B_one ds)) (Nat.min_self L) (.tail .head) (by rw [htk]; exact hput0) (.inr rfl)) ?_
    intro _ _
    refine oA rfl <| oA rfl <| oN <| c_ret ?_
    refine WR.sel (.cons .head (.cons .head .nil)) ?_
    refine r_fn (l := [.tmp 4, .tmp 5]) results294 rfl rfl ?_
    refine ⟨_, _, rfl, .row (g := g2) (bs := ds) (cap := 64) (rest := (List.replicate 64 (.int .u8 0)).drop ds.length) (lo := 0) (hi := 0) (by omega) (by simp) (by have := h3 rfl; omega) (by decide) (.inr rfl), ?_⟩
    rw [hL]
  | @row g cap lo hi bs rest hb0 h4 h5 h6 h7 =>
    by_cases hroom : bs.length + L ≤ cap
    · have hput := put_cells (bs := bs) (ds := ds) (rest := rest) (by omega)
      refine fn_enter 32 func294 rfl ntmps294 rfl ?_
      intro w0
      refine cR <| oA rfl <| oA rfl <| oN <| cR <| oM rfl <| oC rfl <| oX (e_fak 2 runUnderlying86 rfl sizeOf84 rfl rfl rfl) ?_
      refine o_l rfl (l_store sizeOf84 rfl rfl rfl .head (.tail (.tail .head)) (by omega)) ?_; intro _ _
      refine oN <| cR <| oM rfl <| oM rfl <| oX (e_lenl runUnderlying72 rfl) ?_
      refine o_l rfl (l_call call296 (tg_room (n := bs.length) (cap := cap) (L := L) hroom (by omega)) rfl rfl (.cons .head .nil)) ?_
      rintro ⟨r, H'⟩ ⟨rfl, rfl⟩
      simp only [List.cons_append, List.nil_append]
      refine oM rfl <| oX (e_extract rfl rfl) <| oX (e_extract rfl rfl) <| oA rfl <| oA rfl <| oN <| c_seq <| cR <| oM rfl <| oX (e_not rfl) <| oN <| cL rfl <| cR <| oM rfl <| oC rfl <| oX (e_fak 0 runUnderlying86 rfl sizeOf72 rfl rfl rfl) <| oX (e_load isAgg72 rfl (.inl M0) rfl) <| oM rfl <| oX (e_sl_l runUnderlying72 sizeOf5 rfl rfl (by omega) (by omega) (by omega)) <| oM rfl ?_
      simp only [Int.toNat_natCast, Nat.add_sub_cancel_left, Nat.mul_one, Nat.zero_add]
      refine o_l rfl (l_copy (off := bs.length) (cap := cap - bs.length) (l := B bs ++ rest) (l' := B (bs ++ ds) ++ rest.drop ds.length) runUnderlying72 sizeOf5 rfl rfl rfl (.blk (vs := B ds) underlying72 (.inr hD) hcutd (B_one ds)) (Nat.min_self L) (.tail .head) (by rw [htk]; exact hput) (by omega)) ?_
      intro _ _
      refine oA rfl <| oA rfl <| oN <| c_ret ?_
      refine WR.sel (.cons .head (.cons .head .nil)) ?_
      refine r_fn (l := [.tmp 4, .tmp 5]) results294 rfl rfl ?_
      refine ⟨_, _, rfl, .row (g := g) (bs := bs ++ ds) (cap := cap) (rest := rest.drop ds.length) (lo := lo) (hi := hi) (by simp; omega) (by simp; omega) (by simp; omega) h6 h7, ?_⟩
      rw [List.length_append, hL]
    · refine fn_enter 32 func294 rfl ntmps294 rfl ?_
      intro w0
      refine cR <| oA rfl <| oA rfl <| oN <| cR <| oM rfl <| oC rfl <| oX (e_fak 2 runUnderlying86 rfl sizeOf84 rfl rfl rfl) ?_
      refine o_l rfl (l_store sizeOf84 rfl rfl rfl .head (.tail (.tail .head)) (by omega)) ?_; intro _ _
      refine oN <| cR <| oM rfl <| oM rfl <| oX (e_lenl runUnderlying72 rfl) ?_
      refine o_l rfl (l_call call296 (tg_none (n := bs.length) (cap := cap) (L := L) (by omega) (by omega) (by omega)) rfl rfl (.cons .head .nil)) ?_
      rintro ⟨r, H'⟩ ⟨rfl, rfl⟩
      simp only [List.cons_append, List.nil_append]
      refine oM rfl <| oX (e_extract rfl rfl) <| oX (e_extract rfl rfl) <| oA rfl <| oA rfl <| oN <| c_seq <| cR <| oM rfl <| oX (e_not rfl) <| oN <| c_then rfl <| c_region <| oM rfl <| oM rfl <| oX (e_lenl runUnderlying72 rfl) ?_
      refine o_l rfl (l_call call297 (grow_row (bs := bs) (n := bs.length) (cap := cap) (L := L) rfl h5 (by omega) h2 h1 hb0) rfl rfl (.cons .head (.cons .head .nil))) ?_
      rintro ⟨r, H'⟩ ⟨g2, rest2, rfl, hr1, hr2, rfl⟩
      simp only [List.cons_append, List.nil_append]
      have hput := put_cells (bs := bs) (ds := ds) (rest := rest2) (by omega)
      refine oA rfl <| oN <| cR <| oM rfl <| oC rfl <| oX (e_fak 0 runUnderlying86 rfl sizeOf72 rfl rfl rfl) <| oX (e_load isAgg72 rfl (.inl M0) rfl) <| oM rfl <| oX (e_sl_l runUnderlying72 sizeOf5 rfl rfl (by omega) (by omega) (by omega)) <| oM rfl ?_
      simp only [Int.toNat_natCast, Nat.add_sub_cancel_left, Nat.mul_one, Nat.zero_add]
      refine o_l rfl (l_copy (off := bs.length) (cap := rest2.length) (l := B bs ++ rest2) (l' := B (bs ++ ds) ++ rest2.drop ds.length) runUnderlying72 sizeOf5 rfl rfl rfl (.blk (vs := B ds) underlying72 (.inr hD) hcutd (B_one ds)) (Nat.min_self L) (.tail .head) (by rw [htk]; exact hput) (.inr rfl)) ?_
      intro _ _
      refine oA rfl <| oA rfl <| oN <| c_ret ?_
      refine WR.sel (.cons .head (.cons .head .nil)) ?_
      refine r_fn (l := [.tmp 4, .tmp 5]) results294 rfl rfl ?_
      refine ⟨_, _, rfl, .row (g := g2) (bs := bs ++ ds) (cap := bs.length + rest2.length) (rest := rest2.drop ds.length) (lo := 0) (hi := 0) (by simp; omega) (by simp; omega) (by simp; omega) hr2 (.inr rfl), ?_⟩
      rw [List.length_append, hL]
end
end Go.Proofs
namespace Go.Proofs
open Go Go.Sl
structure En where
  v : Int
  c : Int
  h : Int
  d : List UInt8
  o : Int
def cE (x : En) : List Value := [.int .u64 x.v, .int .u64 x.c, .int .u64 x.h, S x.d, .int .u64 x.o]
def cC (x : En) : List Value := [.int .u64 x.v, .int .u64 x.c, .int .u64 x.h, S x.d]
/-- A slice value that holds these entries. -/
inductive EnS (H : HP) : Value → List En → Prop where
  | none {A : Option Addr} {cap : Nat} : EnS H (.slice A 0 cap) []
  | blk {l : List En} {L : List Value} {g off n cap : Nat} {e : TypeId} {fr : Nat × Nat} (hm : (g, Obj.cells L.toArray e fr) ∈ H) (hn : l.length = n) (hc : ∀ i (h : i < l.length), CutL L (off + i * 5) 5 (cE l[i])) : EnS H (.slice (some ⟨g, off, none⟩) n cap) l
end Go.Proofs
namespace Go.Proofs
open Go Go.Sl Tryz
set_option maxRecDepth 100000

def lowb (n : Int) (i : Nat) : UInt8 := UInt8.ofNat (n / 2 ^ (8 * i) % 256).toNat
def lowB (n : Int) (k : Nat) : List UInt8 := (List.range k).map (lowb n)
theorem lowB_succ (n : Int) (k : Nat) : lowB n (k + 1) = lowB n k ++ [lowb n k] := by simp [lowB, List.range_succ]
theorem lowB_length (n : Int) (k : Nat) : (lowB n k).length = k := by simp [lowB]
theorem low_eq (n : Int) (i : Nat) (hi : i < 8) : IntKind.u8.wrap (n.fdiv (2 ^ (min (8 * (i : Int)).toNat 64))) = ((lowb n i).toNat : Int) := by
  have h1 : min (8 * (i : Int)).toNat 64 = 8 * i := by omega
  rw [h1, Int.fdiv_eq_ediv_of_nonneg _ (Int.le_of_lt (Int.pow_pos (by decide)))]
  unfold lowb
  have h2 : IntKind.u8.wrap (n / 2 ^ (8 * i)) = (n / 2 ^ (8 * i)) % 256 := by
    generalize n / 2 ^ (8 * i) = z
    simp [IntKind.wrap, IntKind.bits, IntKind.signed]
  rw [h2]
  have h3 : 0 ≤ n / 2 ^ (8 * i) % 256 := Int.emod_nonneg _ (by decide)
  have h4 : n / 2 ^ (8 * i) % 256 < 256 := Int.emod_lt_of_pos _ (by decide)
  generalize n / 2 ^ (8 * i) % 256 = z at *
  obtain ⟨z, rfl⟩ := Int.eq_ofNat_of_zero_le h3
  simp
  omega
theorem low_is {G HB : HP} {v : Value} {m : Nat} {xs : List Value} {n : Int} {k : Nat} (h : Osl 5 1 v m xs HB) (hk : k ≤ 8) (hm : m ≤ 1000000000) :
    Ctr Tryz.prog 73 [v, .int .u64 n, .int .i64 k] G HB (fun r H' => Osl 5 1 r (m + k) (xs ++ B (lowB n k)) H') := by
  refine fn_enter 23 func73 rfl ntmps73 rfl ?_
  intro w0
  refine cR <| oA rfl <| oN <| c_seq <| cR <| oA rfl <| oN <| c_block ?_
  refine c_loop (X := Nat × Value × HP) (fun y => [(0, y.2.1), (1, .int .u64 n), (2, .int .i64 k), (7, .int .i64 y.1)]) (fun y => y.2.2) (fun y => y.1 ≤ k ∧ Osl 5 1 y.2.1 (m + y.1) (xs ++ B (lowB n y.1)) y.2.2) (fun y => k - y.1) (0, v, HB) ⟨Nat.zero_le _, by simpa [lowB, B] using h⟩ (sub_cons rfl (sub_cons rfl (sub_cons rfl (sub_cons rfl sub_nil)))) (.refl _) ?_
  rintro ⟨i, v', HB'⟩ ⟨hi, ho⟩
  simp only at hi ho ⊢
  refine c_seq <| cR <| oM rfl <| oM rfl <| oX (e_lss rfl rfl) <| oN ?_
  refine c_ifp rfl (fun h1 => ?_) (fun h1 => ?_)
  · refine c_skip <| n_code <| c_seq <| c_block <| c_region <| oM rfl <| oM rfl <| oM rfl <| oX (e_muln rfl rfl (by simp only [inR]; omega)) <| oX (e_convn runUnderlying3 runUnderlying131 rfl (by simp only [inR]; omega)) <| oX (e_shr rfl rfl (by omega)) <| oX (e_as (r := .int .u8 ((lowb n i).toNat : Int)) (e_conv runUnderlying23 runUnderlying5 rfl) (congrArg (Value.int .u8) (low_eq n i (by omega)))) ?_
    refine o_l rfl (l_bs1 runUnderlying72 sizeOf5 zeroValue5 rfl rfl rfl) ?_; intro g20 _
    refine o_l rfl (l_append (sz := 1) underlying72 (info_of typeInfo5) rfl rfl rfl rfl rfl rfl ho (List.perm_append_comm (l₁ := [_])) (.blk underlying72 (.inl M0) (.take .done) (by simp [Value.oneCell'])) (by show _ * 1 ≤ _; omega) (by omega)) ?_
    rintro ⟨v2, HB2⟩ ho2
    refine oA rfl <| o_nil <| n_block <| n_code <| c_region <| oM rfl <| oX (e_addn rfl rfl (by simp only [inR]; omega)) <| oA rfl <| o_nil ?_
    refine n_round' (y := (i, v', HB')) (i + 1, v2, HB2) (by show k - (i + 1) < k - i; omega) ?_ (sub_cons rfl (sub_cons rfl (sub_cons rfl (sub_cons rfl sub_nil)))) _ (.refl _) (List.sublist_append_left _ _)
    refine ⟨by show i + 1 ≤ k; omega, ?_⟩
    simpa [lowB_succ, B_append, B, Nat.add_assoc] using ho2
  · skip
    refine c_exit ?_; refine x_code ?_; refine x_upto ?_; refine x_here ?_
    refine n_code <| cR <| oM rfl <| oA rfl <| oN <| c_ret ?_
    refine r_fn1 results73 rfl ?_
    have : i = k := by omega
    subst this
    exact ho
end Go.Proofs
namespace Go.Proofs
open Go Go.Sl Tryz
set_option maxRecDepth 100000
set_option maxHeartbeats 1000000
section
variable {G : HP} {g : Nat} {c0 c1 c2 c3 c4 c5 c6 c7 : Int} {k : Nat}
theorem put32_is : Ctr Tryz.prog 326 [.agg #[], .slice (some ⟨g, 0, none⟩) 4 4, .int .u32 k] G [(g, C [.int .u8 c0, .int .u8 c1, .int .u8 c2, .int .u8 c3] 5)] (fun r H' => r = .tuple #[] ∧ H' = [(g, C (B (lowB (k : Nat) 4)) 5)]) := by
  refine fn_enter 28 func326 rfl ntmps326 rfl ?_
  intro w0
  refine cR ?_
  refine o_l rfl (l_box rfl rfl rfl) ?_; intro g3 _
  refine oN <| cR <| oM rfl <| oX (e_ia runUnderlying72 sizeOf5 rfl rfl (by omega) (by omega)) ?_
  refine oX (e_load isAgg5 rfl (by first | exact .inr (by assumption) | exact .inl (by repeat (first | exact List.Mem.head _ | refine List.Mem.tail _ ?_))) rfl) ?_
  refine oN <| cR <| oM rfl <| oM rfl <| oX (e_conv runUnderlying212 runUnderlying5 rfl) <| oX (e_ia runUnderlying72 sizeOf5 rfl rfl (by omega) (by omega)) ?_
  refine o_l rfl (l_store sizeOf5 rfl rfl rfl (.tail .head) .head (by omega)) ?_; intro _ _
  refine oN <| cR <| oM rfl <| oM rfl <| oX (e_shr rfl rfl (by omega)) <| oX (e_conv runUnderlying212 runUnderlying5 rfl) <| oX (e_ia runUnderlying72 sizeOf5 rfl rfl (by omega) (by omega)) ?_
  refine o_l rfl (l_store sizeOf5 rfl rfl rfl (.tail .head) (.tail .head) (by omega)) ?_; intro _ _
  refine oN <| cR <| oM rfl <| oM rfl <| oX (e_shr rfl rfl (by omega)) <| oX (e_conv runUnderlying212 runUnderlying5 rfl) <| oX (e_ia runUnderlying72 sizeOf5 rfl rfl (by omega) (by omega)) ?_
  refine o_l rfl (l_store sizeOf5 rfl rfl rfl (.tail .head) (.tail (.tail .head)) (by omega)) ?_; intro _ _
  refine oN <| c_region <| oM rfl <| oM rfl <| oX (e_shr rfl rfl (by omega)) <| oX (e_conv runUnderlying212 runUnderlying5 rfl) <| oX (e_ia runUnderlying72 sizeOf5 rfl rfl (by omega) (by omega)) ?_
  refine o_l rfl (l_store sizeOf5 rfl rfl rfl (.tail .head) (.tail (.tail (.tail .head))) (by omega)) ?_; intro _ _
  refine o_nil <| WN.sel (.cons (.tail .head) .nil) ?_
  refine n_fn0 results326 ?_
  refine ⟨rfl, ?_⟩
  have e0 : IntKind.u8.wrap (k : Int) = ((lowb (k : Nat) 0).toNat : Int) := by
    have := low_eq (k : Nat) 0 (by decide)
    simpa using this
  have e1 : IntKind.u8.wrap (((k : Nat) : Int).fdiv (2 ^ min (Int.toNat 8) IntKind.u32.bits)) = ((lowb (k : Nat) 1).toNat : Int) := low_eq (k : Nat) 1 (by decide)
  have e2 : IntKind.u8.wrap (((k : Nat) : Int).fdiv (2 ^ min (Int.toNat 16) IntKind.u32.bits)) = ((lowb (k : Nat) 2).toNat : Int) := low_eq (k : Nat) 2 (by decide)
  have e3 : IntKind.u8.wrap (((k : Nat) : Int).fdiv (2 ^ min (Int.toNat 24) IntKind.u32.bits)) = ((lowb (k : Nat) 3).toNat : Int) := low_eq (k : Nat) 3 (by decide)
  show [(g, C [.int .u8 (IntKind.u8.wrap (k : Int)), .int .u8 (IntKind.u8.wrap (((k : Nat) : Int).fdiv (2 ^ min (Int.toNat 8) IntKind.u32.bits))), .int .u8 (IntKind.u8.wrap (((k : Nat) : Int).fdiv (2 ^ min (Int.toNat 16) IntKind.u32.bits))), .int .u8 (IntKind.u8.wrap (((k : Nat) : Int).fdiv (2 ^ min (Int.toNat 24) IntKind.u32.bits)))] 5)] = _
  rw [e0, e1, e2, e3]
  rfl
theorem put64_is : Ctr Tryz.prog 179 [.agg #[], .slice (some ⟨g, 0, none⟩) 8 8, .int .u64 k] G [(g, C [.int .u8 c0, .int .u8 c1, .int .u8 c2, .int .u8 c3, .int .u8 c4, .int .u8 c5, .int .u8 c6, .int .u8 c7] 5)] (fun r H' => r = .tuple #[] ∧ H' = [(g, C (B (lowB (k : Nat) 8)) 5)]) := by
  refine fn_enter 48 func179 rfl ntmps179 rfl ?_
  intro w0
  refine cR ?_
  refine o_l rfl (l_box rfl rfl rfl) ?_; intro g3 _
  refine oN <| cR <| oM rfl <| oX (e_ia runUnderlying72 sizeOf5 rfl rfl (by omega) (by omega)) ?_
  refine oX (e_load isAgg5 rfl (by first | exact .inr (by assumption) | exact .inl (by repeat (first | exact List.Mem.head _ | refine List.Mem.tail _ ?_))) rfl) ?_
  refine oN <| cR <| oM rfl <| oM rfl <| oX (e_conv runUnderlying23 runUnderlying5 rfl) <| oX (e_ia runUnderlying72 sizeOf5 rfl rfl (by omega) (by omega)) ?_
  refine o_l rfl (l_store sizeOf5 rfl rfl rfl (.tail .head) .head (by omega)) ?_; intro _ _
  refine oN <| cR <| oM rfl <| oM rfl <| oX (e_shr rfl rfl (by omega)) <| oX (e_conv runUnderlying23 runUnderlying5 rfl) <| oX (e_ia runUnderlying72 sizeOf5 rfl rfl (by omega) (by omega)) ?_
  refine o_l rfl (l_store sizeOf5 rfl rfl rfl (.tail .head) (.tail .head) (by omega)) ?_; intro _ _
  refine oN <| cR <| oM rfl <| oM rfl <| oX (e_shr rfl rfl (by omega)) <| oX (e_conv runUnderlying23 runUnderlying5 rfl) <| oX (e_ia runUnderlying72 sizeOf5 rfl rfl (by omega) (by omega)) ?_
  refine o_l rfl (l_store sizeOf5 rfl rfl rfl (.tail .head) (.tail (.tail .head)) (by omega)) ?_; intro _ _
  refine oN <| cR <| oM rfl <| oM rfl <| oX (e_shr rfl rfl (by omega)) <| oX (e_conv runUnderlying23 runUnderlying5 rfl) <| oX (e_ia runUnderlying72 sizeOf5 rfl rfl (by omega) (by omega)) ?_
  refine o_l rfl (l_store sizeOf5 rfl rfl rfl (.tail .head) (.tail (.tail (.tail .head))) (by omega)) ?_; intro _ _
  refine oN <| cR <| oM rfl <| oM rfl <| oX (e_shr rfl rfl (by omega)) <| oX (e_conv runUnderlying23 runUnderlying5 rfl) <| oX (e_ia runUnderlying72 sizeOf5 rfl rfl (by omega) (by omega)) ?_
  refine o_l rfl (l_store sizeOf5 rfl rfl rfl (.tail .head) (.tail (.tail (.tail (.tail .head)))) (by omega)) ?_; intro _ _
  refine oN <| cR <| oM rfl <| oM rfl <| oX (e_shr rfl rfl (by omega)) <| oX (e_conv runUnderlying23 runUnderlying5 rfl) <| oX (e_ia runUnderlying72 sizeOf5 rfl rfl (by omega) (by omega)) ?_
  refine o_l rfl (l_store sizeOf5 rfl rfl rfl (.tail .head) (.tail (.tail (.tail (.tail (.tail .head))))) (by omega)) ?_; intro _ _
  refine oN <| cR <| oM rfl <| oM rfl <| oX (e_shr rfl rfl (by omega)) <| oX (e_conv runUnderlying23 runUnderlying5 rfl) <| oX (e_ia runUnderlying72 sizeOf5 rfl rfl (by omega) (by omega)) ?_
  refine o_l rfl (l_store sizeOf5 rfl rfl rfl (.tail .head) (.tail (.tail (.tail (.tail (.tail (.tail .head)))))) (by omega)) ?_; intro _ _
  refine oN <| c_region <| oM rfl <| oM rfl <| oX (e_shr rfl rfl (by omega)) <| oX (e_conv runUnderlying23 runUnderlying5 rfl) <| oX (e_ia runUnderlying72 sizeOf5 rfl rfl (by omega) (by omega)) ?_
  refine o_l rfl (l_store sizeOf5 rfl rfl rfl (.tail .head) (.tail (.tail (.tail (.tail (.tail (.tail (.tail .head))))))) (by omega)) ?_; intro _ _
  refine o_nil <| WN.sel (.cons (.tail .head) .nil) ?_
  refine n_fn0 results179 ?_
  refine ⟨rfl, ?_⟩
  have e0 : IntKind.u8.wrap (k : Int) = ((lowb (k : Nat) 0).toNat : Int) := by
    have := low_eq (k : Nat) 0 (by decide)
    simpa using this
  have e1 : IntKind.u8.wrap (((k : Nat) : Int).fdiv (2 ^ min (Int.toNat 8) IntKind.u64.bits)) = ((lowb (k : Nat) 1).toNat : Int) := low_eq (k : Nat) 1 (by decide)
  have e2 : IntKind.u8.wrap (((k : Nat) : Int).fdiv (2 ^ min (Int.toNat 16) IntKind.u64.bits)) = ((lowb (k : Nat) 2).toNat : Int) := low_eq (k : Nat) 2 (by decide)
  have e3 : IntKind.u8.wrap (((k : Nat) : Int).fdiv (2 ^ min (Int.toNat 24) IntKind.u64.bits)) = ((lowb (k : Nat) 3).toNat : Int) := low_eq (k : Nat) 3 (by decide)
  have e4 : IntKind.u8.wrap (((k : Nat) : Int).fdiv (2 ^ min (Int.toNat 32) IntKind.u64.bits)) = ((lowb (k : Nat) 4).toNat : Int) := low_eq (k : Nat) 4 (by decide)
  have e5 : IntKind.u8.wrap (((k : Nat) : Int).fdiv (2 ^ min (Int.toNat 40) IntKind.u64.bits)) = ((lowb (k : Nat) 5).toNat : Int) := low_eq (k : Nat) 5 (by decide)
  have e6 : IntKind.u8.wrap (((k : Nat) : Int).fdiv (2 ^ min (Int.toNat 48) IntKind.u64.bits)) = ((lowb (k : Nat) 6).toNat : Int) := low_eq (k : Nat) 6 (by decide)
  have e7 : IntKind.u8.wrap (((k : Nat) : Int).fdiv (2 ^ min (Int.toNat 56) IntKind.u64.bits)) = ((lowb (k : Nat) 7).toNat : Int) := low_eq (k : Nat) 7 (by decide)
  show [(g, C [.int .u8 (IntKind.u8.wrap (k : Int)), .int .u8 (IntKind.u8.wrap (((k : Nat) : Int).fdiv (2 ^ min (Int.toNat 8) IntKind.u64.bits))), .int .u8 (IntKind.u8.wrap (((k : Nat) : Int).fdiv (2 ^ min (Int.toNat 16) IntKind.u64.bits))), .int .u8 (IntKind.u8.wrap (((k : Nat) : Int).fdiv (2 ^ min (Int.toNat 24) IntKind.u64.bits))), .int .u8 (IntKind.u8.wrap (((k : Nat) : Int).fdiv (2 ^ min (Int.toNat 32) IntKind.u64.bits))), .int .u8 (IntKind.u8.wrap (((k : Nat) : Int).fdiv (2 ^ min (Int.toNat 40) IntKind.u64.bits))), .int .u8 (IntKind.u8.wrap (((k : Nat) : Int).fdiv (2 ^ min (Int.toNat 48) IntKind.u64.bits))), .int .u8 (IntKind.u8.wrap (((k : Nat) : Int).fdiv (2 ^ min (Int.toNat 56) IntKind.u64.bits)))] 5)] = _
  rw [e0, e1, e2, e3, e4, e5, e6, e7]
  rfl
/-- Numbers written to a buffer. -/
theorem w32_is {gb : Nat} {bs : List UInt8} {HB : HP} {lr : Int} {v : Value} (hb : Bb v bs HB) (h2 : bs.length < 1073741824) :
    Ctr Tryz.prog 318 [.iface 89 (.pointer (some ⟨gb, 0, none⟩)), .int .u32 k] G ((gb, Bu v lr) :: HB) (fun r H' => r = .nilIface ∧ ∃ (v' : Value) (HB' : HP), Bb v' (bs ++ lowB (k : Nat) 4) HB' ∧ H' = (gb, Bu v' 0) :: HB') := by
  have eD : C (B (lowB (k : Nat) 4)) 5 = DB (lowB (k : Nat) 4) [] 0 0 := by
    show Obj.cells _ _ _ = Obj.cells (B _ ++ []).toArray 5 (0, 0)
    rw [List.append_nil]
  refine fn_enter 20 func318 rfl ntmps318 rfl ?_
  intro w0
  refine cR <| oA rfl <| oN <| cR ?_
  refine o_l rfl (l_mks (l := [.int .u8 0, .int .u8 0, .int .u8 0, .int .u8 0]) underlying72 (info_of typeInfo5) rfl rfl rfl rfl (by decide) (by decide) (by decide) (by decide) (made_one (.int .u8 0) 4 rfl)) ?_
  intro g8 _
  refine oA rfl <| oN <| cR <| oX (e_load0 isAgg294 sizeOf294 rfl) <| oM rfl <| oM rfl ?_
  refine o_l rfl (l_call call326 put32_is rfl rfl (.cons .head .nil)) ?_
  rintro ⟨r, H'⟩ ⟨rfl, rfl⟩
  simp only [List.cons_append, List.nil_append]
  rw [eD]
  refine oN <| cR <| oM rfl <| oM rfl ?_
  refine o_l rfl (l_calli (HJ := [(g8, DB (lowB (k : Nat) 4) [] 0 0)]) call294 (by intro w; kernel_rfl) (write_is hb (List.mem_append_right _ (.head _)) (lowB_length _ _) (by decide) (by decide) h2 (by intro _; decide) (Nat.le_refl _)) rfl rfl rfl (.cons (.tail .head) (Sel.appR [_] HB)) (fun p hp => hp)) ?_
  rintro ⟨r, H'⟩ ⟨v', HB', rfl, hb', rfl⟩
  refine oM rfl <| oX (e_extract rfl rfl) <| oX (e_extract rfl rfl) <| oA rfl <| oA rfl <| oN <| cR <| oM rfl <| oA rfl <| oN <| c_ret ?_
  refine WR.less (fun _ _ h => h) (List.sublist_append_left _ _) ?_
  refine r_fn1 results318 rfl ?_
  exact ⟨rfl, v', HB', hb', rfl⟩
theorem w64_is {gb : Nat} {bs : List UInt8} {HB : HP} {lr : Int} {v : Value} (hb : Bb v bs HB) (h2 : bs.length < 1073741824) :
    Ctr Tryz.prog 328 [.iface 89 (.pointer (some ⟨gb, 0, none⟩)), .int .u64 k] G ((gb, Bu v lr) :: HB) (fun r H' => r = .nilIface ∧ ∃ (v' : Value) (HB' : HP), Bb v' (bs ++ lowB (k : Nat) 8) HB' ∧ H' = (gb, Bu v' 0) :: HB') := by
  have eD : C (B (lowB (k : Nat) 8)) 5 = DB (lowB (k : Nat) 8) [] 0 0 := by
    show Obj.cells _ _ _ = Obj.cells (B _ ++ []).toArray 5 (0, 0)
    rw [List.append_nil]
  refine fn_enter 20 func328 rfl ntmps328 rfl ?_
  intro w0
  refine cR <| oA rfl <| oN <| cR ?_
  refine o_l rfl (l_mks (l := [.int .u8 0, .int .u8 0, .int .u8 0, .int .u8 0, .int .u8 0, .int .u8 0, .int .u8 0, .int .u8 0]) underlying72 (info_of typeInfo5) rfl rfl rfl rfl (by decide) (by decide) (by decide) (by decide) (made_one (.int .u8 0) 8 rfl)) ?_
  intro g8 _
  refine oA rfl <| oN <| cR <| oX (e_load0 isAgg294 sizeOf294 rfl) <| oM rfl <| oM rfl ?_
  refine o_l rfl (l_call call179 put64_is rfl rfl (.cons .head .nil)) ?_
  rintro ⟨r, H'⟩ ⟨rfl, rfl⟩
  simp only [List.cons_append, List.nil_append]
  rw [eD]
  refine oN <| cR <| oM rfl <| oM rfl ?_
  refine o_l rfl (l_calli (HJ := [(g8, DB (lowB (k : Nat) 8) [] 0 0)]) call294 (by intro w; kernel_rfl) (write_is hb (List.mem_append_right _ (.head _)) (lowB_length _ _) (by decide) (by decide) h2 (by intro _; decide) (Nat.le_refl _)) rfl rfl rfl (.cons (.tail .head) (Sel.appR [_] HB)) (fun p hp => hp)) ?_
  rintro ⟨r, H'⟩ ⟨v', HB', rfl, hb', rfl⟩
  refine oM rfl <| oX (e_extract rfl rfl) <| oX (e_extract rfl rfl) <| oA rfl <| oA rfl <| oN <| cR <| oM rfl <| oA rfl <| oN <| c_ret ?_
  refine WR.less (fun _ _ h => h) (List.sublist_append_left _ _) ?_
  refine r_fn1 results328 rfl ?_
  exact ⟨rfl, v', HB', hb', rfl⟩
end
end Go.Proofs
namespace Go.Proofs
open Go Go.Sl Tryz
set_option maxRecDepth 100000
set_option maxHeartbeats 1000000
section
variable {G : HP} {gr gs g n cap i R w lo hi : Nat} {bs : List UInt8} {rest : List Value} {z0 z1 z2 : Value}
theorem chk_is (h1 : 8 ≤ w) (h2 : w ≤ 33554432) (h3 : R < 9223372036854775808) :
    Ctr Tryz.prog 361 [.pointer (some ⟨g, 0, none⟩), .int .u32 w, .int .u64 R, .int .u64 0] G [(g, C [z0, z1, z2] 448)] (fun r H' => r = .nilIface ∧ H' = [(g, C [.int .u32 w, .int .u64 (R / w : Nat), z2] 448)]) := by
  refine fn_enter 39 func361 rfl ntmps361 rfl ?_
  intro w0
  refine cR <| oA rfl <| oN <| c_seq <| cR <| oM rfl <| oX (e_lss rfl rfl) <| oN ?_
  refine c_ifp rfl (fun a1 => ?_) (fun a1 => ?_)
  · exact absurd a1 (by omega)
  · skip
    refine c_skip <| n_code <| c_seq <| cR <| oM rfl <| oX (e_gtr rfl rfl) <| oN ?_
    refine c_ifp rfl (fun a2 => ?_) (fun a2 => ?_)
    · exact absurd a2 (by omega)
    · skip
      refine c_skip <| n_code <| cR <| oM rfl <| oM rfl <| oM rfl <| oX (e_addn rfl rfl (by simp only [inR]; omega)) <| oA rfl <| oA rfl <| oN <| c_seq <| cR <| oM rfl <| oM rfl <| oX (e_gtr rfl rfl) <| oN ?_
      refine c_ifp rfl (fun a3 => ?_) (fun a3 => ?_)
      · exact absurd a3 (by omega)
      · skip
        refine c_skip <| n_code <| c_seq <| cR <| oM rfl <| oX (e_convn runUnderlying23 runUnderlying2 rfl (by simp only [inR]; omega)) <| oX (e_lss rfl rfl) <| oN ?_
        refine c_ifp rfl (fun a4 => ?_) (fun a4 => ?_)
        · exact absurd a4 (by omega)
        · skip
          refine c_skip <| n_code <| cR <| oM rfl <| oM rfl <| oC rfl <| oX (e_fak 0 runUnderlying448 rfl sizeOf212 rfl rfl rfl) ?_
          refine o_l rfl (l_store sizeOf212 rfl rfl rfl .head .head (by omega)) ?_; intro _ _
          refine oN <| cR <| oM rfl <| oM rfl <| oM rfl <| oX (e_convn runUnderlying212 runUnderlying23 rfl (by simp only [inR]; omega)) <| oX (e_quo rfl rfl (by omega)) <| oC rfl <| oX (e_fak 1 runUnderlying448 rfl sizeOf23 rfl rfl rfl) ?_
          refine o_l rfl (l_store sizeOf23 rfl rfl rfl .head (.tail .head) (by omega)) ?_; intro _ _
          refine oN <| cR <| oA rfl <| oN <| c_ret ?_
          refine r_fn1 results361 rfl ?_
          have hq : IntKind.u64.wrap ((R : Int) / (w : Int)) = ((R / w : Nat) : Int) := by
            have hle : R / w ≤ R := Nat.div_le_self R w
            rw [show (R : Int) / (w : Int) = ((R / w : Nat) : Int) by simp]
            generalize R / w = q at hle
            exact wrap_inR (by simp only [inR]; omega)
          exact ⟨rfl, by simp [hq]⟩
theorem swi_ok (hD : (gs, DB bs rest lo hi) ∈ G) (hn : bs.length = n) (hc : n ≤ cap) (h63 : cap < 9223372036854775808) (h1 : 8 ≤ w) (h2 : w ≤ 33554432) (hR : 0 < R) (hw : le ((bs.drop i).take 4) = w) (hl : le ((bs.drop (i + 4)).take 8) = R) (hi' : i + 12 + R ≤ n) (hn48 : n ≤ 281474976710656) :
    Ctr Tryz.prog 341 [.pointer (some ⟨g, 0, none⟩), RV gr] G [(gr, RB gs n cap i), (g, C [z0, z1, z2] 448)] (fun r H' => r = .nilIface ∧ ∃ gb, H' = [(gr, RB gs n cap (i + 12 + R)), (g, C [.int .u32 w, .int .u64 (R / w : Nat), .slice (some ⟨gb, 0, none⟩) R R] 448), (gb, C (B ((bs.drop (i + 12)).take R)) 5)]) := by
  refine fn_enter 53 func341 rfl ntmps341 rfl ?_
  intro w0
  refine cR <| oA rfl <| oN <| cR ?_
  refine o_l rfl (l_alloc zeroValue212 rfl rfl) ?_; intro g5 _
  refine oN <| c_seq <| cR <| oM rfl ?_
  refine o_l rfl (l_call call321 (read32_is hD hn hc h63 (show i + 4 ≤ n by omega) .head) rfl rfl (.cons (.tail .head) (.cons .head .nil))) ?_
  rintro ⟨r, H'⟩ ⟨rfl, rfl⟩
  simp only [List.cons_append, List.nil_append]
  rw [hw]
  refine oA rfl <| oN <| cR <| oM rfl <| oX (e_nnen runUnderlying80 rfl) <| oN <| cL rfl <| cR ?_
  refine o_l rfl (l_alloc zeroValue23 rfl rfl) ?_; intro g7 _
  refine oN <| c_seq <| cR <| oM rfl ?_
  refine o_l rfl (l_call call331 (read64_is hD hn hc h63 (show i + 4 + 8 ≤ n by omega) .head) rfl rfl (.cons (.tail .head) (.cons .head .nil))) ?_
  rintro ⟨r, H'⟩ ⟨rfl, rfl⟩
  simp only [List.cons_append, List.nil_append]
  rw [hl]
  refine oA rfl <| oN <| cR <| oM rfl <| oX (e_nnen runUnderlying80 rfl) <| oN <| cL rfl <| c_seq <| cR <| oM rfl ?_
  refine oX (e_load isAgg212 rfl (by first | exact .inr (by assumption) | exact .inl (by repeat (first | exact List.Mem.head _ | refine List.Mem.tail _ ?_))) rfl) ?_
  refine oX (e_load isAgg23 rfl (by first | exact .inr (by assumption) | exact .inl (by repeat (first | exact List.Mem.head _ | refine List.Mem.tail _ ?_))) rfl) ?_
  refine o_l rfl (l_call call361 (chk_is h1 h2 (by omega)) rfl rfl (.cons (.tail (.tail (.tail .head))) .nil)) ?_
  rintro ⟨r, H'⟩ ⟨rfl, rfl⟩
  simp only [List.cons_append, List.nil_append]
  refine oA rfl <| oN <| cR <| oM rfl <| oX (e_nnen runUnderlying80 rfl) <| oN <| cL rfl <| cR ?_
  refine oX (e_load isAgg23 rfl (by first | exact .inr (by assumption) | exact .inl (by repeat (first | exact List.Mem.head _ | refine List.Mem.tail _ ?_))) rfl) ?_
  refine o_l rfl (l_mks (l := List.replicate R (.int .u8 0)) underlying72 (info_of typeInfo5) rfl rfl rfl rfl (by omega) (by omega) (by show (1 : Int) * _ ≤ _; omega) (by omega) (made_one (.int .u8 0) R rfl)) ?_
  intro gb _
  refine oA rfl <| oN <| c_seq <| cR <| oM rfl <| oM rfl ?_
  refine o_l rfl (l_call call152 (readFull_is (i := i + 4 + 8) (L := R) hD hn hc h63 (by omega) hR (by simp)) rfl rfl (.cons (.tail (.tail .head)) (.cons .head .nil))) ?_
  rintro ⟨r, H'⟩ ⟨rfl, rfl⟩
  simp only [List.cons_append, List.nil_append]
  refine oM rfl <| oX (e_extract rfl rfl) <| oX (e_extract rfl rfl) <| oA rfl <| oA rfl <| oN <| cR <| oM rfl <| oX (e_nnen runUnderlying80 rfl) <| oN <| cL rfl <| cR <| oM rfl <| oM rfl <| oC rfl <| oX (e_fak 2 runUnderlying448 rfl sizeOf72 rfl rfl rfl) ?_
  refine o_l rfl (l_store sizeOf72 rfl rfl rfl (.tail (.tail .head)) (.tail (.tail .head)) (by omega)) ?_; intro _ _
  refine oN <| cR <| oA rfl <| oN <| c_ret ?_
  refine WR.sel (.cons .head (.cons (.tail .head) (.cons .head .nil))) ?_
  refine r_fn1 results341 rfl ?_
  exact ⟨rfl, gb, rfl⟩
end
end Go.Proofs
namespace Go.Proofs
open Go Go.Shelf
def Tryz.laysInts_ren : Go.Shelf.Ren := ⟨fun | 191 => 191 | 189 => 218 | 125 => 66 | 257 => 227 | 128 => 122 | 129 => 123 | 294 => 241 | 295 => 242 | 296 => 243 | 297 => 244 | 298 => 245 | 299 => 246 | 216 => 247 | 300 => 248 | 301 => 249 | 328 => 261 | 329 => 262 | 330 => 263 | 331 => 264 | 332 => 265 | 215 => 266 | 343 => 272 | n => n, fun | 28 => 99 | 0 => 0 | 3 => 3 | 46 => 131 | 51 => 212 | 53 => 23 | 4 => 4 | 183 => 393 | 182 => 392 | 131 => 220 | 5 => 5 | 9 => 9 | 218 => 408 | 222 => 301 | 228 => 413 | 229 => 356 | n => n, fun n => n⟩
theorem Tryz.laysInts : Lays.n191 Tryz.prog Tryz.laysInts_ren where
  mixed := by kernel_rfl
  f125 := Tryz.func66.trans (congrArg some (by kernel_rfl))
  f128 := Tryz.func122.trans (congrArg some (by kernel_rfl))
  f129 := Tryz.func123.trans (congrArg some (by kernel_rfl))
  f189 := Tryz.func218.trans (congrArg some (by kernel_rfl))
  f191 := Tryz.func191.trans (congrArg some (by kernel_rfl))
  f215 := Tryz.func266.trans (congrArg some (by kernel_rfl))
  f216 := Tryz.func247.trans (congrArg some (by kernel_rfl))
  f257 := Tryz.func227.trans (congrArg some (by kernel_rfl))
  f294 := Tryz.func241.trans (congrArg some (by kernel_rfl))
  f295 := Tryz.func242.trans (congrArg some (by kernel_rfl))
  f296 := Tryz.func243.trans (congrArg some (by kernel_rfl))
  f297 := Tryz.func244.trans (congrArg some (by kernel_rfl))
  f298 := Tryz.func245.trans (congrArg some (by kernel_rfl))
  f299 := Tryz.func246.trans (congrArg some (by kernel_rfl))
  f300 := Tryz.func248.trans (congrArg some (by kernel_rfl))
  f301 := Tryz.func249.trans (congrArg some (by kernel_rfl))
  f328 := Tryz.func261.trans (congrArg some (by kernel_rfl))
  f329 := Tryz.func262.trans (congrArg some (by kernel_rfl))
  f330 := Tryz.func263.trans (congrArg some (by kernel_rfl))
  f331 := Tryz.func264.trans (congrArg some (by kernel_rfl))
  f332 := Tryz.func265.trans (congrArg some (by kernel_rfl))
  f343 := Tryz.func272.trans (congrArg some (by kernel_rfl))
  t0 := Tryz.underlying0
  a0 := Tryz.isAgg0
  z0 := Tryz.sizeOf0
  v0 := Tryz.zeroValue0
  t3 := Tryz.underlying3
  a3 := Tryz.isAgg3
  z3 := Tryz.sizeOf3
  v3 := Tryz.zeroValue3
  t4 := Tryz.underlying4
  a4 := Tryz.isAgg4
  z4 := Tryz.sizeOf4
  v4 := Tryz.zeroValue4
  t5 := Tryz.underlying5
  a5 := Tryz.isAgg5
  z5 := Tryz.sizeOf5
  v5 := Tryz.zeroValue5
  t9 := Tryz.underlying9
  a9 := Tryz.isAgg9
  z9 := Tryz.sizeOf9
  v9 := Tryz.zeroValue9
  t28 := Tryz.underlying99
  a28 := Tryz.isAgg99
  z28 := Tryz.sizeOf99
  v28 := Tryz.zeroValue99
  t46 := Tryz.underlying131
  a46 := Tryz.isAgg131
  z46 := Tryz.sizeOf131
  v46 := Tryz.zeroValue131
  t51 := Tryz.underlying212
  a51 := Tryz.isAgg212
  z51 := Tryz.sizeOf212
  v51 := Tryz.zeroValue212
  t53 := Tryz.underlying23
  a53 := Tryz.isAgg23
  z53 := Tryz.sizeOf23
  v53 := Tryz.zeroValue23
  t131 := Tryz.underlying220
  a131 := Tryz.isAgg220
  z131 := Tryz.sizeOf220
  v131 := Tryz.zeroValue220
  t182 := Tryz.underlying392
  a182 := Tryz.isAgg392
  z182 := Tryz.sizeOf392
  v182 := Tryz.zeroValue392
  t183 := Tryz.underlying393
  a183 := Tryz.isAgg393
  z183 := Tryz.sizeOf393
  v183 := Tryz.zeroValue393
  t218 := Tryz.underlying408
  a218 := Tryz.isAgg408
  z218 := Tryz.sizeOf408
  v218 := Tryz.zeroValue408
  t222 := Tryz.underlying301
  a222 := Tryz.isAgg301
  z222 := Tryz.sizeOf301
  v222 := Tryz.zeroValue301
  t228 := Tryz.underlying413
  a228 := Tryz.isAgg413
  z228 := Tryz.sizeOf413
  v228 := Tryz.zeroValue413
  t229 := Tryz.underlying356
  a229 := Tryz.isAgg356
  z229 := Tryz.sizeOf356
  v229 := Tryz.zeroValue356
def Tryz.laysSlice_ren : Go.Shelf.Ren := ⟨fun | 6 => 34 | 10 => 63 | 11 => 64 | 12 => 65 | 13 => 66 | 14 => 67 | 24 => 122 | 25 => 123 | 26 => 124 | 27 => 125 | 28 => 126 | 29 => 127 | 30 => 128 | 31 => 129 | 32 => 130 | 33 => 131 | 34 => 180 | 35 => 181 | 36 => 182 | 37 => 183 | 38 => 184 | 39 => 215 | n => n, fun | 20 => 20 | 26 => 71 | 35 => 126 | 0 => 0 | 37 => 128 | 3 => 3 | 41 => 131 | 44 => 134 | 49 => 212 | 51 => 23 | 4 => 4 | 54 => 216 | 53 => 215 | 58 => 220 | 5 => 5 | 9 => 9 | 60 => 298 | 64 => 301 | 66 => 355 | 67 => 356 | 17 => 17 | 32 => 123 | 33 => 124 | 82 => 426 | 12 => 12 | 75 => 420 | 76 => 421 | 77 => 422 | 78 => 358 | 79 => 423 | 80 => 424 | n => n, fun n => n⟩
theorem Tryz.laysSlice : LaysGg.n6 Tryz.prog Tryz.laysSlice_ren where
  mixed := by kernel_rfl
  f6 := Tryz.func34.trans (congrArg some (by kernel_rfl))
  f10 := Tryz.func63.trans (congrArg some (by kernel_rfl))
  f11 := Tryz.func64.trans (congrArg some (by kernel_rfl))
  f12 := Tryz.func65.trans (congrArg some (by kernel_rfl))
  f13 := Tryz.func66.trans (congrArg some (by kernel_rfl))
  f14 := Tryz.func67.trans (congrArg some (by kernel_rfl))
  f24 := Tryz.func122.trans (congrArg some (by kernel_rfl))
  f25 := Tryz.func123.trans (congrArg some (by kernel_rfl))
  f26 := Tryz.func124.trans (congrArg some (by kernel_rfl))
  f27 := Tryz.func125.trans (congrArg some (by kernel_rfl))
  f28 := Tryz.func126.trans (congrArg some (by kernel_rfl))
  f29 := Tryz.func127.trans (congrArg some (by kernel_rfl))
  f30 := Tryz.func128.trans (congrArg some (by kernel_rfl))
  f31 := Tryz.func129.trans (congrArg some (by kernel_rfl))
  f32 := Tryz.func130.trans (congrArg some (by kernel_rfl))
  f33 := Tryz.func131.trans (congrArg some (by kernel_rfl))
  f34 := Tryz.func180.trans (congrArg some (by kernel_rfl))
  f35 := Tryz.func181.trans (congrArg some (by kernel_rfl))
  f36 := Tryz.func182.trans (congrArg some (by kernel_rfl))
  f37 := Tryz.func183.trans (congrArg some (by kernel_rfl))
  f38 := Tryz.func184.trans (congrArg some (by kernel_rfl))
  f39 := Tryz.func215.trans (congrArg some (by kernel_rfl))
  t0 := Tryz.underlying0
  a0 := Tryz.isAgg0
  z0 := Tryz.sizeOf0
  v0 := Tryz.zeroValue0
  i0 := by kernel_rfl
  t3 := Tryz.underlying3
  a3 := Tryz.isAgg3
  z3 := Tryz.sizeOf3
  v3 := Tryz.zeroValue3
  i3 := by kernel_rfl
  t4 := Tryz.underlying4
  a4 := Tryz.isAgg4
  z4 := Tryz.sizeOf4
  v4 := Tryz.zeroValue4
  i4 := by kernel_rfl
  t5 := Tryz.underlying5
  a5 := Tryz.isAgg5
  z5 := Tryz.sizeOf5
  v5 := Tryz.zeroValue5
  i5 := by kernel_rfl
  t9 := Tryz.underlying9
  a9 := Tryz.isAgg9
  z9 := Tryz.sizeOf9
  v9 := Tryz.zeroValue9
  i9 := by kernel_rfl
  t12 := Tryz.underlying12
  a12 := Tryz.isAgg12
  z12 := Tryz.sizeOf12
  v12 := Tryz.zeroValue12
  i12 := by kernel_rfl
  t17 := Tryz.underlying17
  a17 := Tryz.isAgg17
  z17 := Tryz.sizeOf17
  v17 := Tryz.zeroValue17
  i17 := by kernel_rfl
  t20 := Tryz.underlying20
  a20 := Tryz.isAgg20
  z20 := Tryz.sizeOf20
  v20 := Tryz.zeroValue20
  i20 := by kernel_rfl
  t26 := Tryz.underlying71
  a26 := Tryz.isAgg71
  z26 := Tryz.sizeOf71
  v26 := Tryz.zeroValue71
  i26 := by kernel_rfl
  t32 := Tryz.underlying123
  a32 := Tryz.isAgg123
  z32 := Tryz.sizeOf123
  v32 := Tryz.zeroValue123
  i32 := by kernel_rfl
  t33 := Tryz.underlying124
  a33 := Tryz.isAgg124
  z33 := Tryz.sizeOf124
  v33 := Tryz.zeroValue124
  i33 := by kernel_rfl
  t35 := Tryz.underlying126
  a35 := Tryz.isAgg126
  z35 := Tryz.sizeOf126
  v35 := Tryz.zeroValue126
  i35 := by kernel_rfl
  t37 := Tryz.underlying128
  a37 := Tryz.isAgg128
  z37 := Tryz.sizeOf128
  v37 := Tryz.zeroValue128
  i37 := by kernel_rfl
  t41 := Tryz.underlying131
  a41 := Tryz.isAgg131
  z41 := Tryz.sizeOf131
  v41 := Tryz.zeroValue131
  i41 := by kernel_rfl
  t44 := Tryz.underlying134
  a44 := Tryz.isAgg134
  z44 := Tryz.sizeOf134
  v44 := Tryz.zeroValue134
  i44 := by kernel_rfl
  t49 := Tryz.underlying212
  a49 := Tryz.isAgg212
  z49 := Tryz.sizeOf212
  v49 := Tryz.zeroValue212
  i49 := by kernel_rfl
  t51 := Tryz.underlying23
  a51 := Tryz.isAgg23
  z51 := Tryz.sizeOf23
  v51 := Tryz.zeroValue23
  i51 := by kernel_rfl
  t53 := Tryz.underlying215
  a53 := Tryz.isAgg215
  z53 := Tryz.sizeOf215
  v53 := Tryz.zeroValue215
  i53 := by kernel_rfl
  t54 := Tryz.underlying216
  a54 := Tryz.isAgg216
  z54 := Tryz.sizeOf216
  v54 := Tryz.zeroValue216
  i54 := by kernel_rfl
  t58 := Tryz.underlying220
  a58 := Tryz.isAgg220
  z58 := Tryz.sizeOf220
  v58 := Tryz.zeroValue220
  i58 := by kernel_rfl
  t60 := Tryz.underlying298
  a60 := Tryz.isAgg298
  z60 := Tryz.sizeOf298
  v60 := Tryz.zeroValue298
  i60 := by kernel_rfl
  t64 := Tryz.underlying301
  a64 := Tryz.isAgg301
  z64 := Tryz.sizeOf301
  v64 := Tryz.zeroValue301
  i64 := by kernel_rfl
  t66 := Tryz.underlying355
  a66 := Tryz.isAgg355
  z66 := Tryz.sizeOf355
  v66 := Tryz.zeroValue355
  i66 := by kernel_rfl
  t67 := Tryz.underlying356
  a67 := Tryz.isAgg356
  z67 := Tryz.sizeOf356
  v67 := Tryz.zeroValue356
  i67 := by kernel_rfl
  t75 := Tryz.underlying420
  a75 := Tryz.isAgg420
  z75 := Tryz.sizeOf420
  v75 := Tryz.zeroValue420
  i75 := by kernel_rfl
  t76 := Tryz.underlying421
  a76 := Tryz.isAgg421
  z76 := Tryz.sizeOf421
  v76 := Tryz.zeroValue421
  i76 := by kernel_rfl
  t77 := Tryz.underlying422
  a77 := Tryz.isAgg422
  z77 := Tryz.sizeOf422
  v77 := Tryz.zeroValue422
  i77 := by kernel_rfl
  t78 := Tryz.underlying358
  a78 := Tryz.isAgg358
  z78 := Tryz.sizeOf358
  v78 := Tryz.zeroValue358
  i78 := by kernel_rfl
  t79 := Tryz.underlying423
  a79 := Tryz.isAgg423
  z79 := Tryz.sizeOf423
  v79 := Tryz.zeroValue423
  i79 := by kernel_rfl
  t80 := Tryz.underlying424
  a80 := Tryz.isAgg424
  z80 := Tryz.sizeOf424
  v80 := Tryz.zeroValue424
  i80 := by kernel_rfl
  t82 := Tryz.underlying426
  a82 := Tryz.isAgg426
  z82 := Tryz.sizeOf426
  v82 := Tryz.zeroValue426
  i82 := by kernel_rfl
end Go.Proofs
namespace Go.Proofs
open Go Go.Sl Tryz
set_option maxRecDepth 100000

def codedL (l : List En) (code : Int) : List En := l.filter (fun x => decide (x.h = code))
def cells5 (l : List En) : List Value := l.flatMap cE
theorem cells5_length (l : List En) : (cells5 l).length = l.length * 5 := by
  induction l with
  | nil => rfl
  | cons x l ih => simp [cells5, cE] at ih ⊢; omega
theorem codedL_take {l : List En} {code : Int} {i : Nat} (h : i < l.length) : codedL (l.take (i + 1)) code = codedL (l.take i) code ++ if l[i].h = code then [l[i]] else [] := by
  simp only [codedL]
  rw [List.take_succ_eq_append_getElem h, List.filter_append]
  congr 1
  by_cases hc : l[i].h = code <;> simp [hc]
theorem coded_is {G : HP} {v : Value} {l : List En} {code : Int} (h : EnS G v l) (hl : l.length ≤ 1000) :
    Ctr Tryz.prog 74 [v, .int .u64 code] G [] (fun r H' => Osl 56 5 r (codedL l code).length (cells5 (codedL l code)) H') := by
  cases h with
  | none =>
    refine fn_enter 25 func74 rfl ntmps74 rfl ?_
    intro w0
    refine cR <| oA rfl <| oN <| cR <| oA rfl <| oN <| c_seq <| cR <| oM rfl <| oX (e_lenl runUnderlying22 rfl) <| oM rfl <| oN <| c_block ?_
    refine c_rounds 1 ?_
    refine cR <| oX (e_lss rfl rfl) <| oN <| c_seq <| c_else rfl ?_
    refine c_exit ?_; refine x_code ?_; refine x_upto ?_; refine x_here ?_
    refine n_code <| cR <| oM rfl <| oA rfl <| oN <| c_ret ?_
    refine r_fn1 results74 rfl ?_
    exact .nil
  | @blk l L g off n cap e fr hm hn hc =>
    refine fn_enter 25 func74 rfl ntmps74 rfl ?_
    intro w0
    refine cR <| oA rfl <| oN <| cR <| oA rfl <| oN <| c_seq <| cR <| oM rfl <| oX (e_lenl runUnderlying22 rfl) <| oM rfl <| oN <| c_block ?_
    refine c_loop (X := Nat × Value × HP) (fun y => [(1, .int .u64 code), (5, y.2.1), (8, .slice (some ⟨g, off, none⟩) n cap), (9, .int .i64 n), (10, .int .i64 y.1)]) (fun y => y.2.2) (fun y => y.1 ≤ n ∧ Osl 56 5 y.2.1 (codedL (l.take y.1) code).length (cells5 (codedL (l.take y.1) code)) y.2.2) (fun y => n - y.1) (0, .slice none 0 0, []) ⟨Nat.zero_le _, .nil⟩ (sub_cons rfl (sub_cons rfl (sub_cons rfl (sub_cons rfl (sub_cons rfl sub_nil))))) (.refl _) ?_
    rintro ⟨i, v', HB'⟩ ⟨hi, ho⟩
    simp only at hi ho ⊢
    refine cR <| oX (e_lss rfl rfl) <| oN <| c_seq ?_
    refine c_ifp rfl (fun h2 => ?_) (fun h2 => ?_)
    · have hi2 : i < l.length := by omega
      have hci := hc i hi2
      have hnx := codedL_take (code := code) hi2
      have hlen : (codedL (l.take i) code).length ≤ l.length := Nat.le_trans (List.length_filter_le _ _) (by simp; omega)
      generalize l[i] = x at hci hnx
      obtain ⟨xv, xc, xh, xd, xo⟩ := x
      simp only [cE] at hci hnx
      refine c_skip <| n_code <| c_seq <| c_block <| cR <| oX (e_ian runUnderlying22 sizeOf56 rfl rfl (by omega)) <| oX (e_loada isAgg56 sizeOf56 rfl (.inr hm) hci) ?_
      refine o_l rfl (l_alloc zeroValue56 rfl rfl) ?_; intro g7 _
      refine o_l rfl (l_storea sizeOf56 rfl rfl rfl (by simp [Value.oneCell']) .head (.take (.take (.take (.take (.take .done))))) nofrs0) ?_
      intro _ _
      refine oN <| cR <| oX (e_fa runUnderlying56 rfl sizeOf25 rfl rfl) <| oX (e_fa runUnderlying25 rfl sizeOf23 rfl rfl) <| oX (e_load isAgg23 rfl (.inl M0) rfl) <| oM rfl <| oX (e_eql rfl rfl) <| oN ?_
      refine c_ifp rfl (fun h3 => ?_) (fun h3 => ?_)
      · refine c_region <| oM rfl ?_
        refine oX (e_loada isAgg56 sizeOf56 rfl (.inl M0) (by first | assumption | repeat constructor)) ?_
        refine o_l rfl (l_bs (l := [.int .u64 xv, .int .u64 xc, .int .u64 xh, S xd, .int .u64 xo]) runUnderlying22 sizeOf56 zeroValue56 rfl rfl rfl rfl (by kernel_rfl)) ?_
        intro g21 _
        refine o_l rfl (l_append (sz := 5) underlying22 (info_of typeInfo56) rfl rfl rfl rfl rfl rfl ho (List.perm_append_comm (l₁ := [_, _])) (.blk underlying22 (.inl M0) (.take (.take (.take (.take (.take .done))))) (by simp [Value.oneCell'])) (by show _ * 48 ≤ _; omega) (by omega)) ?_
        rintro ⟨v2, HB2⟩ ho2
        refine oA rfl <| o_nil <| n_block <| n_code <| c_region <| oX (e_addn rfl rfl (by simp only [inR]; omega)) <| oM rfl <| o_nil ?_
        refine n_round' (y := (i, v', HB')) (i + 1, v2, HB2) (by show n - (i + 1) < n - i; omega) ?_ (sub_cons rfl (sub_cons rfl (sub_cons rfl (sub_cons rfl (sub_cons rfl sub_nil))))) _ (.refl _) (List.sublist_append_left _ _)
        refine ⟨by show i + 1 ≤ n; omega, ?_⟩
        simp only [hnx]
        simpa [cells5, cE, show xh = code from h3] using ho2
      · skip
        refine c_skip <| n_block <| n_code <| c_region <| oX (e_addn rfl rfl (by simp only [inR]; omega)) <| oM rfl <| o_nil ?_
        refine n_round' (y := (i, v', HB')) (i + 1, v', HB') (by show n - (i + 1) < n - i; omega) ?_ (sub_cons rfl (sub_cons rfl (sub_cons rfl (sub_cons rfl (sub_cons rfl sub_nil))))) _ (.refl _) (List.sublist_cons_self _ _)
        refine ⟨by show i + 1 ≤ n; omega, ?_⟩
        simp only [hnx]
        simpa [show ¬ xh = code from h3] using ho
    · skip
      refine c_exit ?_; refine x_code ?_; refine x_upto ?_; refine x_here ?_
      refine n_code <| cR <| oM rfl <| oA rfl <| oN <| c_ret ?_
      refine r_fn1 results74 rfl ?_
      have : i = l.length := by omega
      subst this
      simpa using ho
end Go.Proofs
namespace Go.Proofs
open Go Go.Sl
theorem idle132 (a b : Addr) : Idle Tryz.prog 132 #[.pointer (some a), .pointer (some b)] := by
  refine ⟨#[.pointer (some a), .pointer (some b)], fun w => by simp [invoke, Tryz.call132], fun w => ?_⟩
  refine callsD_of_wpS Tryz.func132 rfl fun c₀ cs hu => ?_
  apply wpS_seq
  apply wpS_region
  simp [wpOpsS, go_sem, recoverD, hu, Tryz.ntmps132, Exit.thenS]
  refine wpS_cond (t := false) (by simp [Act.eval, Array.replicate]) ?_
  simp only [Bool.false_eq_true, if_false]
  refine wpS_of_wp (wp_skip ?_)
  cases c₀
  simp_all [bodyPostS, results, Tryz.results132]

section
variable {x : Cx} {s : Slots} {H : HP} {d : Nat} {p : Operand} {ty : TypeId} {pos : String} {af : Array Edge} {gd : Option (Nat × Bool)}
theorem handle_eq (t : TypeId) : typeHandle Tryz.prog t = .pointer (some ⟨26, t, none⟩) := by
  unfold typeHandle
  have : Tryz.prog.globals.size = 26 := by kernel_rfl
  rw [this]
theorem ext63 {t e : TypeId} {i : TypeInfo} (hi : ∀ w, (typeInfo t).run Tryz.prog w = .ok i w) (hd : i.desc = .slice e) (q : Option Addr) (n c : Nat) (w : World) :
    (callFunc 63 #[.iface t (.slice q n c)]).run Tryz.prog w = .ok (.value (.agg #[.pointer (some ⟨26, t, none⟩), .pointer (some ⟨w.heap.size, 0, none⟩), .int .u64 151])) (w.alloc (.cells #[.slice q n c] t)) := by
  have hv := Lib.run_valueOf_slice (P := Tryz.prog) t e i (info_of hi) hd q n c w
  rw [run_callFunc_extern Tryz.func63 (by kernel_rfl) (by kernel_rfl) (by kernel_rfl) (e := fun args => Extern.ReflectliteValue.unpack (args.getD 0 (.tuple #[]))) (by kernel_rfl),
    show Sem.run Tryz.prog ((fun args : Array Value => Extern.ReflectliteValue.unpack (args.getD 0 (.tuple #[]))) #[.iface t (.slice q n c)]) w = _ from hv]
  simp only [Result.andThen, handle_eq]
theorem ext64 {t e : TypeId} {i ie : TypeInfo} (hi : ∀ w, (typeInfo t).run Tryz.prog w = .ok i w) (hd : i.desc = .slice e) (hie : ∀ w, (typeInfo e).run Tryz.prog w = .ok ie w) (ke : Nat) (hke : ∀ w, (Extern.Rtype.kind e).run Tryz.prog w = .ok ke w)
    (q : Option Addr) (n c : Nat) (k f : Nat) (hk : Lib.swapperK n ie ke = k) (hf : Tryz.prog.funcs.findIdx? (·.name == "internal/reflectlite" ++ ".Swapper$" ++ toString k) = some f) (w : World) :
    (callFunc 64 #[.iface t (.slice q n c)]).run Tryz.prog w = .ok (.value (.func (.func f) #[] (if k ≤ 2 then #[] else #[.slice q n c, .pointer (some ⟨26, e, none⟩)]))) w := by
  have hs := Lib.run_swapper_slice (P := Tryz.prog) t e i ie (info_of hi) hd (info_of hie) ke hke q n c f (by rw [hk]; exact hf) w
  rw [run_callFunc_extern Tryz.func64 (by kernel_rfl) (by kernel_rfl) (by kernel_rfl) (e := Extern.ReflectliteSwapper.swapper "internal/reflectlite" (Extern.ReflectliteValue.valueError "Swapper")) (by kernel_rfl), hs]
  simp only [Result.andThen, handle_eq, hk]
theorem e_vlen {t e : TypeId} {i : TypeInfo} {g off n c : Nat} {q : Option Addr} {l : List Value} {el : TypeId} {fr : Nat × Nat} {ats : Array TypeId} (hx : x.P = Tryz.prog) (hi : ∀ w, (typeInfo t).run Tryz.prog w = .ok i w) (hd : i.desc = .slice e) (hpk : Tryz.prog.packed t = false)
    (hp : ev s p = some (.agg #[.pointer (some ⟨26, t, none⟩), .pointer (some ⟨g, off, none⟩), .int .u64 151])) (hm : (g, .cells l.toArray el fr) ∈ H ∨ (g, Obj.cells l.toArray el fr) ∈ x.G) (hv : l[off]? = some (.slice q n c)) :
    Ex x s H ⟨some d, .call { callee := .value (.func 65), args := #[p], argTypes := ats }, ty, pos, af, gd⟩ (.int .i64 n) := fun a w hs => by
  have hl := Lib.run_valueLen_slice (P := Tryz.prog) t e i (info_of hi) hd hpk ⟨g, off, none⟩ q n c w (by rw [cell_of (hs.mem hm)]; exact hv)
  rw [handle_eq] at hl
  have hc : (callFunc 65 #[.agg #[.pointer (some ⟨26, t, none⟩), .pointer (some ⟨g, off, none⟩), .int .u64 151]]).run Tryz.prog w = .ok (.value (.int .i64 n)) w := by
    rw [run_callFunc_extern Tryz.func65 (by kernel_rfl) (by kernel_rfl) (by kernel_rfl) (e := Extern.ReflectliteValue.method (Extern.ReflectliteValue.valueError "reflectlite.Value.Len" 0) Extern.ReflectliteValue.len) (by kernel_rfl), hl]
    rfl
  rw [hx]
  have he : a.eval (.func 65) = .func (.func 65) #[] #[] := rfl
  simp [execOp, resolve, he, Deferred.ofValue, invoke, hs.eval hp, hc]
/-- A value that holds these bytes. -/
inductive Bv (x : Cx) (H : HP) : Value → List UInt8 → Prop where
  | nil {n cap : Nat} : Bv x H (.slice none n cap) []
  | blk {bs : List UInt8} {g off n cap : Nat} {l : List Value} {e : TypeId} {fr : Nat × Nat} (hm : (g, .cells l.toArray e fr) ∈ H ∨ (g, Obj.cells l.toArray e fr) ∈ x.G) (hn : bs.length = n) (hc : CutL l off n (B bs)) : Bv x H (.slice (some ⟨g, off, none⟩) n cap) bs
theorem run_loadB {P : Program} {w : World} : ∀ (l : List UInt8) (a : Addr) (acc : ByteArray), (∀ j x, l[j]? = some x → w.cell? (a.add j) = some (.int .u8 x.toNat)) → (Extern.Bytes.loadBytes a l.length acc).run P w = .ok ⟨acc.data ++ l.toArray⟩ w
  | [], a, acc, _ => by simp [Extern.Bytes.loadBytes]
  | x :: l, a, acc, h => by
    have h0 : w.cell? a = some (.int .u8 x.toNat) := by
      have := h 0 x rfl
      simpa [Addr.add] using this
    have ih := run_loadB (P := P) l (a.add 1) (acc.push x) (fun j y hj => by
      have := h (j + 1) y (by simpa using hj)
      rwa [show (a.add 1).add j = a.add (j + 1) by simp [Addr.add_add, Nat.add_comm]])
    have hx : ((x.toNat : Int).toNat).toUInt8 = x := by simp
    simp only [List.length_cons, Extern.Bytes.loadBytes, Sem.run_bind, run_load, h0, Result.andThen, hx]
    rw [ih]
    congr 1
    apply ByteArray.ext
    simp [ByteArray.push]
theorem Bv.run {a : Act} {w : World} (hs : St x s H a w) {v : Value} {bs : List UInt8} (h : Bv x H v bs) : (Extern.Bytes.bytesOf v).run x.P w = .ok ⟨bs.toArray⟩ w := by
  cases h with
  | nil => rfl
  | @blk _ g off n cap l e fr hm hn hc =>
    subst hn
    have := run_loadB (P := x.P) (w := w) bs ⟨g, off, none⟩ .empty (fun j b hj => by
      rw [add_addr, cell_of (hs.mem hm)]
      have hlt := (List.getElem?_eq_some_iff.1 hj).1
      have := congrArg (fun z => z[j]?) hc.eq
      simp only [List.getElem?_take_of_lt hlt, List.getElem?_drop] at this
      rw [← this]
      simp [B, hj])
    simp only [Extern.Bytes.bytesOf, this]
    have he : ByteArray.empty.data = #[] := rfl
    rw [he]
    simp
theorem e_cmp {q : Operand} {u v : Value} {la lb : List UInt8} {ats : Array TypeId} (hx : x.P = Tryz.prog) (hp : ev s p = some v) (hq : ev s q = some u) (ha : Bv x H v la) (hb : Bv x H u lb) :
    Ex x s H ⟨some d, .call { callee := .value (.func 362), args := #[p, q], argTypes := ats }, ty, pos, af, gd⟩ (.int .i64 (Lib.compareBytes la lb)) := fun a w hs => by
  have h1 := ha.run hs
  have h2 := hb.run hs
  rw [hx] at h1 h2
  have hc : (callFunc 362 #[v, u]).run Tryz.prog w = .ok (.value (.int .i64 (Lib.compareBytes la lb))) w := by
    rw [run_callFunc_extern Tryz.func362 (by kernel_rfl) (by kernel_rfl) (by kernel_rfl) (e := Extern.BytealgCompare.compare) (by kernel_rfl)]
    have : (Extern.BytealgCompare.compare #[v, u]).run Tryz.prog w = .ok (.int .i64 (Lib.compareBytes la lb)) w := by
      change Sem.run Tryz.prog (do pure (goInt (Extern.BytealgCompare.cmp (← Extern.Bytes.bytesOf v) (← Extern.Bytes.bytesOf u)))) w = _
      simp only [Sem.run_bind, h1, h2, Result.andThen_ok, Sem.run_pure, Lib.cmp_eq, goInt]
    rw [this]
    rfl
  rw [hx]
  have he : a.eval (.func 362) = .func (.func 362) #[] #[] := rfl
  simp [execOp, resolve, he, Deferred.ofValue, invoke, hs.eval hp, hs.eval hq, hc]
theorem ext225 (v : Value) (w : World) : (callFunc 225 #[v]).run Tryz.prog w = .ok (.value v) w := by
  rw [run_callFunc_extern Tryz.func225 (by kernel_rfl) (by kernel_rfl) (by kernel_rfl) (e := Extern.AbiNoEscape.same) (by kernel_rfl), Lib.run_noEscape]
  rfl
end
end Go.Proofs
namespace Go.Proofs
open Go Go.Sl Tryz
set_option maxRecDepth 100000

theorem cut_skip (p : List Value) {l vs : List Value} {i n : Nat} (h : CutL l i n vs) : CutL (p ++ l) (p.length + i) n vs := by
  induction p with
  | nil => simpa using h
  | cons a p ih => rw [List.length_cons, Nat.add_right_comm]; exact .skip ih
theorem put_skip (p : List Value) {l vs l' : List Value} {i : Nat} (h : PutL l i vs l') : PutL (p ++ l) (p.length + i) vs (p ++ l') := by
  induction p with
  | nil => simpa using h
  | cons a p ih => rw [List.length_cons, Nat.add_right_comm]; exact .skip ih
theorem cells5_cut {l : List En} {i : Nat} (h : i < l.length) (rest : List Value) : CutL (cells5 l ++ rest) (i * 5) 5 (cE l[i]) := by
  induction l generalizing i with
  | nil => cases h
  | cons x l ih =>
    cases i with
    | zero => exact .take (.take (.take (.take (.take .done))))
    | succ i =>
      have := ih (i := i) (by simpa using h)
      have e1 : cells5 (x :: l) ++ rest = cE x ++ (cells5 l ++ rest) := by simp [cells5]
      rw [e1, show (i + 1) * 5 = (cE x).length + i * 5 by simp [cE]; omega]
      exact cut_skip _ this
theorem cells5_put {l : List En} {i : Nat} (y : En) (h : i < l.length) (rest : List Value) : PutL (cells5 l ++ rest) (i * 5) (cE y) (cells5 (l.set i y) ++ rest) := by
  induction l generalizing i with
  | nil => cases h
  | cons x l ih =>
    cases i with
    | zero => exact .take (.take (.take (.take (.take .done))))
    | succ i =>
      have := ih (i := i) (by simpa using h)
      have e1 : cells5 (x :: l) ++ rest = cE x ++ (cells5 l ++ rest) := by simp [cells5]
      have e2 : cells5 ((x :: l).set (i + 1) y) ++ rest = cE x ++ (cells5 (l.set i y) ++ rest) := by simp [cells5]
      rw [e1, e2, show (i + 1) * 5 = (cE x).length + i * 5 by simp [cE]; omega]
      exact put_skip _ this
/-- Two entries exchanged. -/
def swapL (l : List En) (i j : Nat) (hi : i < l.length) (hj : j < l.length) : List En := (l.set i l[j]).set j l[i]
theorem swapL_length {l : List En} {i j : Nat} (hi : i < l.length) (hj : j < l.length) : (swapL l i j hi hj).length = l.length := by simp [swapL]
theorem cE_one (x : En) : ∀ v ∈ cE x, v.oneCell' = true := by
  intro v hv
  simp [cE] at hv
  rcases hv with rfl | rfl | rfl | rfl | rfl <;> rfl

section
variable {x : Cx} {s : Slots} {H H' : HP} {d : Nat} {p q r : Operand} {ty : TypeId} {pos : String} {af : Array Edge} {gd : Option (Nat × Bool)} {ats : Array TypeId}
/-- The run of the exchange. -/
theorem exchange_run {w : World} {g : Nat} {l : List En} {rest : List Value} {lo hi i j : Nat} (h : w.heap[g]? = some (.cells (cells5 l ++ rest).toArray 56 (lo, hi))) (hi' : i < l.length) (hj : j < l.length) (hf : l.length * 5 ≤ lo ∨ hi = 0) :
    ∃ w', (Extern.ReflectliteSwapper.exchange 56 ⟨g, 0, none⟩ i j).run Tryz.prog w = .ok (.tuple #[]) w' ∧ w'.heap[g]? = some (.cells (cells5 (swapL l i j hi' hj) ++ rest).toArray 56 (lo, hi)) ∧ (∀ k, k ≠ g → w'.heap[k]? = w.heap[k]?) ∧
      w'.os = w.os ∧ w'.tape = w.tape ∧ w'.output = w.output ∧ w'.heap.size = w.heap.size := by
  have hx := Sl.run_loadCells (P := Tryz.prog) h (cells5_cut hi' rest)
  have hy := Sl.run_loadCells (P := Tryz.prog) h (cells5_cut hj rest)
  have hA := isAgg56
  have hS := sizeOf56
  obtain ⟨w1, a1, a2, a3, a4, a5, a6, a7⟩ := Sl.run_storeCells (P := Tryz.prog) (off := i * 5) (cE l[j]) w 0 _ h (by simp [cells5_length, cE]; omega) (cE_one _) (by intro k h1 h2; simp [cE] at h1 h2; omega)
  have b2 : w1.heap[g]? = some (.cells (cells5 (l.set i l[j]) ++ rest).toArray 56 (lo, hi)) := by
    rw [(cells5_put l[j] hi' rest).eq]; simpa using a2
  obtain ⟨w2, c1, c2, c3, c4, c5, c6, c7⟩ := Sl.run_storeCells (P := Tryz.prog) (off := j * 5) (cE l[i]) w1 0 _ b2 (by simp [cells5_length, cE]; omega) (cE_one _) (by intro k h1 h2; simp [cE] at h1 h2; omega)
  have d2 : w2.heap[g]? = some (.cells (cells5 (swapL l i j hi' hj) ++ rest).toArray 56 (lo, hi)) := by
    rw [swapL, (cells5_put l[i] (by simpa using hj) rest).eq]; simpa using c2
  refine ⟨w2, ?_, d2, fun k hk => (c3 k hk).trans (a3 k hk), c4.trans a4, c5.trans a5, c6.trans a6, c7.trans a7⟩
  have e1 : ∀ z : En, (cE z).toArray.size = 5 := fun z => rfl
  simp only [Extern.ReflectliteSwapper.exchange, Sem.run_bind, hS, Result.andThen_ok, add_addr, Nat.zero_add, loadVar, hA, if_true, hx, hy, Sem.run_pure, storeVar, Value.cells, e1, ne_eq, not_true_eq_false, if_false, a1, c1]
theorem ofHandle56 (w : World) : (Extern.Rtype.ofHandle (.pointer (some ⟨26, 56, none⟩))).run Tryz.prog w = .ok 56 w := by kernel_rfl
theorem swap_run {w : World} {g n cap : Nat} {l : List En} {rest : List Value} {lo hi i j : Nat} (h : w.heap[g]? = some (.cells (cells5 l ++ rest).toArray 56 (lo, hi))) (hi' : i < l.length) (hj : j < l.length) (hn : l.length = n) (hf : l.length * 5 ≤ lo ∨ hi = 0) :
    ∃ w', (callFunc 121 #[.int .i64 (i : Nat), .int .i64 (j : Nat), .slice (some ⟨g, 0, none⟩) n cap, .pointer (some ⟨26, 56, none⟩)]).run Tryz.prog w = .ok (.value (.tuple #[])) w' ∧ w'.heap[g]? = some (.cells (cells5 (swapL l i j hi' hj) ++ rest).toArray 56 (lo, hi)) ∧ (∀ k, k ≠ g → w'.heap[k]? = w.heap[k]?) ∧
      w'.os = w.os ∧ w'.tape = w.tape ∧ w'.output = w.output ∧ w'.heap.size = w.heap.size := by
  obtain ⟨w', e1, e2⟩ := exchange_run h hi' hj hf
  refine ⟨w', ?_, e2⟩
  rw [run_callFunc_extern func121 (by kernel_rfl) (by kernel_rfl) (by kernel_rfl) (e := Extern.ReflectliteSwapper.swap false) (by kernel_rfl)]
  have hr : (Extern.ReflectliteSwapper.swap false #[.int .i64 (i : Nat), .int .i64 (j : Nat), .slice (some ⟨g, 0, none⟩) n cap, .pointer (some ⟨26, 56, none⟩)]).run Tryz.prog w = .ok (.tuple #[]) w' := by
    have i0 : ¬ ((i : Int) < 0) := by omega
    have i1 : ¬ ((i : Int) ≥ n) := by omega
    have j0 : ¬ ((j : Int) < 0) := by omega
    have j1 : ¬ ((j : Int) ≥ n) := by omega
    rw [Lib.rl_swap]
    simp [i0, i1, j0, j1, ofHandle56, e1]
  rw [hr]; rfl
theorem l_swapE {g n cap : Nat} {l : List En} {rest : List Value} {lo hi i j : Nat} (hx : x.P = Tryz.prog) (hN : Nat.blt d x.N = true) (hp : ev s p = some (.func (.func 121) #[] #[.slice (some ⟨g, 0, none⟩) n cap, .pointer (some ⟨26, 56, none⟩)])) (hq : ev s q = some (.int .i64 (i : Nat))) (hr : ev s r = some (.int .i64 (j : Nat)))
    (hn : l.length = n) (hi' : i < l.length) (hj : j < l.length) (hf : l.length * 5 ≤ lo ∨ hi = 0) (hu : UpB H g (.cells (cells5 l ++ rest).toArray 56 (lo, hi)) (.cells (cells5 (swapL l i j hi' hj) ++ rest).toArray 56 (lo, hi)) H') :
    Lo x s H ⟨some d, .call { callee := .value p, args := #[q, r], argTypes := ats }, ty, pos, af, gd⟩ (Y := Unit) (fun _ => (d, .tuple #[]) :: s) (fun _ => H') (fun _ => True) :=
  l_gen (Y := Unit) (fun _ => .tuple #[]) (fun _ => H') (fun _ => True) rfl hN (fun a w hs => by
    obtain ⟨w', e1, e2, e3, e4, e5, e6, e7⟩ := swap_run (cap := cap) (hs.heap _ hu.mem) hi' hj hn hf
    refine ⟨w', (), ?_, trivial, hs.up hu e2 e3 e4 e5 e6 e7⟩
    rw [hx]
    simp [execOp, resolve, hs.eval hp, hs.eval hq, hs.eval hr, Deferred.ofValue, invoke, e1])
end
end Go.Proofs
namespace Go.Proofs
open Go Go.Sl Tryz
set_option maxRecDepth 100000

/-- By digests, then by offsets. -/
def ltE (x y : En) : Bool := if x.d ≠ y.d then Op.bytesLess x.d y.d else decide (x.o < y.o)
theorem less_is {G : HP} {l : List En} {rest : List Value} {g3 g n cap : Nat} {lo hi i j : Nat} (h3 : (g3, C [.slice (some ⟨g, 0, none⟩) n cap] 22) ∈ G) (hg : (g, Obj.cells (cells5 l ++ rest).toArray 56 (lo, hi)) ∈ G) (hn : l.length = n) (hi' : i < l.length) (hj : j < l.length) :
    Ctr Tryz.prog 193 [.int .i64 (i : Nat), .int .i64 (j : Nat), .pointer (some ⟨g3, 0, none⟩)] G [] (fun r _ => r = .bool (ltE l[i] l[j])) := by
  have hci : CutL (cells5 l ++ rest) (0 + i * 5) 5 (cE l[i]) := by rw [Nat.zero_add]; exact cells5_cut hi' rest
  have hcj : CutL (cells5 l ++ rest) (0 + j * 5) 5 (cE l[j]) := by rw [Nat.zero_add]; exact cells5_cut hj rest
  generalize l[i] = x at *
  generalize l[j] = y at *
  obtain ⟨xv, xc, xh, xd, xo⟩ := x
  obtain ⟨yv, yc, yh, yd, yo⟩ := y
  simp only [cE] at hci hcj
  refine fn_enter 35 func193 rfl ntmps193 rfl ?_
  intro w0
  refine cR <| oA rfl <| oN <| c_seq ?_
  refine c_regiond ([]) (by kernel_rfl) (by first | exact List.Sublist.refl _ | exact List.nil_sublist _ | (repeat constructor)) ?_
  refine dX 0 rfl (e_load isAgg22 rfl (.inr (by assumption)) rfl) ?_
  refine dX 1 rfl (e_move rfl) <| dX 2 rfl (e_ian runUnderlying22 sizeOf56 rfl rfl (by omega)) ?_
  refine dX 3 rfl (e_loada isAgg56 sizeOf56 rfl (.inr (by assumption)) (by first | assumption | repeat constructor)) ?_
  refine dX 4 rfl (e_load isAgg22 rfl (.inr (by assumption)) rfl) ?_
  refine dX 5 rfl (e_move rfl) <| dX 6 rfl (e_ian runUnderlying22 sizeOf56 rfl rfl (by omega)) ?_
  refine dX 7 rfl (e_loada isAgg56 sizeOf56 rfl (.inr (by assumption)) (by first | assumption | repeat constructor)) ?_
  refine d_l2 8 9 (by kernel_rfl) rfl rfl rfl rfl (l_alloc zeroValue56 rfl rfl) (l_alloc zeroValue56 rfl rfl) (fun _ _ => hs_nil) (fun _ _ => hs_nil) ?_ ?_
  · intro g6 _
    refine d_l 9 (by kernel_rfl) rfl rfl (l_alloc zeroValue56 rfl rfl) (fun _ _ => hs_nil) ?_; intro g7 _
    refine d_l 10 (by kernel_rfl) rfl rfl (l_storea sizeOf56 rfl rfl rfl (by simp [Value.oneCell']) (.tail .head) (.take (.take (.take (.take (.take .done))))) nofrs0) (fun _ _ => hs_nil) ?_
    intro _ _
    refine d_l 11 (by kernel_rfl) rfl rfl (l_storea sizeOf56 rfl rfl rfl (by simp [Value.oneCell']) .head (.take (.take (.take (.take (.take .done))))) nofrs0) (fun _ _ => hs_nil) ?_
    intro _ _
    refine dN <| n_code <| c_seq <| cR <| oX (e_fa runUnderlying56 rfl sizeOf25 rfl rfl) <| oX (e_fa runUnderlying25 rfl sizeOf9 rfl rfl) ?_
    refine oX (e_load isAgg9 rfl (by first | exact .inr (by assumption) | exact .inl (by repeat (first | exact List.Mem.head _ | refine List.Mem.tail _ ?_))) rfl) ?_
    refine oX (e_fa runUnderlying56 rfl sizeOf25 rfl rfl) <| oX (e_fa runUnderlying25 rfl sizeOf9 rfl rfl) <| oX (e_load isAgg9 rfl (.inl M0) rfl) <| oX (e_sne rfl rfl) <| oN ?_
    refine c_ifp rfl (fun h1 => ?_) (fun h1 => ?_)
    · refine cR <| oX (e_fa runUnderlying56 rfl sizeOf25 rfl rfl) <| oX (e_fa runUnderlying25 rfl sizeOf9 rfl rfl) ?_
      refine oX (e_load isAgg9 rfl (by first | exact .inr (by assumption) | exact .inl (by repeat (first | exact List.Mem.head _ | refine List.Mem.tail _ ?_))) rfl) ?_
      refine oX (e_fa runUnderlying56 rfl sizeOf25 rfl rfl) <| oX (e_fa runUnderlying25 rfl sizeOf9 rfl rfl) <| oX (e_load isAgg9 rfl (.inl M0) rfl) <| oX (e_slt rfl rfl) <| oA rfl <| oN <| c_ret ?_
      refine r_fn1 results193 rfl ?_
      simp [ltE, show ¬ xd = yd from h1]
    · skip
      refine c_skip <| n_code <| cR <| oX (e_fa runUnderlying56 rfl sizeOf23 rfl rfl) ?_
      refine oX (e_load isAgg23 rfl (by first | exact .inr (by assumption) | exact .inl (by repeat (first | exact List.Mem.head _ | refine List.Mem.tail _ ?_))) rfl) ?_
      refine oX (e_fa runUnderlying56 rfl sizeOf23 rfl rfl) <| oX (e_load isAgg23 rfl (.inl M0) rfl) <| oX (e_lss rfl rfl) <| oA rfl <| oN <| c_ret ?_
      refine r_fn1 results193 rfl ?_
      simp [ltE, show xd = yd from Classical.byContradiction h1]
  · skip
    intro g7 _
    refine d_l 8 (by kernel_rfl) rfl rfl (l_alloc zeroValue56 rfl rfl) (fun _ _ => hs_nil) ?_; intro g6 _
    refine d_l 10 (by kernel_rfl) rfl rfl (l_storea sizeOf56 rfl rfl rfl (by simp [Value.oneCell']) .head (.take (.take (.take (.take (.take .done))))) nofrs0) (fun _ _ => hs_nil) ?_
    intro _ _
    refine d_l 11 (by kernel_rfl) rfl rfl (l_storea sizeOf56 rfl rfl rfl (by simp [Value.oneCell']) (.tail .head) (.take (.take (.take (.take (.take .done))))) nofrs0) (fun _ _ => hs_nil) ?_
    intro _ _
    refine dN <| n_code <| c_seq <| cR <| oX (e_fa runUnderlying56 rfl sizeOf25 rfl rfl) <| oX (e_fa runUnderlying25 rfl sizeOf9 rfl rfl) <| oX (e_load isAgg9 rfl (.inl M0) rfl) <| oX (e_fa runUnderlying56 rfl sizeOf25 rfl rfl) <| oX (e_fa runUnderlying25 rfl sizeOf9 rfl rfl) ?_
    refine oX (e_load isAgg9 rfl (by first | exact .inr (by assumption) | exact .inl (by repeat (first | exact List.Mem.head _ | refine List.Mem.tail _ ?_))) rfl) ?_
    refine oX (e_sne rfl rfl) <| oN ?_
    refine c_ifp rfl (fun h1 => ?_) (fun h1 => ?_)
    · refine cR <| oX (e_fa runUnderlying56 rfl sizeOf25 rfl rfl) <| oX (e_fa runUnderlying25 rfl sizeOf9 rfl rfl) <| oX (e_load isAgg9 rfl (.inl M0) rfl) <| oX (e_fa runUnderlying56 rfl sizeOf25 rfl rfl) <| oX (e_fa runUnderlying25 rfl sizeOf9 rfl rfl) ?_
      refine oX (e_load isAgg9 rfl (by first | exact .inr (by assumption) | exact .inl (by repeat (first | exact List.Mem.head _ | refine List.Mem.tail _ ?_))) rfl) ?_
      refine oX (e_slt rfl rfl) <| oA rfl <| oN <| c_ret ?_
      refine r_fn1 results193 rfl ?_
      simp [ltE, show ¬ xd = yd from h1]
    · skip
      refine c_skip <| n_code <| cR <| oX (e_fa runUnderlying56 rfl sizeOf23 rfl rfl) <| oX (e_load isAgg23 rfl (.inl M0) rfl) <| oX (e_fa runUnderlying56 rfl sizeOf23 rfl rfl) ?_
      refine oX (e_load isAgg23 rfl (by first | exact .inr (by assumption) | exact .inl (by repeat (first | exact List.Mem.head _ | refine List.Mem.tail _ ?_))) rfl) ?_
      refine oX (e_lss rfl rfl) <| oA rfl <| oN <| c_ret ?_
      refine r_fn1 results193 rfl ?_
      simp [ltE, show xd = yd from Classical.byContradiction h1]
end Go.Proofs

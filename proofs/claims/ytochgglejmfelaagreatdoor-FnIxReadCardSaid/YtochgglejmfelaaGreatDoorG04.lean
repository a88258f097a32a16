/- The codec that is read; An index that ends within its numbers is none; impl.IxAgain of an index that ends within its numbers; A row that the library's sort has turned; Slices whose shape is not told; A bytes.Buffer: its length, room for more; append of so many zeros to nothing; bytes.growSlice; bytes.Buffer's grow and Write. (A part of the proof of this: for every input laws.FnIxRead returns true and its arguments read as they did, the listed package variables being what the program lays.) -/
import Derived.Test.YtochgglejmfelaaGreatDoorG02
import Derived.Test.YtochgglejmfelaaGreatDoorG03
import Derived.Sort.Grow
import Derived.Lib.AppendZeros
namespace Go.Proofs
open Go Go.Sl Tryz
set_option maxRecDepth 100000
set_option maxHeartbeats 1000000
section
variable {G : HP} {gr gs gb n cap i k L lo hi e3 e5 eE eU : Nat} {f3 f5 : Nat × Nat} {bs : List UInt8} {rest pl cE' cU' : List Value} {gE gU : Addr} {t3 t5 : List Value}
theorem byte_is {b : UInt8} (hD : (gs, DB bs rest lo hi) ∈ G) (hn : bs.length = n) (h63 : n < 9223372036854775808) (hb : bs[i]? = some b) :
    Ctr Tryz.prog 289 [.pointer (some ⟨gr, 0, none⟩)] G [(gr, RB gs n cap i)] (fun r H' => r = .tuple #[.int .u8 (b.toNat : Nat), .nilIface] ∧ H' = [(gr, RB gs n cap (i + 1))]) := by
  have hi := (List.getElem?_eq_some_iff.1 hb).1
  have hb2 : (B bs ++ rest)[0 + i * 1]? = some (.int .u8 (b.toNat : Nat)) := by
    rw [Nat.zero_add, Nat.mul_one, List.getElem?_append_left (by simp [B]; exact hi)]
    simp [B, hb]
  refine fn_enter 37 func289 rfl ntmps289 rfl ?_
  intro w0
  refine cR <| oA rfl <| oA rfl <| oN <| cR <| oM rfl <| oC rfl <| oX (e_fak 2 runUnderlying144 rfl sizeOf3 rfl rfl rfl) ?_
  refine o_l rfl (l_store sizeOf3 rfl rfl rfl .head (.tail (.tail .head)) (by omega)) ?_; intro _ _
  refine oN <| c_seq <| c_seq <| cQ <| qM rfl <| qC rfl <| qX (e_fak 1 runUnderlying144 rfl sizeOf2 rfl rfl rfl) <| qX (e_load isAgg2 rfl (.inl M0) rfl) <| qM rfl <| qC rfl <| qX (e_fak 0 runUnderlying144 rfl sizeOf72 rfl rfl rfl) <| qX (e_load isAgg72 rfl (.inl M0) rfl) <| qX (e_lenl runUnderlying72 rfl) <| qX (e_geq rfl rfl) <| qN ?_
  refine c_ifp rfl (fun h1 => ?_) (fun h1 => ?_)
  · exact absurd h1 (by omega)
  · skip
    refine c_skip <| n_code <| c_seq <| cQ <| qM rfl <| qC rfl <| qX (e_fak 0 runUnderlying144 rfl sizeOf72 rfl rfl rfl) <| qX (e_load isAgg72 rfl (.inl M0) rfl) <| qM rfl <| qC rfl <| qX (e_fak 1 runUnderlying144 rfl sizeOf2 rfl rfl rfl) <| qX (e_load isAgg2 rfl (.inl M0) rfl) <| qX (e_ian runUnderlying72 sizeOf5 rfl rfl (by omega)) ?_
    refine qX (e_load isAgg5 rfl (.inr (by assumption)) (by assumption)) ?_
    refine qA rfl <| qN <| cR <| oM rfl <| oC rfl <| oX (e_fak 1 runUnderlying144 rfl sizeOf2 rfl rfl rfl) <| oX (e_load isAgg2 rfl (.inl M0) rfl) <| oX (e_addn rfl rfl (by simp only [inR]; omega)) <| oC rfl <| oX (e_fak 1 runUnderlying144 rfl sizeOf2 rfl rfl rfl) ?_
    refine o_l rfl (l_store sizeOf2 rfl rfl rfl .head (.tail .head) (by omega)) ?_; intro _ _
    refine oN <| cR <| oM rfl <| oA rfl <| oA rfl <| oN <| c_ret ?_
    refine r_fn (l := [.tmp 2, .tmp 3]) results289 rfl rfl ?_
    exact ⟨rfl, rfl⟩
theorem byte_eof (hE : (3, Obj.cells (EV gE :: t3).toArray e3 f3) ∈ G) :
    Ctr Tryz.prog 289 [.pointer (some ⟨gr, 0, none⟩)] G [(gr, RB gs n cap n)] (fun r H' => r = .tuple #[.int .u8 0, EV gE] ∧ H' = [(gr, RB gs n cap n)]) := by
  refine fn_enter 37 func289 rfl ntmps289 rfl ?_
  intro w0
  refine cR <| oA rfl <| oA rfl <| oN <| cR <| oM rfl <| oC rfl <| oX (e_fak 2 runUnderlying144 rfl sizeOf3 rfl rfl rfl) ?_
  refine o_l rfl (l_store sizeOf3 rfl rfl rfl .head (.tail (.tail .head)) (by omega)) ?_; intro _ _
  refine oN <| c_seq <| c_seq <| cQ <| qM rfl <| qC rfl <| qX (e_fak 1 runUnderlying144 rfl sizeOf2 rfl rfl rfl) <| qX (e_load isAgg2 rfl (.inl M0) rfl) <| qM rfl <| qC rfl <| qX (e_fak 0 runUnderlying144 rfl sizeOf72 rfl rfl rfl) <| qX (e_load isAgg72 rfl (.inl M0) rfl) <| qX (e_lenl runUnderlying72 rfl) <| qX (e_geq rfl rfl) <| qN ?_
  refine c_then (by simp [ev, lk]) ?_
  refine c_seq <| cQ ?_
  refine qX (e_load isAgg80 rfl (.inr (by assumption)) rfl) ?_
  refine qA rfl <| qA rfl <| qN <| c_ret ?_
  refine r_fn (l := [.tmp 2, .tmp 3]) results289 rfl rfl ?_
  exact ⟨rfl, rfl⟩
theorem seek_is (h63 : i < 9223372036854775808) :
    Ctr Tryz.prog 290 [.pointer (some ⟨gr, 0, none⟩), .int .i64 0, .int .i64 1] G [(gr, RB gs n cap i)] (fun r H' => r = .tuple #[.int .i64 i, .nilIface] ∧ H' = [(gr, RB gs n cap i)]) := by
  refine fn_enter 42 func290 rfl ntmps290 rfl ?_
  intro w0
  refine cR <| oA rfl <| oA rfl <| oN <| cR <| oM rfl <| oC rfl <| oX (e_fak 2 runUnderlying144 rfl sizeOf3 rfl rfl rfl) ?_
  refine o_l rfl (l_store sizeOf3 rfl rfl rfl .head (.tail (.tail .head)) (by omega)) ?_; intro _ _
  refine oN <| cR <| oA rfl <| oN <| c_seq <| cR <| oM rfl <| oN <| c_block <| cR <| oX (e_eql rfl rfl) <| oA rfl <| oN <| c_else rfl <| cR <| oX (e_eql rfl rfl) <| oA rfl <| oN <| c_then rfl <| c_region <| oM rfl <| oC rfl <| oX (e_fak 1 runUnderlying144 rfl sizeOf2 rfl rfl rfl) <| oX (e_load isAgg2 rfl (.inl M0) rfl) <| oM rfl <| oX (e_addN rfl rfl (by omega)) <| oA rfl <| o_nil <| n_block <| n_code <| c_seq <| cR <| oM rfl ?_
  refine oX (e_lss rfl rfl) <| oN ?_
  refine c_ifp rfl (fun h1 => ?_) (fun h1 => ?_)
  · exact absurd h1 (by omega)
  · skip
    refine c_skip <| n_code <| cR <| oM rfl <| oM rfl <| oC rfl <| oX (e_fak 1 runUnderlying144 rfl sizeOf2 rfl rfl rfl) ?_
    refine o_l rfl (l_store sizeOf2 rfl rfl rfl .head (.tail .head) (by omega)) ?_; intro _ _
    refine oN <| cR <| oM rfl <| oA rfl <| oA rfl <| oN <| c_ret ?_
    refine r_fn (l := [.tmp 6, .tmp 7]) results290 rfl rfl ?_
    exact ⟨by simp, by simp⟩
theorem toByte_is : CtrP Tryz.prog 79 [RV gr] G (RV gr) := by
  refine fn_enter 16 func79 rfl ntmps79 rfl ?_
  intro w0
  refine cR <| oA rfl <| oN <| c_seq <| cR <| oM rfl ?_
  refine oX (e_ta (r := .tuple #[RV gr, .bool true]) rfl (by intro w; kernel_rfl)) ?_
  refine oM rfl <| oX (e_extract rfl rfl) <| oX (e_extract rfl rfl) <| oA rfl <| oA rfl <| oN <| cR <| oM rfl <| oN <| c_then rfl <| cR <| oM rfl <| oA rfl <| oN <| c_ret ?_
  refine r_fn1 results79 rfl ?_
  exact ⟨rfl, rfl⟩
theorem toSeek_is : CtrP Tryz.prog 164 [RV gr] G (RV gr) := by
  refine fn_enter 28 func164 rfl ntmps164 rfl ?_
  intro w0
  refine cR <| oA rfl <| oN <| c_seq <| cR <| oM rfl ?_
  refine oX (e_ta (r := .tuple #[RV gr, .bool true]) rfl (by intro w; kernel_rfl)) ?_
  refine oM rfl <| oX (e_extract rfl rfl) <| oX (e_extract rfl rfl) <| oA rfl <| oA rfl <| oN <| cR <| oM rfl <| oN <| c_then rfl <| cR <| oM rfl <| oA rfl <| oN <| c_ret ?_
  refine r_fn1 results164 rfl ?_
  exact ⟨rfl, rfl⟩
theorem uvar_0 (hE : (3, Obj.cells (EV gE :: t3).toArray e3 f3) ∈ G) :
    Ctr Tryz.prog 78 [RV gr] G [(gr, RB gs 0 cap 0)] (fun r H' => r = .tuple #[.int .u64 0, EV gE] ∧ H' = [(gr, RB gs 0 cap 0)]) := by
  refine fn_enter 59 func78 rfl ntmps78 rfl ?_
  intro w0
  refine cR <| oA rfl <| oA rfl <| oN <| cR <| oA rfl <| oN <| cR <| oA rfl <| oN <| cR <| oA rfl <| oN <| c_block ?_
  refine c_rounds 1 ?_
  refine c_seq <| c_block <| cR <| oM rfl ?_
  refine o_l rfl (l_calli0 call289 (by intro w; kernel_rfl) (byte_eof hE) rfl rfl rfl (.cons .head .nil)) ?_
  rintro ⟨r, H'⟩ ⟨rfl, rfl⟩
  simp only [List.cons_append, List.nil_append]
  refine oM rfl <| oX (e_extract rfl rfl) <| oX (e_extract rfl rfl) <| oA rfl <| oA rfl <| oN <| c_seq <| cR <| oM rfl <| oX (e_inen runUnderlying80 rfl) <| oN <| c_then rfl <| c_seq <| cR <| oM rfl ?_
  refine oX (e_load isAgg80 rfl (.inr (by assumption)) rfl) ?_
  refine oX (e_ieq_same runUnderlying80 (typeInfo260) rfl (runUnderlying260) (sizeOf262) (by decide) rfl rfl) <| oM rfl ?_
  refine o_split 20 rfl (fun h1 => ?_) (fun h1 => ?_)
  · refine oM rfl <| oX (e_neq rfl rfl) <| oX (e_pick_t rfl rfl) <| oN <| cL rfl <| cR <| oM rfl <| oA rfl <| oA rfl <| oN <| c_ret ?_
    refine r_fn (l := [.tmp 2, .tmp 3]) results78 rfl rfl ?_
    exact ⟨rfl, rfl⟩
  · cases h1
theorem uvar_1 {b : UInt8} (hD : (gs, DB [b] rest lo hi) ∈ G) (hE : (3, Obj.cells (EV gE :: t3).toArray e3 f3) ∈ G) (hU : (5, Obj.cells (EV gU :: t5).toArray e5 f5) ∈ G) (hb : 128 ≤ b.toNat) :
    Ctr Tryz.prog 78 [RV gr] G [(gr, RB gs 1 cap 0)] (fun r H' => r = .tuple #[.int .u64 0, EV gU] ∧ H' = [(gr, RB gs 1 cap 1)]) := by
  refine fn_enter 59 func78 rfl ntmps78 rfl ?_
  intro w0
  refine cR <| oA rfl <| oA rfl <| oN <| cR <| oA rfl <| oN <| cR <| oA rfl <| oN <| cR <| oA rfl <| oN <| c_block ?_
  refine c_rounds 2 ?_
  refine c_seq <| c_block <| cR <| oM rfl ?_
  refine o_l rfl (l_calli0 call289 (by intro w; kernel_rfl) (byte_is (i := 0) hD rfl (by simp) rfl) rfl rfl rfl (.cons .head .nil)) ?_
  rintro ⟨r, H'⟩ ⟨rfl, rfl⟩
  simp only [List.cons_append, List.nil_append]
  refine oM rfl <| oX (e_extract rfl rfl) <| oX (e_extract rfl rfl) <| oA rfl <| oA rfl <| oN <| c_seq <| cR <| oM rfl <| oX (e_nnen runUnderlying80 rfl) <| oN <| cL rfl <| c_seq <| cR <| oM rfl <| oX (e_eql rfl rfl) <| oM rfl ?_
  refine o_splitp 28 rfl (fun h1 => ?_) (fun h1 => ?_)
  · exact absurd h1 (by decide)
  · skip
    refine oS <| oS <| oX (e_pick_f rfl rfl) <| oM rfl <| oM rfl <| oX (e_geq rfl rfl) <| oX (e_pick_f rfl rfl) <| oN <| cL rfl <| c_seq <| cR <| oM rfl <| oX (e_lss rfl rfl) <| oN ?_
    refine c_ifp rfl (fun h2 => ?_) (fun h2 => ?_)
    · exact absurd h2 (by omega)
    · skip
      refine c_skip <| n_code <| c_region <| oM rfl <| oM rfl <| oX (e_and rfl rfl) <| oX (e_conv runUnderlying5 runUnderlying23 rfl) <| oM rfl <| oX (e_shl rfl rfl (by omega)) <| oX (e_or rfl rfl) <| oA rfl <| o_nil <| n_block <| n_code <| c_region <| oM rfl <| oX (e_addn rfl rfl (by simp only [inR]; omega)) <| oA rfl <| o_nil ?_
      refine n_rounds ?_
      refine c_seq <| c_block <| cR <| oM rfl ?_
      refine o_l rfl (l_calli0 call289 (by intro w; kernel_rfl) (byte_eof hE) rfl rfl rfl (.cons .head .nil)) ?_
      rintro ⟨r, H'⟩ ⟨rfl, rfl⟩
      simp only [List.cons_append, List.nil_append]
      refine oM rfl <| oX (e_extract rfl rfl) <| oX (e_extract rfl rfl) <| oA rfl <| oA rfl <| oN <| c_seq <| cR <| oM rfl <| oX (e_inen runUnderlying80 rfl) <| oN <| c_then rfl <| c_seq <| cR <| oM rfl ?_
      refine oX (e_load isAgg80 rfl (.inr (by assumption)) rfl) ?_
      refine oX (e_ieq_same runUnderlying80 (typeInfo260) rfl (runUnderlying260) (sizeOf262) (by decide) rfl rfl) <| oM rfl ?_
      refine o_split 20 rfl (fun h3 => ?_) (fun h3 => ?_)
      · refine oM rfl <| oX (e_neq rfl rfl) <| oX (e_pick_t rfl rfl) <| oN <| c_then rfl <| c_region ?_
        refine oX (e_load isAgg80 rfl (.inr (by assumption)) rfl) ?_
        refine oA rfl <| oN <| cR <| oM rfl <| oA rfl <| oA rfl <| oN <| c_ret ?_
        refine r_fn (l := [.tmp 2, .tmp 3]) results78 rfl rfl ?_
        exact ⟨rfl, rfl⟩
      · cases h3
theorem uvar_1024 {tl : List UInt8} (hD : (gs, DB (128 :: 8 :: tl) rest lo hi) ∈ G) (hn : (128 :: 8 :: tl : List UInt8).length = n) (h63 : n < 9223372036854775808) :
    Ctr Tryz.prog 78 [RV gr] G [(gr, RB gs n cap 0)] (fun r H' => r = .tuple #[.int .u64 1024, .nilIface] ∧ H' = [(gr, RB gs n cap 2)]) := by
  refine fn_enter 59 func78 rfl ntmps78 rfl ?_
  intro w0
  refine cR <| oA rfl <| oA rfl <| oN <| cR <| oA rfl <| oN <| cR <| oA rfl <| oN <| cR <| oA rfl <| oN <| c_block ?_
  refine c_rounds 2 ?_
  refine c_seq <| c_block <| cR <| oM rfl ?_
  refine o_l rfl (l_calli0 call289 (by intro w; kernel_rfl) (byte_is (i := 0) hD hn h63 rfl) rfl rfl rfl (.cons .head .nil)) ?_
  rintro ⟨r, H'⟩ ⟨rfl, rfl⟩
  simp only [List.cons_append, List.nil_append]
  refine oM rfl <| oX (e_extract rfl rfl) <| oX (e_extract rfl rfl) <| oA rfl <| oA rfl <| oN <| c_seq <| cR <| oM rfl <| oX (e_nnen runUnderlying80 rfl) <| oN <| cL rfl <| c_seq <| cR <| oM rfl <| oX (e_eql rfl rfl) <| oM rfl ?_
  refine o_splitp 28 rfl (fun h1 => ?_) (fun h1 => ?_)
  · exact absurd h1 (by decide)
  · skip
    refine oS <| oS <| oX (e_pick_f rfl rfl) <| oM rfl <| oM rfl <| oX (e_geq rfl rfl) <| oX (e_pick_f rfl rfl) <| oN <| cL rfl <| c_seq <| cR <| oM rfl <| oX (e_lss rfl rfl) <| oN <| cL rfl <| c_region <| oM rfl <| oM rfl <| oX (e_and rfl rfl) <| oX (e_conv runUnderlying5 runUnderlying23 rfl) <| oM rfl <| oX (e_shl rfl rfl (by omega)) <| oX (e_or rfl rfl) <| oA rfl <| o_nil <| n_block <| n_code <| c_region <| oM rfl <| oX (e_addn rfl rfl (by simp only [inR]; omega)) <| oA rfl <| o_nil ?_
    refine n_rounds ?_
    refine c_seq <| c_block <| cR <| oM rfl ?_
    refine o_l rfl (l_calli0 call289 (by intro w; kernel_rfl) (byte_is (i := 1) hD hn h63 rfl) rfl rfl rfl (.cons .head .nil)) ?_
    rintro ⟨r, H'⟩ ⟨rfl, rfl⟩
    simp only [List.cons_append, List.nil_append]
    refine oM rfl <| oX (e_extract rfl rfl) <| oX (e_extract rfl rfl) <| oA rfl <| oA rfl <| oN <| c_seq <| cR <| oM rfl <| oX (e_nnen runUnderlying80 rfl) <| oN <| cL rfl <| c_seq <| cR <| oM rfl <| oX (e_eql rfl rfl) <| oM rfl ?_
    refine o_splitp 28 rfl (fun h2 => ?_) (fun h2 => ?_)
    · exact absurd h2 (by decide)
    · skip
      refine oS <| oS <| oX (e_pick_f rfl rfl) <| oM rfl <| oM rfl <| oX (e_geq rfl rfl) <| oX (e_pick_f rfl rfl) <| oN <| cL rfl <| c_seq <| cR <| oM rfl <| oX (e_lss rfl rfl) <| oN <| c_then rfl <| c_seq <| cR <| oM rfl <| oX (e_eql rfl rfl) <| oM rfl ?_
      refine o_splitp 41 rfl (fun h3 => ?_) (fun h3 => ?_)
      · exact absurd h3 (by decide)
      · skip
        refine oS <| oS <| oX (e_pick_f rfl rfl) <| oN <| cL rfl <| cR <| oM rfl <| oM rfl <| oX (e_conv runUnderlying5 runUnderlying23 rfl) <| oM rfl <| oX (e_shl rfl rfl (by omega)) <| oX (e_or rfl rfl) <| oA rfl <| oA rfl <| oN <| c_ret ?_
        refine r_fn (l := [.tmp 2, .tmp 3]) results78 rfl rfl ?_
        exact ⟨rfl, rfl⟩
theorem uvar_1025 {tl : List UInt8} (hD : (gs, DB (129 :: 8 :: tl) rest lo hi) ∈ G) (hn : (129 :: 8 :: tl : List UInt8).length = n) (h63 : n < 9223372036854775808) :
    Ctr Tryz.prog 78 [RV gr] G [(gr, RB gs n cap 0)] (fun r H' => r = .tuple #[.int .u64 1025, .nilIface] ∧ H' = [(gr, RB gs n cap 2)]) := by
  refine fn_enter 59 func78 rfl ntmps78 rfl ?_
  intro w0
  refine cR <| oA rfl <| oA rfl <| oN <| cR <| oA rfl <| oN <| cR <| oA rfl <| oN <| cR <| oA rfl <| oN <| c_block ?_
  refine c_rounds 2 ?_
  refine c_seq <| c_block <| cR <| oM rfl ?_
  refine o_l rfl (l_calli0 call289 (by intro w; kernel_rfl) (byte_is (i := 0) hD hn h63 rfl) rfl rfl rfl (.cons .head .nil)) ?_
  rintro ⟨r, H'⟩ ⟨rfl, rfl⟩
  simp only [List.cons_append, List.nil_append]
  refine oM rfl <| oX (e_extract rfl rfl) <| oX (e_extract rfl rfl) <| oA rfl <| oA rfl <| oN <| c_seq <| cR <| oM rfl <| oX (e_nnen runUnderlying80 rfl) <| oN <| cL rfl <| c_seq <| cR <| oM rfl <| oX (e_eql rfl rfl) <| oM rfl ?_
  refine o_splitp 28 rfl (fun h1 => ?_) (fun h1 => ?_)
  · exact absurd h1 (by decide)
  · skip
    refine oS <| oS <| oX (e_pick_f rfl rfl) <| oM rfl <| oM rfl <| oX (e_geq rfl rfl) <| oX (e_pick_f rfl rfl) <| oN <| cL rfl <| c_seq <| cR <| oM rfl <| oX (e_lss rfl rfl) <| oN <| cL rfl <| c_region <| oM rfl <| oM rfl <| oX (e_and rfl rfl) <| oX (e_conv runUnderlying5 runUnderlying23 rfl) <| oM rfl <| oX (e_shl rfl rfl (by omega)) <| oX (e_or rfl rfl) <| oA rfl <| o_nil <| n_block <| n_code <| c_region <| oM rfl <| oX (e_addn rfl rfl (by simp only [inR]; omega)) <| oA rfl <| o_nil ?_
    refine n_rounds ?_
    refine c_seq <| c_block <| cR <| oM rfl ?_
    refine o_l rfl (l_calli0 call289 (by intro w; kernel_rfl) (byte_is (i := 1) hD hn h63 rfl) rfl rfl rfl (.cons .head .nil)) ?_
    rintro ⟨r, H'⟩ ⟨rfl, rfl⟩
    simp only [List.cons_append, List.nil_append]
    refine oM rfl <| oX (e_extract rfl rfl) <| oX (e_extract rfl rfl) <| oA rfl <| oA rfl <| oN <| c_seq <| cR <| oM rfl <| oX (e_nnen runUnderlying80 rfl) <| oN <| cL rfl <| c_seq <| cR <| oM rfl <| oX (e_eql rfl rfl) <| oM rfl ?_
    refine o_splitp 28 rfl (fun h2 => ?_) (fun h2 => ?_)
    · exact absurd h2 (by decide)
    · skip
      refine oS <| oS <| oX (e_pick_f rfl rfl) <| oM rfl <| oM rfl <| oX (e_geq rfl rfl) <| oX (e_pick_f rfl rfl) <| oN <| cL rfl <| c_seq <| cR <| oM rfl <| oX (e_lss rfl rfl) <| oN <| c_then rfl <| c_seq <| cR <| oM rfl <| oX (e_eql rfl rfl) <| oM rfl ?_
      refine o_splitp 41 rfl (fun h3 => ?_) (fun h3 => ?_)
      · exact absurd h3 (by decide)
      · skip
        refine oS <| oS <| oX (e_pick_f rfl rfl) <| oN <| cL rfl <| cR <| oM rfl <| oM rfl <| oX (e_conv runUnderlying5 runUnderlying23 rfl) <| oM rfl <| oX (e_shl rfl rfl (by omega)) <| oX (e_or rfl rfl) <| oA rfl <| oA rfl <| oN <| c_ret ?_
        refine r_fn (l := [.tmp 2, .tmp 3]) results78 rfl rfl ?_
        exact ⟨rfl, rfl⟩
end
end Go.Proofs
namespace Go.Proofs
open Go Go.Sl Tryz
set_option maxRecDepth 100000
set_option maxHeartbeats 1000000
/-- io.EOF and io.ErrUnexpectedEOF, as memory holds them. -/
structure Ge (G : HP) (gE gU : Addr) : Prop where
  eof : ∃ t e f, (3, Obj.cells (EV gE :: t).toArray e f) ∈ G
  uex : ∃ t e f, (5, Obj.cells (EV gU :: t).toArray e f) ∈ G
  bE : ∃ c e, (gE.block, C c e) ∈ G
  bU : ∃ c e, (gU.block, C c e) ∈ G
  ne : gU ≠ gE
theorem Ge.mono {G G' : HP} {gE gU : Addr} (h : Ge G gE gU) (hs : ∀ p ∈ G, p ∈ G') : Ge G' gE gU := by
  obtain ⟨⟨t3, e3, f3, h1⟩, ⟨t5, e5, f5, h2⟩, ⟨c1, e1, h3⟩, ⟨c2, e2, h4⟩, h5⟩ := h
  exact ⟨⟨_, _, _, hs _ h1⟩, ⟨_, _, _, hs _ h2⟩, ⟨_, _, hs _ h3⟩, ⟨_, _, hs _ h4⟩, h5⟩
theorem e_isEOF {x : Cx} {s : Slots} {H : HP} {d : Nat} {p q : Operand} {ty t' : TypeId} {pos : String} {af : Array Edge} {gd' : Option (Nat × Bool)} {g gE gU : Addr} (hx : x.P = Tryz.prog) (h : Ge x.G gE gU) (hg : g = gE ∨ g = gU) (hp : ev s p = some (EV g)) (hq : ev s q = some (EV gE)) :
    Ex x s H ⟨some d, .binOp .eql 80 p q t', ty, pos, af, gd'⟩ (.bool (decide (g = gE))) := by
  obtain ⟨_, _, ⟨c1, e1, h3⟩, ⟨c2, e2, h4⟩, h5⟩ := h
  have u1 : ∀ w, (underlying 80).run x.P w = _ := hx ▸ runUnderlying80
  have u2 : ∀ w, (typeInfo 260).run x.P w = _ := hx ▸ typeInfo260
  have u3 : ∀ w, (underlying 260).run x.P w = _ := hx ▸ runUnderlying260
  have u4 : ∀ w, (sizeOf 262).run x.P w = _ := hx ▸ sizeOf262
  rcases hg with rfl | rfl
  · simp only [decide_true]
    exact e_ieq_same u1 u2 rfl u3 u4 (by decide) hp hq
  · rw [show decide (g = gE) = false by simpa using h5]
    exact e_ieq_two u1 u2 rfl u3 u4 (by decide) hp hq h4 h3 h5
section
variable {G : HP} {gr gs gb n cap i k L lo hi : Nat} {bs : List UInt8} {rest pl : List Value} {gE gU : Addr} {t3 t5 : List Value}
theorem swi_err {v : Value} (hD : (gs, DB bs rest lo hi) ∈ G) (hge : Ge G gE gU) (hn : bs.length = n) (hc : n ≤ cap) (h63 : cap < 9223372036854775808) (hi' : i ≤ n) (hL : n < i + 12) :
    Ctr Tryz.prog 341 [v, RV gr] G [(gr, RB gs n cap i)] (fun r H' => r = EV gU ∧ H' = [(gr, RB gs n cap n)]) := by
  obtain ⟨⟨t3, e3, f3, hE⟩, ⟨t5, e5, f5, hU⟩, _, _, _⟩ := id hge
  by_cases h4 : n < i + 4
  · refine fn_enter 53 func341 rfl ntmps341 rfl ?_
    intro w0
    refine cR <| oA rfl <| oN <| cR ?_
    refine o_l rfl (l_alloc zeroValue212 rfl rfl) ?_; intro g5 _
    refine oN <| c_seq <| cR <| oM rfl ?_
    refine o_l rfl (l_call call321 (read32_short (gp := 0) (off := 0) (v := .pointer (some ⟨g5, 0, none⟩)) hD hE hU hn hc h63 hi' h4) rfl rfl (.cons (.tail .head) .nil)) ?_
    rintro ⟨r, H'⟩ ⟨g, hg, rfl, rfl⟩
    simp only [List.cons_append, List.nil_append]
    refine oA rfl <| oN <| cR <| oM rfl <| oX (e_inen runUnderlying80 rfl) <| oN <| c_then rfl <| c_seq <| cR <| oM rfl ?_
    refine oX (e_load isAgg80 rfl (.inr (by assumption)) rfl) ?_
    refine oX (e_isEOF rfl hge hg rfl rfl) <| oN ?_
    refine c_ifp rfl (fun h1 => ?_) (fun h1 => ?_)
    · refine cR ?_
      refine oX (e_load isAgg80 rfl (.inr (by assumption)) rfl) ?_
      refine oA rfl <| oN <| c_ret ?_
      refine WR.sel (.cons .head .nil) ?_
      refine r_fn1 results341 rfl ?_
      exact ⟨rfl, rfl⟩
    · skip
      obtain rfl : g = gU := hg.resolve_left h1
      refine c_skip <| n_code <| cR <| oM rfl <| oA rfl <| oN <| c_ret ?_
      refine WR.sel (.cons .head .nil) ?_
      refine r_fn1 results341 rfl ?_
      exact ⟨rfl, rfl⟩
  · refine fn_enter 53 func341 rfl ntmps341 rfl ?_
    intro w0
    refine cR <| oA rfl <| oN <| cR ?_
    refine o_l rfl (l_alloc zeroValue212 rfl rfl) ?_; intro g5 _
    refine oN <| c_seq <| cR <| oM rfl ?_
    refine o_l rfl (l_call call321 (read32_is hD hn hc h63 (show i + 4 ≤ n by omega) .head) rfl rfl (.cons (.tail .head) (.cons .head .nil))) ?_
    rintro ⟨r, H'⟩ ⟨rfl, rfl⟩
    simp only [List.cons_append, List.nil_append]
    refine oA rfl <| oN <| cR <| oM rfl <| oX (e_nnen runUnderlying80 rfl) <| oN <| cL rfl <| cR ?_
    refine o_l rfl (l_alloc zeroValue23 rfl rfl) ?_; intro g7 _
    refine oN <| c_seq <| cR <| oM rfl ?_
    refine o_l rfl (l_call call331 (read64_short (gp := 0) (off := 0) (v := .pointer (some ⟨g7, 0, none⟩)) hD hE hU hn hc h63 (show i + 4 ≤ n by omega) (by omega)) rfl rfl (.cons (.tail .head) .nil)) ?_
    rintro ⟨r, H'⟩ ⟨g, hg, rfl, rfl⟩
    simp only [List.cons_append, List.nil_append]
    refine oA rfl <| oN <| cR <| oM rfl <| oX (e_inen runUnderlying80 rfl) <| oN <| c_then rfl <| c_seq <| cR <| oM rfl ?_
    refine oX (e_load isAgg80 rfl (.inr (by assumption)) rfl) ?_
    refine oX (e_isEOF rfl hge hg rfl rfl) <| oN ?_
    refine c_ifp rfl (fun h1 => ?_) (fun h1 => ?_)
    · refine cR ?_
      refine oX (e_load isAgg80 rfl (.inr (by assumption)) rfl) ?_
      refine oA rfl <| oN <| c_ret ?_
      refine WR.sel (.cons .head .nil) ?_
      refine r_fn1 results341 rfl ?_
      exact ⟨rfl, rfl⟩
    · skip
      obtain rfl : g = gU := hg.resolve_left h1
      refine c_skip <| n_code <| cR <| oM rfl <| oA rfl <| oN <| c_ret ?_
      refine WR.sel (.cons .head .nil) ?_
      refine r_fn1 results341 rfl ?_
      exact ⟨rfl, rfl⟩
theorem mwi_err {v : Value} (hD : (gs, DB bs rest lo hi) ∈ G) (hge : Ge G gE gU) (hn : bs.length = n) (hc : n ≤ cap) (h63 : cap < 9223372036854775808) (hi' : i ≤ n) (hL : n < i + 16) (hk : i + 4 ≤ n → 1 ≤ le ((bs.drop i).take 4) ∧ le ((bs.drop i).take 4) < 2147483648) :
    Ctr Tryz.prog 332 [v, RV gr] G [(gr, RB gs n cap i)] (fun r H' => r = EV gU ∧ H' = [(gr, RB gs n cap n)]) := by
  obtain ⟨⟨t3, e3, f3, hE⟩, ⟨t5, e5, f5, hU⟩, _, _, _⟩ := id hge
  by_cases h4 : n < i + 4
  · refine fn_enter 75 func332 rfl ntmps332 rfl ?_
    intro w0
    refine cR <| oA rfl <| oN <| cR <| oM rfl <| o_pure rfl call164 (toSeek_is) rfl rfl <| oA rfl <| oN <| cR ?_
    refine o_l rfl (l_alloc zeroValue212 rfl rfl) ?_; intro g6 _
    refine oN <| c_seq <| cR <| oM rfl ?_
    refine o_l rfl (l_call call321 (read32_short (gp := 0) (off := 0) (v := .pointer (some ⟨g6, 0, none⟩)) hD hE hU hn hc h63 hi' h4) rfl rfl (.cons (.tail .head) .nil)) ?_
    rintro ⟨r, H'⟩ ⟨g, hg, rfl, rfl⟩
    simp only [List.cons_append, List.nil_append]
    refine oA rfl <| oN <| cR <| oM rfl <| oX (e_inen runUnderlying80 rfl) <| oN <| c_then rfl <| c_seq <| cR <| oM rfl ?_
    refine oX (e_load isAgg80 rfl (.inr (by assumption)) rfl) ?_
    refine oX (e_isEOF rfl hge hg rfl rfl) <| oN ?_
    refine c_ifp rfl (fun h1 => ?_) (fun h1 => ?_)
    · refine cR ?_
      refine oX (e_load isAgg80 rfl (.inr (by assumption)) rfl) ?_
      refine oA rfl <| oN <| c_ret ?_
      refine WR.sel (.cons .head .nil) ?_
      refine r_fn1 results332 rfl ?_
      exact ⟨rfl, rfl⟩
    · skip
      obtain rfl : g = gU := hg.resolve_left h1
      refine c_skip <| n_code <| cR <| oM rfl <| oA rfl <| oN <| c_ret ?_
      refine WR.sel (.cons .head .nil) ?_
      refine r_fn1 results332 rfl ?_
      exact ⟨rfl, rfl⟩
  · obtain ⟨hk1, hk2⟩ := hk (by omega)
    refine fn_enter 75 func332 rfl ntmps332 rfl ?_
    intro w0
    refine cR <| oA rfl <| oN <| cR <| oM rfl <| o_pure rfl call164 (toSeek_is) rfl rfl <| oA rfl <| oN <| cR ?_
    refine o_l rfl (l_alloc zeroValue212 rfl rfl) ?_; intro g6 _
    refine oN <| c_seq <| cR <| oM rfl ?_
    refine o_l rfl (l_call call321 (read32_is hD hn hc h63 (show i + 4 ≤ n by omega) .head) rfl rfl (.cons (.tail .head) (.cons .head .nil))) ?_
    rintro ⟨r, H'⟩ ⟨rfl, rfl⟩
    simp only [List.cons_append, List.nil_append]
    refine oA rfl <| oN <| cR <| oM rfl <| oX (e_nnen runUnderlying80 rfl) <| oN <| cL rfl <| cR ?_
    refine oX (e_load isAgg212 rfl (by first | exact .inr (by assumption) | exact .inl (by repeat (first | exact List.Mem.head _ | refine List.Mem.tail _ ?_))) rfl) ?_
    refine oX (e_convn runUnderlying212 runUnderlying21 rfl (by simp only [inR]; omega)) <| oA rfl <| oN <| cR <| oM rfl ?_
    refine o_l rfl (l_calli0 call290 (by intro w; kernel_rfl) (seek_is (i := i + 4) (by omega)) rfl rfl rfl (.cons .head .nil)) ?_
    rintro ⟨r, H'⟩ ⟨rfl, rfl⟩
    simp only [List.cons_append, List.nil_append]
    refine oM rfl <| oX (e_extract rfl rfl) <| oX (e_extract rfl rfl) <| oA rfl <| oA rfl <| oN <| c_seq <| cR <| oM rfl <| oX (e_nnen runUnderlying80 rfl) <| oN <| cL rfl <| c_seq <| cR <| oM rfl <| oX (e_lss rfl rfl) <| oN ?_
    refine c_ifp rfl (fun h2 => ?_) (fun h2 => ?_)
    · exact absurd h2 (by omega)
    · skip
      refine c_skip <| n_code <| c_seq <| cR <| oA rfl <| oN <| c_block ?_
      refine c_rounds 1 ?_
      refine c_seq <| cR <| oM rfl <| oM rfl <| oX (e_convn runUnderlying21 runUnderlying3 rfl (by simp only [inR]; omega)) <| oX (e_lss rfl rfl) <| oN ?_
      refine c_ifp rfl (fun h3 => ?_) (fun h3 => ?_)
      · refine c_skip <| n_code <| c_seq <| c_block <| cR <| oX (e_build (vs := [.int .u32 0, .int .u64 0, .slice none 0 0]) runUnderlying448 zeroValue448 (.cons sizeOf212 (.cons sizeOf23 (.cons sizeOf72 .nil))) rfl (by kernel_rfl)) ?_
        refine o_l rfl (l_alloc zeroValue448 rfl rfl) ?_; intro g12 _
        refine o_l rfl (l_storea sizeOf448 rfl rfl rfl (by simp [Value.oneCell']) .head (.take (.take (.take .done))) nofrs0) ?_
        intro _ _
        refine oN <| c_seq <| cR <| oM rfl ?_
        refine o_l rfl (l_call call341 (swi_err (i := i + 4) hD hge hn hc h63 (by omega) (by omega)) rfl rfl (.cons (.tail .head) .nil)) ?_
        rintro ⟨r, H'⟩ ⟨rfl, rfl⟩
        simp only [List.cons_append, List.nil_append]
        refine oA rfl <| oN <| cR <| oM rfl <| oX (e_inen runUnderlying80 rfl) <| oN <| c_then rfl <| cR <| oM rfl <| oA rfl <| oN <| c_ret ?_
        refine WR.sel (.cons .head .nil) ?_
        refine r_fn1 results332 rfl ?_
        exact ⟨rfl, rfl⟩
      · exact absurd h3 (by omega)
theorem mwc_err {gc : Nat} {z : Value} (hD : (gs, DB bs rest lo hi) ∈ G) (hge : Ge G gE gU) (hn : bs.length = n) (hc : n ≤ cap) (h63 : cap < 9223372036854775808) (hi' : i ≤ n) (hL : n < i + 24) (hk : i + 12 ≤ n → 1 ≤ le ((bs.drop (i + 8)).take 4) ∧ le ((bs.drop (i + 8)).take 4) < 2147483648) :
    Ctr Tryz.prog 322 [.pointer (some ⟨gc, 0, none⟩), RV gr] G [(gr, RB gs n cap i), (gc, C [z, .int .u64 0] 437)] (fun r H' => r = EV gU ∧ ∃ u, H' = [(gr, RB gs n cap n), (gc, C [z, u] 437)]) := by
  obtain ⟨⟨t3, e3, f3, hE⟩, ⟨t5, e5, f5, hU⟩, _, _, _⟩ := id hge
  by_cases h4 : n < i + 8
  · refine fn_enter 23 func322 rfl ntmps322 rfl ?_
    intro w0
    refine cR <| oA rfl <| oN <| c_seq <| cR <| oM rfl <| oM rfl <| oC rfl <| oX (e_fak 1 runUnderlying437 rfl sizeOf23 rfl rfl rfl) ?_
    refine o_l rfl (l_call call331 (read64_short (gp := 0) (off := 0) (v := .pointer (some ⟨gc, 0 + 1, none⟩)) hD hE hU hn hc h63 hi' h4) rfl rfl (.cons .head .nil)) ?_
    rintro ⟨r, H'⟩ ⟨g, hg, rfl, rfl⟩
    simp only [List.cons_append, List.nil_append]
    refine oA rfl <| oN <| cR <| oM rfl <| oX (e_inen runUnderlying80 rfl) <| oN <| c_then rfl <| c_seq <| cR <| oM rfl ?_
    refine oX (e_load isAgg80 rfl (.inr (by assumption)) rfl) ?_
    refine oX (e_isEOF rfl hge hg rfl rfl) <| oN ?_
    refine c_ifp rfl (fun h1 => ?_) (fun h1 => ?_)
    · refine cR ?_
      refine oX (e_load isAgg80 rfl (.inr (by assumption)) rfl) ?_
      refine oA rfl <| oN <| c_ret ?_
      refine r_fn1 results322 rfl ?_
      exact ⟨rfl, _, rfl⟩
    · skip
      obtain rfl : g = gU := hg.resolve_left h1
      refine c_skip <| n_code <| cR <| oM rfl <| oA rfl <| oN <| c_ret ?_
      refine r_fn1 results322 rfl ?_
      exact ⟨rfl, _, rfl⟩
  · refine fn_enter 23 func322 rfl ntmps322 rfl ?_
    intro w0
    refine cR <| oA rfl <| oN <| c_seq <| cR <| oM rfl <| oM rfl <| oC rfl <| oX (e_fak 1 runUnderlying437 rfl sizeOf23 rfl rfl rfl) ?_
    refine o_l rfl (l_call call331 (read64_is (off := 0 + 1) hD hn hc h63 (show i + 8 ≤ n by omega) (.tail .head)) rfl rfl (.cons .head (.cons .head .nil))) ?_
    rintro ⟨r, H'⟩ ⟨rfl, rfl⟩
    simp only [List.cons_append, List.nil_append]
    refine oA rfl <| oN <| cR <| oM rfl <| oX (e_nnen runUnderlying80 rfl) <| oN <| cL rfl <| cR <| oM rfl <| oC rfl <| oX (e_fak 0 runUnderlying437 rfl sizeOf327 rfl rfl rfl) <| oM rfl ?_
    refine o_l rfl (l_call call332 (mwi_err (i := i + 8) hD hge hn hc h63 (by omega) (by omega) (fun h => hk (by omega))) rfl rfl (.cons .head .nil)) ?_
    rintro ⟨r, H'⟩ ⟨rfl, rfl⟩
    simp only [List.cons_append, List.nil_append]
    refine oA rfl <| oN <| c_ret ?_
    refine r_fn1 results322 rfl ?_
    exact ⟨rfl, _, rfl⟩
theorem newMWC_is : Ctr Tryz.prog 315 [] G [] (fun r H' => ∃ g gx, r = .pointer (some ⟨g, 0, none⟩) ∧ H' = [(g, C [.map (some gx), .int .u64 0] 437), (gx, Mo .u32 [])]) := by
  refine fn_enter 4 func315 rfl ntmps315 rfl ?_
  intro w0
  refine cR <| oA rfl <| oN <| cR ?_
  refine o_l rfl (l_mkmap rfl .u32) ?_
  intro gx _
  refine oX (e_build (vs := [.map (some gx), .int .u64 0]) runUnderlying437 zeroValue437 (.cons sizeOf327 (.cons sizeOf23 .nil)) rfl (by kernel_rfl)) ?_
  refine o_l rfl (l_box rfl rfl rfl) ?_; intro g3 _
  refine oA rfl <| oN <| c_ret ?_
  refine r_fn1 results315 rfl ?_
  exact ⟨_, _, rfl, rfl⟩
theorem mhi_err {v : Value} (hD : (gs, DB bs rest lo hi) ∈ G) (hge : Ge G gE gU) (hn : bs.length = n) (hc : n ≤ cap) (h63 : cap < 9223372036854775808) (hi' : i ≤ n) (hL : n < i + 28) (hk : i + 4 ≤ n → 1 ≤ le ((bs.drop i).take 4) ∧ le ((bs.drop i).take 4) < 2147483648) (hk' : i + 16 ≤ n → 1 ≤ le ((bs.drop (i + 12)).take 4) ∧ le ((bs.drop (i + 12)).take 4) < 2147483648) :
    Ctr Tryz.prog 312 [v, RV gr] G [(gr, RB gs n cap i)] (fun r H' => r = EV gU ∧ H' = [(gr, RB gs n cap n)]) := by
  obtain ⟨⟨t3, e3, f3, hE⟩, ⟨t5, e5, f5, hU⟩, _, _, _⟩ := id hge
  by_cases h4 : n < i + 4
  · refine fn_enter 73 func312 rfl ntmps312 rfl ?_
    intro w0
    refine cR <| oA rfl <| oN <| cR <| oM rfl <| o_pure rfl call164 (toSeek_is) rfl rfl <| oA rfl <| oN <| cR ?_
    refine o_l rfl (l_alloc zeroValue212 rfl rfl) ?_; intro g6 _
    refine oN <| c_seq <| cR <| oM rfl ?_
    refine o_l rfl (l_call call321 (read32_short (gp := 0) (off := 0) (v := .pointer (some ⟨g6, 0, none⟩)) hD hE hU hn hc h63 hi' h4) rfl rfl (.cons (.tail .head) .nil)) ?_
    rintro ⟨r, H'⟩ ⟨g, hg, rfl, rfl⟩
    simp only [List.cons_append, List.nil_append]
    refine oA rfl <| oN <| cR <| oM rfl <| oX (e_inen runUnderlying80 rfl) <| oN <| c_then rfl <| c_seq <| cR <| oM rfl ?_
    refine oX (e_load isAgg80 rfl (.inr (by assumption)) rfl) ?_
    refine oX (e_isEOF rfl hge hg rfl rfl) <| oN ?_
    refine c_ifp rfl (fun h1 => ?_) (fun h1 => ?_)
    · refine cR ?_
      refine oX (e_load isAgg80 rfl (.inr (by assumption)) rfl) ?_
      refine oA rfl <| oN <| c_ret ?_
      refine WR.sel (.cons .head .nil) ?_
      refine r_fn1 results312 rfl ?_
      exact ⟨rfl, rfl⟩
    · skip
      obtain rfl : g = gU := hg.resolve_left h1
      refine c_skip <| n_code <| cR <| oM rfl <| oA rfl <| oN <| c_ret ?_
      refine WR.sel (.cons .head .nil) ?_
      refine r_fn1 results312 rfl ?_
      exact ⟨rfl, rfl⟩
  · obtain ⟨hk1, hk2⟩ := hk (by omega)
    refine fn_enter 73 func312 rfl ntmps312 rfl ?_
    intro w0
    refine cR <| oA rfl <| oN <| cR <| oM rfl <| o_pure rfl call164 (toSeek_is) rfl rfl <| oA rfl <| oN <| cR ?_
    refine o_l rfl (l_alloc zeroValue212 rfl rfl) ?_; intro g6 _
    refine oN <| c_seq <| cR <| oM rfl ?_
    refine o_l rfl (l_call call321 (read32_is hD hn hc h63 (show i + 4 ≤ n by omega) .head) rfl rfl (.cons (.tail .head) (.cons .head .nil))) ?_
    rintro ⟨r, H'⟩ ⟨rfl, rfl⟩
    simp only [List.cons_append, List.nil_append]
    refine oA rfl <| oN <| cR <| oM rfl <| oX (e_nnen runUnderlying80 rfl) <| oN <| cL rfl <| cR ?_
    refine oX (e_load isAgg212 rfl (by first | exact .inr (by assumption) | exact .inl (by repeat (first | exact List.Mem.head _ | refine List.Mem.tail _ ?_))) rfl) ?_
    refine oX (e_convn runUnderlying212 runUnderlying21 rfl (by simp only [inR]; omega)) <| oA rfl <| oN <| cR <| oM rfl ?_
    refine o_l rfl (l_calli0 call290 (by intro w; kernel_rfl) (seek_is (i := i + 4) (by omega)) rfl rfl rfl (.cons .head .nil)) ?_
    rintro ⟨r, H'⟩ ⟨rfl, rfl⟩
    simp only [List.cons_append, List.nil_append]
    refine oM rfl <| oX (e_extract rfl rfl) <| oX (e_extract rfl rfl) <| oA rfl <| oA rfl <| oN <| c_seq <| cR <| oM rfl <| oX (e_nnen runUnderlying80 rfl) <| oN <| cL rfl <| c_seq <| cR <| oM rfl <| oX (e_lss rfl rfl) <| oN ?_
    refine c_ifp rfl (fun h2 => ?_) (fun h2 => ?_)
    · exact absurd h2 (by omega)
    · skip
      refine c_skip <| n_code <| c_seq <| cR <| oA rfl <| oN <| c_block ?_
      refine c_rounds 1 ?_
      refine c_seq <| cR <| oM rfl <| oM rfl <| oX (e_convn runUnderlying21 runUnderlying3 rfl (by simp only [inR]; omega)) <| oX (e_lss rfl rfl) <| oN ?_
      refine c_ifp rfl (fun h3 => ?_) (fun h3 => ?_)
      · refine c_skip <| n_code <| c_seq <| c_block <| cR ?_
        refine o_l rfl (l_call call315 newMWC_is rfl rfl .nil) ?_
        rintro ⟨r, H'⟩ ⟨gc, gx, rfl, rfl⟩
        simp only [List.cons_append, List.nil_append]
        refine oA rfl <| oN <| c_seq <| cR <| oM rfl <| oM rfl ?_
        refine o_l rfl (l_call call322 (mwc_err (i := i + 4) hD hge hn hc h63 (by omega) (by omega) (fun h => hk' (by omega))) rfl rfl (.cons (.tail (.tail .head)) (.cons .head .nil))) ?_
        rintro ⟨r, H'⟩ ⟨rfl, u, rfl⟩
        simp only [List.cons_append, List.nil_append]
        refine oA rfl <| oN <| cR <| oM rfl <| oX (e_inen runUnderlying80 rfl) <| oN <| c_then rfl <| cR <| oM rfl <| oA rfl <| oN <| c_ret ?_
        refine WR.sel (.cons .head .nil) ?_
        refine r_fn1 results312 rfl ?_
        exact ⟨rfl, rfl⟩
      · exact absurd h3 (by omega)
end
end Go.Proofs
namespace Go.Proofs
open Go Go.Sl Tryz
set_option maxRecDepth 100000
set_option maxHeartbeats 1000000
section
variable {G : HP} {gr gs gb n cap i k L lo hi : Nat} {bs : List UInt8} {rest pl : List Value} {gE gU : Addr} {t3 t5 : List Value}
theorem codec_0 (hge : Ge G gE gU) :
    Ctr Tryz.prog 45 [RV gr] G [(gr, RB gs 0 cap 0)] (fun r H' => r = .tuple #[.int .u64 0, EV gE] ∧ H' = [(gr, RB gs 0 cap 0)]) := by
  obtain ⟨⟨t3, e3, f3, hE⟩, ⟨t5, e5, f5, hU⟩, _, _, _⟩ := id hge
  refine fn_enter 16 func45 rfl ntmps45 rfl ?_
  intro w0
  refine cR <| oA rfl <| oA rfl <| oN <| cR <| oM rfl <| o_pure rfl call79 (toByte_is) rfl rfl ?_
  refine o_l rfl (l_call call78 (uvar_0 hE) rfl rfl (.cons .head .nil)) ?_
  rintro ⟨r, H'⟩ ⟨rfl, rfl⟩
  simp only [List.cons_append, List.nil_append]
  refine oM rfl <| oX (e_extract rfl rfl) <| oX (e_extract rfl rfl) <| oA rfl <| oA rfl <| oN <| c_seq <| cR <| oM rfl <| oX (e_inen runUnderlying80 rfl) <| oN <| c_then rfl <| cR <| oM rfl <| oA rfl <| oA rfl <| oN <| c_ret ?_
  refine r_fn (l := [.tmp 2, .tmp 3]) results45 rfl rfl ?_
  exact ⟨rfl, rfl⟩
theorem codec_1 {b : UInt8} (hD : (gs, DB [b] rest lo hi) ∈ G) (hge : Ge G gE gU) (hb : 128 ≤ b.toNat) :
    Ctr Tryz.prog 45 [RV gr] G [(gr, RB gs 1 cap 0)] (fun r H' => r = .tuple #[.int .u64 0, EV gU] ∧ H' = [(gr, RB gs 1 cap 1)]) := by
  obtain ⟨⟨t3, e3, f3, hE⟩, ⟨t5, e5, f5, hU⟩, _, _, _⟩ := id hge
  refine fn_enter 16 func45 rfl ntmps45 rfl ?_
  intro w0
  refine cR <| oA rfl <| oA rfl <| oN <| cR <| oM rfl <| o_pure rfl call79 (toByte_is) rfl rfl ?_
  refine o_l rfl (l_call call78 (uvar_1 hD hE hU hb) rfl rfl (.cons .head .nil)) ?_
  rintro ⟨r, H'⟩ ⟨rfl, rfl⟩
  simp only [List.cons_append, List.nil_append]
  refine oM rfl <| oX (e_extract rfl rfl) <| oX (e_extract rfl rfl) <| oA rfl <| oA rfl <| oN <| c_seq <| cR <| oM rfl <| oX (e_inen runUnderlying80 rfl) <| oN <| c_then rfl <| cR <| oM rfl <| oA rfl <| oA rfl <| oN <| c_ret ?_
  refine r_fn (l := [.tmp 2, .tmp 3]) results45 rfl rfl ?_
  exact ⟨rfl, rfl⟩
theorem codec_of {kind : Int} (h : Ctr Tryz.prog 78 [RV gr] G [(gr, RB gs n cap 0)] (fun r H' => r = .tuple #[.int .u64 kind, .nilIface] ∧ H' = [(gr, RB gs n cap 2)])) :
    Ctr Tryz.prog 45 [RV gr] G [(gr, RB gs n cap 0)] (fun r H' => r = .tuple #[.int .u64 kind, .nilIface] ∧ H' = [(gr, RB gs n cap 2)]) := by
  refine fn_enter 16 func45 rfl ntmps45 rfl ?_
  intro w0
  refine cR <| oA rfl <| oA rfl <| oN <| cR <| oM rfl <| o_pure rfl call79 (toByte_is) rfl rfl ?_
  refine o_l rfl (l_call call78 h rfl rfl (.cons .head .nil)) ?_
  rintro ⟨r, H'⟩ ⟨rfl, rfl⟩
  simp only [List.cons_append, List.nil_append]
  refine oM rfl <| oX (e_extract rfl rfl) <| oX (e_extract rfl rfl) <| oA rfl <| oA rfl <| oN <| c_seq <| cR <| oM rfl <| oX (e_nnen runUnderlying80 rfl) <| oN <| cL rfl <| cR <| oM rfl <| oA rfl <| oA rfl <| oN <| c_ret ?_
  refine r_fn (l := [.tmp 2, .tmp 3]) results45 rfl rfl ?_
  exact ⟨rfl, rfl⟩
theorem newS_is : Ctr Tryz.prog 148 [] G [] (fun r H' => ∃ gm gx, r = .iface 328 (.pointer (some ⟨gm, 0, none⟩)) ∧ H' = [(gm, C [.map (some gx)] 327), (gx, Mo .u32 [])]) := by
  refine fn_enter 4 func148 rfl ntmps148 rfl ?_
  intro w0
  refine cR <| oA rfl <| oN <| cR ?_
  refine o_l rfl (l_mkmap rfl .u32) ?_
  intro gx _
  refine o_l rfl (l_alloc zeroValue327 rfl rfl) ?_; intro g1 _
  refine o_l rfl (l_store sizeOf327 rfl rfl rfl .head .head (by omega)) ?_; intro _ _
  refine oN <| cR <| oX (e_mkif runUnderlying328 rfl rfl) <| oA rfl <| oN <| c_ret ?_
  refine r_fn1 results148 rfl ?_
  exact ⟨_, _, rfl, rfl⟩
theorem newM_is : Ctr Tryz.prog 149 [] G [] (fun r H' => ∃ gm gx, r = .pointer (some ⟨gm, 0, none⟩) ∧ H' = [(gm, C [.map (some gx)] 330), (gx, Mo .u64 [])]) := by
  refine fn_enter 3 func149 rfl ntmps149 rfl ?_
  intro w0
  refine cR <| oA rfl <| oN <| cR ?_
  refine o_l rfl (l_mkmap rfl .u64) ?_
  intro gx _
  refine o_l rfl (l_alloc zeroValue330 rfl rfl) ?_; intro g1 _
  refine o_l rfl (l_store sizeOf330 rfl rfl rfl .head .head (by omega)) ?_; intro _ _
  refine oN <| cR <| oA rfl <| oN <| c_ret ?_
  refine r_fn1 results149 rfl ?_
  exact ⟨_, _, rfl, rfl⟩
theorem new_1024 : Ctr Tryz.prog 76 [.int .u64 1024] G [] (fun r H' => ∃ gm gx, r = .tuple #[.iface 328 (.pointer (some ⟨gm, 0, none⟩)), .nilIface] ∧ H' = [(gm, C [.map (some gx)] 327), (gx, Mo .u32 [])]) := by
  refine fn_enter 13 func76 rfl ntmps76 rfl ?_
  intro w0
  refine cR <| oA rfl <| oA rfl <| oN <| cR <| oM rfl <| oN <| c_block <| cR <| oX (e_eql rfl rfl) <| oA rfl <| oN <| c_then rfl <| cR ?_
  refine o_l rfl (l_call call148 newS_is rfl rfl .nil) ?_
  rintro ⟨r, H'⟩ ⟨gm, gx, rfl, rfl⟩
  simp only [List.cons_append, List.nil_append]
  refine oA rfl <| oA rfl <| oN <| c_ret ?_
  refine r_fn (l := [.tmp 2, .tmp 3]) results76 rfl rfl ?_
  exact ⟨_, _, rfl, rfl⟩
theorem new_1025 : Ctr Tryz.prog 76 [.int .u64 1025] G [] (fun r H' => ∃ gm gx, r = .tuple #[.iface 237 (.pointer (some ⟨gm, 0, none⟩)), .nilIface] ∧ H' = [(gm, C [.map (some gx)] 330), (gx, Mo .u64 [])]) := by
  refine fn_enter 13 func76 rfl ntmps76 rfl ?_
  intro w0
  refine cR <| oA rfl <| oA rfl <| oN <| cR <| oM rfl <| oN <| c_block <| cR <| oX (e_eql rfl rfl) <| oA rfl <| oN <| c_else rfl <| cR <| oX (e_eql rfl rfl) <| oA rfl <| oN <| c_then rfl <| cR ?_
  refine o_l rfl (l_call call149 newM_is rfl rfl .nil) ?_
  rintro ⟨r, H'⟩ ⟨gm, gx, rfl, rfl⟩
  simp only [List.cons_append, List.nil_append]
  refine oX (e_mkif runUnderlying237 rfl rfl) <| oA rfl <| oA rfl <| oN <| c_ret ?_
  refine r_fn (l := [.tmp 2, .tmp 3]) results76 rfl rfl ?_
  exact ⟨_, _, rfl, rfl⟩
/-- The number that stands at place i. -/
def num (bs : List UInt8) (i : Nat) : Nat := le ((bs.drop i).take 4)
/-- What is cut off within its numbers. -/
inductive Cut (bs : List UInt8) : Prop where
  | none (h : bs = []) : Cut bs
  | one {b : UInt8} (h : bs = [b]) (hb : 128 ≤ b.toNat) : Cut bs
  | s {tl : List UInt8} (h : bs = 128 :: 8 :: tl) (hl : bs.length < 18) (h1 : 6 ≤ bs.length → 1 ≤ num bs 2 ∧ num bs 2 < 2147483648) : Cut bs
  | m {tl : List UInt8} (h : bs = 129 :: 8 :: tl) (hl : bs.length < 30) (h1 : 6 ≤ bs.length → 1 ≤ num bs 2 ∧ num bs 2 < 2147483648) (h2 : 18 ≤ bs.length → 1 ≤ num bs 14 ∧ num bs 14 < 2147483648) : Cut bs
theorem from_err (hD : (gs, DB bs rest lo hi) ∈ G) (hge : Ge G gE gU) (hn : bs.length = n) (hc : n ≤ cap) (h63 : cap < 9223372036854775808) (hcut : Cut bs) :
    Ctr Tryz.prog 41 [RV gr] G [(gr, RB gs n cap 0)] (fun r H' => ∃ g i, r = .tuple #[.nilIface, EV g] ∧ H' = [(gr, RB gs n cap i)]) := by
  cases hcut with
  | none h =>
    subst h
    obtain rfl : 0 = n := hn
    refine fn_enter 31 func41 rfl ntmps41 rfl ?_
    intro w0
    refine cR <| oA rfl <| oA rfl <| oN <| cR <| oM rfl ?_
    refine o_l rfl (l_call call45 (codec_0 hge) rfl rfl (.cons .head .nil)) ?_
    rintro ⟨r, H'⟩ ⟨rfl, rfl⟩
    simp only [List.cons_append, List.nil_append]
    refine oM rfl <| oX (e_extract rfl rfl) <| oX (e_extract rfl rfl) <| oA rfl <| oA rfl <| oN <| c_seq <| cR <| oM rfl <| oX (e_inen runUnderlying80 rfl) <| oN <| c_then rfl <| cR <| oM rfl <| oA rfl <| oA rfl <| oN <| c_ret ?_
    refine r_fn (l := [.tmp 2, .tmp 3]) results41 rfl rfl ?_
    exact ⟨_, _, rfl, rfl⟩
  | one h hb =>
    subst h
    obtain rfl : 1 = n := hn
    refine fn_enter 31 func41 rfl ntmps41 rfl ?_
    intro w0
    refine cR <| oA rfl <| oA rfl <| oN <| cR <| oM rfl ?_
    refine o_l rfl (l_call call45 (codec_1 hD hge hb) rfl rfl (.cons .head .nil)) ?_
    rintro ⟨r, H'⟩ ⟨rfl, rfl⟩
    simp only [List.cons_append, List.nil_append]
    refine oM rfl <| oX (e_extract rfl rfl) <| oX (e_extract rfl rfl) <| oA rfl <| oA rfl <| oN <| c_seq <| cR <| oM rfl <| oX (e_inen runUnderlying80 rfl) <| oN <| c_then rfl <| cR <| oM rfl <| oA rfl <| oA rfl <| oN <| c_ret ?_
    refine r_fn (l := [.tmp 2, .tmp 3]) results41 rfl rfl ?_
    exact ⟨_, _, rfl, rfl⟩
  | @s tl h hl h1 =>
    subst h
    have hr := codec_of (uvar_1024 (gr := gr) (cap := cap) hD hn (by omega))
    refine fn_enter 31 func41 rfl ntmps41 rfl ?_
    intro w0
    refine cR <| oA rfl <| oA rfl <| oN <| cR <| oM rfl ?_
    refine o_l rfl (l_call call45 hr rfl rfl (.cons .head .nil)) ?_
    rintro ⟨r, H'⟩ ⟨rfl, rfl⟩
    simp only [List.cons_append, List.nil_append]
    refine oM rfl <| oX (e_extract rfl rfl) <| oX (e_extract rfl rfl) <| oA rfl <| oA rfl <| oN <| c_seq <| cR <| oM rfl <| oX (e_nnen runUnderlying80 rfl) <| oN <| cL rfl <| cR <| oM rfl ?_
    refine o_l rfl (l_call call76 new_1024 rfl rfl .nil) ?_
    rintro ⟨r, H'⟩ ⟨gm, gx, rfl, rfl⟩
    simp only [List.cons_append, List.nil_append]
    refine oM rfl <| oX (e_extract rfl rfl) <| oX (e_extract rfl rfl) <| oA rfl <| oA rfl <| oN <| c_seq <| cR <| oM rfl <| oX (e_nnen runUnderlying80 rfl) <| oN <| cL rfl <| c_seq <| cR <| oM rfl <| oM rfl ?_
    refine o_l rfl (l_calli0 call332 (by intro w; kernel_rfl) (mwi_err (v := .pointer (some ⟨gm, 0, none⟩)) (i := 2) hD hge hn hc h63 (by rw [← hn]; simp) (by omega) (fun hh => h1 (by omega))) rfl rfl rfl (.cons (.tail (.tail .head)) .nil)) ?_
    rintro ⟨r, H'⟩ ⟨rfl, rfl⟩
    simp only [List.cons_append, List.nil_append]
    refine oA rfl <| oN <| cR <| oM rfl <| oX (e_inen runUnderlying80 rfl) <| oN <| c_then rfl <| cR <| oM rfl <| oA rfl <| oA rfl <| oN <| c_ret ?_
    refine WR.sel (.cons .head .nil) ?_
    refine r_fn (l := [.tmp 2, .tmp 3]) results41 rfl rfl ?_
    exact ⟨_, _, rfl, rfl⟩
  | @m tl h hl h1 h2 =>
    subst h
    have hr := codec_of (uvar_1025 (gr := gr) (cap := cap) hD hn (by omega))
    refine fn_enter 31 func41 rfl ntmps41 rfl ?_
    intro w0
    refine cR <| oA rfl <| oA rfl <| oN <| cR <| oM rfl ?_
    refine o_l rfl (l_call call45 hr rfl rfl (.cons .head .nil)) ?_
    rintro ⟨r, H'⟩ ⟨rfl, rfl⟩
    simp only [List.cons_append, List.nil_append]
    refine oM rfl <| oX (e_extract rfl rfl) <| oX (e_extract rfl rfl) <| oA rfl <| oA rfl <| oN <| c_seq <| cR <| oM rfl <| oX (e_nnen runUnderlying80 rfl) <| oN <| cL rfl <| cR <| oM rfl ?_
    refine o_l rfl (l_call call76 new_1025 rfl rfl .nil) ?_
    rintro ⟨r, H'⟩ ⟨gm, gx, rfl, rfl⟩
    simp only [List.cons_append, List.nil_append]
    refine oM rfl <| oX (e_extract rfl rfl) <| oX (e_extract rfl rfl) <| oA rfl <| oA rfl <| oN <| c_seq <| cR <| oM rfl <| oX (e_nnen runUnderlying80 rfl) <| oN <| cL rfl <| c_seq <| cR <| oM rfl <| oM rfl ?_
    refine o_l rfl (l_calli0 call312 (by intro w; kernel_rfl) (mhi_err (v := .pointer (some ⟨gm, 0, none⟩)) (i := 2) hD hge hn hc h63 (by rw [← hn]; simp) (by omega) (fun hh => h1 (by omega)) (fun hh => h2 (by omega))) rfl rfl rfl (.cons (.tail (.tail .head)) .nil)) ?_
    rintro ⟨r, H'⟩ ⟨rfl, rfl⟩
    simp only [List.cons_append, List.nil_append]
    refine oA rfl <| oN <| cR <| oM rfl <| oX (e_inen runUnderlying80 rfl) <| oN <| c_then rfl <| cR <| oM rfl <| oA rfl <| oA rfl <| oN <| c_ret ?_
    refine WR.sel (.cons .head .nil) ?_
    refine r_fn (l := [.tmp 2, .tmp 3]) results41 rfl rfl ?_
    exact ⟨_, _, rfl, rfl⟩
theorem again_err (hge : Ge G gE gU) (hcut : Cut bs) : Ctr Tryz.prog 18 [S bs] G [] (fun r _ => r = .tuple #[.int .i64 0, S [], .bool false]) := by
  have hlen : bs.length < 30 := by
    cases hcut with
    | none h => subst h; simp
    | one h hb => subst h; simp
    | s h hl h1 => omega
    | m h hl h1 h2 => omega
  refine fn_enter 34 func18 rfl ntmps18 rfl ?_
  intro w0
  refine cR <| oA rfl <| oA rfl <| oA rfl <| oN <| cR <| oM rfl ?_
  refine o_l rfl (l_sbc underlying9 underlying72 underlying5 rfl rfl (by simp; omega) rfl rfl) ?_
  rintro ⟨gs, cap, rest, lo, hi⟩ hy
  refine o_l rfl (l_call call40 newReader_is rfl rfl .nil) ?_
  rintro ⟨r, H'⟩ ⟨gr, rfl, rfl⟩
  simp only [List.cons_append, List.nil_append]
  refine oA rfl <| oN <| cR <| oM rfl <| oX (e_mkif runUnderlying75 rfl rfl) ?_
  refine o_l rfl (l_callj (HJ := [(gs, DB bs rest lo hi)]) call41 (from_err (bs := bs) (List.mem_append_right _ (.head _)) (hge.mono fun _ h => List.mem_append_left _ h) rfl hy.le hy.lt hcut) rfl rfl (.cons .head .nil) (by simp)) ?_
  rintro ⟨r, H'⟩ ⟨g, i, rfl, rfl⟩
  simp only [List.cons_append, List.nil_append]
  refine oM rfl <| oX (e_extract rfl rfl) <| oX (e_extract rfl rfl) <| oA rfl <| oA rfl <| oN <| c_seq <| cR <| oM rfl <| oX (e_inen runUnderlying80 rfl) <| oN <| c_then rfl <| cR <| oA rfl <| oA rfl <| oA rfl <| oN <| c_ret ?_
  refine r_fn (l := [.tmp 2, .tmp 3, .tmp 4]) results18 rfl rfl ?_
  exact rfl
end
end Go.Proofs
namespace Go.Sl
open Go
theorem putCells_row {kd : IntKind} {l l' : List Int} {rest : List Value} (hl : l'.length = l.length) : Sort.putCells (Value.int kd) 0 l'.toArray (V kd l ++ rest).toArray = (V kd l' ++ rest).toArray := by
  apply Array.ext_getElem?
  intro k
  simp only [Sort.putCells, Array.getElem?_mapIdx]
  by_cases hk : k < l'.length
  · have h1 : k < l.length := by omega
    simp [hk]
    rw [List.getElem?_append_left (by simpa using h1), List.getElem?_append_left (by simpa using hk)]
    simp [h1, hk]
  · simp [hk]
    rw [List.getElem?_append_right (by simp; omega), List.getElem?_append_right (by simp; omega)]
    simp [hl]
theorem holds_row {kd : IntKind} {l : List Int} {rest : List Value} {w : World} {g : Nat} {e : TypeId} {lo hi : Nat} (hb : w.heap[g]? = some (VB kd l rest e lo hi)) (hf : l.length ≤ lo ∨ hi = 0) : Sort.Holds (Value.int kd) w g 0 l.toArray := by
  intro j hj
  have hj' : j < l.length := by simpa using hj
  refine ⟨?_, frozen_of hb (by omega)⟩
  rw [cell_of hb, Nat.zero_add, List.getElem?_append_left (by simpa using hj')]
  simp [hj']
theorem post_put {kd : IntKind} {l l' : List Int} {rest : List Value} {w w' : World} {g : Nat} {e : TypeId} {lo hi n : Nat} {os : Array Obj} (hb : w.heap[g]? = some (VB kd l rest e lo hi)) (hl : l'.length = l.length) (hw : w' = Sort.grow (Sort.putRow (Value.int kd) (Sort.ahead w n) g 0 l'.toArray) os) :
    Has w' [(g, VB kd l' rest e lo hi)] ∧ Fr [g] w w' := by
  have hlt : g < w.heap.size := (Array.getElem?_eq_some_iff.1 hb).1
  subst hw
  refine ⟨fun p hp => ?_, rfl, rfl, rfl, by simp [Sort.putRow, Sort.mapBlock, Sort.ahead], fun k hk hne => ?_⟩
  · rcases List.mem_singleton.1 hp with rfl
    rw [Sort.heap_grow_old _ _ (by simpa [Sort.putRow, Sort.mapBlock, Sort.ahead] using hlt)]
    have : (Sort.ahead w n).heap[g]? = some (VB kd l rest e lo hi) := hb
    simp only [Sort.putRow, Sort.mapBlock, Array.getElem?_modify, if_true, this, Option.map_some, Sort.onCells, putCells_row hl]
  · rw [Sort.heap_grow_old _ _ (by simpa [Sort.putRow, Sort.mapBlock, Sort.ahead] using hk)]
    have : g ≠ k := fun h => hne (by simp [h])
    simp [Sort.putRow, Sort.mapBlock, Sort.ahead, Array.getElem?_modify, this]
end Go.Sl
namespace Go.Sl
open Go
theorem Sel.app : ∀ (A B : HP), Sel (A ++ B) A B
  | [], _ => .nil
  | p :: A, B => .cons .head (Sel.app A B)
theorem Rem.mid : ∀ (A : HP) (p : Nat × Obj) (B : HP), Rem (A ++ p :: B) p (A ++ B)
  | [], _, _ => .head
  | _ :: A, p, B => .tail (Rem.mid A p B)
theorem Sel.appR (A : HP) : ∀ B : HP, Sel (A ++ B) B A
  | [] => by simpa using Sel.nil
  | p :: B => .cons (Rem.mid A p B) (Sel.appR A B)
theorem Sel.mid (A : HP) : ∀ (B D : HP), Sel (A ++ (B ++ D)) B (A ++ D)
  | [], _ => .nil
  | p :: B, D => .cons (Rem.mid A p (B ++ D)) (Sel.mid A B D)
theorem perm_mid (A R B : HP) : (A ++ (R ++ B)).Perm (R ++ (A ++ B)) := by
  rw [← List.append_assoc, ← List.append_assoc]
  exact List.perm_append_comm.append_right _
section
variable {x : Cx} {s : Slots} {H HB : HP} {d n sz : Nat} {p : Operand} {ty t e e' : TypeId} {pos : String} {af : Array Edge} {gd' : Option (Nat × Bool)} {v : Value} {xs : List Value}
theorem e_lenO (hU : ∀ w, (underlying t).run x.P w = .ok (.slice e) w) (ho : Osl e' sz v n xs HB) (hp : ev s p = some v) : Ex x s H ⟨some d, .call { callee := .builtin .len, args := #[p], argTypes := #[t] }, ty, pos, af, gd'⟩ (.int .i64 n) := by
  cases ho with
  | nil => exact e_lenl hU hp
  | own => exact e_lenl hU hp
theorem Osl.sv (ho : Osl e' sz v n xs HB) (hU : x.P.underlying t = some (.slice e)) (hm : ∀ p ∈ HB, p ∈ H) (h1 : ∀ u ∈ xs, u.oneCell' = true) : Sv x H sz t v n xs := by
  cases ho with
  | nil => exact .nil hU
  | @own g n cap lo hi xs rest a1 a2 a3 a4 a5 =>
    refine .blk hU (.inl (hm _ (.head _))) ?_ h1
    have := CutL.of (l := xs ++ rest) (i := 0) (n := n * sz) (by simp; omega)
    simpa [← a1] using this
end
end Go.Sl
namespace Go.Proofs
open Go Go.Sl Tryz
set_option maxRecDepth 100000
set_option maxHeartbeats 1000000
/-- A buffer that is written only. -/
abbrev Bu (v : Value) (lr : Int) : Obj := C [v, .int .i64 0, .int .i8 lr] 86
section
variable {G : HP} {gb g n cap lo hi L : Nat} {A : Option Addr} {lr : Int}
theorem bufLen_is (h3 : n < 9223372036854775808) : Ctr Tryz.prog 298 [.pointer (some ⟨gb, 0, none⟩)] G [(gb, Bu (.slice A n cap) lr)] (fun r H' => r = .int .i64 n ∧ H' = [(gb, Bu (.slice A n cap) lr)]) := by
  refine fn_enter 13 func298 rfl ntmps298 rfl ?_
  intro w0
  refine cR <| oA rfl <| oN <| c_seq <| cQ <| qM rfl <| qC rfl <| qX (e_fak 0 runUnderlying86 rfl sizeOf72 rfl rfl rfl) <| qX (e_load isAgg72 rfl (.inl M0) rfl) <| qX (e_lenl runUnderlying72 rfl) <| qM rfl <| qC rfl <| qX (e_fak 1 runUnderlying86 rfl sizeOf3 rfl rfl rfl) <| qX (e_load isAgg3 rfl (.inl M0) rfl) <| qX (e_subn rfl rfl (by simp only [inR]; omega)) <| qA rfl <| qN <| c_ret ?_
  refine r_fn1 results298 rfl ?_
  exact ⟨by simp only [Int.sub_zero], rfl⟩
theorem tg_none (h1 : cap < n + L) (h2 : n ≤ cap) (h3 : cap < 9223372036854775808) : Ctr Tryz.prog 296 [.pointer (some ⟨gb, 0, none⟩), .int .i64 L] G [(gb, Bu (.slice A n cap) lr)] (fun r H' => r = .tuple #[.int .i64 0, .bool false] ∧ H' = [(gb, Bu (.slice A n cap) lr)]) := by
  refine fn_enter 33 func296 rfl ntmps296 rfl ?_
  intro w0
  refine cR <| oA rfl <| oA rfl <| oN <| c_seq <| cR <| oM rfl <| oC rfl <| oX (e_fak 0 runUnderlying86 rfl sizeOf72 rfl rfl rfl) <| oX (e_load isAgg72 rfl (.inl M0) rfl) <| oX (e_lenl runUnderlying72 rfl) <| oA rfl <| oN <| cR <| oM rfl <| oM rfl <| oC rfl <| oX (e_fak 0 runUnderlying86 rfl sizeOf72 rfl rfl rfl) <| oX (e_load isAgg72 rfl (.inl M0) rfl) <| oX (e_cap runUnderlying72 rfl) <| oM rfl <| oX (e_subN rfl rfl (by omega)) <| oX (e_leq rfl rfl) <| o_nil ?_
  refine n_code ?_
  refine c_ifp rfl (fun h5 => ?_) (fun h5 => ?_)
  · exact absurd h5 (by omega)
  · skip
    refine c_skip <| n_code <| cR <| oA rfl <| oA rfl <| oN <| c_ret ?_
    refine r_fn (l := [.tmp 4, .tmp 5]) results296 rfl rfl ?_
    exact ⟨rfl, rfl⟩
theorem tg_room (h1 : n + L ≤ cap) (h3 : cap < 9223372036854775808) : Ctr Tryz.prog 296 [.pointer (some ⟨gb, 0, none⟩), .int .i64 L] G [(gb, Bu (.slice (some ⟨g, 0, none⟩) n cap) lr)] (fun r H' => r = .tuple #[.int .i64 n, .bool true] ∧ H' = [(gb, Bu (.slice (some ⟨g, 0, none⟩) (n + L) cap) lr)]) := by
  refine fn_enter 33 func296 rfl ntmps296 rfl ?_
  intro w0
  refine cR <| oA rfl <| oA rfl <| oN <| c_seq <| cR <| oM rfl <| oC rfl <| oX (e_fak 0 runUnderlying86 rfl sizeOf72 rfl rfl rfl) <| oX (e_load isAgg72 rfl (.inl M0) rfl) <| oX (e_lenl runUnderlying72 rfl) <| oA rfl <| oN <| cR <| oM rfl <| oM rfl <| oC rfl <| oX (e_fak 0 runUnderlying86 rfl sizeOf72 rfl rfl rfl) <| oX (e_load isAgg72 rfl (.inl M0) rfl) <| oX (e_cap runUnderlying72 rfl) <| oM rfl <| oX (e_subN rfl rfl (by omega)) <| oX (e_leq rfl rfl) <| o_nil ?_
  refine n_code ?_
  refine c_ifp rfl (fun h5 => ?_) (fun h5 => ?_)
  · refine cR <| oM rfl <| oM rfl <| oC rfl <| oX (e_fak 0 runUnderlying86 rfl sizeOf72 rfl rfl rfl) <| oX (e_load isAgg72 rfl (.inl M0) rfl) <| oM rfl <| oM rfl <| oX (e_addN rfl rfl (by omega)) <| oX (e_sl_h runUnderlying72 sizeOf5 rfl rfl (by omega) (by omega)) <| oC rfl <| oX (e_fak 0 runUnderlying86 rfl sizeOf72 rfl rfl rfl) ?_
    refine o_l rfl (l_store sizeOf72 rfl rfl rfl .head .head (by omega)) ?_; intro _ _
    refine oN <| cR <| oM rfl <| oA rfl <| oA rfl <| oN <| c_ret ?_
    refine r_fn (l := [.tmp 4, .tmp 5]) results296 rfl rfl ?_
    exact ⟨rfl, rfl⟩
  · exact absurd h5 (by omega)
end
end Go.Proofs
namespace Go.Sl
open Go
section
variable {x : Cx} {s : Slots} {H : HP} {d n : Nat} {p q : Operand} {ty t t' e : TypeId} {pos : String} {af : Array Edge} {gd : Option (Nat × Bool)}
theorem l_appZ {i : TypeInfo} {z : Value} {k kn : IntKind} (hU : x.P.underlying t = some (.slice e)) (hT : x.P.underlying t' = some (.int kn)) (hI : x.P.info? e = some i) (hz : i.zero = some z) (hs1 : i.size = 1) (hb1 : i.bytes = 1) (hzs : z.cells.size = 1)
    (hN : Nat.blt d x.N = true) (hp : ev s p = some (.slice none 0 0)) (hq : ev s q = some (.int k (n : Nat))) (h0 : 0 < n) (hb : n ≤ 140737488355328) :
    Lo x s H ⟨some d, .call { callee := .builtin .append, args := #[p, q], argTypes := #[t, t'] }, ty, pos, af, gd⟩ (Y := Nat × List Value) (fun y => (d, .slice (some ⟨y.1, 0, none⟩) n y.2.length) :: s) (fun y => (y.1, C y.2 e) :: H) (fun y => n ≤ y.2.length ∧ y.2.length < 9223372036854775808) :=
  l_gen (Y := Nat × List Value) (fun y => .slice (some ⟨y.1, 0, none⟩) n y.2.length) (fun y => (y.1, C y.2 e) :: H) (fun y => n ≤ y.2.length ∧ y.2.length < 9223372036854775808) rfl hN (fun a w hs => by
    have hr := Lib.run_append_nil_zeros (P := x.P) w t t' ty e i z k kn hU hT hI hz n h0 (by omega) (by omega) (by rw [hb1]; omega)
    have hge : n ≤ grownCap w n 0 e := by simp [grownCap, Question.cut]
    have hlt : grownCap w n 0 e < 9223372036854775808 := by
      have := Nat.mod_lt (w.tape w.drawn (.appendCap n 0 e)) (show 0 < 2 ^ 63 - n by omega)
      simp only [grownCap, Question.cut]; omega
    generalize grownCap w n 0 e = c at hr hge hlt
    have hsz : (Builtin.zeroCells z.cells n ++ Builtin.zeroCells z.cells (c - n)).size = c := by simp [size_zeroCells, hzs]; omega
    generalize Builtin.zeroCells z.cells n ++ Builtin.zeroCells z.cells (c - n) = Z at hr hsz
    refine ⟨w.drew.alloc (.cells Z.toList.toArray e), (w.heap.size, Z.toList), ?_, ⟨by simpa [hsz] using hge, by simpa [hsz] using hlt⟩, ?_⟩
    · show (execOp a.eval ⟨some d, .call { callee := .builtin .append, args := #[p, q], argTypes := #[t, t'] }, ty, pos, af, gd⟩).run x.P w = .ok (.value (.slice (some ⟨w.heap.size, 0, none⟩) n Z.toList.length)) (w.drew.alloc (.cells Z.toList.toArray e))
      simp only [Array.length_toList, hsz, Array.toArray_toList]
      simp [execOp, resolve, invoke, builtin, hs.eval hp, hs.eval hq, hr]
    · exact hs.newd _)
end
end Go.Sl
namespace Go.Proofs
open Go Go.Sl Tryz
set_option maxRecDepth 100000
set_option maxHeartbeats 1000000
theorem idle300 : Idle Tryz.prog 300 #[] := by
  refine ⟨#[], fun w => by simp [invoke, call300], fun w => ?_⟩
  refine callsD_of_wpS func300 rfl fun c₀ cs hu => ?_
  apply wpS_seq
  apply wpS_region
  simp [wpOpsS, go_sem, recoverD, hu, ntmps300, Exit.thenS]
  refine wpS_cond (t := false) (by simp [Act.eval, Array.replicate]) ?_
  simp only [Bool.false_eq_true, if_false]
  refine wpS_of_wp (wp_skip ?_)
  cases c₀
  simp_all [bodyPostS, results, results300]
section
variable {G : HP} {gb g n cap lo hi L : Nat} {bs : List UInt8} {rest : List Value}
theorem gs_is (hD : (g, DB bs rest lo hi) ∈ G) (hn : bs.length = n) (hc : n ≤ cap) (hs : cap < 2147483648) (hL : L < 2147483648) (h1 : 0 < L) :
    Ctr Tryz.prog 299 [.slice (some ⟨g, 0, none⟩) n cap, .int .i64 L] G [] (fun r H' => ∃ (g2 : Nat) (rest2 : List Value), r = .slice (some ⟨g2, 0, none⟩) n (n + rest2.length) ∧ L ≤ rest2.length ∧ n + rest2.length < 9223372036854775808 ∧ H' = [(g2, C (B bs ++ rest2) 5)]) := by
  refine fn_enterD 28 func299 rfl ntmps299 rfl ?_
  intro w0
  refine cR <| oA rfl <| oN <| cR <| o_defer rfl <| oN <| cR <| oM rfl <| oX (e_lenl runUnderlying72 rfl) <| oM rfl <| oX (e_addN rfl rfl (by omega)) <| oA rfl <| oN <| c_seq ?_
  refine c_cut (X := Nat) (fun c => [(0, .slice (some ⟨g, 0, none⟩) n cap), (5, .int .i64 c)]) (fun _ => []) (fun c => n + L ≤ c ∧ c < 17179869184) ?_ ?_
  · skip
    refine cR <| oM rfl <| oM rfl <| oX (e_cap runUnderlying72 rfl) <| oX (e_muln rfl rfl (by simp only [inR]; omega)) <| oX (e_lss rfl rfl) <| oN ?_
    refine c_ifp rfl (fun h2 => ?_) (fun h2 => ?_)
    · refine c_region <| oM rfl <| oX (e_cap runUnderlying72 rfl) <| oX (e_muln rfl rfl (by simp only [inR]; omega)) <| oA rfl <| o_nil ?_
      exact n_cut (2 * cap) ⟨by omega, by omega⟩ (sub_cons rfl (sub_cons rfl sub_nil)) (.refl _)
    · skip
      refine c_skip ?_
      exact n_cut (n + L) ⟨by omega, by omega⟩ (sub_cons rfl (sub_cons rfl sub_nil)) (.refl _)
  · rintro c ⟨hc1, hc2⟩
    refine n_code <| cR <| oM rfl ?_
    refine o_l rfl (l_appZ (n := c) underlying72 underlying3 (info_of typeInfo5) rfl rfl rfl rfl rfl rfl rfl (by omega) (by omega)) ?_
    rintro ⟨g2, cs⟩ ⟨hcs1, hcs2⟩
    simp only at hcs1 hcs2 ⊢
    refine oA rfl <| oN <| cR <| oM rfl <| oM rfl ?_
    have hput : PutL cs 0 (B bs) ([] ++ B bs ++ cs.drop (0 + (B bs).length)) := PutL.of (by simp [B]; omega)
    simp only [List.nil_append, Nat.zero_add, B_length, hn] at hput
    have ht : (B bs).take n = B bs := List.take_of_length_le (by rw [B_length]; omega)
    rw [← ht] at hput
    have hcut := CutL.of (l := B bs ++ rest) (i := 0) (n := n * 1) (by rw [List.length_append, B_length]; omega)
    rw [List.drop_zero, Nat.mul_one, List.take_left' (by rw [B_length]; exact hn)] at hcut
    refine o_l rfl (l_copy (cap := cs.length) (l := cs) (l' := (B bs).take n ++ cs.drop n) runUnderlying72 sizeOf5 rfl rfl rfl (.blk (vs := B bs) underlying72 (.inr hD) (by rw [Nat.mul_one]; exact hcut) (B_one bs)) (Nat.min_eq_left (show n ≤ c by omega)) .head hput (.inr rfl)) ?_
    intro _ _
    rw [ht]
    refine oA rfl <| oN <| cR <| oM rfl <| oM rfl <| oX (e_sl_h runUnderlying72 sizeOf5 rfl rfl (by omega) (by omega)) <| oA rfl <| oN <| c_ret ?_
    refine r_fnxD idle300 results299 (.tmp rfl .nil) (.cons .head .nil) rfl ?_
    refine ⟨g2, cs.drop n, ?_, by simp; omega, by simp; omega, rfl⟩
    rw [List.length_drop, show n + (cs.length - n) = cs.length by omega]
    rfl
end
end Go.Proofs
namespace Go.Proofs
open Go Go.Sl Tryz
set_option maxRecDepth 100000
set_option maxHeartbeats 1000000
/-- A buffer that holds these bytes: its slice, its row's block. -/
inductive Bb : Value → List UInt8 → HP → Prop where
  | nil : Bb (.slice none 0 0) [] []
  | row {g cap lo hi : Nat} {bs : List UInt8} {rest : List Value} (h0 : 0 < bs.length) (h1 : rest.length = cap - bs.length) (h2 : bs.length ≤ cap) (h3 : cap < 9223372036854775808) (h4 : cap ≤ lo ∨ hi = 0) : Bb (.slice (some ⟨g, 0, none⟩) bs.length cap) bs [(g, DB bs rest lo hi)]
section
variable {G : HP} {gb g n cap lo hi L : Nat} {bs : List UInt8} {rest : List Value} {lr : Int}
/-- Room made in a row that has none. -/
theorem grow_row (hn : bs.length = n) (hc : n ≤ cap) (h1 : cap < n + L) (h2 : n < 1073741824) (h3 : L < 1073741824) (h0 : 0 < n) :
    Ctr Tryz.prog 297 [.pointer (some ⟨gb, 0, none⟩), .int .i64 L] G [(gb, Bu (.slice (some ⟨g, 0, none⟩) n cap) lr), (g, DB bs rest lo hi)] (fun r H' => ∃ (g2 : Nat) (rest2 : List Value), r = .int .i64 n ∧ L ≤ rest2.length ∧ n + rest2.length < 9223372036854775808 ∧ H' = [(gb, Bu (.slice (some ⟨g2, 0, none⟩) (n + L) (n + rest2.length)) lr), (g2, C (B bs ++ rest2) 5)]) := by
  refine fn_enter 110 func297 rfl ntmps297 rfl ?_
  intro w0
  refine cR <| oA rfl <| oN <| cR <| oM rfl ?_
  refine o_l rfl (l_call call298 (bufLen_is (by omega)) rfl rfl (.cons .head .nil)) ?_
  rintro ⟨r, H'⟩ ⟨rfl, rfl⟩
  simp only [List.cons_append, List.nil_append]
  refine oA rfl <| oN <| c_seq <| cR <| oM rfl <| oX (e_eql rfl rfl) <| oM rfl ?_
  refine o_splitp 13 rfl (fun h5 => ?_) (fun h5 => ?_)
  · exact absurd h5 (by omega)
  · skip
    refine oS <| oS <| oS <| oS <| oS <| oX (e_pick_f rfl rfl) <| oN <| cL rfl <| c_seq <| cR <| oM rfl <| oM rfl ?_
    refine o_l rfl (l_call call296 (tg_none (by omega) hc (by omega)) rfl rfl (.cons .head .nil)) ?_
    rintro ⟨r, H'⟩ ⟨rfl, rfl⟩
    simp only [List.cons_append, List.nil_append]
    refine oM rfl <| oX (e_extract rfl rfl) <| oX (e_extract rfl rfl) <| oA rfl <| oA rfl <| oN <| cR <| oM rfl <| oN <| cL rfl <| c_seq <| cR <| oM rfl <| oC rfl <| oX (e_fak 0 runUnderlying86 rfl sizeOf72 rfl rfl rfl) <| oX (e_load isAgg72 rfl (.inl M0) rfl) <| oX (e_leqn runUnderlying72 rfl) <| oM rfl <| oS <| oS <| oX (e_pick_f rfl rfl) <| oN <| cL rfl <| cR <| oM rfl <| oC rfl ?_
    refine oX (e_fak 0 runUnderlying86 rfl sizeOf72 rfl rfl rfl) <| oX (e_load isAgg72 rfl (.inl M0) rfl) <| oX (e_cap runUnderlying72 rfl) <| oA rfl <| oN <| c_seq <| cR <| oM rfl <| oM rfl <| oX (e_quon rfl rfl (by omega) (by omega) (by simp only [inR]; omega)) <| oM rfl <| oX (e_subn rfl rfl (by simp only [inR]; omega)) <| oX (e_leq rfl rfl) <| oN ?_
    refine c_ifp rfl (fun h6 => ?_) (fun h6 => ?_)
    · exact absurd h6 (by omega)
    · skip
      refine cR <| oM rfl <| oM rfl <| oX (e_subn rfl rfl (by simp only [inR]; omega)) <| oM rfl <| oX (e_subn rfl rfl (by simp only [inR]; omega)) <| oX (e_gtr rfl rfl) <| oN ?_
      refine c_ifp rfl (fun h7 => ?_) (fun h7 => ?_)
      · exact absurd h7 (by omega)
      · skip
        refine c_regiong [16, 19] (by kernel_rfl) <| gM 0 rfl (e_move rfl) <| gM 1 rfl (e_move rfl) <| gM 2 rfl (e_nilCheck rfl) <| gM 3 rfl (e_fak 0 runUnderlying86 rfl sizeOf72 rfl rfl rfl) <| gE 4 rfl (e_load isAgg72 rfl (.inl M0) rfl) <| gM 5 rfl (e_move rfl) <| gM 6 rfl (e_nilCheck rfl) <| gM 7 rfl (e_fak 1 runUnderlying86 rfl sizeOf3 rfl rfl rfl) <| gE 8 rfl (e_load isAgg3 rfl (.inl M0) rfl) <| gM 9 rfl (e_sl_l runUnderlying72 sizeOf5 rfl rfl (by omega) (by omega) (by omega)) <| gM 10 rfl (e_move rfl) <| gM 11 rfl (e_nilCheck rfl) ?_
        refine gM 12 rfl (e_fak 1 runUnderlying86 rfl sizeOf3 rfl rfl rfl) <| gE 13 rfl (e_load isAgg3 rfl (.inl M0) rfl) <| gM 14 rfl (e_move rfl) <| gM 15 rfl (e_addn rfl rfl (by simp only [inR]; omega)) ?_
        rw [Int.zero_add]
        refine g_l 16 (by kernel_rfl) rfl rfl rfl (l_callj (HI := []) (HJ := [(g, DB bs rest lo hi)]) call299 (gs_is (g := g) (bs := bs) (L := L) (n := n) (cap := cap) (lo := lo) (hi := hi) (rest := rest) (List.mem_append_right _ (.head _)) hn hc (by omega) (by omega) (by omega)) rfl rfl .nil (fun p hp => .tail _ hp)) ?_
        rintro ⟨r, H'⟩ ⟨g2, rest2, rfl, hr1, hr2, rfl⟩
        simp only [List.cons_append, List.nil_append]
        refine dX 17 rfl (e_nilCheck rfl) <| dX 18 rfl (e_fak 0 runUnderlying86 rfl sizeOf72 rfl rfl rfl) ?_
        refine d_l 19 (by kernel_rfl) rfl rfl (l_store sizeOf72 rfl rfl rfl (.tail .head) .head (by omega)) (fun _ _ => hs_nil) ?_
        intro _ _
        refine dN <| n_code <| cR <| oM rfl <| oC rfl <| oX (e_fak 1 runUnderlying86 rfl sizeOf3 rfl rfl rfl) ?_
        refine o_l rfl (l_store sizeOf3 rfl rfl rfl (.tail .head) (.tail .head) (by omega)) ?_; intro _ _
        refine oN <| cR <| oM rfl <| oM rfl <| oC rfl <| oX (e_fak 0 runUnderlying86 rfl sizeOf72 rfl rfl rfl) ?_
        refine oX (e_load isAgg72 rfl (by first | exact .inr (by assumption) | exact .inl (by repeat (first | exact List.Mem.head _ | refine List.Mem.tail _ ?_))) rfl) ?_
        refine oM rfl <| oM rfl <| oX (e_addN rfl rfl (by omega)) <| oX (e_sl_h runUnderlying72 sizeOf5 rfl rfl (by omega) (by omega)) <| oC rfl <| oX (e_fak 0 runUnderlying86 rfl sizeOf72 rfl rfl rfl) ?_
        refine o_l rfl (l_store sizeOf72 rfl rfl rfl (.tail .head) .head (by omega)) ?_; intro _ _
        refine oN <| cR <| oM rfl <| oA rfl <| oN <| c_ret ?_
        refine WR.sel (.cons (.tail .head) (.cons .head .nil)) ?_
        refine r_fn1 results297 rfl ?_
        exact ⟨g2, rest2, rfl, hr1, hr2, rfl⟩
/-- Room made where there is nothing yet. -/
theorem grow_nil (h0 : 0 < L) (h1 : L ≤ 64) :
    Ctr Tryz.prog 297 [.pointer (some ⟨gb, 0, none⟩), .int .i64 L] G [(gb, Bu (.slice none 0 0) lr)] (fun r H' => ∃ g2 : Nat, r = .int .i64 0 ∧ H' = [(gb, Bu (.slice (some ⟨g2, 0, none⟩) L 64) lr), (g2, C (List.replicate 64 (.int .u8 0)) 5)]) := by
  refine fn_enter 110 func297 rfl ntmps297 rfl ?_
  intro w0
  refine cR <| oA rfl <| oN <| cR <| oM rfl ?_
  refine o_l rfl (l_call call298 (bufLen_is (n := 0) (by omega)) rfl rfl (.cons .head .nil)) ?_
  rintro ⟨r, H'⟩ ⟨rfl, rfl⟩
  simp only [List.cons_append, List.nil_append]
  refine oA rfl <| oN <| c_seq <| cR <| oM rfl <| oX (e_eql rfl rfl) <| oM rfl ?_
  refine o_splitp 13 rfl (fun h5 => ?_) (fun h5 => ?_)
  · refine oM rfl <| oC rfl <| oX (e_fak 1 runUnderlying86 rfl sizeOf3 rfl rfl rfl) <| oX (e_load isAgg3 rfl (.inl M0) rfl) <| oX (e_neq rfl rfl) <| oX (e_pick_t rfl rfl) <| oN <| cL rfl <| c_seq <| cR <| oM rfl <| oM rfl ?_
    refine o_l rfl (l_call call296 (tg_none (n := 0) (cap := 0) (L := L) (by omega) (by omega) (by omega)) rfl rfl (.cons .head .nil)) ?_
    rintro ⟨r, H'⟩ ⟨rfl, rfl⟩
    simp only [List.cons_append, List.nil_append]
    refine oM rfl <| oX (e_extract rfl rfl) <| oX (e_extract rfl rfl) <| oA rfl <| oA rfl <| oN <| cR <| oM rfl <| oN <| cL rfl <| c_seq <| cR <| oM rfl <| oC rfl <| oX (e_fak 0 runUnderlying86 rfl sizeOf72 rfl rfl rfl) <| oX (e_load isAgg72 rfl (.inl M0) rfl) <| oX (e_leqn runUnderlying72 rfl) <| oM rfl <| oM rfl <| oX (e_leq rfl rfl) <| oX (e_pick_t rfl rfl) <| oN ?_
    refine c_ifp rfl (fun h6 => ?_) (fun h6 => ?_)
    · refine cR <| oM rfl <| oM rfl ?_
      refine o_l rfl (l_mks (l := List.replicate 64 (.int .u8 0)) underlying72 (info_of typeInfo5) rfl rfl rfl rfl (by omega) (by omega) (by decide) (by decide) (made_one (.int .u8 0) 64 rfl)) ?_
      intro g2 _
      refine oC rfl <| oX (e_fak 0 runUnderlying86 rfl sizeOf72 rfl rfl rfl) ?_
      refine o_l rfl (l_store sizeOf72 rfl rfl rfl (.tail .head) .head (by omega)) ?_; intro _ _
      refine oN <| cR <| oA rfl <| oN <| c_ret ?_
      refine WR.sel (.cons (.tail .head) (.cons .head .nil)) ?_
      refine r_fn1 results297 rfl ?_
      exact ⟨g2, rfl, rfl⟩
    · exact absurd h6 (by omega)
  · exact absurd rfl h5
end
end Go.Proofs

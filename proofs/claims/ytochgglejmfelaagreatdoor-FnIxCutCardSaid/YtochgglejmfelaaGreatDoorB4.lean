/- Reading an index that is cut off within its numbers gives an error. -/
import Derived.Test.YtochgglejmfelaaGreatDoorB3
namespace Go.Proofs
open Go Go.Sl
set_option maxRecDepth 100000
set_option maxHeartbeats 1000000
section
variable {G : HP} {gr gs gb n cap i k L lo hi e3 e5 eE eU : Nat} {f3 f5 : Nat × Nat} {bs : List UInt8} {rest pl cE' cU' : List Value} {gE gU : Addr} {t3 t5 : List Value}
theorem byte_is {b : UInt8} (hD : (gs, DB bs rest lo hi) ∈ G) (hn : bs.length = n) (h63 : n < 9223372036854775808) (hb : bs[i]? = some b) :
    Ctr Tryz.prog 289 [.pointer (some ⟨gr, 0, none⟩)] G [(gr, RB gs n cap i)] (fun r H' => r = .tuple #[.int .u8 (b.toNat : Nat), .nilIface] ∧ H' = [(gr, RB gs n cap (i + 1))]) := by
  have hi := (List.getElem?_eq_some_iff.1 hb).1
  have hb2 : (B bs ++ rest)[0 + i * 1]? = some (.int .u8 (b.toNat : Nat)) := by
    rw [Nat.zero_add, Nat.mul_one, List.getElem?_append_left (by simp [B]; exact hi)]
    simp [B, hb]
  refine fn_enter 37 Tryz.func289 rfl Tryz.ntmps289 rfl ?_
  intro w0
  refine c_seq ?_
  refine c_region ?_
  refine o_e rfl rfl rfl (e_assign rfl) ?_
  refine o_e rfl rfl rfl (e_assign rfl) ?_
  refine o_nil ?_
  refine n_code ?_
  refine c_seq ?_
  refine c_region ?_
  refine o_e rfl rfl rfl (e_move rfl) ?_
  first | refine o_e rfl rfl rfl (e_nilCheck rfl) ?_ | refine o_e rfl rfl rfl (e_nilm (fun _ => by kernel_rfl) rfl) ?_
  refine o_e rfl rfl rfl (e_fak 2 Tryz.runUnderlying144 rfl Tryz.sizeOf3 rfl rfl rfl) ?_
  refine o_l rfl (l_store Tryz.sizeOf3 rfl rfl rfl (by first | exact .head | exact .tail .head | exact .tail (.tail .head) | exact .tail (.tail (.tail .head)) | exact .tail (.tail (.tail (.tail .head))) | exact .tail (.tail (.tail (.tail (.tail .head)))) | exact .tail (.tail (.tail (.tail (.tail (.tail .head))))) | exact .tail (.tail (.tail (.tail (.tail (.tail (.tail .head)))))) | exact .tail (.tail (.tail (.tail (.tail (.tail (.tail (.tail .head)))))))) (by first | exact .head | exact .tail .head | exact .tail (.tail .head) | exact .tail (.tail (.tail .head)) | exact .tail (.tail (.tail (.tail .head))) | exact .tail (.tail (.tail (.tail (.tail .head)))) | exact .tail (.tail (.tail (.tail (.tail (.tail .head))))) | exact .tail (.tail (.tail (.tail (.tail (.tail (.tail .head))))))) (by omega)) ?_; intro _ _
  refine o_nil ?_
  refine n_code ?_
  refine c_seq ?_
  refine c_seq ?_
  refine c_regionq (by kernel_rfl) (by kernel_rfl) ?_
  refine q_e rfl rfl rfl (e_move rfl) ?_
  first | refine q_e rfl rfl rfl (e_nilCheck rfl) ?_ | refine q_e rfl rfl rfl (e_nilm (fun _ => by kernel_rfl) rfl) ?_
  refine q_e rfl rfl rfl (e_fak 1 Tryz.runUnderlying144 rfl Tryz.sizeOf2 rfl rfl rfl) ?_
  refine q_e rfl rfl rfl (e_load Tryz.isAgg2 rfl (by first | exact .inr (by assumption) | exact .inl (by repeat (first | exact List.Mem.head _ | refine List.Mem.tail _ ?_))) (by first | rfl | assumption)) ?_
  refine q_e rfl rfl rfl (e_move rfl) ?_
  first | refine q_e rfl rfl rfl (e_nilCheck rfl) ?_ | refine q_e rfl rfl rfl (e_nilm (fun _ => by kernel_rfl) rfl) ?_
  refine q_e rfl rfl rfl (e_fak 0 Tryz.runUnderlying144 rfl Tryz.sizeOf72 rfl rfl rfl) ?_
  refine q_e rfl rfl rfl (e_load Tryz.isAgg72 rfl (by first | exact .inr (by assumption) | exact .inl (by repeat (first | exact List.Mem.head _ | refine List.Mem.tail _ ?_))) (by first | rfl | assumption)) ?_
  first | refine q_e rfl rfl rfl (e_lenl Tryz.runUnderlying72 rfl) ?_ | refine q_e rfl rfl rfl (e_lenO Tryz.runUnderlying72 (by assumption) rfl) ?_
  refine q_e rfl rfl rfl (e_geq rfl rfl) ?_
  refine q_nil ?_
  refine n_code ?_
  refine c_ifp rfl (fun h1 => ?_) (fun h1 => ?_)
  · exact absurd h1 (by omega)
  · skip
    refine c_skip ?_
    refine n_code ?_
    refine c_seq ?_
    refine c_regionq (by kernel_rfl) (by kernel_rfl) ?_
    refine q_e rfl rfl rfl (e_move rfl) ?_
    first | refine q_e rfl rfl rfl (e_nilCheck rfl) ?_ | refine q_e rfl rfl rfl (e_nilm (fun _ => by kernel_rfl) rfl) ?_
    refine q_e rfl rfl rfl (e_fak 0 Tryz.runUnderlying144 rfl Tryz.sizeOf72 rfl rfl rfl) ?_
    refine q_e rfl rfl rfl (e_load Tryz.isAgg72 rfl (by first | exact .inr (by assumption) | exact .inl (by repeat (first | exact List.Mem.head _ | refine List.Mem.tail _ ?_))) (by first | rfl | assumption)) ?_
    refine q_e rfl rfl rfl (e_move rfl) ?_
    first | refine q_e rfl rfl rfl (e_nilCheck rfl) ?_ | refine q_e rfl rfl rfl (e_nilm (fun _ => by kernel_rfl) rfl) ?_
    refine q_e rfl rfl rfl (e_fak 1 Tryz.runUnderlying144 rfl Tryz.sizeOf2 rfl rfl rfl) ?_
    refine q_e rfl rfl rfl (e_load Tryz.isAgg2 rfl (by first | exact .inr (by assumption) | exact .inl (by repeat (first | exact List.Mem.head _ | refine List.Mem.tail _ ?_))) (by first | rfl | assumption)) ?_
    first | refine q_e rfl rfl rfl (e_ian Tryz.runUnderlying72 Tryz.sizeOf5 rfl rfl (by omega)) ?_ | refine q_e rfl rfl rfl (e_ia Tryz.runUnderlying72 Tryz.sizeOf5 rfl rfl (by omega) (by omega)) ?_
    refine q_e rfl rfl rfl (e_load Tryz.isAgg5 rfl (by first | exact .inr (by assumption) | exact .inl (by repeat (first | exact List.Mem.head _ | refine List.Mem.tail _ ?_))) (by first | rfl | assumption)) ?_
    refine q_e rfl rfl rfl (e_assign rfl) ?_
    refine q_nil ?_
    refine n_code ?_
    refine c_seq ?_
    refine c_region ?_
    refine o_e rfl rfl rfl (e_move rfl) ?_
    first | refine o_e rfl rfl rfl (e_nilCheck rfl) ?_ | refine o_e rfl rfl rfl (e_nilm (fun _ => by kernel_rfl) rfl) ?_
    refine o_e rfl rfl rfl (e_fak 1 Tryz.runUnderlying144 rfl Tryz.sizeOf2 rfl rfl rfl) ?_
    refine o_e rfl rfl rfl (e_load Tryz.isAgg2 rfl (by first | exact .inr (by assumption) | exact .inl (by repeat (first | exact List.Mem.head _ | refine List.Mem.tail _ ?_))) (by first | rfl | assumption)) ?_
    first | refine o_e rfl rfl rfl (e_addN rfl rfl (by omega)) ?_ | refine o_e rfl rfl rfl (e_addn rfl rfl (by simp only [inR]; omega)) ?_ | refine o_e rfl rfl rfl (e_add rfl rfl) ?_
    first | refine o_e rfl rfl rfl (e_nilCheck rfl) ?_ | refine o_e rfl rfl rfl (e_nilm (fun _ => by kernel_rfl) rfl) ?_
    refine o_e rfl rfl rfl (e_fak 1 Tryz.runUnderlying144 rfl Tryz.sizeOf2 rfl rfl rfl) ?_
    refine o_l rfl (l_store Tryz.sizeOf2 rfl rfl rfl (by first | exact .head | exact .tail .head | exact .tail (.tail .head) | exact .tail (.tail (.tail .head)) | exact .tail (.tail (.tail (.tail .head))) | exact .tail (.tail (.tail (.tail (.tail .head)))) | exact .tail (.tail (.tail (.tail (.tail (.tail .head))))) | exact .tail (.tail (.tail (.tail (.tail (.tail (.tail .head)))))) | exact .tail (.tail (.tail (.tail (.tail (.tail (.tail (.tail .head)))))))) (by first | exact .head | exact .tail .head | exact .tail (.tail .head) | exact .tail (.tail (.tail .head)) | exact .tail (.tail (.tail (.tail .head))) | exact .tail (.tail (.tail (.tail (.tail .head)))) | exact .tail (.tail (.tail (.tail (.tail (.tail .head))))) | exact .tail (.tail (.tail (.tail (.tail (.tail (.tail .head))))))) (by omega)) ?_; intro _ _
    refine o_nil ?_
    refine n_code ?_
    refine c_seq ?_
    refine c_region ?_
    refine o_e rfl rfl rfl (e_move rfl) ?_
    refine o_e rfl rfl rfl (e_assign rfl) ?_
    refine o_e rfl rfl rfl (e_assign rfl) ?_
    refine o_nil ?_
    refine n_code ?_
    refine c_ret ?_
    refine r_fn (l := [.tmp 2, .tmp 3]) Tryz.results289 rfl rfl ?_
    exact ⟨rfl, rfl⟩
theorem byte_eof (hE : (3, Obj.cells (EV gE :: t3).toArray e3 f3) ∈ G) :
    Ctr Tryz.prog 289 [.pointer (some ⟨gr, 0, none⟩)] G [(gr, RB gs n cap n)] (fun r H' => r = .tuple #[.int .u8 0, EV gE] ∧ H' = [(gr, RB gs n cap n)]) := by
  refine fn_enter 37 Tryz.func289 rfl Tryz.ntmps289 rfl ?_
  intro w0
  refine c_seq ?_
  refine c_region ?_
  refine o_e rfl rfl rfl (e_assign rfl) ?_
  refine o_e rfl rfl rfl (e_assign rfl) ?_
  refine o_nil ?_
  refine n_code ?_
  refine c_seq ?_
  refine c_region ?_
  refine o_e rfl rfl rfl (e_move rfl) ?_
  first | refine o_e rfl rfl rfl (e_nilCheck rfl) ?_ | refine o_e rfl rfl rfl (e_nilm (fun _ => by kernel_rfl) rfl) ?_
  refine o_e rfl rfl rfl (e_fak 2 Tryz.runUnderlying144 rfl Tryz.sizeOf3 rfl rfl rfl) ?_
  refine o_l rfl (l_store Tryz.sizeOf3 rfl rfl rfl (by first | exact .head | exact .tail .head | exact .tail (.tail .head) | exact .tail (.tail (.tail .head)) | exact .tail (.tail (.tail (.tail .head))) | exact .tail (.tail (.tail (.tail (.tail .head)))) | exact .tail (.tail (.tail (.tail (.tail (.tail .head))))) | exact .tail (.tail (.tail (.tail (.tail (.tail (.tail .head)))))) | exact .tail (.tail (.tail (.tail (.tail (.tail (.tail (.tail .head)))))))) (by first | exact .head | exact .tail .head | exact .tail (.tail .head) | exact .tail (.tail (.tail .head)) | exact .tail (.tail (.tail (.tail .head))) | exact .tail (.tail (.tail (.tail (.tail .head)))) | exact .tail (.tail (.tail (.tail (.tail (.tail .head))))) | exact .tail (.tail (.tail (.tail (.tail (.tail (.tail .head))))))) (by omega)) ?_; intro _ _
  refine o_nil ?_
  refine n_code ?_
  refine c_seq ?_
  refine c_seq ?_
  refine c_regionq (by kernel_rfl) (by kernel_rfl) ?_
  refine q_e rfl rfl rfl (e_move rfl) ?_
  first | refine q_e rfl rfl rfl (e_nilCheck rfl) ?_ | refine q_e rfl rfl rfl (e_nilm (fun _ => by kernel_rfl) rfl) ?_
  refine q_e rfl rfl rfl (e_fak 1 Tryz.runUnderlying144 rfl Tryz.sizeOf2 rfl rfl rfl) ?_
  refine q_e rfl rfl rfl (e_load Tryz.isAgg2 rfl (by first | exact .inr (by assumption) | exact .inl (by repeat (first | exact List.Mem.head _ | refine List.Mem.tail _ ?_))) (by first | rfl | assumption)) ?_
  refine q_e rfl rfl rfl (e_move rfl) ?_
  first | refine q_e rfl rfl rfl (e_nilCheck rfl) ?_ | refine q_e rfl rfl rfl (e_nilm (fun _ => by kernel_rfl) rfl) ?_
  refine q_e rfl rfl rfl (e_fak 0 Tryz.runUnderlying144 rfl Tryz.sizeOf72 rfl rfl rfl) ?_
  refine q_e rfl rfl rfl (e_load Tryz.isAgg72 rfl (by first | exact .inr (by assumption) | exact .inl (by repeat (first | exact List.Mem.head _ | refine List.Mem.tail _ ?_))) (by first | rfl | assumption)) ?_
  first | refine q_e rfl rfl rfl (e_lenl Tryz.runUnderlying72 rfl) ?_ | refine q_e rfl rfl rfl (e_lenO Tryz.runUnderlying72 (by assumption) rfl) ?_
  refine q_e rfl rfl rfl (e_geq rfl rfl) ?_
  refine q_nil ?_
  refine n_code ?_
  refine c_then (by simp [ev, lk]) ?_
  refine c_seq ?_
  refine c_regionq (by kernel_rfl) (by kernel_rfl) ?_
  refine q_e rfl rfl rfl (e_load Tryz.isAgg80 rfl (by first | exact .inr (by assumption) | exact .inl (by repeat (first | exact List.Mem.head _ | refine List.Mem.tail _ ?_))) (by first | rfl | assumption)) ?_
  refine q_e rfl rfl rfl (e_assign rfl) ?_
  refine q_e rfl rfl rfl (e_assign rfl) ?_
  refine q_nil ?_
  refine n_code ?_
  refine c_ret ?_
  refine r_fn (l := [.tmp 2, .tmp 3]) Tryz.results289 rfl rfl ?_
  exact ⟨rfl, rfl⟩
theorem seek_is (h63 : i < 9223372036854775808) :
    Ctr Tryz.prog 290 [.pointer (some ⟨gr, 0, none⟩), .int .i64 0, .int .i64 1] G [(gr, RB gs n cap i)] (fun r H' => r = .tuple #[.int .i64 i, .nilIface] ∧ H' = [(gr, RB gs n cap i)]) := by
  refine fn_enter 42 Tryz.func290 rfl Tryz.ntmps290 rfl ?_
  intro w0
  refine c_seq ?_
  refine c_region ?_
  refine o_e rfl rfl rfl (e_assign rfl) ?_
  refine o_e rfl rfl rfl (e_assign rfl) ?_
  refine o_nil ?_
  refine n_code ?_
  refine c_seq ?_
  refine c_region ?_
  refine o_e rfl rfl rfl (e_move rfl) ?_
  first | refine o_e rfl rfl rfl (e_nilCheck rfl) ?_ | refine o_e rfl rfl rfl (e_nilm (fun _ => by kernel_rfl) rfl) ?_
  refine o_e rfl rfl rfl (e_fak 2 Tryz.runUnderlying144 rfl Tryz.sizeOf3 rfl rfl rfl) ?_
  refine o_l rfl (l_store Tryz.sizeOf3 rfl rfl rfl (by first | exact .head | exact .tail .head | exact .tail (.tail .head) | exact .tail (.tail (.tail .head)) | exact .tail (.tail (.tail (.tail .head))) | exact .tail (.tail (.tail (.tail (.tail .head)))) | exact .tail (.tail (.tail (.tail (.tail (.tail .head))))) | exact .tail (.tail (.tail (.tail (.tail (.tail (.tail .head)))))) | exact .tail (.tail (.tail (.tail (.tail (.tail (.tail (.tail .head)))))))) (by first | exact .head | exact .tail .head | exact .tail (.tail .head) | exact .tail (.tail (.tail .head)) | exact .tail (.tail (.tail (.tail .head))) | exact .tail (.tail (.tail (.tail (.tail .head)))) | exact .tail (.tail (.tail (.tail (.tail (.tail .head))))) | exact .tail (.tail (.tail (.tail (.tail (.tail (.tail .head))))))) (by omega)) ?_; intro _ _
  refine o_nil ?_
  refine n_code ?_
  refine c_seq ?_
  refine c_region ?_
  refine o_e rfl rfl rfl (e_assign rfl) ?_
  refine o_nil ?_
  refine n_code ?_
  refine c_seq ?_
  refine c_seq ?_
  refine c_region ?_
  refine o_e rfl rfl rfl (e_move rfl) ?_
  refine o_nil ?_
  refine n_code ?_
  refine c_block ?_
  refine c_seq ?_
  refine c_region ?_
  refine o_e rfl rfl rfl (e_eql rfl rfl) ?_
  refine o_e rfl rfl rfl (e_assign rfl) ?_
  refine o_nil ?_
  refine n_code ?_
  refine c_else rfl ?_
  refine c_seq ?_
  refine c_region ?_
  refine o_e rfl rfl rfl (e_eql rfl rfl) ?_
  refine o_e rfl rfl rfl (e_assign rfl) ?_
  refine o_nil ?_
  refine n_code ?_
  refine c_then rfl ?_
  refine c_region ?_
  refine o_e rfl rfl rfl (e_move rfl) ?_
  first | refine o_e rfl rfl rfl (e_nilCheck rfl) ?_ | refine o_e rfl rfl rfl (e_nilm (fun _ => by kernel_rfl) rfl) ?_
  refine o_e rfl rfl rfl (e_fak 1 Tryz.runUnderlying144 rfl Tryz.sizeOf2 rfl rfl rfl) ?_
  refine o_e rfl rfl rfl (e_load Tryz.isAgg2 rfl (by first | exact .inr (by assumption) | exact .inl (by repeat (first | exact List.Mem.head _ | refine List.Mem.tail _ ?_))) (by first | rfl | assumption)) ?_
  refine o_e rfl rfl rfl (e_move rfl) ?_
  first | refine o_e rfl rfl rfl (e_addN rfl rfl (by omega)) ?_ | refine o_e rfl rfl rfl (e_addn rfl rfl (by simp only [inR]; omega)) ?_ | refine o_e rfl rfl rfl (e_add rfl rfl) ?_
  refine o_e rfl rfl rfl (e_assign rfl) ?_
  refine o_nil ?_
  refine n_block ?_
  refine n_code ?_
  refine c_seq ?_
  refine c_seq ?_
  refine c_region ?_
  refine o_e rfl rfl rfl (e_move rfl) ?_
  refine o_e rfl rfl rfl (e_lss rfl rfl) ?_
  refine o_nil ?_
  refine n_code ?_
  refine c_ifp rfl (fun h1 => ?_) (fun h1 => ?_)
  · exact absurd h1 (by omega)
  · skip
    refine c_skip ?_
    refine n_code ?_
    refine c_seq ?_
    refine c_region ?_
    refine o_e rfl rfl rfl (e_move rfl) ?_
    refine o_e rfl rfl rfl (e_move rfl) ?_
    first | refine o_e rfl rfl rfl (e_nilCheck rfl) ?_ | refine o_e rfl rfl rfl (e_nilm (fun _ => by kernel_rfl) rfl) ?_
    refine o_e rfl rfl rfl (e_fak 1 Tryz.runUnderlying144 rfl Tryz.sizeOf2 rfl rfl rfl) ?_
    refine o_l rfl (l_store Tryz.sizeOf2 rfl rfl rfl (by first | exact .head | exact .tail .head | exact .tail (.tail .head) | exact .tail (.tail (.tail .head)) | exact .tail (.tail (.tail (.tail .head))) | exact .tail (.tail (.tail (.tail (.tail .head)))) | exact .tail (.tail (.tail (.tail (.tail (.tail .head))))) | exact .tail (.tail (.tail (.tail (.tail (.tail (.tail .head)))))) | exact .tail (.tail (.tail (.tail (.tail (.tail (.tail (.tail .head)))))))) (by first | exact .head | exact .tail .head | exact .tail (.tail .head) | exact .tail (.tail (.tail .head)) | exact .tail (.tail (.tail (.tail .head))) | exact .tail (.tail (.tail (.tail (.tail .head)))) | exact .tail (.tail (.tail (.tail (.tail (.tail .head))))) | exact .tail (.tail (.tail (.tail (.tail (.tail (.tail .head))))))) (by omega)) ?_; intro _ _
    refine o_nil ?_
    refine n_code ?_
    refine c_seq ?_
    refine c_region ?_
    refine o_e rfl rfl rfl (e_move rfl) ?_
    refine o_e rfl rfl rfl (e_assign rfl) ?_
    refine o_e rfl rfl rfl (e_assign rfl) ?_
    refine o_nil ?_
    refine n_code ?_
    refine c_ret ?_
    refine r_fn (l := [.tmp 6, .tmp 7]) Tryz.results290 rfl rfl ?_
    exact ⟨by simp, by simp⟩
theorem toByte_is : CtrP Tryz.prog 79 [RV gr] G (RV gr) := by
  refine fn_enter 16 Tryz.func79 rfl Tryz.ntmps79 rfl ?_
  intro w0
  refine c_seq ?_
  refine c_region ?_
  refine o_e rfl rfl rfl (e_assign rfl) ?_
  refine o_nil ?_
  refine n_code ?_
  refine c_seq ?_
  refine c_seq ?_
  refine c_region ?_
  refine o_e rfl rfl rfl (e_move rfl) ?_
  refine o_e rfl rfl rfl (e_ta (r := .tuple #[RV gr, .bool true]) rfl (by intro w; kernel_rfl)) ?_
  refine o_e rfl rfl rfl (e_move rfl) ?_
  refine o_e rfl rfl rfl (e_extract rfl rfl) ?_
  refine o_e rfl rfl rfl (e_extract rfl rfl) ?_
  refine o_e rfl rfl rfl (e_assign rfl) ?_
  refine o_e rfl rfl rfl (e_assign rfl) ?_
  refine o_nil ?_
  refine n_code ?_
  refine c_seq ?_
  refine c_region ?_
  refine o_e rfl rfl rfl (e_move rfl) ?_
  refine o_nil ?_
  refine n_code ?_
  refine c_then rfl ?_
  refine c_seq ?_
  refine c_region ?_
  refine o_e rfl rfl rfl (e_move rfl) ?_
  refine o_e rfl rfl rfl (e_assign rfl) ?_
  refine o_nil ?_
  refine n_code ?_
  refine c_ret ?_
  refine r_fn1 Tryz.results79 rfl ?_
  exact ⟨rfl, rfl⟩
theorem toSeek_is : CtrP Tryz.prog 164 [RV gr] G (RV gr) := by
  refine fn_enter 28 Tryz.func164 rfl Tryz.ntmps164 rfl ?_
  intro w0
  refine c_seq ?_
  refine c_region ?_
  refine o_e rfl rfl rfl (e_assign rfl) ?_
  refine o_nil ?_
  refine n_code ?_
  refine c_seq ?_
  refine c_seq ?_
  refine c_region ?_
  refine o_e rfl rfl rfl (e_move rfl) ?_
  refine o_e rfl rfl rfl (e_ta (r := .tuple #[RV gr, .bool true]) rfl (by intro w; kernel_rfl)) ?_
  refine o_e rfl rfl rfl (e_move rfl) ?_
  refine o_e rfl rfl rfl (e_extract rfl rfl) ?_
  refine o_e rfl rfl rfl (e_extract rfl rfl) ?_
  refine o_e rfl rfl rfl (e_assign rfl) ?_
  refine o_e rfl rfl rfl (e_assign rfl) ?_
  refine o_nil ?_
  refine n_code ?_
  refine c_seq ?_
  refine c_region ?_
  refine o_e rfl rfl rfl (e_move rfl) ?_
  refine o_nil ?_
  refine n_code ?_
  refine c_then rfl ?_
  refine c_seq ?_
  refine c_region ?_
  refine o_e rfl rfl rfl (e_move rfl) ?_
  refine o_e rfl rfl rfl (e_assign rfl) ?_
  refine o_nil ?_
  refine n_code ?_
  refine c_ret ?_
  refine r_fn1 Tryz.results164 rfl ?_
  exact ⟨rfl, rfl⟩
theorem uvar_0 (hE : (3, Obj.cells (EV gE :: t3).toArray e3 f3) ∈ G) :
    Ctr Tryz.prog 78 [RV gr] G [(gr, RB gs 0 cap 0)] (fun r H' => r = .tuple #[.int .u64 0, EV gE] ∧ H' = [(gr, RB gs 0 cap 0)]) := by
  refine fn_enter 59 Tryz.func78 rfl Tryz.ntmps78 rfl ?_
  intro w0
  refine c_seq ?_
  refine c_region ?_
  refine o_e rfl rfl rfl (e_assign rfl) ?_
  refine o_e rfl rfl rfl (e_assign rfl) ?_
  refine o_nil ?_
  refine n_code ?_
  refine c_seq ?_
  refine c_region ?_
  refine o_e rfl rfl rfl (e_assign rfl) ?_
  refine o_nil ?_
  refine n_code ?_
  refine c_seq ?_
  refine c_region ?_
  refine o_e rfl rfl rfl (e_assign rfl) ?_
  refine o_nil ?_
  refine n_code ?_
  refine c_seq ?_
  refine c_region ?_
  refine o_e rfl rfl rfl (e_assign rfl) ?_
  refine o_nil ?_
  refine n_code ?_
  refine c_block ?_
  refine c_rounds 1 ?_
  refine c_seq ?_
  refine c_block ?_
  refine c_seq ?_
  refine c_region ?_
  refine o_e rfl rfl rfl (e_move rfl) ?_
  refine o_l rfl (l_calli0 Tryz.call289 (by intro w; kernel_rfl) (byte_eof hE) rfl rfl rfl (.cons .head .nil)) ?_
  rintro ⟨r, H'⟩ ⟨rfl, rfl⟩
  simp only [List.cons_append, List.nil_append]
  refine o_e rfl rfl rfl (e_move rfl) ?_
  refine o_e rfl rfl rfl (e_extract rfl rfl) ?_
  refine o_e rfl rfl rfl (e_extract rfl rfl) ?_
  refine o_e rfl rfl rfl (e_assign rfl) ?_
  refine o_e rfl rfl rfl (e_assign rfl) ?_
  refine o_nil ?_
  refine n_code ?_
  refine c_seq ?_
  refine c_seq ?_
  refine c_region ?_
  refine o_e rfl rfl rfl (e_move rfl) ?_
  first | refine o_e rfl rfl rfl (e_inen Tryz.runUnderlying80 rfl) ?_ | refine o_e rfl rfl rfl (e_nnen Tryz.runUnderlying80 rfl) ?_
  refine o_nil ?_
  refine n_code ?_
  refine c_then rfl ?_
  refine c_seq ?_
  refine c_seq ?_
  refine c_region ?_
  refine o_e rfl rfl rfl (e_move rfl) ?_
  refine o_e rfl rfl rfl (e_load Tryz.isAgg80 rfl (by first | exact .inr (by assumption) | exact .inl (by repeat (first | exact List.Mem.head _ | refine List.Mem.tail _ ?_))) (by first | rfl | assumption)) ?_
  refine o_e rfl rfl rfl (e_ieq_same Tryz.runUnderlying80 (Tryz.typeInfo260) rfl (Tryz.runUnderlying260) (Tryz.sizeOf262) (by decide) rfl rfl) ?_
  refine o_e rfl rfl rfl (e_move rfl) ?_
  refine o_split 20 rfl (fun h1 => ?_) (fun h1 => ?_)
  · refine o_e rfl rfl rfl (e_move rfl) ?_
    refine o_e rfl rfl rfl (e_neq rfl rfl) ?_
    refine o_e rfl rfl rfl (e_pick_t rfl rfl) ?_
    refine o_nil ?_
    refine n_code ?_
    refine c_else rfl ?_
    refine c_skip ?_
    refine n_code ?_
    refine c_seq ?_
    refine c_region ?_
    refine o_e rfl rfl rfl (e_move rfl) ?_
    refine o_e rfl rfl rfl (e_assign rfl) ?_
    refine o_e rfl rfl rfl (e_assign rfl) ?_
    refine o_nil ?_
    refine n_code ?_
    refine c_ret ?_
    refine r_fn (l := [.tmp 2, .tmp 3]) Tryz.results78 rfl rfl ?_
    exact ⟨rfl, rfl⟩
  · cases h1
theorem uvar_1 {b : UInt8} (hD : (gs, DB [b] rest lo hi) ∈ G) (hE : (3, Obj.cells (EV gE :: t3).toArray e3 f3) ∈ G) (hU : (5, Obj.cells (EV gU :: t5).toArray e5 f5) ∈ G) (hb : 128 ≤ b.toNat) :
    Ctr Tryz.prog 78 [RV gr] G [(gr, RB gs 1 cap 0)] (fun r H' => r = .tuple #[.int .u64 0, EV gU] ∧ H' = [(gr, RB gs 1 cap 1)]) := by
  refine fn_enter 59 Tryz.func78 rfl Tryz.ntmps78 rfl ?_
  intro w0
  refine c_seq ?_
  refine c_region ?_
  refine o_e rfl rfl rfl (e_assign rfl) ?_
  refine o_e rfl rfl rfl (e_assign rfl) ?_
  refine o_nil ?_
  refine n_code ?_
  refine c_seq ?_
  refine c_region ?_
  refine o_e rfl rfl rfl (e_assign rfl) ?_
  refine o_nil ?_
  refine n_code ?_
  refine c_seq ?_
  refine c_region ?_
  refine o_e rfl rfl rfl (e_assign rfl) ?_
  refine o_nil ?_
  refine n_code ?_
  refine c_seq ?_
  refine c_region ?_
  refine o_e rfl rfl rfl (e_assign rfl) ?_
  refine o_nil ?_
  refine n_code ?_
  refine c_block ?_
  refine c_rounds 2 ?_
  refine c_seq ?_
  refine c_block ?_
  refine c_seq ?_
  refine c_region ?_
  refine o_e rfl rfl rfl (e_move rfl) ?_
  refine o_l rfl (l_calli0 Tryz.call289 (by intro w; kernel_rfl) (byte_is (i := 0) hD rfl (by simp) rfl) rfl rfl rfl (.cons .head .nil)) ?_
  rintro ⟨r, H'⟩ ⟨rfl, rfl⟩
  simp only [List.cons_append, List.nil_append]
  refine o_e rfl rfl rfl (e_move rfl) ?_
  refine o_e rfl rfl rfl (e_extract rfl rfl) ?_
  refine o_e rfl rfl rfl (e_extract rfl rfl) ?_
  refine o_e rfl rfl rfl (e_assign rfl) ?_
  refine o_e rfl rfl rfl (e_assign rfl) ?_
  refine o_nil ?_
  refine n_code ?_
  refine c_seq ?_
  refine c_seq ?_
  refine c_region ?_
  refine o_e rfl rfl rfl (e_move rfl) ?_
  first | refine o_e rfl rfl rfl (e_inen Tryz.runUnderlying80 rfl) ?_ | refine o_e rfl rfl rfl (e_nnen Tryz.runUnderlying80 rfl) ?_
  refine o_nil ?_
  refine n_code ?_
  refine c_else rfl ?_
  refine c_skip ?_
  refine n_code ?_
  refine c_seq ?_
  refine c_seq ?_
  refine c_region ?_
  refine o_e rfl rfl rfl (e_move rfl) ?_
  refine o_e rfl rfl rfl (e_eql rfl rfl) ?_
  refine o_e rfl rfl rfl (e_move rfl) ?_
  refine o_splitp 28 rfl (fun h1 => ?_) (fun h1 => ?_)
  · exact absurd h1 (by decide)
  · skip
    refine o_skip rfl rfl rfl ?_
    refine o_skip rfl rfl rfl ?_
    refine o_e rfl rfl rfl (e_pick_f rfl rfl) ?_
    refine o_e rfl rfl rfl (e_move rfl) ?_
    refine o_e rfl rfl rfl (e_move rfl) ?_
    refine o_e rfl rfl rfl (e_geq rfl rfl) ?_
    refine o_e rfl rfl rfl (e_pick_f rfl rfl) ?_
    refine o_nil ?_
    refine n_code ?_
    refine c_else rfl ?_
    refine c_skip ?_
    refine n_code ?_
    refine c_seq ?_
    refine c_seq ?_
    refine c_region ?_
    refine o_e rfl rfl rfl (e_move rfl) ?_
    refine o_e rfl rfl rfl (e_lss rfl rfl) ?_
    refine o_nil ?_
    refine n_code ?_
    refine c_ifp rfl (fun h2 => ?_) (fun h2 => ?_)
    · exact absurd h2 (by omega)
    · skip
      refine c_skip ?_
      refine n_code ?_
      refine c_region ?_
      refine o_e rfl rfl rfl (e_move rfl) ?_
      refine o_e rfl rfl rfl (e_move rfl) ?_
      refine o_e rfl rfl rfl (e_and rfl rfl) ?_
      first | refine o_e rfl rfl rfl (e_convn Tryz.runUnderlying5 Tryz.runUnderlying23 rfl (by simp only [inR]; omega)) ?_ | refine o_e rfl rfl rfl (e_conv Tryz.runUnderlying5 Tryz.runUnderlying23 rfl) ?_
      refine o_e rfl rfl rfl (e_move rfl) ?_
      refine o_e rfl rfl rfl (e_shl rfl rfl (by omega)) ?_
      refine o_e rfl rfl rfl (e_or rfl rfl) ?_
      refine o_e rfl rfl rfl (e_assign rfl) ?_
      refine o_nil ?_
      refine n_block ?_
      refine n_code ?_
      refine c_region ?_
      refine o_e rfl rfl rfl (e_move rfl) ?_
      first | refine o_e rfl rfl rfl (e_addn rfl rfl (by simp only [inR]; omega)) ?_ | refine o_e rfl rfl rfl (e_add rfl rfl) ?_
      refine o_e rfl rfl rfl (e_assign rfl) ?_
      refine o_nil ?_
      refine n_rounds ?_
      refine c_seq ?_
      refine c_block ?_
      refine c_seq ?_
      refine c_region ?_
      refine o_e rfl rfl rfl (e_move rfl) ?_
      refine o_l rfl (l_calli0 Tryz.call289 (by intro w; kernel_rfl) (byte_eof hE) rfl rfl rfl (.cons .head .nil)) ?_
      rintro ⟨r, H'⟩ ⟨rfl, rfl⟩
      simp only [List.cons_append, List.nil_append]
      refine o_e rfl rfl rfl (e_move rfl) ?_
      refine o_e rfl rfl rfl (e_extract rfl rfl) ?_
      refine o_e rfl rfl rfl (e_extract rfl rfl) ?_
      refine o_e rfl rfl rfl (e_assign rfl) ?_
      refine o_e rfl rfl rfl (e_assign rfl) ?_
      refine o_nil ?_
      refine n_code ?_
      refine c_seq ?_
      refine c_seq ?_
      refine c_region ?_
      refine o_e rfl rfl rfl (e_move rfl) ?_
      first | refine o_e rfl rfl rfl (e_inen Tryz.runUnderlying80 rfl) ?_ | refine o_e rfl rfl rfl (e_nnen Tryz.runUnderlying80 rfl) ?_
      refine o_nil ?_
      refine n_code ?_
      refine c_then rfl ?_
      refine c_seq ?_
      refine c_seq ?_
      refine c_region ?_
      refine o_e rfl rfl rfl (e_move rfl) ?_
      refine o_e rfl rfl rfl (e_load Tryz.isAgg80 rfl (by first | exact .inr (by assumption) | exact .inl (by repeat (first | exact List.Mem.head _ | refine List.Mem.tail _ ?_))) (by first | rfl | assumption)) ?_
      refine o_e rfl rfl rfl (e_ieq_same Tryz.runUnderlying80 (Tryz.typeInfo260) rfl (Tryz.runUnderlying260) (Tryz.sizeOf262) (by decide) rfl rfl) ?_
      refine o_e rfl rfl rfl (e_move rfl) ?_
      refine o_split 20 rfl (fun h3 => ?_) (fun h3 => ?_)
      · refine o_e rfl rfl rfl (e_move rfl) ?_
        refine o_e rfl rfl rfl (e_neq rfl rfl) ?_
        refine o_e rfl rfl rfl (e_pick_t rfl rfl) ?_
        refine o_nil ?_
        refine n_code ?_
        refine c_then rfl ?_
        refine c_region ?_
        refine o_e rfl rfl rfl (e_load Tryz.isAgg80 rfl (by first | exact .inr (by assumption) | exact .inl (by repeat (first | exact List.Mem.head _ | refine List.Mem.tail _ ?_))) (by first | rfl | assumption)) ?_
        refine o_e rfl rfl rfl (e_assign rfl) ?_
        refine o_nil ?_
        refine n_code ?_
        refine c_seq ?_
        refine c_region ?_
        refine o_e rfl rfl rfl (e_move rfl) ?_
        refine o_e rfl rfl rfl (e_assign rfl) ?_
        refine o_e rfl rfl rfl (e_assign rfl) ?_
        refine o_nil ?_
        refine n_code ?_
        refine c_ret ?_
        refine r_fn (l := [.tmp 2, .tmp 3]) Tryz.results78 rfl rfl ?_
        exact ⟨rfl, rfl⟩
      · cases h3
theorem uvar_1024 {tl : List UInt8} (hD : (gs, DB (128 :: 8 :: tl) rest lo hi) ∈ G) (hn : (128 :: 8 :: tl : List UInt8).length = n) (h63 : n < 9223372036854775808) :
    Ctr Tryz.prog 78 [RV gr] G [(gr, RB gs n cap 0)] (fun r H' => r = .tuple #[.int .u64 1024, .nilIface] ∧ H' = [(gr, RB gs n cap 2)]) := by
  refine fn_enter 59 Tryz.func78 rfl Tryz.ntmps78 rfl ?_
  intro w0
  refine c_seq ?_
  refine c_region ?_
  refine o_e rfl rfl rfl (e_assign rfl) ?_
  refine o_e rfl rfl rfl (e_assign rfl) ?_
  refine o_nil ?_
  refine n_code ?_
  refine c_seq ?_
  refine c_region ?_
  refine o_e rfl rfl rfl (e_assign rfl) ?_
  refine o_nil ?_
  refine n_code ?_
  refine c_seq ?_
  refine c_region ?_
  refine o_e rfl rfl rfl (e_assign rfl) ?_
  refine o_nil ?_
  refine n_code ?_
  refine c_seq ?_
  refine c_region ?_
  refine o_e rfl rfl rfl (e_assign rfl) ?_
  refine o_nil ?_
  refine n_code ?_
  refine c_block ?_
  refine c_rounds 2 ?_
  refine c_seq ?_
  refine c_block ?_
  refine c_seq ?_
  refine c_region ?_
  refine o_e rfl rfl rfl (e_move rfl) ?_
  refine o_l rfl (l_calli0 Tryz.call289 (by intro w; kernel_rfl) (byte_is (i := 0) hD hn h63 rfl) rfl rfl rfl (.cons .head .nil)) ?_
  rintro ⟨r, H'⟩ ⟨rfl, rfl⟩
  simp only [List.cons_append, List.nil_append]
  refine o_e rfl rfl rfl (e_move rfl) ?_
  refine o_e rfl rfl rfl (e_extract rfl rfl) ?_
  refine o_e rfl rfl rfl (e_extract rfl rfl) ?_
  refine o_e rfl rfl rfl (e_assign rfl) ?_
  refine o_e rfl rfl rfl (e_assign rfl) ?_
  refine o_nil ?_
  refine n_code ?_
  refine c_seq ?_
  refine c_seq ?_
  refine c_region ?_
  refine o_e rfl rfl rfl (e_move rfl) ?_
  first | refine o_e rfl rfl rfl (e_inen Tryz.runUnderlying80 rfl) ?_ | refine o_e rfl rfl rfl (e_nnen Tryz.runUnderlying80 rfl) ?_
  refine o_nil ?_
  refine n_code ?_
  refine c_else rfl ?_
  refine c_skip ?_
  refine n_code ?_
  refine c_seq ?_
  refine c_seq ?_
  refine c_region ?_
  refine o_e rfl rfl rfl (e_move rfl) ?_
  refine o_e rfl rfl rfl (e_eql rfl rfl) ?_
  refine o_e rfl rfl rfl (e_move rfl) ?_
  refine o_splitp 28 rfl (fun h1 => ?_) (fun h1 => ?_)
  · exact absurd h1 (by decide)
  · skip
    refine o_skip rfl rfl rfl ?_
    refine o_skip rfl rfl rfl ?_
    refine o_e rfl rfl rfl (e_pick_f rfl rfl) ?_
    refine o_e rfl rfl rfl (e_move rfl) ?_
    refine o_e rfl rfl rfl (e_move rfl) ?_
    refine o_e rfl rfl rfl (e_geq rfl rfl) ?_
    refine o_e rfl rfl rfl (e_pick_f rfl rfl) ?_
    refine o_nil ?_
    refine n_code ?_
    refine c_else rfl ?_
    refine c_skip ?_
    refine n_code ?_
    refine c_seq ?_
    refine c_seq ?_
    refine c_region ?_
    refine o_e rfl rfl rfl (e_move rfl) ?_
    refine o_e rfl rfl rfl (e_lss rfl rfl) ?_
    refine o_nil ?_
    refine n_code ?_
    refine c_else rfl ?_
    refine c_skip ?_
    refine n_code ?_
    refine c_region ?_
    refine o_e rfl rfl rfl (e_move rfl) ?_
    refine o_e rfl rfl rfl (e_move rfl) ?_
    refine o_e rfl rfl rfl (e_and rfl rfl) ?_
    first | refine o_e rfl rfl rfl (e_convn Tryz.runUnderlying5 Tryz.runUnderlying23 rfl (by simp only [inR]; omega)) ?_ | refine o_e rfl rfl rfl (e_conv Tryz.runUnderlying5 Tryz.runUnderlying23 rfl) ?_
    refine o_e rfl rfl rfl (e_move rfl) ?_
    refine o_e rfl rfl rfl (e_shl rfl rfl (by omega)) ?_
    refine o_e rfl rfl rfl (e_or rfl rfl) ?_
    refine o_e rfl rfl rfl (e_assign rfl) ?_
    refine o_nil ?_
    refine n_block ?_
    refine n_code ?_
    refine c_region ?_
    refine o_e rfl rfl rfl (e_move rfl) ?_
    first | refine o_e rfl rfl rfl (e_addn rfl rfl (by simp only [inR]; omega)) ?_ | refine o_e rfl rfl rfl (e_add rfl rfl) ?_
    refine o_e rfl rfl rfl (e_assign rfl) ?_
    refine o_nil ?_
    refine n_rounds ?_
    refine c_seq ?_
    refine c_block ?_
    refine c_seq ?_
    refine c_region ?_
    refine o_e rfl rfl rfl (e_move rfl) ?_
    refine o_l rfl (l_calli0 Tryz.call289 (by intro w; kernel_rfl) (byte_is (i := 1) hD hn h63 rfl) rfl rfl rfl (.cons .head .nil)) ?_
    rintro ⟨r, H'⟩ ⟨rfl, rfl⟩
    simp only [List.cons_append, List.nil_append]
    refine o_e rfl rfl rfl (e_move rfl) ?_
    refine o_e rfl rfl rfl (e_extract rfl rfl) ?_
    refine o_e rfl rfl rfl (e_extract rfl rfl) ?_
    refine o_e rfl rfl rfl (e_assign rfl) ?_
    refine o_e rfl rfl rfl (e_assign rfl) ?_
    refine o_nil ?_
    refine n_code ?_
    refine c_seq ?_
    refine c_seq ?_
    refine c_region ?_
    refine o_e rfl rfl rfl (e_move rfl) ?_
    first | refine o_e rfl rfl rfl (e_inen Tryz.runUnderlying80 rfl) ?_ | refine o_e rfl rfl rfl (e_nnen Tryz.runUnderlying80 rfl) ?_
    refine o_nil ?_
    refine n_code ?_
    refine c_else rfl ?_
    refine c_skip ?_
    refine n_code ?_
    refine c_seq ?_
    refine c_seq ?_
    refine c_region ?_
    refine o_e rfl rfl rfl (e_move rfl) ?_
    refine o_e rfl rfl rfl (e_eql rfl rfl) ?_
    refine o_e rfl rfl rfl (e_move rfl) ?_
    refine o_splitp 28 rfl (fun h2 => ?_) (fun h2 => ?_)
    · exact absurd h2 (by decide)
    · skip
      refine o_skip rfl rfl rfl ?_
      refine o_skip rfl rfl rfl ?_
      refine o_e rfl rfl rfl (e_pick_f rfl rfl) ?_
      refine o_e rfl rfl rfl (e_move rfl) ?_
      refine o_e rfl rfl rfl (e_move rfl) ?_
      refine o_e rfl rfl rfl (e_geq rfl rfl) ?_
      refine o_e rfl rfl rfl (e_pick_f rfl rfl) ?_
      refine o_nil ?_
      refine n_code ?_
      refine c_else rfl ?_
      refine c_skip ?_
      refine n_code ?_
      refine c_seq ?_
      refine c_seq ?_
      refine c_region ?_
      refine o_e rfl rfl rfl (e_move rfl) ?_
      refine o_e rfl rfl rfl (e_lss rfl rfl) ?_
      refine o_nil ?_
      refine n_code ?_
      refine c_then rfl ?_
      refine c_seq ?_
      refine c_seq ?_
      refine c_region ?_
      refine o_e rfl rfl rfl (e_move rfl) ?_
      refine o_e rfl rfl rfl (e_eql rfl rfl) ?_
      refine o_e rfl rfl rfl (e_move rfl) ?_
      refine o_splitp 41 rfl (fun h3 => ?_) (fun h3 => ?_)
      · exact absurd h3 (by decide)
      · skip
        refine o_skip rfl rfl rfl ?_
        refine o_skip rfl rfl rfl ?_
        refine o_e rfl rfl rfl (e_pick_f rfl rfl) ?_
        refine o_nil ?_
        refine n_code ?_
        refine c_else rfl ?_
        refine c_skip ?_
        refine n_code ?_
        refine c_seq ?_
        refine c_region ?_
        refine o_e rfl rfl rfl (e_move rfl) ?_
        refine o_e rfl rfl rfl (e_move rfl) ?_
        first | refine o_e rfl rfl rfl (e_convn Tryz.runUnderlying5 Tryz.runUnderlying23 rfl (by simp only [inR]; omega)) ?_ | refine o_e rfl rfl rfl (e_conv Tryz.runUnderlying5 Tryz.runUnderlying23 rfl) ?_
        refine o_e rfl rfl rfl (e_move rfl) ?_
        refine o_e rfl rfl rfl (e_shl rfl rfl (by omega)) ?_
        refine o_e rfl rfl rfl (e_or rfl rfl) ?_
        refine o_e rfl rfl rfl (e_assign rfl) ?_
        refine o_e rfl rfl rfl (e_assign rfl) ?_
        refine o_nil ?_
        refine n_code ?_
        refine c_ret ?_
        refine r_fn (l := [.tmp 2, .tmp 3]) Tryz.results78 rfl rfl ?_
        exact ⟨rfl, rfl⟩
theorem uvar_1025 {tl : List UInt8} (hD : (gs, DB (129 :: 8 :: tl) rest lo hi) ∈ G) (hn : (129 :: 8 :: tl : List UInt8).length = n) (h63 : n < 9223372036854775808) :
    Ctr Tryz.prog 78 [RV gr] G [(gr, RB gs n cap 0)] (fun r H' => r = .tuple #[.int .u64 1025, .nilIface] ∧ H' = [(gr, RB gs n cap 2)]) := by
  refine fn_enter 59 Tryz.func78 rfl Tryz.ntmps78 rfl ?_
  intro w0
  refine c_seq ?_
  refine c_region ?_
  refine o_e rfl rfl rfl (e_assign rfl) ?_
  refine o_e rfl rfl rfl (e_assign rfl) ?_
  refine o_nil ?_
  refine n_code ?_
  refine c_seq ?_
  refine c_region ?_
  refine o_e rfl rfl rfl (e_assign rfl) ?_
  refine o_nil ?_
  refine n_code ?_
  refine c_seq ?_
  refine c_region ?_
  refine o_e rfl rfl rfl (e_assign rfl) ?_
  refine o_nil ?_
  refine n_code ?_
  refine c_seq ?_
  refine c_region ?_
  refine o_e rfl rfl rfl (e_assign rfl) ?_
  refine o_nil ?_
  refine n_code ?_
  refine c_block ?_
  refine c_rounds 2 ?_
  refine c_seq ?_
  refine c_block ?_
  refine c_seq ?_
  refine c_region ?_
  refine o_e rfl rfl rfl (e_move rfl) ?_
  refine o_l rfl (l_calli0 Tryz.call289 (by intro w; kernel_rfl) (byte_is (i := 0) hD hn h63 rfl) rfl rfl rfl (.cons .head .nil)) ?_
  rintro ⟨r, H'⟩ ⟨rfl, rfl⟩
  simp only [List.cons_append, List.nil_append]
  refine o_e rfl rfl rfl (e_move rfl) ?_
  refine o_e rfl rfl rfl (e_extract rfl rfl) ?_
  refine o_e rfl rfl rfl (e_extract rfl rfl) ?_
  refine o_e rfl rfl rfl (e_assign rfl) ?_
  refine o_e rfl rfl rfl (e_assign rfl) ?_
  refine o_nil ?_
  refine n_code ?_
  refine c_seq ?_
  refine c_seq ?_
  refine c_region ?_
  refine o_e rfl rfl rfl (e_move rfl) ?_
  first | refine o_e rfl rfl rfl (e_inen Tryz.runUnderlying80 rfl) ?_ | refine o_e rfl rfl rfl (e_nnen Tryz.runUnderlying80 rfl) ?_
  refine o_nil ?_
  refine n_code ?_
  refine c_else rfl ?_
  refine c_skip ?_
  refine n_code ?_
  refine c_seq ?_
  refine c_seq ?_
  refine c_region ?_
  refine o_e rfl rfl rfl (e_move rfl) ?_
  refine o_e rfl rfl rfl (e_eql rfl rfl) ?_
  refine o_e rfl rfl rfl (e_move rfl) ?_
  refine o_splitp 28 rfl (fun h1 => ?_) (fun h1 => ?_)
  · exact absurd h1 (by decide)
  · skip
    refine o_skip rfl rfl rfl ?_
    refine o_skip rfl rfl rfl ?_
    refine o_e rfl rfl rfl (e_pick_f rfl rfl) ?_
    refine o_e rfl rfl rfl (e_move rfl) ?_
    refine o_e rfl rfl rfl (e_move rfl) ?_
    refine o_e rfl rfl rfl (e_geq rfl rfl) ?_
    refine o_e rfl rfl rfl (e_pick_f rfl rfl) ?_
    refine o_nil ?_
    refine n_code ?_
    refine c_else rfl ?_
    refine c_skip ?_
    refine n_code ?_
    refine c_seq ?_
    refine c_seq ?_
    refine c_region ?_
    refine o_e rfl rfl rfl (e_move rfl) ?_
    refine o_e rfl rfl rfl (e_lss rfl rfl) ?_
    refine o_nil ?_
    refine n_code ?_
    refine c_else rfl ?_
    refine c_skip ?_
    refine n_code ?_
    refine c_region ?_
    refine o_e rfl rfl rfl (e_move rfl) ?_
    refine o_e rfl rfl rfl (e_move rfl) ?_
    refine o_e rfl rfl rfl (e_and rfl rfl) ?_
    first | refine o_e rfl rfl rfl (e_convn Tryz.runUnderlying5 Tryz.runUnderlying23 rfl (by simp only [inR]; omega)) ?_ | refine o_e rfl rfl rfl (e_conv Tryz.runUnderlying5 Tryz.runUnderlying23 rfl) ?_
    refine o_e rfl rfl rfl (e_move rfl) ?_
    refine o_e rfl rfl rfl (e_shl rfl rfl (by omega)) ?_
    refine o_e rfl rfl rfl (e_or rfl rfl) ?_
    refine o_e rfl rfl rfl (e_assign rfl) ?_
    refine o_nil ?_
    refine n_block ?_
    refine n_code ?_
    refine c_region ?_
    refine o_e rfl rfl rfl (e_move rfl) ?_
    first | refine o_e rfl rfl rfl (e_addn rfl rfl (by simp only [inR]; omega)) ?_ | refine o_e rfl rfl rfl (e_add rfl rfl) ?_
    refine o_e rfl rfl rfl (e_assign rfl) ?_
    refine o_nil ?_
    refine n_rounds ?_
    refine c_seq ?_
    refine c_block ?_
    refine c_seq ?_
    refine c_region ?_
    refine o_e rfl rfl rfl (e_move rfl) ?_
    refine o_l rfl (l_calli0 Tryz.call289 (by intro w; kernel_rfl) (byte_is (i := 1) hD hn h63 rfl) rfl rfl rfl (.cons .head .nil)) ?_
    rintro ⟨r, H'⟩ ⟨rfl, rfl⟩
    simp only [List.cons_append, List.nil_append]
    refine o_e rfl rfl rfl (e_move rfl) ?_
    refine o_e rfl rfl rfl (e_extract rfl rfl) ?_
    refine o_e rfl rfl rfl (e_extract rfl rfl) ?_
    refine o_e rfl rfl rfl (e_assign rfl) ?_
    refine o_e rfl rfl rfl (e_assign rfl) ?_
    refine o_nil ?_
    refine n_code ?_
    refine c_seq ?_
    refine c_seq ?_
    refine c_region ?_
    refine o_e rfl rfl rfl (e_move rfl) ?_
    first | refine o_e rfl rfl rfl (e_inen Tryz.runUnderlying80 rfl) ?_ | refine o_e rfl rfl rfl (e_nnen Tryz.runUnderlying80 rfl) ?_
    refine o_nil ?_
    refine n_code ?_
    refine c_else rfl ?_
    refine c_skip ?_
    refine n_code ?_
    refine c_seq ?_
    refine c_seq ?_
    refine c_region ?_
    refine o_e rfl rfl rfl (e_move rfl) ?_
    refine o_e rfl rfl rfl (e_eql rfl rfl) ?_
    refine o_e rfl rfl rfl (e_move rfl) ?_
    refine o_splitp 28 rfl (fun h2 => ?_) (fun h2 => ?_)
    · exact absurd h2 (by decide)
    · skip
      refine o_skip rfl rfl rfl ?_
      refine o_skip rfl rfl rfl ?_
      refine o_e rfl rfl rfl (e_pick_f rfl rfl) ?_
      refine o_e rfl rfl rfl (e_move rfl) ?_
      refine o_e rfl rfl rfl (e_move rfl) ?_
      refine o_e rfl rfl rfl (e_geq rfl rfl) ?_
      refine o_e rfl rfl rfl (e_pick_f rfl rfl) ?_
      refine o_nil ?_
      refine n_code ?_
      refine c_else rfl ?_
      refine c_skip ?_
      refine n_code ?_
      refine c_seq ?_
      refine c_seq ?_
      refine c_region ?_
      refine o_e rfl rfl rfl (e_move rfl) ?_
      refine o_e rfl rfl rfl (e_lss rfl rfl) ?_
      refine o_nil ?_
      refine n_code ?_
      refine c_then rfl ?_
      refine c_seq ?_
      refine c_seq ?_
      refine c_region ?_
      refine o_e rfl rfl rfl (e_move rfl) ?_
      refine o_e rfl rfl rfl (e_eql rfl rfl) ?_
      refine o_e rfl rfl rfl (e_move rfl) ?_
      refine o_splitp 41 rfl (fun h3 => ?_) (fun h3 => ?_)
      · exact absurd h3 (by decide)
      · skip
        refine o_skip rfl rfl rfl ?_
        refine o_skip rfl rfl rfl ?_
        refine o_e rfl rfl rfl (e_pick_f rfl rfl) ?_
        refine o_nil ?_
        refine n_code ?_
        refine c_else rfl ?_
        refine c_skip ?_
        refine n_code ?_
        refine c_seq ?_
        refine c_region ?_
        refine o_e rfl rfl rfl (e_move rfl) ?_
        refine o_e rfl rfl rfl (e_move rfl) ?_
        first | refine o_e rfl rfl rfl (e_convn Tryz.runUnderlying5 Tryz.runUnderlying23 rfl (by simp only [inR]; omega)) ?_ | refine o_e rfl rfl rfl (e_conv Tryz.runUnderlying5 Tryz.runUnderlying23 rfl) ?_
        refine o_e rfl rfl rfl (e_move rfl) ?_
        refine o_e rfl rfl rfl (e_shl rfl rfl (by omega)) ?_
        refine o_e rfl rfl rfl (e_or rfl rfl) ?_
        refine o_e rfl rfl rfl (e_assign rfl) ?_
        refine o_e rfl rfl rfl (e_assign rfl) ?_
        refine o_nil ?_
        refine n_code ?_
        refine c_ret ?_
        refine r_fn (l := [.tmp 2, .tmp 3]) Tryz.results78 rfl rfl ?_
        exact ⟨rfl, rfl⟩
end
end Go.Proofs
namespace Go.Proofs
open Go Go.Sl
set_option maxRecDepth 100000
set_option maxHeartbeats 1000000
/-- io.EOF and io.ErrUnexpectedEOF, as memory holds them. -/
structure Ge (G : HP) (gE gU : Addr) : Prop where
  eof : ∃ t e f, (3, Obj.cells (EV gE :: t).toArray e f) ∈ G
  uex : ∃ t e f, (5, Obj.cells (EV gU :: t).toArray e f) ∈ G
  bE : ∃ c e, (gE.block, C c e) ∈ G
  bU : ∃ c e, (gU.block, C c e) ∈ G
  ne : gU ≠ gE
theorem Ge.mono {G G' : HP} {gE gU : Addr} (h : Ge G gE gU) (hs : ∀ p ∈ G, p ∈ G') : Ge G' gE gU := by
  obtain ⟨⟨t3, e3, f3, h1⟩, ⟨t5, e5, f5, h2⟩, ⟨c1, e1, h3⟩, ⟨c2, e2, h4⟩, h5⟩ := h
  exact ⟨⟨_, _, _, hs _ h1⟩, ⟨_, _, _, hs _ h2⟩, ⟨_, _, hs _ h3⟩, ⟨_, _, hs _ h4⟩, h5⟩
theorem e_isEOF {x : Cx} {s : Slots} {H : HP} {d : Nat} {p q : Operand} {ty t' : TypeId} {pos : String} {af : Array Edge} {gd' : Option (Nat × Bool)} {g gE gU : Addr} (hx : x.P = Tryz.prog) (h : Ge x.G gE gU) (hg : g = gE ∨ g = gU) (hp : ev s p = some (EV g)) (hq : ev s q = some (EV gE)) :
    Ex x s H ⟨some d, .binOp .eql 80 p q t', ty, pos, af, gd'⟩ (.bool (decide (g = gE))) := by
  obtain ⟨_, _, ⟨c1, e1, h3⟩, ⟨c2, e2, h4⟩, h5⟩ := h
  have u1 : ∀ w, (underlying 80).run x.P w = _ := hx ▸ Tryz.runUnderlying80
  have u2 : ∀ w, (typeInfo 260).run x.P w = _ := hx ▸ Tryz.typeInfo260
  have u3 : ∀ w, (underlying 260).run x.P w = _ := hx ▸ Tryz.runUnderlying260
  have u4 : ∀ w, (sizeOf 262).run x.P w = _ := hx ▸ Tryz.sizeOf262
  rcases hg with rfl | rfl
  · simp only [decide_true]
    exact e_ieq_same u1 u2 rfl u3 u4 (by decide) hp hq
  · rw [show decide (g = gE) = false by simpa using h5]
    exact e_ieq_two u1 u2 rfl u3 u4 (by decide) hp hq h4 h3 h5
section
variable {G : HP} {gr gs gb n cap i k L lo hi : Nat} {bs : List UInt8} {rest pl : List Value} {gE gU : Addr} {t3 t5 : List Value}
theorem swi_err {v : Value} (hD : (gs, DB bs rest lo hi) ∈ G) (hge : Ge G gE gU) (hn : bs.length = n) (hc : n ≤ cap) (h63 : cap < 9223372036854775808) (hi' : i ≤ n) (hL : n < i + 12) :
    Ctr Tryz.prog 341 [v, RV gr] G [(gr, RB gs n cap i)] (fun r H' => r = EV gU ∧ H' = [(gr, RB gs n cap n)]) := by
  obtain ⟨⟨t3, e3, f3, hE⟩, ⟨t5, e5, f5, hU⟩, _, _, _⟩ := id hge
  by_cases h4 : n < i + 4
  · refine fn_enter 53 Tryz.func341 rfl Tryz.ntmps341 rfl ?_
    intro w0
    refine c_seq ?_
    refine c_region ?_
    refine o_e rfl rfl rfl (e_assign rfl) ?_
    refine o_nil ?_
    refine n_code ?_
    refine c_seq ?_
    refine c_region ?_
    refine o_l rfl (l_alloc Tryz.zeroValue212 rfl rfl) ?_; intro g5 _
    refine o_nil ?_
    refine n_code ?_
    refine c_seq ?_
    refine c_seq ?_
    refine c_region ?_
    refine o_e rfl rfl rfl (e_move rfl) ?_
    refine o_l rfl (l_call Tryz.call321 (read32_short (gp := 0) (off := 0) (v := .pointer (some ⟨g5, 0, none⟩)) hD hE hU hn hc h63 hi' h4) rfl rfl (.cons (.tail .head) .nil)) ?_
    rintro ⟨r, H'⟩ ⟨g, hg, rfl, rfl⟩
    simp only [List.cons_append, List.nil_append]
    refine o_e rfl rfl rfl (e_assign rfl) ?_
    refine o_nil ?_
    refine n_code ?_
    refine c_seq ?_
    refine c_region ?_
    refine o_e rfl rfl rfl (e_move rfl) ?_
    first | refine o_e rfl rfl rfl (e_inen Tryz.runUnderlying80 rfl) ?_ | refine o_e rfl rfl rfl (e_nnen Tryz.runUnderlying80 rfl) ?_
    refine o_nil ?_
    refine n_code ?_
    refine c_then rfl ?_
    refine c_seq ?_
    refine c_seq ?_
    refine c_region ?_
    refine o_e rfl rfl rfl (e_move rfl) ?_
    refine o_e rfl rfl rfl (e_load Tryz.isAgg80 rfl (by first | exact .inr (by assumption) | exact .inl (by repeat (first | exact List.Mem.head _ | refine List.Mem.tail _ ?_))) (by first | rfl | assumption)) ?_
    refine o_e rfl rfl rfl (e_isEOF rfl hge hg rfl rfl) ?_
    refine o_nil ?_
    refine n_code ?_
    refine c_ifp rfl (fun h1 => ?_) (fun h1 => ?_)
    · refine c_seq ?_
      refine c_region ?_
      refine o_e rfl rfl rfl (e_load Tryz.isAgg80 rfl (by first | exact .inr (by assumption) | exact .inl (by repeat (first | exact List.Mem.head _ | refine List.Mem.tail _ ?_))) (by first | rfl | assumption)) ?_
      refine o_e rfl rfl rfl (e_assign rfl) ?_
      refine o_nil ?_
      refine n_code ?_
      refine c_ret ?_
      refine WR.sel (.cons .head .nil) ?_
      refine r_fn1 Tryz.results341 rfl ?_
      exact ⟨rfl, rfl⟩
    · skip
      obtain rfl : g = gU := hg.resolve_left h1
      refine c_skip ?_
      refine n_code ?_
      refine c_seq ?_
      refine c_region ?_
      refine o_e rfl rfl rfl (e_move rfl) ?_
      refine o_e rfl rfl rfl (e_assign rfl) ?_
      refine o_nil ?_
      refine n_code ?_
      refine c_ret ?_
      refine WR.sel (.cons .head .nil) ?_
      refine r_fn1 Tryz.results341 rfl ?_
      exact ⟨rfl, rfl⟩
  · refine fn_enter 53 Tryz.func341 rfl Tryz.ntmps341 rfl ?_
    intro w0
    refine c_seq ?_
    refine c_region ?_
    refine o_e rfl rfl rfl (e_assign rfl) ?_
    refine o_nil ?_
    refine n_code ?_
    refine c_seq ?_
    refine c_region ?_
    refine o_l rfl (l_alloc Tryz.zeroValue212 rfl rfl) ?_; intro g5 _
    refine o_nil ?_
    refine n_code ?_
    refine c_seq ?_
    refine c_seq ?_
    refine c_region ?_
    refine o_e rfl rfl rfl (e_move rfl) ?_
    refine o_l rfl (l_call Tryz.call321 (read32_is hD hn hc h63 (show i + 4 ≤ n by omega) .head) rfl rfl (.cons (.tail .head) (.cons .head .nil))) ?_
    rintro ⟨r, H'⟩ ⟨rfl, rfl⟩
    simp only [List.cons_append, List.nil_append]
    refine o_e rfl rfl rfl (e_assign rfl) ?_
    refine o_nil ?_
    refine n_code ?_
    refine c_seq ?_
    refine c_region ?_
    refine o_e rfl rfl rfl (e_move rfl) ?_
    first | refine o_e rfl rfl rfl (e_inen Tryz.runUnderlying80 rfl) ?_ | refine o_e rfl rfl rfl (e_nnen Tryz.runUnderlying80 rfl) ?_
    refine o_nil ?_
    refine n_code ?_
    refine c_else rfl ?_
    refine c_skip ?_
    refine n_code ?_
    refine c_seq ?_
    refine c_region ?_
    refine o_l rfl (l_alloc Tryz.zeroValue23 rfl rfl) ?_; intro g7 _
    refine o_nil ?_
    refine n_code ?_
    refine c_seq ?_
    refine c_seq ?_
    refine c_region ?_
    refine o_e rfl rfl rfl (e_move rfl) ?_
    refine o_l rfl (l_call Tryz.call331 (read64_short (gp := 0) (off := 0) (v := .pointer (some ⟨g7, 0, none⟩)) hD hE hU hn hc h63 (show i + 4 ≤ n by omega) (by omega)) rfl rfl (.cons (.tail .head) .nil)) ?_
    rintro ⟨r, H'⟩ ⟨g, hg, rfl, rfl⟩
    simp only [List.cons_append, List.nil_append]
    refine o_e rfl rfl rfl (e_assign rfl) ?_
    refine o_nil ?_
    refine n_code ?_
    refine c_seq ?_
    refine c_region ?_
    refine o_e rfl rfl rfl (e_move rfl) ?_
    first | refine o_e rfl rfl rfl (e_inen Tryz.runUnderlying80 rfl) ?_ | refine o_e rfl rfl rfl (e_nnen Tryz.runUnderlying80 rfl) ?_
    refine o_nil ?_
    refine n_code ?_
    refine c_then rfl ?_
    refine c_seq ?_
    refine c_seq ?_
    refine c_region ?_
    refine o_e rfl rfl rfl (e_move rfl) ?_
    refine o_e rfl rfl rfl (e_load Tryz.isAgg80 rfl (by first | exact .inr (by assumption) | exact .inl (by repeat (first | exact List.Mem.head _ | refine List.Mem.tail _ ?_))) (by first | rfl | assumption)) ?_
    refine o_e rfl rfl rfl (e_isEOF rfl hge hg rfl rfl) ?_
    refine o_nil ?_
    refine n_code ?_
    refine c_ifp rfl (fun h1 => ?_) (fun h1 => ?_)
    · refine c_seq ?_
      refine c_region ?_
      refine o_e rfl rfl rfl (e_load Tryz.isAgg80 rfl (by first | exact .inr (by assumption) | exact .inl (by repeat (first | exact List.Mem.head _ | refine List.Mem.tail _ ?_))) (by first | rfl | assumption)) ?_
      refine o_e rfl rfl rfl (e_assign rfl) ?_
      refine o_nil ?_
      refine n_code ?_
      refine c_ret ?_
      refine WR.sel (.cons .head .nil) ?_
      refine r_fn1 Tryz.results341 rfl ?_
      exact ⟨rfl, rfl⟩
    · skip
      obtain rfl : g = gU := hg.resolve_left h1
      refine c_skip ?_
      refine n_code ?_
      refine c_seq ?_
      refine c_region ?_
      refine o_e rfl rfl rfl (e_move rfl) ?_
      refine o_e rfl rfl rfl (e_assign rfl) ?_
      refine o_nil ?_
      refine n_code ?_
      refine c_ret ?_
      refine WR.sel (.cons .head .nil) ?_
      refine r_fn1 Tryz.results341 rfl ?_
      exact ⟨rfl, rfl⟩
theorem mwi_err {v : Value} (hD : (gs, DB bs rest lo hi) ∈ G) (hge : Ge G gE gU) (hn : bs.length = n) (hc : n ≤ cap) (h63 : cap < 9223372036854775808) (hi' : i ≤ n) (hL : n < i + 16) (hk : i + 4 ≤ n → 1 ≤ le ((bs.drop i).take 4) ∧ le ((bs.drop i).take 4) < 2147483648) :
    Ctr Tryz.prog 332 [v, RV gr] G [(gr, RB gs n cap i)] (fun r H' => r = EV gU ∧ H' = [(gr, RB gs n cap n)]) := by
  obtain ⟨⟨t3, e3, f3, hE⟩, ⟨t5, e5, f5, hU⟩, _, _, _⟩ := id hge
  by_cases h4 : n < i + 4
  · refine fn_enter 75 Tryz.func332 rfl Tryz.ntmps332 rfl ?_
    intro w0
    refine c_seq ?_
    refine c_region ?_
    refine o_e rfl rfl rfl (e_assign rfl) ?_
    refine o_nil ?_
    refine n_code ?_
    refine c_seq ?_
    refine c_region ?_
    refine o_e rfl rfl rfl (e_move rfl) ?_
    refine o_pure rfl Tryz.call164 (toSeek_is) rfl rfl ?_
    refine o_e rfl rfl rfl (e_assign rfl) ?_
    refine o_nil ?_
    refine n_code ?_
    refine c_seq ?_
    refine c_region ?_
    refine o_l rfl (l_alloc Tryz.zeroValue212 rfl rfl) ?_; intro g6 _
    refine o_nil ?_
    refine n_code ?_
    refine c_seq ?_
    refine c_seq ?_
    refine c_region ?_
    refine o_e rfl rfl rfl (e_move rfl) ?_
    refine o_l rfl (l_call Tryz.call321 (read32_short (gp := 0) (off := 0) (v := .pointer (some ⟨g6, 0, none⟩)) hD hE hU hn hc h63 hi' h4) rfl rfl (.cons (.tail .head) .nil)) ?_
    rintro ⟨r, H'⟩ ⟨g, hg, rfl, rfl⟩
    simp only [List.cons_append, List.nil_append]
    refine o_e rfl rfl rfl (e_assign rfl) ?_
    refine o_nil ?_
    refine n_code ?_
    refine c_seq ?_
    refine c_region ?_
    refine o_e rfl rfl rfl (e_move rfl) ?_
    first | refine o_e rfl rfl rfl (e_inen Tryz.runUnderlying80 rfl) ?_ | refine o_e rfl rfl rfl (e_nnen Tryz.runUnderlying80 rfl) ?_
    refine o_nil ?_
    refine n_code ?_
    refine c_then rfl ?_
    refine c_seq ?_
    refine c_seq ?_
    refine c_region ?_
    refine o_e rfl rfl rfl (e_move rfl) ?_
    refine o_e rfl rfl rfl (e_load Tryz.isAgg80 rfl (by first | exact .inr (by assumption) | exact .inl (by repeat (first | exact List.Mem.head _ | refine List.Mem.tail _ ?_))) (by first | rfl | assumption)) ?_
    refine o_e rfl rfl rfl (e_isEOF rfl hge hg rfl rfl) ?_
    refine o_nil ?_
    refine n_code ?_
    refine c_ifp rfl (fun h1 => ?_) (fun h1 => ?_)
    · refine c_seq ?_
      refine c_region ?_
      refine o_e rfl rfl rfl (e_load Tryz.isAgg80 rfl (by first | exact .inr (by assumption) | exact .inl (by repeat (first | exact List.Mem.head _ | refine List.Mem.tail _ ?_))) (by first | rfl | assumption)) ?_
      refine o_e rfl rfl rfl (e_assign rfl) ?_
      refine o_nil ?_
      refine n_code ?_
      refine c_ret ?_
      refine WR.sel (.cons .head .nil) ?_
      refine r_fn1 Tryz.results332 rfl ?_
      exact ⟨rfl, rfl⟩
    · skip
      obtain rfl : g = gU := hg.resolve_left h1
      refine c_skip ?_
      refine n_code ?_
      refine c_seq ?_
      refine c_region ?_
      refine o_e rfl rfl rfl (e_move rfl) ?_
      refine o_e rfl rfl rfl (e_assign rfl) ?_
      refine o_nil ?_
      refine n_code ?_
      refine c_ret ?_
      refine WR.sel (.cons .head .nil) ?_
      refine r_fn1 Tryz.results332 rfl ?_
      exact ⟨rfl, rfl⟩
  · obtain ⟨hk1, hk2⟩ := hk (by omega)
    refine fn_enter 75 Tryz.func332 rfl Tryz.ntmps332 rfl ?_
    intro w0
    refine c_seq ?_
    refine c_region ?_
    refine o_e rfl rfl rfl (e_assign rfl) ?_
    refine o_nil ?_
    refine n_code ?_
    refine c_seq ?_
    refine c_region ?_
    refine o_e rfl rfl rfl (e_move rfl) ?_
    refine o_pure rfl Tryz.call164 (toSeek_is) rfl rfl ?_
    refine o_e rfl rfl rfl (e_assign rfl) ?_
    refine o_nil ?_
    refine n_code ?_
    refine c_seq ?_
    refine c_region ?_
    refine o_l rfl (l_alloc Tryz.zeroValue212 rfl rfl) ?_; intro g6 _
    refine o_nil ?_
    refine n_code ?_
    refine c_seq ?_
    refine c_seq ?_
    refine c_region ?_
    refine o_e rfl rfl rfl (e_move rfl) ?_
    refine o_l rfl (l_call Tryz.call321 (read32_is hD hn hc h63 (show i + 4 ≤ n by omega) .head) rfl rfl (.cons (.tail .head) (.cons .head .nil))) ?_
    rintro ⟨r, H'⟩ ⟨rfl, rfl⟩
    simp only [List.cons_append, List.nil_append]
    refine o_e rfl rfl rfl (e_assign rfl) ?_
    refine o_nil ?_
    refine n_code ?_
    refine c_seq ?_
    refine c_region ?_
    refine o_e rfl rfl rfl (e_move rfl) ?_
    first | refine o_e rfl rfl rfl (e_inen Tryz.runUnderlying80 rfl) ?_ | refine o_e rfl rfl rfl (e_nnen Tryz.runUnderlying80 rfl) ?_
    refine o_nil ?_
    refine n_code ?_
    refine c_else rfl ?_
    refine c_skip ?_
    refine n_code ?_
    refine c_seq ?_
    refine c_region ?_
    refine o_e rfl rfl rfl (e_load Tryz.isAgg212 rfl (by first | exact .inr (by assumption) | exact .inl (by repeat (first | exact List.Mem.head _ | refine List.Mem.tail _ ?_))) (by first | rfl | assumption)) ?_
    first | refine o_e rfl rfl rfl (e_convn Tryz.runUnderlying212 Tryz.runUnderlying21 rfl (by simp only [inR]; omega)) ?_ | refine o_e rfl rfl rfl (e_conv Tryz.runUnderlying212 Tryz.runUnderlying21 rfl) ?_
    refine o_e rfl rfl rfl (e_assign rfl) ?_
    refine o_nil ?_
    refine n_code ?_
    refine c_seq ?_
    refine c_region ?_
    refine o_e rfl rfl rfl (e_move rfl) ?_
    refine o_l rfl (l_calli0 Tryz.call290 (by intro w; kernel_rfl) (seek_is (i := i + 4) (by omega)) rfl rfl rfl (.cons .head .nil)) ?_
    rintro ⟨r, H'⟩ ⟨rfl, rfl⟩
    simp only [List.cons_append, List.nil_append]
    refine o_e rfl rfl rfl (e_move rfl) ?_
    refine o_e rfl rfl rfl (e_extract rfl rfl) ?_
    refine o_e rfl rfl rfl (e_extract rfl rfl) ?_
    refine o_e rfl rfl rfl (e_assign rfl) ?_
    refine o_e rfl rfl rfl (e_assign rfl) ?_
    refine o_nil ?_
    refine n_code ?_
    refine c_seq ?_
    refine c_seq ?_
    refine c_region ?_
    refine o_e rfl rfl rfl (e_move rfl) ?_
    first | refine o_e rfl rfl rfl (e_inen Tryz.runUnderlying80 rfl) ?_ | refine o_e rfl rfl rfl (e_nnen Tryz.runUnderlying80 rfl) ?_
    refine o_nil ?_
    refine n_code ?_
    refine c_else rfl ?_
    refine c_skip ?_
    refine n_code ?_
    refine c_seq ?_
    refine c_seq ?_
    refine c_region ?_
    refine o_e rfl rfl rfl (e_move rfl) ?_
    refine o_e rfl rfl rfl (e_lss rfl rfl) ?_
    refine o_nil ?_
    refine n_code ?_
    refine c_ifp rfl (fun h2 => ?_) (fun h2 => ?_)
    · exact absurd h2 (by omega)
    · skip
      refine c_skip ?_
      refine n_code ?_
      refine c_seq ?_
      refine c_seq ?_
      refine c_region ?_
      refine o_e rfl rfl rfl (e_assign rfl) ?_
      refine o_nil ?_
      refine n_code ?_
      refine c_block ?_
      refine c_rounds 1 ?_
      refine c_seq ?_
      refine c_seq ?_
      refine c_region ?_
      refine o_e rfl rfl rfl (e_move rfl) ?_
      refine o_e rfl rfl rfl (e_move rfl) ?_
      first | refine o_e rfl rfl rfl (e_convn Tryz.runUnderlying21 Tryz.runUnderlying3 rfl (by simp only [inR]; omega)) ?_ | refine o_e rfl rfl rfl (e_conv Tryz.runUnderlying21 Tryz.runUnderlying3 rfl) ?_
      refine o_e rfl rfl rfl (e_lss rfl rfl) ?_
      refine o_nil ?_
      refine n_code ?_
      refine c_ifp rfl (fun h3 => ?_) (fun h3 => ?_)
      · refine c_skip ?_
        refine n_code ?_
        refine c_seq ?_
        refine c_block ?_
        refine c_seq ?_
        refine c_region ?_
        refine o_e rfl rfl rfl (e_build (vs := [.int .u32 0, .int .u64 0, .slice none 0 0]) Tryz.runUnderlying448 Tryz.zeroValue448 (.cons Tryz.sizeOf212 (.cons Tryz.sizeOf23 (.cons Tryz.sizeOf72 .nil))) rfl (by kernel_rfl)) ?_
        refine o_l rfl (l_alloc Tryz.zeroValue448 rfl rfl) ?_; intro g12 _
        refine o_l rfl (l_storea Tryz.sizeOf448 rfl rfl rfl (by simp [Value.oneCell']) .head (.take (.take (.take .done))) nofrs0) ?_
        intro _ _
        refine o_nil ?_
        refine n_code ?_
        refine c_seq ?_
        refine c_seq ?_
        refine c_region ?_
        refine o_e rfl rfl rfl (e_move rfl) ?_
        refine o_l rfl (l_call Tryz.call341 (swi_err (i := i + 4) hD hge hn hc h63 (by omega) (by omega)) rfl rfl (.cons (.tail .head) .nil)) ?_
        rintro ⟨r, H'⟩ ⟨rfl, rfl⟩
        simp only [List.cons_append, List.nil_append]
        refine o_e rfl rfl rfl (e_assign rfl) ?_
        refine o_nil ?_
        refine n_code ?_
        refine c_seq ?_
        refine c_region ?_
        refine o_e rfl rfl rfl (e_move rfl) ?_
        first | refine o_e rfl rfl rfl (e_inen Tryz.runUnderlying80 rfl) ?_ | refine o_e rfl rfl rfl (e_nnen Tryz.runUnderlying80 rfl) ?_
        refine o_nil ?_
        refine n_code ?_
        refine c_then rfl ?_
        refine c_seq ?_
        refine c_region ?_
        refine o_e rfl rfl rfl (e_move rfl) ?_
        refine o_e rfl rfl rfl (e_assign rfl) ?_
        refine o_nil ?_
        refine n_code ?_
        refine c_ret ?_
        refine WR.sel (.cons .head .nil) ?_
        refine r_fn1 Tryz.results332 rfl ?_
        exact ⟨rfl, rfl⟩
      · exact absurd h3 (by omega)
theorem mwc_err {gc : Nat} {z : Value} (hD : (gs, DB bs rest lo hi) ∈ G) (hge : Ge G gE gU) (hn : bs.length = n) (hc : n ≤ cap) (h63 : cap < 9223372036854775808) (hi' : i ≤ n) (hL : n < i + 24) (hk : i + 12 ≤ n → 1 ≤ le ((bs.drop (i + 8)).take 4) ∧ le ((bs.drop (i + 8)).take 4) < 2147483648) :
    Ctr Tryz.prog 322 [.pointer (some ⟨gc, 0, none⟩), RV gr] G [(gr, RB gs n cap i), (gc, C [z, .int .u64 0] 437)] (fun r H' => r = EV gU ∧ ∃ u, H' = [(gr, RB gs n cap n), (gc, C [z, u] 437)]) := by
  obtain ⟨⟨t3, e3, f3, hE⟩, ⟨t5, e5, f5, hU⟩, _, _, _⟩ := id hge
  by_cases h4 : n < i + 8
  · refine fn_enter 23 Tryz.func322 rfl Tryz.ntmps322 rfl ?_
    intro w0
    refine c_seq ?_
    refine c_region ?_
    refine o_e rfl rfl rfl (e_assign rfl) ?_
    refine o_nil ?_
    refine n_code ?_
    refine c_seq ?_
    refine c_seq ?_
    refine c_region ?_
    refine o_e rfl rfl rfl (e_move rfl) ?_
    refine o_e rfl rfl rfl (e_move rfl) ?_
    first | refine o_e rfl rfl rfl (e_nilCheck rfl) ?_ | refine o_e rfl rfl rfl (e_nilm (fun _ => by kernel_rfl) rfl) ?_
    refine o_e rfl rfl rfl (e_fak 1 Tryz.runUnderlying437 rfl Tryz.sizeOf23 rfl rfl rfl) ?_
    refine o_l rfl (l_call Tryz.call331 (read64_short (gp := 0) (off := 0) (v := .pointer (some ⟨gc, 0 + 1, none⟩)) hD hE hU hn hc h63 hi' h4) rfl rfl (.cons .head .nil)) ?_
    rintro ⟨r, H'⟩ ⟨g, hg, rfl, rfl⟩
    simp only [List.cons_append, List.nil_append]
    refine o_e rfl rfl rfl (e_assign rfl) ?_
    refine o_nil ?_
    refine n_code ?_
    refine c_seq ?_
    refine c_region ?_
    refine o_e rfl rfl rfl (e_move rfl) ?_
    first | refine o_e rfl rfl rfl (e_inen Tryz.runUnderlying80 rfl) ?_ | refine o_e rfl rfl rfl (e_nnen Tryz.runUnderlying80 rfl) ?_
    refine o_nil ?_
    refine n_code ?_
    refine c_then rfl ?_
    refine c_seq ?_
    refine c_seq ?_
    refine c_region ?_
    refine o_e rfl rfl rfl (e_move rfl) ?_
    refine o_e rfl rfl rfl (e_load Tryz.isAgg80 rfl (by first | exact .inr (by assumption) | exact .inl (by repeat (first | exact List.Mem.head _ | refine List.Mem.tail _ ?_))) (by first | rfl | assumption)) ?_
    refine o_e rfl rfl rfl (e_isEOF rfl hge hg rfl rfl) ?_
    refine o_nil ?_
    refine n_code ?_
    refine c_ifp rfl (fun h1 => ?_) (fun h1 => ?_)
    · refine c_seq ?_
      refine c_region ?_
      refine o_e rfl rfl rfl (e_load Tryz.isAgg80 rfl (by first | exact .inr (by assumption) | exact .inl (by repeat (first | exact List.Mem.head _ | refine List.Mem.tail _ ?_))) (by first | rfl | assumption)) ?_
      refine o_e rfl rfl rfl (e_assign rfl) ?_
      refine o_nil ?_
      refine n_code ?_
      refine c_ret ?_
      refine r_fn1 Tryz.results322 rfl ?_
      exact ⟨rfl, _, rfl⟩
    · skip
      obtain rfl : g = gU := hg.resolve_left h1
      refine c_skip ?_
      refine n_code ?_
      refine c_seq ?_
      refine c_region ?_
      refine o_e rfl rfl rfl (e_move rfl) ?_
      refine o_e rfl rfl rfl (e_assign rfl) ?_
      refine o_nil ?_
      refine n_code ?_
      refine c_ret ?_
      refine r_fn1 Tryz.results322 rfl ?_
      exact ⟨rfl, _, rfl⟩
  · refine fn_enter 23 Tryz.func322 rfl Tryz.ntmps322 rfl ?_
    intro w0
    refine c_seq ?_
    refine c_region ?_
    refine o_e rfl rfl rfl (e_assign rfl) ?_
    refine o_nil ?_
    refine n_code ?_
    refine c_seq ?_
    refine c_seq ?_
    refine c_region ?_
    refine o_e rfl rfl rfl (e_move rfl) ?_
    refine o_e rfl rfl rfl (e_move rfl) ?_
    first | refine o_e rfl rfl rfl (e_nilCheck rfl) ?_ | refine o_e rfl rfl rfl (e_nilm (fun _ => by kernel_rfl) rfl) ?_
    refine o_e rfl rfl rfl (e_fak 1 Tryz.runUnderlying437 rfl Tryz.sizeOf23 rfl rfl rfl) ?_
    refine o_l rfl (l_call Tryz.call331 (read64_is (off := 0 + 1) hD hn hc h63 (show i + 8 ≤ n by omega) (.tail .head)) rfl rfl (.cons .head (.cons .head .nil))) ?_
    rintro ⟨r, H'⟩ ⟨rfl, rfl⟩
    simp only [List.cons_append, List.nil_append]
    refine o_e rfl rfl rfl (e_assign rfl) ?_
    refine o_nil ?_
    refine n_code ?_
    refine c_seq ?_
    refine c_region ?_
    refine o_e rfl rfl rfl (e_move rfl) ?_
    first | refine o_e rfl rfl rfl (e_inen Tryz.runUnderlying80 rfl) ?_ | refine o_e rfl rfl rfl (e_nnen Tryz.runUnderlying80 rfl) ?_
    refine o_nil ?_
    refine n_code ?_
    refine c_else rfl ?_
    refine c_skip ?_
    refine n_code ?_
    refine c_seq ?_
    refine c_region ?_
    refine o_e rfl rfl rfl (e_move rfl) ?_
    first | refine o_e rfl rfl rfl (e_nilCheck rfl) ?_ | refine o_e rfl rfl rfl (e_nilm (fun _ => by kernel_rfl) rfl) ?_
    refine o_e rfl rfl rfl (e_fak 0 Tryz.runUnderlying437 rfl Tryz.sizeOf327 rfl rfl rfl) ?_
    refine o_e rfl rfl rfl (e_move rfl) ?_
    refine o_l rfl (l_call Tryz.call332 (mwi_err (i := i + 8) hD hge hn hc h63 (by omega) (by omega) (fun h => hk (by omega))) rfl rfl (.cons .head .nil)) ?_
    rintro ⟨r, H'⟩ ⟨rfl, rfl⟩
    simp only [List.cons_append, List.nil_append]
    refine o_e rfl rfl rfl (e_assign rfl) ?_
    refine o_nil ?_
    refine n_code ?_
    refine c_ret ?_
    refine r_fn1 Tryz.results322 rfl ?_
    exact ⟨rfl, _, rfl⟩
theorem newMWC_is : Ctr Tryz.prog 315 [] G [] (fun r H' => ∃ g gx, r = .pointer (some ⟨g, 0, none⟩) ∧ H' = [(g, C [.map (some gx), .int .u64 0] 437), (gx, Mo .u32 [])]) := by
  refine fn_enter 4 Tryz.func315 rfl Tryz.ntmps315 rfl ?_
  intro w0
  refine c_seq ?_
  refine c_region ?_
  refine o_e rfl rfl rfl (e_assign rfl) ?_
  refine o_nil ?_
  refine n_code ?_
  refine c_seq ?_
  refine c_region ?_
  refine o_l rfl (l_mkmap rfl .u32) ?_
  intro gx _
  refine o_e rfl rfl rfl (e_build (vs := [.map (some gx), .int .u64 0]) Tryz.runUnderlying437 Tryz.zeroValue437 (.cons Tryz.sizeOf327 (.cons Tryz.sizeOf23 .nil)) rfl (by kernel_rfl)) ?_
  refine o_l rfl (l_box rfl rfl rfl) ?_; intro g3 _
  refine o_e rfl rfl rfl (e_assign rfl) ?_
  refine o_nil ?_
  refine n_code ?_
  refine c_ret ?_
  refine r_fn1 Tryz.results315 rfl ?_
  exact ⟨_, _, rfl, rfl⟩
theorem mhi_err {v : Value} (hD : (gs, DB bs rest lo hi) ∈ G) (hge : Ge G gE gU) (hn : bs.length = n) (hc : n ≤ cap) (h63 : cap < 9223372036854775808) (hi' : i ≤ n) (hL : n < i + 28) (hk : i + 4 ≤ n → 1 ≤ le ((bs.drop i).take 4) ∧ le ((bs.drop i).take 4) < 2147483648) (hk' : i + 16 ≤ n → 1 ≤ le ((bs.drop (i + 12)).take 4) ∧ le ((bs.drop (i + 12)).take 4) < 2147483648) :
    Ctr Tryz.prog 312 [v, RV gr] G [(gr, RB gs n cap i)] (fun r H' => r = EV gU ∧ H' = [(gr, RB gs n cap n)]) := by
  obtain ⟨⟨t3, e3, f3, hE⟩, ⟨t5, e5, f5, hU⟩, _, _, _⟩ := id hge
  by_cases h4 : n < i + 4
  · refine fn_enter 73 Tryz.func312 rfl Tryz.ntmps312 rfl ?_
    intro w0
    refine c_seq ?_
    refine c_region ?_
    refine o_e rfl rfl rfl (e_assign rfl) ?_
    refine o_nil ?_
    refine n_code ?_
    refine c_seq ?_
    refine c_region ?_
    refine o_e rfl rfl rfl (e_move rfl) ?_
    refine o_pure rfl Tryz.call164 (toSeek_is) rfl rfl ?_
    refine o_e rfl rfl rfl (e_assign rfl) ?_
    refine o_nil ?_
    refine n_code ?_
    refine c_seq ?_
    refine c_region ?_
    refine o_l rfl (l_alloc Tryz.zeroValue212 rfl rfl) ?_; intro g6 _
    refine o_nil ?_
    refine n_code ?_
    refine c_seq ?_
    refine c_seq ?_
    refine c_region ?_
    refine o_e rfl rfl rfl (e_move rfl) ?_
    refine o_l rfl (l_call Tryz.call321 (read32_short (gp := 0) (off := 0) (v := .pointer (some ⟨g6, 0, none⟩)) hD hE hU hn hc h63 hi' h4) rfl rfl (.cons (.tail .head) .nil)) ?_
    rintro ⟨r, H'⟩ ⟨g, hg, rfl, rfl⟩
    simp only [List.cons_append, List.nil_append]
    refine o_e rfl rfl rfl (e_assign rfl) ?_
    refine o_nil ?_
    refine n_code ?_
    refine c_seq ?_
    refine c_region ?_
    refine o_e rfl rfl rfl (e_move rfl) ?_
    first | refine o_e rfl rfl rfl (e_inen Tryz.runUnderlying80 rfl) ?_ | refine o_e rfl rfl rfl (e_nnen Tryz.runUnderlying80 rfl) ?_
    refine o_nil ?_
    refine n_code ?_
    refine c_then rfl ?_
    refine c_seq ?_
    refine c_seq ?_
    refine c_region ?_
    refine o_e rfl rfl rfl (e_move rfl) ?_
    refine o_e rfl rfl rfl (e_load Tryz.isAgg80 rfl (by first | exact .inr (by assumption) | exact .inl (by repeat (first | exact List.Mem.head _ | refine List.Mem.tail _ ?_))) (by first | rfl | assumption)) ?_
    refine o_e rfl rfl rfl (e_isEOF rfl hge hg rfl rfl) ?_
    refine o_nil ?_
    refine n_code ?_
    refine c_ifp rfl (fun h1 => ?_) (fun h1 => ?_)
    · refine c_seq ?_
      refine c_region ?_
      refine o_e rfl rfl rfl (e_load Tryz.isAgg80 rfl (by first | exact .inr (by assumption) | exact .inl (by repeat (first | exact List.Mem.head _ | refine List.Mem.tail _ ?_))) (by first | rfl | assumption)) ?_
      refine o_e rfl rfl rfl (e_assign rfl) ?_
      refine o_nil ?_
      refine n_code ?_
      refine c_ret ?_
      refine WR.sel (.cons .head .nil) ?_
      refine r_fn1 Tryz.results312 rfl ?_
      exact ⟨rfl, rfl⟩
    · skip
      obtain rfl : g = gU := hg.resolve_left h1
      refine c_skip ?_
      refine n_code ?_
      refine c_seq ?_
      refine c_region ?_
      refine o_e rfl rfl rfl (e_move rfl) ?_
      refine o_e rfl rfl rfl (e_assign rfl) ?_
      refine o_nil ?_
      refine n_code ?_
      refine c_ret ?_
      refine WR.sel (.cons .head .nil) ?_
      refine r_fn1 Tryz.results312 rfl ?_
      exact ⟨rfl, rfl⟩
  · obtain ⟨hk1, hk2⟩ := hk (by omega)
    refine fn_enter 73 Tryz.func312 rfl Tryz.ntmps312 rfl ?_
    intro w0
    refine c_seq ?_
    refine c_region ?_
    refine o_e rfl rfl rfl (e_assign rfl) ?_
    refine o_nil ?_
    refine n_code ?_
    refine c_seq ?_
    refine c_region ?_
    refine o_e rfl rfl rfl (e_move rfl) ?_
    refine o_pure rfl Tryz.call164 (toSeek_is) rfl rfl ?_
    refine o_e rfl rfl rfl (e_assign rfl) ?_
    refine o_nil ?_
    refine n_code ?_
    refine c_seq ?_
    refine c_region ?_
    refine o_l rfl (l_alloc Tryz.zeroValue212 rfl rfl) ?_; intro g6 _
    refine o_nil ?_
    refine n_code ?_
    refine c_seq ?_
    refine c_seq ?_
    refine c_region ?_
    refine o_e rfl rfl rfl (e_move rfl) ?_
    refine o_l rfl (l_call Tryz.call321 (read32_is hD hn hc h63 (show i + 4 ≤ n by omega) .head) rfl rfl (.cons (.tail .head) (.cons .head .nil))) ?_
    rintro ⟨r, H'⟩ ⟨rfl, rfl⟩
    simp only [List.cons_append, List.nil_append]
    refine o_e rfl rfl rfl (e_assign rfl) ?_
    refine o_nil ?_
    refine n_code ?_
    refine c_seq ?_
    refine c_region ?_
    refine o_e rfl rfl rfl (e_move rfl) ?_
    first | refine o_e rfl rfl rfl (e_inen Tryz.runUnderlying80 rfl) ?_ | refine o_e rfl rfl rfl (e_nnen Tryz.runUnderlying80 rfl) ?_
    refine o_nil ?_
    refine n_code ?_
    refine c_else rfl ?_
    refine c_skip ?_
    refine n_code ?_
    refine c_seq ?_
    refine c_region ?_
    refine o_e rfl rfl rfl (e_load Tryz.isAgg212 rfl (by first | exact .inr (by assumption) | exact .inl (by repeat (first | exact List.Mem.head _ | refine List.Mem.tail _ ?_))) (by first | rfl | assumption)) ?_
    first | refine o_e rfl rfl rfl (e_convn Tryz.runUnderlying212 Tryz.runUnderlying21 rfl (by simp only [inR]; omega)) ?_ | refine o_e rfl rfl rfl (e_conv Tryz.runUnderlying212 Tryz.runUnderlying21 rfl) ?_
    refine o_e rfl rfl rfl (e_assign rfl) ?_
    refine o_nil ?_
    refine n_code ?_
    refine c_seq ?_
    refine c_region ?_
    refine o_e rfl rfl rfl (e_move rfl) ?_
    refine o_l rfl (l_calli0 Tryz.call290 (by intro w; kernel_rfl) (seek_is (i := i + 4) (by omega)) rfl rfl rfl (.cons .head .nil)) ?_
    rintro ⟨r, H'⟩ ⟨rfl, rfl⟩
    simp only [List.cons_append, List.nil_append]
    refine o_e rfl rfl rfl (e_move rfl) ?_
    refine o_e rfl rfl rfl (e_extract rfl rfl) ?_
    refine o_e rfl rfl rfl (e_extract rfl rfl) ?_
    refine o_e rfl rfl rfl (e_assign rfl) ?_
    refine o_e rfl rfl rfl (e_assign rfl) ?_
    refine o_nil ?_
    refine n_code ?_
    refine c_seq ?_
    refine c_seq ?_
    refine c_region ?_
    refine o_e rfl rfl rfl (e_move rfl) ?_
    first | refine o_e rfl rfl rfl (e_inen Tryz.runUnderlying80 rfl) ?_ | refine o_e rfl rfl rfl (e_nnen Tryz.runUnderlying80 rfl) ?_
    refine o_nil ?_
    refine n_code ?_
    refine c_else rfl ?_
    refine c_skip ?_
    refine n_code ?_
    refine c_seq ?_
    refine c_seq ?_
    refine c_region ?_
    refine o_e rfl rfl rfl (e_move rfl) ?_
    refine o_e rfl rfl rfl (e_lss rfl rfl) ?_
    refine o_nil ?_
    refine n_code ?_
    refine c_ifp rfl (fun h2 => ?_) (fun h2 => ?_)
    · exact absurd h2 (by omega)
    · skip
      refine c_skip ?_
      refine n_code ?_
      refine c_seq ?_
      refine c_seq ?_
      refine c_region ?_
      refine o_e rfl rfl rfl (e_assign rfl) ?_
      refine o_nil ?_
      refine n_code ?_
      refine c_block ?_
      refine c_rounds 1 ?_
      refine c_seq ?_
      refine c_seq ?_
      refine c_region ?_
      refine o_e rfl rfl rfl (e_move rfl) ?_
      refine o_e rfl rfl rfl (e_move rfl) ?_
      first | refine o_e rfl rfl rfl (e_convn Tryz.runUnderlying21 Tryz.runUnderlying3 rfl (by simp only [inR]; omega)) ?_ | refine o_e rfl rfl rfl (e_conv Tryz.runUnderlying21 Tryz.runUnderlying3 rfl) ?_
      refine o_e rfl rfl rfl (e_lss rfl rfl) ?_
      refine o_nil ?_
      refine n_code ?_
      refine c_ifp rfl (fun h3 => ?_) (fun h3 => ?_)
      · refine c_skip ?_
        refine n_code ?_
        refine c_seq ?_
        refine c_block ?_
        refine c_seq ?_
        refine c_region ?_
        refine o_l rfl (l_call Tryz.call315 newMWC_is rfl rfl .nil) ?_
        rintro ⟨r, H'⟩ ⟨gc, gx, rfl, rfl⟩
        simp only [List.cons_append, List.nil_append]
        refine o_e rfl rfl rfl (e_assign rfl) ?_
        refine o_nil ?_
        refine n_code ?_
        refine c_seq ?_
        refine c_seq ?_
        refine c_region ?_
        refine o_e rfl rfl rfl (e_move rfl) ?_
        refine o_e rfl rfl rfl (e_move rfl) ?_
        refine o_l rfl (l_call Tryz.call322 (mwc_err (i := i + 4) hD hge hn hc h63 (by omega) (by omega) (fun h => hk' (by omega))) rfl rfl (.cons (.tail (.tail .head)) (.cons .head .nil))) ?_
        rintro ⟨r, H'⟩ ⟨rfl, u, rfl⟩
        simp only [List.cons_append, List.nil_append]
        refine o_e rfl rfl rfl (e_assign rfl) ?_
        refine o_nil ?_
        refine n_code ?_
        refine c_seq ?_
        refine c_region ?_
        refine o_e rfl rfl rfl (e_move rfl) ?_
        first | refine o_e rfl rfl rfl (e_inen Tryz.runUnderlying80 rfl) ?_ | refine o_e rfl rfl rfl (e_nnen Tryz.runUnderlying80 rfl) ?_
        refine o_nil ?_
        refine n_code ?_
        refine c_then rfl ?_
        refine c_seq ?_
        refine c_region ?_
        refine o_e rfl rfl rfl (e_move rfl) ?_
        refine o_e rfl rfl rfl (e_assign rfl) ?_
        refine o_nil ?_
        refine n_code ?_
        refine c_ret ?_
        refine WR.sel (.cons .head .nil) ?_
        refine r_fn1 Tryz.results312 rfl ?_
        exact ⟨rfl, rfl⟩
      · exact absurd h3 (by omega)
end
end Go.Proofs
namespace Go.Proofs
open Go Go.Sl
set_option maxRecDepth 100000
set_option maxHeartbeats 1000000
section
variable {G : HP} {gr gs gb n cap i k L lo hi : Nat} {bs : List UInt8} {rest pl : List Value} {gE gU : Addr} {t3 t5 : List Value}
theorem codec_0 (hge : Ge G gE gU) :
    Ctr Tryz.prog 45 [RV gr] G [(gr, RB gs 0 cap 0)] (fun r H' => r = .tuple #[.int .u64 0, EV gE] ∧ H' = [(gr, RB gs 0 cap 0)]) := by
  obtain ⟨⟨t3, e3, f3, hE⟩, ⟨t5, e5, f5, hU⟩, _, _, _⟩ := id hge
  refine fn_enter 16 Tryz.func45 rfl Tryz.ntmps45 rfl ?_
  intro w0
  refine c_seq ?_
  refine c_region ?_
  refine o_e rfl rfl rfl (e_assign rfl) ?_
  refine o_e rfl rfl rfl (e_assign rfl) ?_
  refine o_nil ?_
  refine n_code ?_
  refine c_seq ?_
  refine c_region ?_
  refine o_e rfl rfl rfl (e_move rfl) ?_
  refine o_pure rfl Tryz.call79 (toByte_is) rfl rfl ?_
  refine o_l rfl (l_call Tryz.call78 (uvar_0 hE) rfl rfl (.cons .head .nil)) ?_
  rintro ⟨r, H'⟩ ⟨rfl, rfl⟩
  simp only [List.cons_append, List.nil_append]
  refine o_e rfl rfl rfl (e_move rfl) ?_
  refine o_e rfl rfl rfl (e_extract rfl rfl) ?_
  refine o_e rfl rfl rfl (e_extract rfl rfl) ?_
  refine o_e rfl rfl rfl (e_assign rfl) ?_
  refine o_e rfl rfl rfl (e_assign rfl) ?_
  refine o_nil ?_
  refine n_code ?_
  refine c_seq ?_
  refine c_seq ?_
  refine c_region ?_
  refine o_e rfl rfl rfl (e_move rfl) ?_
  first | refine o_e rfl rfl rfl (e_inen Tryz.runUnderlying80 rfl) ?_ | refine o_e rfl rfl rfl (e_nnen Tryz.runUnderlying80 rfl) ?_
  refine o_nil ?_
  refine n_code ?_
  refine c_then rfl ?_
  refine c_seq ?_
  refine c_region ?_
  refine o_e rfl rfl rfl (e_move rfl) ?_
  refine o_e rfl rfl rfl (e_assign rfl) ?_
  refine o_e rfl rfl rfl (e_assign rfl) ?_
  refine o_nil ?_
  refine n_code ?_
  refine c_ret ?_
  refine r_fn (l := [.tmp 2, .tmp 3]) Tryz.results45 rfl rfl ?_
  exact ⟨rfl, rfl⟩
theorem codec_1 {b : UInt8} (hD : (gs, DB [b] rest lo hi) ∈ G) (hge : Ge G gE gU) (hb : 128 ≤ b.toNat) :
    Ctr Tryz.prog 45 [RV gr] G [(gr, RB gs 1 cap 0)] (fun r H' => r = .tuple #[.int .u64 0, EV gU] ∧ H' = [(gr, RB gs 1 cap 1)]) := by
  obtain ⟨⟨t3, e3, f3, hE⟩, ⟨t5, e5, f5, hU⟩, _, _, _⟩ := id hge
  refine fn_enter 16 Tryz.func45 rfl Tryz.ntmps45 rfl ?_
  intro w0
  refine c_seq ?_
  refine c_region ?_
  refine o_e rfl rfl rfl (e_assign rfl) ?_
  refine o_e rfl rfl rfl (e_assign rfl) ?_
  refine o_nil ?_
  refine n_code ?_
  refine c_seq ?_
  refine c_region ?_
  refine o_e rfl rfl rfl (e_move rfl) ?_
  refine o_pure rfl Tryz.call79 (toByte_is) rfl rfl ?_
  refine o_l rfl (l_call Tryz.call78 (uvar_1 hD hE hU hb) rfl rfl (.cons .head .nil)) ?_
  rintro ⟨r, H'⟩ ⟨rfl, rfl⟩
  simp only [List.cons_append, List.nil_append]
  refine o_e rfl rfl rfl (e_move rfl) ?_
  refine o_e rfl rfl rfl (e_extract rfl rfl) ?_
  refine o_e rfl rfl rfl (e_extract rfl rfl) ?_
  refine o_e rfl rfl rfl (e_assign rfl) ?_
  refine o_e rfl rfl rfl (e_assign rfl) ?_
  refine o_nil ?_
  refine n_code ?_
  refine c_seq ?_
  refine c_seq ?_
  refine c_region ?_
  refine o_e rfl rfl rfl (e_move rfl) ?_
  first | refine o_e rfl rfl rfl (e_inen Tryz.runUnderlying80 rfl) ?_ | refine o_e rfl rfl rfl (e_nnen Tryz.runUnderlying80 rfl) ?_
  refine o_nil ?_
  refine n_code ?_
  refine c_then rfl ?_
  refine c_seq ?_
  refine c_region ?_
  refine o_e rfl rfl rfl (e_move rfl) ?_
  refine o_e rfl rfl rfl (e_assign rfl) ?_
  refine o_e rfl rfl rfl (e_assign rfl) ?_
  refine o_nil ?_
  refine n_code ?_
  refine c_ret ?_
  refine r_fn (l := [.tmp 2, .tmp 3]) Tryz.results45 rfl rfl ?_
  exact ⟨rfl, rfl⟩
theorem codec_of {kind : Int} (h : Ctr Tryz.prog 78 [RV gr] G [(gr, RB gs n cap 0)] (fun r H' => r = .tuple #[.int .u64 kind, .nilIface] ∧ H' = [(gr, RB gs n cap 2)])) :
    Ctr Tryz.prog 45 [RV gr] G [(gr, RB gs n cap 0)] (fun r H' => r = .tuple #[.int .u64 kind, .nilIface] ∧ H' = [(gr, RB gs n cap 2)]) := by
  refine fn_enter 16 Tryz.func45 rfl Tryz.ntmps45 rfl ?_
  intro w0
  refine c_seq ?_
  refine c_region ?_
  refine o_e rfl rfl rfl (e_assign rfl) ?_
  refine o_e rfl rfl rfl (e_assign rfl) ?_
  refine o_nil ?_
  refine n_code ?_
  refine c_seq ?_
  refine c_region ?_
  refine o_e rfl rfl rfl (e_move rfl) ?_
  refine o_pure rfl Tryz.call79 (toByte_is) rfl rfl ?_
  refine o_l rfl (l_call Tryz.call78 h rfl rfl (.cons .head .nil)) ?_
  rintro ⟨r, H'⟩ ⟨rfl, rfl⟩
  simp only [List.cons_append, List.nil_append]
  refine o_e rfl rfl rfl (e_move rfl) ?_
  refine o_e rfl rfl rfl (e_extract rfl rfl) ?_
  refine o_e rfl rfl rfl (e_extract rfl rfl) ?_
  refine o_e rfl rfl rfl (e_assign rfl) ?_
  refine o_e rfl rfl rfl (e_assign rfl) ?_
  refine o_nil ?_
  refine n_code ?_
  refine c_seq ?_
  refine c_seq ?_
  refine c_region ?_
  refine o_e rfl rfl rfl (e_move rfl) ?_
  first | refine o_e rfl rfl rfl (e_inen Tryz.runUnderlying80 rfl) ?_ | refine o_e rfl rfl rfl (e_nnen Tryz.runUnderlying80 rfl) ?_
  refine o_nil ?_
  refine n_code ?_
  refine c_else rfl ?_
  refine c_skip ?_
  refine n_code ?_
  refine c_seq ?_
  refine c_region ?_
  refine o_e rfl rfl rfl (e_move rfl) ?_
  refine o_e rfl rfl rfl (e_assign rfl) ?_
  refine o_e rfl rfl rfl (e_assign rfl) ?_
  refine o_nil ?_
  refine n_code ?_
  refine c_ret ?_
  refine r_fn (l := [.tmp 2, .tmp 3]) Tryz.results45 rfl rfl ?_
  exact ⟨rfl, rfl⟩
theorem newS_is : Ctr Tryz.prog 148 [] G [] (fun r H' => ∃ gm gx, r = .iface 328 (.pointer (some ⟨gm, 0, none⟩)) ∧ H' = [(gm, C [.map (some gx)] 327), (gx, Mo .u32 [])]) := by
  refine fn_enter 4 Tryz.func148 rfl Tryz.ntmps148 rfl ?_
  intro w0
  refine c_seq ?_
  refine c_region ?_
  refine o_e rfl rfl rfl (e_assign rfl) ?_
  refine o_nil ?_
  refine n_code ?_
  refine c_seq ?_
  refine c_region ?_
  refine o_l rfl (l_mkmap rfl .u32) ?_
  intro gx _
  refine o_l rfl (l_alloc Tryz.zeroValue327 rfl rfl) ?_; intro g1 _
  refine o_l rfl (l_store Tryz.sizeOf327 rfl rfl rfl (by first | exact .head | exact .tail .head | exact .tail (.tail .head) | exact .tail (.tail (.tail .head)) | exact .tail (.tail (.tail (.tail .head))) | exact .tail (.tail (.tail (.tail (.tail .head)))) | exact .tail (.tail (.tail (.tail (.tail (.tail .head))))) | exact .tail (.tail (.tail (.tail (.tail (.tail (.tail .head)))))) | exact .tail (.tail (.tail (.tail (.tail (.tail (.tail (.tail .head)))))))) (by first | exact .head | exact .tail .head | exact .tail (.tail .head) | exact .tail (.tail (.tail .head)) | exact .tail (.tail (.tail (.tail .head))) | exact .tail (.tail (.tail (.tail (.tail .head)))) | exact .tail (.tail (.tail (.tail (.tail (.tail .head))))) | exact .tail (.tail (.tail (.tail (.tail (.tail (.tail .head))))))) (by omega)) ?_; intro _ _
  refine o_nil ?_
  refine n_code ?_
  refine c_seq ?_
  refine c_region ?_
  refine o_e rfl rfl rfl (e_mkif Tryz.runUnderlying328 rfl rfl) ?_
  refine o_e rfl rfl rfl (e_assign rfl) ?_
  refine o_nil ?_
  refine n_code ?_
  refine c_ret ?_
  refine r_fn1 Tryz.results148 rfl ?_
  exact ⟨_, _, rfl, rfl⟩
theorem newM_is : Ctr Tryz.prog 149 [] G [] (fun r H' => ∃ gm gx, r = .pointer (some ⟨gm, 0, none⟩) ∧ H' = [(gm, C [.map (some gx)] 330), (gx, Mo .u64 [])]) := by
  refine fn_enter 3 Tryz.func149 rfl Tryz.ntmps149 rfl ?_
  intro w0
  refine c_seq ?_
  refine c_region ?_
  refine o_e rfl rfl rfl (e_assign rfl) ?_
  refine o_nil ?_
  refine n_code ?_
  refine c_seq ?_
  refine c_region ?_
  refine o_l rfl (l_mkmap rfl .u64) ?_
  intro gx _
  refine o_l rfl (l_alloc Tryz.zeroValue330 rfl rfl) ?_; intro g1 _
  refine o_l rfl (l_store Tryz.sizeOf330 rfl rfl rfl (by first | exact .head | exact .tail .head | exact .tail (.tail .head) | exact .tail (.tail (.tail .head)) | exact .tail (.tail (.tail (.tail .head))) | exact .tail (.tail (.tail (.tail (.tail .head)))) | exact .tail (.tail (.tail (.tail (.tail (.tail .head))))) | exact .tail (.tail (.tail (.tail (.tail (.tail (.tail .head)))))) | exact .tail (.tail (.tail (.tail (.tail (.tail (.tail (.tail .head)))))))) (by first | exact .head | exact .tail .head | exact .tail (.tail .head) | exact .tail (.tail (.tail .head)) | exact .tail (.tail (.tail (.tail .head))) | exact .tail (.tail (.tail (.tail (.tail .head)))) | exact .tail (.tail (.tail (.tail (.tail (.tail .head))))) | exact .tail (.tail (.tail (.tail (.tail (.tail (.tail .head))))))) (by omega)) ?_; intro _ _
  refine o_nil ?_
  refine n_code ?_
  refine c_seq ?_
  refine c_region ?_
  refine o_e rfl rfl rfl (e_assign rfl) ?_
  refine o_nil ?_
  refine n_code ?_
  refine c_ret ?_
  refine r_fn1 Tryz.results149 rfl ?_
  exact ⟨_, _, rfl, rfl⟩
theorem new_1024 : Ctr Tryz.prog 76 [.int .u64 1024] G [] (fun r H' => ∃ gm gx, r = .tuple #[.iface 328 (.pointer (some ⟨gm, 0, none⟩)), .nilIface] ∧ H' = [(gm, C [.map (some gx)] 327), (gx, Mo .u32 [])]) := by
  refine fn_enter 13 Tryz.func76 rfl Tryz.ntmps76 rfl ?_
  intro w0
  refine c_seq ?_
  refine c_region ?_
  refine o_e rfl rfl rfl (e_assign rfl) ?_
  refine o_e rfl rfl rfl (e_assign rfl) ?_
  refine o_nil ?_
  refine n_code ?_
  refine c_seq ?_
  refine c_region ?_
  refine o_e rfl rfl rfl (e_move rfl) ?_
  refine o_nil ?_
  refine n_code ?_
  refine c_block ?_
  refine c_seq ?_
  refine c_region ?_
  refine o_e rfl rfl rfl (e_eql rfl rfl) ?_
  refine o_e rfl rfl rfl (e_assign rfl) ?_
  refine o_nil ?_
  refine n_code ?_
  refine c_then rfl ?_
  refine c_seq ?_
  refine c_region ?_
  refine o_l rfl (l_call Tryz.call148 newS_is rfl rfl .nil) ?_
  rintro ⟨r, H'⟩ ⟨gm, gx, rfl, rfl⟩
  simp only [List.cons_append, List.nil_append]
  refine o_e rfl rfl rfl (e_assign rfl) ?_
  refine o_e rfl rfl rfl (e_assign rfl) ?_
  refine o_nil ?_
  refine n_code ?_
  refine c_ret ?_
  refine r_fn (l := [.tmp 2, .tmp 3]) Tryz.results76 rfl rfl ?_
  exact ⟨_, _, rfl, rfl⟩
theorem new_1025 : Ctr Tryz.prog 76 [.int .u64 1025] G [] (fun r H' => ∃ gm gx, r = .tuple #[.iface 237 (.pointer (some ⟨gm, 0, none⟩)), .nilIface] ∧ H' = [(gm, C [.map (some gx)] 330), (gx, Mo .u64 [])]) := by
  refine fn_enter 13 Tryz.func76 rfl Tryz.ntmps76 rfl ?_
  intro w0
  refine c_seq ?_
  refine c_region ?_
  refine o_e rfl rfl rfl (e_assign rfl) ?_
  refine o_e rfl rfl rfl (e_assign rfl) ?_
  refine o_nil ?_
  refine n_code ?_
  refine c_seq ?_
  refine c_region ?_
  refine o_e rfl rfl rfl (e_move rfl) ?_
  refine o_nil ?_
  refine n_code ?_
  refine c_block ?_
  refine c_seq ?_
  refine c_region ?_
  refine o_e rfl rfl rfl (e_eql rfl rfl) ?_
  refine o_e rfl rfl rfl (e_assign rfl) ?_
  refine o_nil ?_
  refine n_code ?_
  refine c_else rfl ?_
  refine c_seq ?_
  refine c_region ?_
  refine o_e rfl rfl rfl (e_eql rfl rfl) ?_
  refine o_e rfl rfl rfl (e_assign rfl) ?_
  refine o_nil ?_
  refine n_code ?_
  refine c_then rfl ?_
  refine c_seq ?_
  refine c_region ?_
  refine o_l rfl (l_call Tryz.call149 newM_is rfl rfl .nil) ?_
  rintro ⟨r, H'⟩ ⟨gm, gx, rfl, rfl⟩
  simp only [List.cons_append, List.nil_append]
  refine o_e rfl rfl rfl (e_mkif Tryz.runUnderlying237 rfl rfl) ?_
  refine o_e rfl rfl rfl (e_assign rfl) ?_
  refine o_e rfl rfl rfl (e_assign rfl) ?_
  refine o_nil ?_
  refine n_code ?_
  refine c_ret ?_
  refine r_fn (l := [.tmp 2, .tmp 3]) Tryz.results76 rfl rfl ?_
  exact ⟨_, _, rfl, rfl⟩
/-- The number that stands at place i. -/
def num (bs : List UInt8) (i : Nat) : Nat := le ((bs.drop i).take 4)
/-- What is cut off within its numbers. -/
inductive Cut (bs : List UInt8) : Prop where
  | none (h : bs = []) : Cut bs
  | one {b : UInt8} (h : bs = [b]) (hb : 128 ≤ b.toNat) : Cut bs
  | s {tl : List UInt8} (h : bs = 128 :: 8 :: tl) (hl : bs.length < 18) (h1 : 6 ≤ bs.length → 1 ≤ num bs 2 ∧ num bs 2 < 2147483648) : Cut bs
  | m {tl : List UInt8} (h : bs = 129 :: 8 :: tl) (hl : bs.length < 30) (h1 : 6 ≤ bs.length → 1 ≤ num bs 2 ∧ num bs 2 < 2147483648) (h2 : 18 ≤ bs.length → 1 ≤ num bs 14 ∧ num bs 14 < 2147483648) : Cut bs
theorem from_err (hD : (gs, DB bs rest lo hi) ∈ G) (hge : Ge G gE gU) (hn : bs.length = n) (hc : n ≤ cap) (h63 : cap < 9223372036854775808) (hcut : Cut bs) :
    Ctr Tryz.prog 41 [RV gr] G [(gr, RB gs n cap 0)] (fun r H' => ∃ g i, r = .tuple #[.nilIface, EV g] ∧ H' = [(gr, RB gs n cap i)]) := by
  cases hcut with
  | none h =>
    subst h
    obtain rfl : 0 = n := hn
    refine fn_enter 31 Tryz.func41 rfl Tryz.ntmps41 rfl ?_
    intro w0
    refine c_seq ?_
    refine c_region ?_
    refine o_e rfl rfl rfl (e_assign rfl) ?_
    refine o_e rfl rfl rfl (e_assign rfl) ?_
    refine o_nil ?_
    refine n_code ?_
    refine c_seq ?_
    refine c_region ?_
    refine o_e rfl rfl rfl (e_move rfl) ?_
    refine o_l rfl (l_call Tryz.call45 (codec_0 hge) rfl rfl (.cons .head .nil)) ?_
    rintro ⟨r, H'⟩ ⟨rfl, rfl⟩
    simp only [List.cons_append, List.nil_append]
    refine o_e rfl rfl rfl (e_move rfl) ?_
    refine o_e rfl rfl rfl (e_extract rfl rfl) ?_
    refine o_e rfl rfl rfl (e_extract rfl rfl) ?_
    refine o_e rfl rfl rfl (e_assign rfl) ?_
    refine o_e rfl rfl rfl (e_assign rfl) ?_
    refine o_nil ?_
    refine n_code ?_
    refine c_seq ?_
    refine c_seq ?_
    refine c_region ?_
    refine o_e rfl rfl rfl (e_move rfl) ?_
    first | refine o_e rfl rfl rfl (e_inen Tryz.runUnderlying80 rfl) ?_ | refine o_e rfl rfl rfl (e_nnen Tryz.runUnderlying80 rfl) ?_
    refine o_nil ?_
    refine n_code ?_
    refine c_then rfl ?_
    refine c_seq ?_
    refine c_region ?_
    refine o_e rfl rfl rfl (e_move rfl) ?_
    refine o_e rfl rfl rfl (e_assign rfl) ?_
    refine o_e rfl rfl rfl (e_assign rfl) ?_
    refine o_nil ?_
    refine n_code ?_
    refine c_ret ?_
    refine r_fn (l := [.tmp 2, .tmp 3]) Tryz.results41 rfl rfl ?_
    exact ⟨_, _, rfl, rfl⟩
  | one h hb =>
    subst h
    obtain rfl : 1 = n := hn
    refine fn_enter 31 Tryz.func41 rfl Tryz.ntmps41 rfl ?_
    intro w0
    refine c_seq ?_
    refine c_region ?_
    refine o_e rfl rfl rfl (e_assign rfl) ?_
    refine o_e rfl rfl rfl (e_assign rfl) ?_
    refine o_nil ?_
    refine n_code ?_
    refine c_seq ?_
    refine c_region ?_
    refine o_e rfl rfl rfl (e_move rfl) ?_
    refine o_l rfl (l_call Tryz.call45 (codec_1 hD hge hb) rfl rfl (.cons .head .nil)) ?_
    rintro ⟨r, H'⟩ ⟨rfl, rfl⟩
    simp only [List.cons_append, List.nil_append]
    refine o_e rfl rfl rfl (e_move rfl) ?_
    refine o_e rfl rfl rfl (e_extract rfl rfl) ?_
    refine o_e rfl rfl rfl (e_extract rfl rfl) ?_
    refine o_e rfl rfl rfl (e_assign rfl) ?_
    refine o_e rfl rfl rfl (e_assign rfl) ?_
    refine o_nil ?_
    refine n_code ?_
    refine c_seq ?_
    refine c_seq ?_
    refine c_region ?_
    refine o_e rfl rfl rfl (e_move rfl) ?_
    first | refine o_e rfl rfl rfl (e_inen Tryz.runUnderlying80 rfl) ?_ | refine o_e rfl rfl rfl (e_nnen Tryz.runUnderlying80 rfl) ?_
    refine o_nil ?_
    refine n_code ?_
    refine c_then rfl ?_
    refine c_seq ?_
    refine c_region ?_
    refine o_e rfl rfl rfl (e_move rfl) ?_
    refine o_e rfl rfl rfl (e_assign rfl) ?_
    refine o_e rfl rfl rfl (e_assign rfl) ?_
    refine o_nil ?_
    refine n_code ?_
    refine c_ret ?_
    refine r_fn (l := [.tmp 2, .tmp 3]) Tryz.results41 rfl rfl ?_
    exact ⟨_, _, rfl, rfl⟩
  | @s tl h hl h1 =>
    subst h
    have hr := codec_of (uvar_1024 (gr := gr) (cap := cap) hD hn (by omega))
    refine fn_enter 31 Tryz.func41 rfl Tryz.ntmps41 rfl ?_
    intro w0
    refine c_seq ?_
    refine c_region ?_
    refine o_e rfl rfl rfl (e_assign rfl) ?_
    refine o_e rfl rfl rfl (e_assign rfl) ?_
    refine o_nil ?_
    refine n_code ?_
    refine c_seq ?_
    refine c_region ?_
    refine o_e rfl rfl rfl (e_move rfl) ?_
    refine o_l rfl (l_call Tryz.call45 hr rfl rfl (.cons .head .nil)) ?_
    rintro ⟨r, H'⟩ ⟨rfl, rfl⟩
    simp only [List.cons_append, List.nil_append]
    refine o_e rfl rfl rfl (e_move rfl) ?_
    refine o_e rfl rfl rfl (e_extract rfl rfl) ?_
    refine o_e rfl rfl rfl (e_extract rfl rfl) ?_
    refine o_e rfl rfl rfl (e_assign rfl) ?_
    refine o_e rfl rfl rfl (e_assign rfl) ?_
    refine o_nil ?_
    refine n_code ?_
    refine c_seq ?_
    refine c_seq ?_
    refine c_region ?_
    refine o_e rfl rfl rfl (e_move rfl) ?_
    first | refine o_e rfl rfl rfl (e_inen Tryz.runUnderlying80 rfl) ?_ | refine o_e rfl rfl rfl (e_nnen Tryz.runUnderlying80 rfl) ?_
    refine o_nil ?_
    refine n_code ?_
    refine c_else rfl ?_
    refine c_skip ?_
    refine n_code ?_
    refine c_seq ?_
    refine c_region ?_
    refine o_e rfl rfl rfl (e_move rfl) ?_
    refine o_l rfl (l_call Tryz.call76 new_1024 rfl rfl .nil) ?_
    rintro ⟨r, H'⟩ ⟨gm, gx, rfl, rfl⟩
    simp only [List.cons_append, List.nil_append]
    refine o_e rfl rfl rfl (e_move rfl) ?_
    refine o_e rfl rfl rfl (e_extract rfl rfl) ?_
    refine o_e rfl rfl rfl (e_extract rfl rfl) ?_
    refine o_e rfl rfl rfl (e_assign rfl) ?_
    refine o_e rfl rfl rfl (e_assign rfl) ?_
    refine o_nil ?_
    refine n_code ?_
    refine c_seq ?_
    refine c_seq ?_
    refine c_region ?_
    refine o_e rfl rfl rfl (e_move rfl) ?_
    first | refine o_e rfl rfl rfl (e_inen Tryz.runUnderlying80 rfl) ?_ | refine o_e rfl rfl rfl (e_nnen Tryz.runUnderlying80 rfl) ?_
    refine o_nil ?_
    refine n_code ?_
    refine c_else rfl ?_
    refine c_skip ?_
    refine n_code ?_
    refine c_seq ?_
    refine c_seq ?_
    refine c_region ?_
    refine o_e rfl rfl rfl (e_move rfl) ?_
    refine o_e rfl rfl rfl (e_move rfl) ?_
    refine o_l rfl (l_calli0 Tryz.call332 (by intro w; kernel_rfl) (mwi_err (v := .pointer (some ⟨gm, 0, none⟩)) (i := 2) hD hge hn hc h63 (by rw [← hn]; simp) (by omega) (fun hh => h1 (by omega))) rfl rfl rfl (.cons (.tail (.tail .head)) .nil)) ?_
    rintro ⟨r, H'⟩ ⟨rfl, rfl⟩
    simp only [List.cons_append, List.nil_append]
    refine o_e rfl rfl rfl (e_assign rfl) ?_
    refine o_nil ?_
    refine n_code ?_
    refine c_seq ?_
    refine c_region ?_
    refine o_e rfl rfl rfl (e_move rfl) ?_
    first | refine o_e rfl rfl rfl (e_inen Tryz.runUnderlying80 rfl) ?_ | refine o_e rfl rfl rfl (e_nnen Tryz.runUnderlying80 rfl) ?_
    refine o_nil ?_
    refine n_code ?_
    refine c_then rfl ?_
    refine c_seq ?_
    refine c_region ?_
    refine o_e rfl rfl rfl (e_move rfl) ?_
    refine o_e rfl rfl rfl (e_assign rfl) ?_
    refine o_e rfl rfl rfl (e_assign rfl) ?_
    refine o_nil ?_
    refine n_code ?_
    refine c_ret ?_
    refine WR.sel (.cons .head .nil) ?_
    refine r_fn (l := [.tmp 2, .tmp 3]) Tryz.results41 rfl rfl ?_
    exact ⟨_, _, rfl, rfl⟩
  | @m tl h hl h1 h2 =>
    subst h
    have hr := codec_of (uvar_1025 (gr := gr) (cap := cap) hD hn (by omega))
    refine fn_enter 31 Tryz.func41 rfl Tryz.ntmps41 rfl ?_
    intro w0
    refine c_seq ?_
    refine c_region ?_
    refine o_e rfl rfl rfl (e_assign rfl) ?_
    refine o_e rfl rfl rfl (e_assign rfl) ?_
    refine o_nil ?_
    refine n_code ?_
    refine c_seq ?_
    refine c_region ?_
    refine o_e rfl rfl rfl (e_move rfl) ?_
    refine o_l rfl (l_call Tryz.call45 hr rfl rfl (.cons .head .nil)) ?_
    rintro ⟨r, H'⟩ ⟨rfl, rfl⟩
    simp only [List.cons_append, List.nil_append]
    refine o_e rfl rfl rfl (e_move rfl) ?_
    refine o_e rfl rfl rfl (e_extract rfl rfl) ?_
    refine o_e rfl rfl rfl (e_extract rfl rfl) ?_
    refine o_e rfl rfl rfl (e_assign rfl) ?_
    refine o_e rfl rfl rfl (e_assign rfl) ?_
    refine o_nil ?_
    refine n_code ?_
    refine c_seq ?_
    refine c_seq ?_
    refine c_region ?_
    refine o_e rfl rfl rfl (e_move rfl) ?_
    first | refine o_e rfl rfl rfl (e_inen Tryz.runUnderlying80 rfl) ?_ | refine o_e rfl rfl rfl (e_nnen Tryz.runUnderlying80 rfl) ?_
    refine o_nil ?_
    refine n_code ?_
    refine c_else rfl ?_
    refine c_skip ?_
    refine n_code ?_
    refine c_seq ?_
    refine c_region ?_
    refine o_e rfl rfl rfl (e_move rfl) ?_
    refine o_l rfl (l_call Tryz.call76 new_1025 rfl rfl .nil) ?_
    rintro ⟨r, H'⟩ ⟨gm, gx, rfl, rfl⟩
    simp only [List.cons_append, List.nil_append]
    refine o_e rfl rfl rfl (e_move rfl) ?_
    refine o_e rfl rfl rfl (e_extract rfl rfl) ?_
    refine o_e rfl rfl rfl (e_extract rfl rfl) ?_
    refine o_e rfl rfl rfl (e_assign rfl) ?_
    refine o_e rfl rfl rfl (e_assign rfl) ?_
    refine o_nil ?_
    refine n_code ?_
    refine c_seq ?_
    refine c_seq ?_
    refine c_region ?_
    refine o_e rfl rfl rfl (e_move rfl) ?_
    first | refine o_e rfl rfl rfl (e_inen Tryz.runUnderlying80 rfl) ?_ | refine o_e rfl rfl rfl (e_nnen Tryz.runUnderlying80 rfl) ?_
    refine o_nil ?_
    refine n_code ?_
    refine c_else rfl ?_
    refine c_skip ?_
    refine n_code ?_
    refine c_seq ?_
    refine c_seq ?_
    refine c_region ?_
    refine o_e rfl rfl rfl (e_move rfl) ?_
    refine o_e rfl rfl rfl (e_move rfl) ?_
    refine o_l rfl (l_calli0 Tryz.call312 (by intro w; kernel_rfl) (mhi_err (v := .pointer (some ⟨gm, 0, none⟩)) (i := 2) hD hge hn hc h63 (by rw [← hn]; simp) (by omega) (fun hh => h1 (by omega)) (fun hh => h2 (by omega))) rfl rfl rfl (.cons (.tail (.tail .head)) .nil)) ?_
    rintro ⟨r, H'⟩ ⟨rfl, rfl⟩
    simp only [List.cons_append, List.nil_append]
    refine o_e rfl rfl rfl (e_assign rfl) ?_
    refine o_nil ?_
    refine n_code ?_
    refine c_seq ?_
    refine c_region ?_
    refine o_e rfl rfl rfl (e_move rfl) ?_
    first | refine o_e rfl rfl rfl (e_inen Tryz.runUnderlying80 rfl) ?_ | refine o_e rfl rfl rfl (e_nnen Tryz.runUnderlying80 rfl) ?_
    refine o_nil ?_
    refine n_code ?_
    refine c_then rfl ?_
    refine c_seq ?_
    refine c_region ?_
    refine o_e rfl rfl rfl (e_move rfl) ?_
    refine o_e rfl rfl rfl (e_assign rfl) ?_
    refine o_e rfl rfl rfl (e_assign rfl) ?_
    refine o_nil ?_
    refine n_code ?_
    refine c_ret ?_
    refine WR.sel (.cons .head .nil) ?_
    refine r_fn (l := [.tmp 2, .tmp 3]) Tryz.results41 rfl rfl ?_
    exact ⟨_, _, rfl, rfl⟩
theorem again_err (hge : Ge G gE gU) (hcut : Cut bs) : Ctr Tryz.prog 18 [S bs] G [] (fun r _ => r = .tuple #[.int .i64 0, S [], .bool false]) := by
  have hlen : bs.length < 30 := by
    cases hcut with
    | none h => subst h; simp
    | one h hb => subst h; simp
    | s h hl h1 => omega
    | m h hl h1 h2 => omega
  refine fn_enter 34 Tryz.func18 rfl Tryz.ntmps18 rfl ?_
  intro w0
  refine c_seq ?_
  refine c_region ?_
  refine o_e rfl rfl rfl (e_assign rfl) ?_
  refine o_e rfl rfl rfl (e_assign rfl) ?_
  refine o_e rfl rfl rfl (e_assign rfl) ?_
  refine o_nil ?_
  refine n_code ?_
  refine c_seq ?_
  refine c_region ?_
  refine o_e rfl rfl rfl (e_move rfl) ?_
  refine o_l rfl (l_sbc Tryz.underlying9 Tryz.underlying72 Tryz.underlying5 rfl rfl (by simp; omega) rfl rfl) ?_
  rintro ⟨gs, cap, rest, lo, hi⟩ hy
  refine o_l rfl (l_call Tryz.call40 newReader_is rfl rfl .nil) ?_
  rintro ⟨r, H'⟩ ⟨gr, rfl, rfl⟩
  simp only [List.cons_append, List.nil_append]
  refine o_e rfl rfl rfl (e_assign rfl) ?_
  refine o_nil ?_
  refine n_code ?_
  refine c_seq ?_
  refine c_region ?_
  refine o_e rfl rfl rfl (e_move rfl) ?_
  refine o_e rfl rfl rfl (e_mkif Tryz.runUnderlying75 rfl rfl) ?_
  refine o_l rfl (l_callj (HJ := [(gs, DB bs rest lo hi)]) Tryz.call41 (from_err (bs := bs) (List.mem_append_right _ (.head _)) (hge.mono fun _ h => List.mem_append_left _ h) rfl hy.le hy.lt hcut) rfl rfl (.cons .head .nil) (by simp)) ?_
  rintro ⟨r, H'⟩ ⟨g, i, rfl, rfl⟩
  simp only [List.cons_append, List.nil_append]
  refine o_e rfl rfl rfl (e_move rfl) ?_
  refine o_e rfl rfl rfl (e_extract rfl rfl) ?_
  refine o_e rfl rfl rfl (e_extract rfl rfl) ?_
  refine o_e rfl rfl rfl (e_assign rfl) ?_
  refine o_e rfl rfl rfl (e_assign rfl) ?_
  refine o_nil ?_
  refine n_code ?_
  refine c_seq ?_
  refine c_seq ?_
  refine c_region ?_
  refine o_e rfl rfl rfl (e_move rfl) ?_
  first | refine o_e rfl rfl rfl (e_inen Tryz.runUnderlying80 rfl) ?_ | refine o_e rfl rfl rfl (e_nnen Tryz.runUnderlying80 rfl) ?_
  refine o_nil ?_
  refine n_code ?_
  refine c_then rfl ?_
  refine c_seq ?_
  refine c_region ?_
  refine o_e rfl rfl rfl (e_assign rfl) ?_
  refine o_e rfl rfl rfl (e_assign rfl) ?_
  refine o_e rfl rfl rfl (e_assign rfl) ?_
  refine o_nil ?_
  refine n_code ?_
  refine c_ret ?_
  refine r_fn (l := [.tmp 2, .tmp 3, .tmp 4]) Tryz.results18 rfl rfl ?_
  exact rfl
end
end Go.Proofs

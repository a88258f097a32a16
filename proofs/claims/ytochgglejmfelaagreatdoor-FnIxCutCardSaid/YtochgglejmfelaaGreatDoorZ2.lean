/- laws.ixOne at its two kinds, run by laws: part 2. -/
import Derived.KernelRfl
import Derived.Test.YtochgglejmfelaaGreatDoorZ1
namespace Go.Proofs
open Go Go.Sl
set_option maxRecDepth 100000
set_option maxHeartbeats 4000000
theorem z40 {G : HP} (q0 : Tl) (h0 : TlOk 1 5 q0) :
    CtrE Tryz.prog 162 [Value.slice (some ⟨q0.g, 2, none⟩) 3 (q0.cap - 2)] G [(q0.g, Ob xb2 q0 5)] (T := Unit) (fun _ => True) (fun _ => Value.tuple #[Value.agg #[Value.int .u64 0, S [], Value.int .i64 1, Value.slice (some ⟨q0.g, 4, none⟩) 1 (q0.cap - 4)], Value.nilIface]) (fun _ => [(q0.g, Ob xb2 q0 5)]) := by
  refine fn_enter 33 Tryz.func162 rfl Tryz.ntmps162 rfl ?_
  intro w0
  refine c_seq <| c_region ?_
  refine o_l rfl (l_alloc Tryz.zeroValue181 rfl rfl) ?_; intro g1 _
  refine asg rfl rfl <| o_nil <| n_code <| c_seq <| c_region <| mv rfl rfl ?_
  refine o_l rfl (l_calle Tryz.call211 (z39 q0 h0) rfl rfl (.cons (.tail (.head)) (.nil))) ?_; intro r2 hr2
  refine o_cat (.cons (.nil)) <| mv rfl rfl <| oe rfl (e_extract rfl rfl) <| oe rfl (e_extract rfl rfl) <| oe rfl (e_extract rfl rfl) <| oe rfl (e_extract rfl rfl) <| asg rfl rfl <| asg rfl rfl <| asg rfl rfl <| asg rfl rfl <| o_nil <| n_code <| c_seq <| c_seq <| c_region <| mv rfl rfl <| oe rfl (e_nnen Tryz.runUnderlying80 rfl) <| o_nil <| n_code <| c_else rfl <| c_skip <| n_code <| c_seq <| c_region <| mv rfl rfl <| mv rfl rfl <| oe rfl (e_as (r := Value.int .i64 1) (e_lenl Tryz.runUnderlying72 rfl) rfl) ?_
  refine mv rfl rfl <| oe rfl (e_build (vs := [Value.int .u64 0, S [], Value.int .i64 1, Value.slice (some ⟨q0.g, 4, none⟩) 1 (q0.cap - 4)]) Tryz.runUnderlying181 Tryz.zeroValue181 (.cons Tryz.sizeOf23 (.cons Tryz.sizeOf9 (.cons Tryz.sizeOf3 (.cons Tryz.sizeOf72 (.nil))))) rfl (by kernel_rfl)) ?_
  refine o_l rfl (l_storea Tryz.sizeOf181 rfl rfl rfl (by simp [Value.oneCell']) (.tail (.head)) (.take (.take (.take (.take (.done))))) nofrs0) ?_; intro _ _
  refine o_nil <| n_code <| c_seq <| c_seq <| c_region <| mv rfl rfl <| oe rfl (e_as (r := Value.int .i64 3) (e_lenl Tryz.runUnderlying72 rfl) rfl) <| mv rfl rfl <| oi (Value.bool false) rfl rfl rfl (by kernel_rfl) <| o_nil <| n_code <| c_else rfl <| c_skip <| n_code <| c_seq <| c_region <| oe rfl (e_loada Tryz.isAgg181 Tryz.sizeOf181 rfl (.inl (.tail _ (.head _))) (.take (.take (.take (.take (.done)))))) ?_
  refine o_l rfl (l_storea Tryz.sizeOf181 rfl rfl rfl (by simp [Value.oneCell']) (.tail (.head)) (.take (.take (.take (.take (.done))))) nofrs0) ?_; intro _ _
  refine asg rfl rfl <| o_nil <| n_code <| c_ret <| r_fnx Tryz.results162 (.cella Tryz.isAgg181 Tryz.sizeOf181 rfl (.inl (.tail _ (.head _))) (.take (.take (.take (.take (.done))))) (.tmp rfl (.nil))) (.cons (.head) (.nil)) rfl ?_
  exact tells (y := (())) trivial rfl rfl

theorem z41 {G : HP} (q0 : Tl) (h0 : TlOk 1 5 q0) :
    CtrE Tryz.prog 92 [Value.slice (some ⟨q0.g, 2, none⟩) 3 (q0.cap - 2)] G [(q0.g, Ob xb2 q0 5)] (T := Nat) (fun _ => True) (fun y => Value.tuple #[Value.pointer (some ⟨y, 0, none⟩), Value.nilIface]) (fun y => [(q0.g, Ob xb2 q0 5), (y, C [Value.int .u64 0, S [], Value.int .i64 1, Value.slice (some ⟨q0.g, 4, none⟩) 1 (q0.cap - 4)] 181)]) := by
  refine fn_enter 14 Tryz.func92 rfl Tryz.ntmps92 rfl ?_
  intro w0
  refine c_seq <| c_region <| asg rfl rfl <| asg rfl rfl <| o_nil <| n_code <| c_seq <| c_region <| mv rfl rfl ?_
  refine o_l rfl (l_calle Tryz.call162 (z40 q0 h0) rfl rfl (.cons (.head) (.nil))) ?_; intro r1 hr1
  refine o_cat (.cons (.nil)) <| mv rfl rfl <| oe rfl (e_extract rfl rfl) <| oe rfl (e_extract rfl rfl) ?_
  refine o_l rfl (l_alloc Tryz.zeroValue181 rfl rfl) ?_; intro g2 _
  refine o_l rfl (l_storea Tryz.sizeOf181 rfl rfl rfl (by simp [Value.oneCell']) (.head) (.take (.take (.take (.take (.done))))) nofrs0) ?_; intro _ _
  refine asg rfl rfl <| o_nil <| n_code <| c_seq <| c_seq <| c_region <| mv rfl rfl <| oe rfl (e_nnen Tryz.runUnderlying80 rfl) <| o_nil <| n_code <| c_else rfl <| c_skip <| n_code <| c_seq <| c_region <| asg rfl rfl <| asg rfl rfl <| o_nil <| n_code <| c_ret <| WR.sel (.cons (.tail (.head)) (.cons (.head) (.nil))) <| r_fn (l := [.tmp 2, .tmp 3]) Tryz.results92 rfl rfl ?_
  exact tells (y := (g2)) trivial rfl rfl

theorem z42 {G : HP} (q0 : Tl) (h0 : TlOk 2 1 q0) (q1 : Tl) (h1 : TlOk 1 5 q1) :
    CtrE Tryz.prog 424 [Value.slice (some ⟨q0.g, 0, none⟩) 1 q0.cap] G [(q0.g, Ob [Value.slice (some ⟨q1.g, 4, none⟩) 1 (q1.cap - 4), Value.int .u64 7] q0 455), (q1.g, Ob xb2 q1 5)] (T := Unit) (fun _ => True) (fun _ => Value.int .i64 1) (fun _ => [(q0.g, Ob [Value.slice (some ⟨q1.g, 4, none⟩) 1 (q1.cap - 4), Value.int .u64 7] q0 455), (q1.g, Ob xb2 q1 5)]) := by
  refine fn_enter 5 Tryz.func424 rfl Tryz.ntmps424 rfl ?_
  intro w0
  refine c_seq <| c_region <| asg rfl rfl <| o_nil <| n_code <| c_seq <| c_region <| mv rfl rfl <| oe rfl (e_as (r := Value.int .i64 1) (e_lenl Tryz.runUnderlying457 rfl) rfl) <| asg rfl rfl <| o_nil <| n_code <| c_ret <| WR.sel (.cons (.head) (.cons (.head) (.nil))) <| r_fn1 Tryz.results424 rfl ?_
  exact tells (y := (())) trivial rfl rfl

theorem z43 {G : HP} (q0 : Tl) (h0 : TlOk 2 1 q0) (q1 : Tl) (h1 : TlOk 1 5 q1) :
    CtrE Tryz.prog 324 [Value.iface 457 (Value.slice (some ⟨q0.g, 0, none⟩) 1 q0.cap)] G [(q0.g, Ob [Value.slice (some ⟨q1.g, 4, none⟩) 1 (q1.cap - 4), Value.int .u64 7] q0 455), (q1.g, Ob xb2 q1 5)] (T := Unit) (fun _ => True) (fun _ => Value.tuple #[]) (fun _ => [(q0.g, Ob [Value.slice (some ⟨q1.g, 4, none⟩) 1 (q1.cap - 4), Value.int .u64 7] q0 455), (q1.g, Ob xb2 q1 5)]) := by
  refine fn_enter 15 Tryz.func324 rfl Tryz.ntmps324 rfl ?_
  intro w0
  refine c_seq <| c_region <| mv rfl rfl ?_
  refine o_l rfl (l_callie Tryz.call424 (by intro w; kernel_rfl) (z42 q0 h0 q1 h1) rfl rfl rfl (.cons (.head) (.cons (.head) (.nil)))) ?_; intro r1 hr1
  refine o_cat (.cons (.cons (.nil))) <| asg rfl rfl <| o_nil <| n_code <| c_seq <| c_seq <| c_region <| mv rfl rfl <| oi (Value.bool true) rfl rfl rfl (by kernel_rfl) <| o_nil <| n_code <| c_then rfl <| c_ret <| WR.sel (.cons (.head) (.cons (.head) (.nil))) <| r_fn0 Tryz.results324 ?_
  exact tells (y := (())) trivial rfl rfl

theorem z44 {G : HP} (p0 : Nat) :
    CtrE Tryz.prog 179 [Value.agg #[], Value.slice (some ⟨p0, 1, none⟩) 8 8, Value.int .u64 7] G [(p0, C [ub 97, ub 0, ub 0, ub 0, ub 0, ub 0, ub 0, ub 0, ub 0] 5)] (T := Unit) (fun _ => True) (fun _ => Value.tuple #[]) (fun _ => [(p0, C xb3 5)]) := by
  refine fn_enter 48 Tryz.func179 rfl Tryz.ntmps179 rfl ?_
  intro w0
  refine c_seq <| c_region ?_
  refine o_l rfl (l_box rfl rfl rfl) ?_; intro g1 _
  refine o_nil <| n_code <| c_seq <| c_region <| mv rfl rfl <| oe rfl (e_as (r := Value.pointer (some ⟨p0, 8, none⟩)) (e_ia Tryz.runUnderlying72 Tryz.sizeOf5 rfl rfl (by decide) (by decide)) rfl) <| oe rfl (e_load Tryz.isAgg5 rfl (.inl (.tail _ (.head _))) rfl) <| o_nil <| n_code <| c_seq <| c_region <| mv rfl rfl <| mv rfl rfl <| oe rfl (e_convc (r := ub 7) Tryz.runUnderlying23 Tryz.runUnderlying5 rfl (by kernel_rfl)) ?_
  refine oe rfl (e_as (r := Value.pointer (some ⟨p0, 1, none⟩)) (e_ia Tryz.runUnderlying72 Tryz.sizeOf5 rfl rfl (by decide) (by decide)) rfl) ?_
  refine o_l rfl (l_store Tryz.sizeOf5 rfl rfl rfl (.tail (.head)) (.tail (.head)) nofr0) ?_; intro _ _
  refine o_nil <| n_code <| c_seq <| c_region <| mv rfl rfl <| mv rfl rfl <| oe rfl (e_shrc (r := Value.int .u64 0) rfl rfl rfl (by kernel_rfl)) <| oe rfl (e_convc (r := ub 0) Tryz.runUnderlying23 Tryz.runUnderlying5 rfl (by kernel_rfl)) <| oe rfl (e_as (r := Value.pointer (some ⟨p0, 2, none⟩)) (e_ia Tryz.runUnderlying72 Tryz.sizeOf5 rfl rfl (by decide) (by decide)) rfl) ?_
  refine o_l rfl (l_store Tryz.sizeOf5 rfl rfl rfl (.tail (.head)) (.tail (.tail (.head))) nofr0) ?_; intro _ _
  refine o_nil <| n_code <| c_seq <| c_region <| mv rfl rfl <| mv rfl rfl <| oe rfl (e_shrc (r := Value.int .u64 0) rfl rfl rfl (by kernel_rfl)) <| oe rfl (e_convc (r := ub 0) Tryz.runUnderlying23 Tryz.runUnderlying5 rfl (by kernel_rfl)) <| oe rfl (e_as (r := Value.pointer (some ⟨p0, 3, none⟩)) (e_ia Tryz.runUnderlying72 Tryz.sizeOf5 rfl rfl (by decide) (by decide)) rfl) ?_
  refine o_l rfl (l_store Tryz.sizeOf5 rfl rfl rfl (.tail (.head)) (.tail (.tail (.tail (.head)))) nofr0) ?_; intro _ _
  refine o_nil <| n_code <| c_seq <| c_region <| mv rfl rfl <| mv rfl rfl <| oe rfl (e_shrc (r := Value.int .u64 0) rfl rfl rfl (by kernel_rfl)) <| oe rfl (e_convc (r := ub 0) Tryz.runUnderlying23 Tryz.runUnderlying5 rfl (by kernel_rfl)) <| oe rfl (e_as (r := Value.pointer (some ⟨p0, 4, none⟩)) (e_ia Tryz.runUnderlying72 Tryz.sizeOf5 rfl rfl (by decide) (by decide)) rfl) ?_
  refine o_l rfl (l_store Tryz.sizeOf5 rfl rfl rfl (.tail (.head)) (.tail (.tail (.tail (.tail (.head))))) nofr0) ?_; intro _ _
  refine o_nil <| n_code <| c_seq <| c_region <| mv rfl rfl <| mv rfl rfl <| oe rfl (e_shrc (r := Value.int .u64 0) rfl rfl rfl (by kernel_rfl)) <| oe rfl (e_convc (r := ub 0) Tryz.runUnderlying23 Tryz.runUnderlying5 rfl (by kernel_rfl)) <| oe rfl (e_as (r := Value.pointer (some ⟨p0, 5, none⟩)) (e_ia Tryz.runUnderlying72 Tryz.sizeOf5 rfl rfl (by decide) (by decide)) rfl) ?_
  refine o_l rfl (l_store Tryz.sizeOf5 rfl rfl rfl (.tail (.head)) (.tail (.tail (.tail (.tail (.tail (.head)))))) nofr0) ?_; intro _ _
  refine o_nil <| n_code <| c_seq <| c_region <| mv rfl rfl <| mv rfl rfl <| oe rfl (e_shrc (r := Value.int .u64 0) rfl rfl rfl (by kernel_rfl)) <| oe rfl (e_convc (r := ub 0) Tryz.runUnderlying23 Tryz.runUnderlying5 rfl (by kernel_rfl)) <| oe rfl (e_as (r := Value.pointer (some ⟨p0, 6, none⟩)) (e_ia Tryz.runUnderlying72 Tryz.sizeOf5 rfl rfl (by decide) (by decide)) rfl) ?_
  refine o_l rfl (l_store Tryz.sizeOf5 rfl rfl rfl (.tail (.head)) (.tail (.tail (.tail (.tail (.tail (.tail (.head))))))) nofr0) ?_; intro _ _
  refine o_nil <| n_code <| c_seq <| c_region <| mv rfl rfl <| mv rfl rfl <| oe rfl (e_shrc (r := Value.int .u64 0) rfl rfl rfl (by kernel_rfl)) <| oe rfl (e_convc (r := ub 0) Tryz.runUnderlying23 Tryz.runUnderlying5 rfl (by kernel_rfl)) <| oe rfl (e_as (r := Value.pointer (some ⟨p0, 7, none⟩)) (e_ia Tryz.runUnderlying72 Tryz.sizeOf5 rfl rfl (by decide) (by decide)) rfl) ?_
  refine o_l rfl (l_store Tryz.sizeOf5 rfl rfl rfl (.tail (.head)) (.tail (.tail (.tail (.tail (.tail (.tail (.tail (.head)))))))) nofr0) ?_; intro _ _
  refine o_nil <| n_code <| c_region <| mv rfl rfl <| mv rfl rfl <| oe rfl (e_shrc (r := Value.int .u64 0) rfl rfl rfl (by kernel_rfl)) <| oe rfl (e_convc (r := ub 0) Tryz.runUnderlying23 Tryz.runUnderlying5 rfl (by kernel_rfl)) <| oe rfl (e_as (r := Value.pointer (some ⟨p0, 8, none⟩)) (e_ia Tryz.runUnderlying72 Tryz.sizeOf5 rfl rfl (by decide) (by decide)) rfl) ?_
  refine o_l rfl (l_store Tryz.sizeOf5 rfl rfl rfl (.tail (.head)) (.tail (.tail (.tail (.tail (.tail (.tail (.tail (.tail (.head))))))))) nofr0) ?_; intro _ _
  refine o_nil <| WN.sel (.cons (.tail (.head)) (.nil)) <| n_fn0 Tryz.results179 ?_
  exact tells (y := (())) trivial rfl rfl

theorem z45 {G : HP} (q0 : Tl) (h0 : TlOk 1 5 q0) (p1 : Nat) :
    CtrE Tryz.prog 325 [Value.agg #[Value.slice (some ⟨q0.g, 4, none⟩) 1 (q0.cap - 4), Value.int .u64 7], Value.slice (some ⟨p1, 0, none⟩) 9 9] G [(q0.g, Ob xb2 q0 5), (p1, C xb4 5)] (T := Unit) (fun _ => True) (fun _ => Value.tuple #[]) (fun _ => [(q0.g, Ob xb2 q0 5), (p1, C xb3 5)]) := by
  refine fn_enter 17 Tryz.func325 rfl Tryz.ntmps325 rfl ?_
  intro w0
  refine c_seq <| c_region ?_
  refine o_l rfl (l_box rfl rfl rfl) ?_; intro g1 _
  refine o_nil <| n_code <| c_seq <| c_regiond [(g1, C [Value.slice (some ⟨q0.g, 4, none⟩) 1 (q0.cap - 4), Value.int .u64 7] 455), (q0.g, Ob xb2 q0 5)] (by kernel_rfl) (.cons_cons _ (.cons_cons _ (.cons _ (.slnil)))) <| d_e 0 (fun _ _ _ _ _ h => h) rfl (by kernel_rfl) (by kernel_rfl) (by kernel_rfl) rfl rfl rfl (e_move rfl) ?_
  refine d_e 1 (fun _ _ _ _ _ h => h) rfl (by kernel_rfl) (by kernel_rfl) (by kernel_rfl) rfl rfl rfl (e_sl_n Tryz.runUnderlying72 Tryz.sizeOf5 rfl) <| d_e 2 (fun _ _ _ _ _ h => h) rfl (by kernel_rfl) (by kernel_rfl) (by kernel_rfl) rfl rfl rfl (e_as (r := Value.pointer (some ⟨g1, 0, none⟩)) (e_fa Tryz.runUnderlying455 rfl Tryz.sizeOf72 rfl rfl) rfl) <| d_e 3 (fun _ _ _ _ _ h => h) rfl (by kernel_rfl) (by kernel_rfl) (by kernel_rfl) rfl rfl rfl (e_load Tryz.isAgg72 rfl (.inl (.head _)) rfl) ?_
  refine d_l 4 (by kernel_rfl) rfl rfl (l_copy (vs := [ub 97]) (k' := 1) Tryz.runUnderlying72 Tryz.sizeOf5 rfl rfl rfl (Sv.blk (vs := [ub 97]) Tryz.underlying72 (.inl (.tail _ (.head _))) (.skip (.skip (.skip (.skip (.take (.done)))))) (by simp [Value.oneCell'])) rfl (.tail (.tail (.head))) (.take (.done)) (.inr rfl)) (fun _ _ => hs_cons (.head _) (hs_cons (.tail _ (.head _)) (hs_nil))) ?_
  intro _ _
  refine d_e 5 (fun _ _ _ _ _ h => h) rfl (by kernel_rfl) (by kernel_rfl) (by kernel_rfl) rfl rfl rfl (e_assign rfl) <| d_nil (by kernel_rfl) <| n_code <| c_regiond [(g1, C [Value.slice (some ⟨q0.g, 4, none⟩) 1 (q0.cap - 4), Value.int .u64 7] 455), (q0.g, Ob xb2 q0 5)] (by kernel_rfl) (.cons_cons _ (.cons_cons _ (.cons _ (.slnil)))) ?_
  refine d_e 0 (fun _ _ _ _ _ h => h) rfl (by kernel_rfl) (by kernel_rfl) (by kernel_rfl) rfl rfl rfl (e_load0 Tryz.isAgg294 Tryz.sizeOf294 rfl) <| d_e 1 (fun _ _ _ _ _ h => h) rfl (by kernel_rfl) (by kernel_rfl) (by kernel_rfl) rfl rfl rfl (e_move rfl) <| d_e 2 (fun _ _ _ _ _ h => h) rfl (by kernel_rfl) (by kernel_rfl) (by kernel_rfl) rfl rfl rfl (e_move rfl) ?_
  refine d_e 3 (fun _ _ _ _ _ h => h) rfl (by kernel_rfl) (by kernel_rfl) (by kernel_rfl) rfl rfl rfl (e_as (r := Value.slice (some ⟨p1, 1, none⟩) 8 8) (e_sl_l Tryz.runUnderlying72 Tryz.sizeOf5 rfl rfl (by decide) (by decide) (by decide)) (by first | rfl | (simp; try omega))) <| d_e 4 (fun _ _ _ _ _ h => h) rfl (by kernel_rfl) (by kernel_rfl) (by kernel_rfl) rfl rfl rfl (e_as (r := Value.pointer (some ⟨g1, 1, none⟩)) (e_fa Tryz.runUnderlying455 rfl Tryz.sizeOf23 rfl rfl) rfl) ?_
  refine d_e 5 (fun _ _ _ _ _ h => h) rfl (by kernel_rfl) (by kernel_rfl) (by kernel_rfl) rfl rfl rfl (e_load Tryz.isAgg23 rfl (.inl (.head _)) rfl) <| d_l 6 (by kernel_rfl) rfl rfl (l_calle Tryz.call179 (z44 (p1)) rfl rfl (.cons (.tail (.tail (.head))) (.nil))) (fun _ _ => hs_cons (.tail _ (.head _)) (hs_cons (.tail _ (.tail _ (.head _))) (hs_nil))) ?_
  intro r2 hr2
  refine d_cat (.cons (.nil)) <| d_nil (by kernel_rfl) <| WN.sel (.cons (.tail (.tail (.head))) (.cons (.head) (.nil))) <| n_fn0 Tryz.results325 ?_
  exact tells (y := (())) trivial rfl rfl

theorem z46 {G : HP} (p0 : Nat) (p1 : Nat) (q2 : Tl) (h2 : TlOk 2 1 q2) :
    CtrE Tryz.prog 316 [Value.pointer (some ⟨p0, 0, none⟩), Value.slice (some ⟨q2.g, 0, none⟩) 1 q2.cap] G [(p0, C [Value.map (some p1)] 327), (p1, Mo .u32 []), (q2.g, Ob [S [1, 85, 0, 1, 97], Value.int .u64 7] q2 184)] (T := Nat) (fun _ => True) (fun y => Value.nilIface) (fun y => [(p0, C [Value.map (some p1)] 327), (p1, Mo .u32 [(9, Value.agg #[Value.int .u32 9, Value.int .u64 1, Value.slice (some ⟨y, 0, none⟩) 9 9])]), (q2.g, Ob [S [1, 85, 0, 1, 97], Value.int .u64 7] q2 184), (y, C xb3 5)]) := by
  refine fn_enter 119 Tryz.func316 rfl Tryz.ntmps316 rfl ?_
  intro w0
  refine c_seq <| c_region <| asg rfl rfl <| o_nil <| n_code <| c_seq <| c_region ?_
  refine o_l rfl (l_mkmap rfl .i64) ?_; intro g1 _
  refine asg rfl rfl <| o_nil <| n_code <| c_seq <| c_seq <| c_region <| mv rfl rfl <| oe rfl (e_as (r := Value.int .i64 1) (e_lenl Tryz.runUnderlying182 rfl) rfl) <| mv rfl rfl <| o_nil <| n_code <| c_block <| c_rounds 999 <| c_seq <| c_region <| oi (Value.bool true) rfl rfl rfl (by kernel_rfl) <| o_nil <| n_code <| c_seq <| c_then rfl <| c_skip <| n_code <| c_seq <| c_block <| c_seq <| c_region ?_
  refine oe rfl (e_as (r := Value.pointer (some ⟨q2.g, 0, none⟩)) (e_ia Tryz.runUnderlying182 Tryz.sizeOf184 rfl rfl (by decide) (by decide)) rfl) <| oe rfl (e_loada Tryz.isAgg184 Tryz.sizeOf184 rfl (.inl (.tail _ (.tail _ (.tail _ (.head _))))) (.take (.take (.done)))) ?_
  refine o_l rfl (l_alloc Tryz.zeroValue184 rfl rfl) ?_; intro g2 _
  refine o_l rfl (l_storea Tryz.sizeOf184 rfl rfl rfl (by simp [Value.oneCell']) (.head) (.take (.take (.done))) nofrs0) ?_; intro _ _
  refine o_nil <| n_code <| c_seq <| c_region <| oe rfl (e_as (r := Value.pointer (some ⟨g2, 0, none⟩)) (e_fa Tryz.runUnderlying184 rfl Tryz.sizeOf111 rfl rfl) rfl) <| oe rfl (e_loada Tryz.isAgg111 Tryz.sizeOf111 rfl (.inl (.head _)) (.take (.done))) ?_
  refine o_l rfl (l_calle Tryz.call93 (z34 ) rfl rfl (.nil)) ?_; intro r3 hr3
  refine o_cat (.cons (.nil)) ?_
  refine o_l rfl (l_calle Tryz.call92 (z41 r3 hr3) rfl rfl (.cons (.head) (.nil))) ?_; intro r4 hr4
  refine o_cat (.cons (.cons (.nil))) <| mv rfl rfl <| oe rfl (e_extract rfl rfl) <| oe rfl (e_extract rfl rfl) <| asg rfl rfl <| asg rfl rfl <| o_nil <| n_code <| c_seq <| c_seq <| c_region <| mv rfl rfl <| oe rfl (e_nnen Tryz.runUnderlying80 rfl) <| o_nil <| n_code <| c_else rfl <| c_skip <| n_code <| c_seq <| c_region <| mv rfl rfl <| oe rfl (e_nilCheck rfl) <| oe rfl (e_as (r := Value.pointer (some ⟨r4, 3, none⟩)) (e_fa Tryz.runUnderlying181 rfl Tryz.sizeOf72 rfl rfl) rfl) ?_
  refine oe rfl (e_load Tryz.isAgg72 rfl (.inl (.tail _ (.head _))) rfl) <| asg rfl rfl <| o_nil <| n_code <| c_seq <| c_region <| mv rfl rfl <| mv rfl rfl <| oe rfl (e_as (r := Value.int .i64 1) (e_lenl Tryz.runUnderlying72 rfl) rfl) <| oe rfl (e_as (r := Value.tuple #[Value.slice none 0 0, Value.bool false]) (e_lookup2 Tryz.runUnderlying451 Tryz.runUnderlying3 Tryz.zeroValue452 rfl rfl (.inl (.tail _ (.tail _ (.tail _ (.head _)))))) (by kernel_rfl)) <| mv rfl rfl <| oe rfl (e_extract rfl rfl) ?_
  refine oe rfl (e_extract rfl rfl) <| asg rfl rfl <| asg rfl rfl <| o_nil <| n_code <| c_seq <| c_seq <| c_region <| mv rfl rfl <| oe rfl (e_as (r := Value.bool true) (e_not rfl) rfl) <| o_nil <| n_code <| c_then rfl <| c_seq <| c_region <| mv rfl rfl <| mv rfl rfl <| oe rfl (e_as (r := Value.int .i64 1) (e_lenl Tryz.runUnderlying72 rfl) rfl) ?_
  refine o_l rfl (l_mksc (l := []) (n := 0) (m := 0) Tryz.underlying452 (info_of Tryz.typeInfo455) rfl rfl rfl rfl rfl rfl rfl (by decide) (by kernel_rfl)) ?_; intro g5 _
  refine o_l rfl (l_mapup Tryz.runUnderlying451 Tryz.runUnderlying3 rfl rfl rfl (.tail (.tail (.tail (.tail (.head)))))) ?_; intro _ _
  refine o_nil <| n_code <| c_region <| mv rfl rfl <| mv rfl rfl <| oe rfl (e_as (r := Value.int .i64 1) (e_lenl Tryz.runUnderlying72 rfl) rfl) <| oe rfl (e_as (r := Value.slice (some ⟨g5, 0, none⟩) 0 0) (e_lookup Tryz.runUnderlying451 Tryz.runUnderlying3 Tryz.zeroValue452 rfl rfl (.inl (.tail _ (.tail _ (.tail _ (.tail _ (.head _))))))) (by kernel_rfl)) <| asg rfl rfl <| o_nil <| n_code <| c_region <| mv rfl rfl <| mv rfl rfl <| oe rfl (e_as (r := Value.int .i64 1) (e_lenl Tryz.runUnderlying72 rfl) rfl) ?_
  refine mv rfl rfl <| mv rfl rfl <| oe rfl (e_as (r := Value.pointer (some ⟨g2, 1, none⟩)) (e_fa Tryz.runUnderlying184 rfl Tryz.sizeOf23 rfl rfl) rfl) <| oe rfl (e_load Tryz.isAgg23 rfl (.inl (.tail _ (.tail _ (.tail _ (.head _))))) rfl) <| oe rfl (e_build (vs := [Value.slice (some ⟨r3.g, 4, none⟩) 1 (r3.cap - 4), Value.int .u64 7]) Tryz.runUnderlying455 Tryz.zeroValue455 (.cons Tryz.sizeOf72 (.cons Tryz.sizeOf23 (.nil))) rfl (by kernel_rfl)) ?_
  refine o_l rfl (l_bs (l := [Value.slice (some ⟨r3.g, 4, none⟩) 1 (r3.cap - 4), Value.int .u64 7]) Tryz.runUnderlying452 Tryz.sizeOf455 Tryz.zeroValue455 rfl rfl rfl rfl (by kernel_rfl)) ?_; intro g6 _
  refine o_l rfl (l_app (off := 1) (L := [Value.slice (some ⟨r3.g, 4, none⟩) 1 (r3.cap - 4), Value.int .u64 7]) Tryz.underlying452 (info_of Tryz.typeInfo455) rfl rfl rfl rfl rfl rfl (.tail (.head)) rfl (by decide) (by decide) (.inr rfl) (.done) (Sv.blk (vs := [Value.slice (some ⟨r3.g, 4, none⟩) 1 (r3.cap - 4), Value.int .u64 7]) Tryz.underlying452 (.inl (.head _)) (.take (.take (.done))) (by simp [Value.oneCell'])) (.nil) rfl rfl rfl rfl) ?_; intro y7 hy7
  refine o_l rfl (l_mapup Tryz.runUnderlying451 Tryz.runUnderlying3 rfl rfl rfl (.tail (.tail (.tail (.tail (.tail (.head))))))) ?_; intro _ _
  refine o_nil <| n_block <| n_code ?_
  refine c_keep (sub_cons (k := 67) rfl (sub_cons (k := 66) rfl (sub_cons (k := 65) rfl (sub_cons (k := 64) rfl (sub_cons (k := 63) rfl (sub_cons (k := 62) rfl (sub_cons (k := 61) rfl (sub_cons (k := 60) rfl (sub_cons (k := 59) rfl (sub_cons (k := 58) rfl (sub_cons (k := 11) rfl (sub_cons (k := 57) rfl (sub_cons (k := 56) rfl (sub_cons (k := 55) rfl (sub_cons (k := 54) rfl (sub_cons (k := 53) rfl (sub_cons (k := 52) rfl (sub_cons (k := 51) rfl (sub_cons (k := 50) rfl (sub_cons (k := 49) rfl (sub_cons (k := 48) rfl (sub_cons (k := 12) rfl (sub_cons (k := 47) rfl (sub_cons (k := 46) rfl (sub_cons (k := 41) rfl (sub_cons (k := 45) rfl (sub_cons (k := 44) rfl (sub_cons (k := 43) rfl (sub_cons (k := 42) rfl (sub_cons (k := 10) rfl (sub_cons (k := 40) rfl (sub_cons (k := 39) rfl (sub_cons (k := 38) rfl (sub_cons (k := 37) rfl (sub_cons (k := 35) rfl (sub_cons (k := 34) rfl (sub_cons (k := 9) rfl (sub_cons (k := 8) rfl (sub_cons (k := 33) rfl (sub_cons (k := 32) rfl (sub_cons (k := 27) rfl (sub_cons (k := 31) rfl (sub_cons (k := 30) rfl (sub_cons (k := 29) rfl (sub_cons (k := 28) rfl (sub_cons (k := 7) rfl (sub_cons (k := 26) rfl (sub_cons (k := 25) rfl (sub_cons (k := 24) rfl (sub_cons (k := 23) rfl (sub_cons (k := 22) rfl (sub_cons (k := 21) rfl (sub_cons (k := 5) rfl (sub_cons (k := 4) rfl (sub_cons (k := 0) rfl (sub_nil)))))))))))))))))))))))))))))))))))))))))))))))))))))))) ?_
  refine c_region <| oi (Value.int .i64 1) rfl rfl rfl (by kernel_rfl) <| mv rfl rfl <| o_nil <| n_rounds ?_
  refine c_keep (sub_cons (k := 23) rfl (sub_cons (k := 68) rfl (sub_cons (k := 67) rfl (sub_cons (k := 66) rfl (sub_cons (k := 65) rfl (sub_cons (k := 64) rfl (sub_cons (k := 63) rfl (sub_cons (k := 62) rfl (sub_cons (k := 61) rfl (sub_cons (k := 60) rfl (sub_cons (k := 59) rfl (sub_cons (k := 58) rfl (sub_cons (k := 11) rfl (sub_cons (k := 57) rfl (sub_cons (k := 56) rfl (sub_cons (k := 55) rfl (sub_cons (k := 54) rfl (sub_cons (k := 53) rfl (sub_cons (k := 52) rfl (sub_cons (k := 51) rfl (sub_cons (k := 50) rfl (sub_cons (k := 49) rfl (sub_cons (k := 48) rfl (sub_cons (k := 12) rfl (sub_cons (k := 47) rfl (sub_cons (k := 46) rfl (sub_cons (k := 41) rfl (sub_cons (k := 45) rfl (sub_cons (k := 44) rfl (sub_cons (k := 43) rfl (sub_cons (k := 42) rfl (sub_cons (k := 10) rfl (sub_cons (k := 40) rfl (sub_cons (k := 39) rfl (sub_cons (k := 38) rfl (sub_cons (k := 37) rfl (sub_cons (k := 35) rfl (sub_cons (k := 34) rfl (sub_cons (k := 9) rfl (sub_cons (k := 8) rfl (sub_cons (k := 33) rfl (sub_cons (k := 32) rfl (sub_cons (k := 27) rfl (sub_cons (k := 31) rfl (sub_cons (k := 30) rfl (sub_cons (k := 29) rfl (sub_cons (k := 28) rfl (sub_cons (k := 7) rfl (sub_cons (k := 26) rfl (sub_cons (k := 25) rfl (sub_cons (k := 24) rfl (sub_cons (k := 22) rfl (sub_cons (k := 21) rfl (sub_cons (k := 5) rfl (sub_cons (k := 4) rfl (sub_cons (k := 0) rfl (sub_nil))))))))))))))))))))))))))))))))))))))))))))))))))))))))) ?_
  refine c_seq ?_
  refine c_keep (sub_cons (k := 23) rfl (sub_cons (k := 68) rfl (sub_cons (k := 67) rfl (sub_cons (k := 66) rfl (sub_cons (k := 65) rfl (sub_cons (k := 64) rfl (sub_cons (k := 63) rfl (sub_cons (k := 62) rfl (sub_cons (k := 61) rfl (sub_cons (k := 60) rfl (sub_cons (k := 59) rfl (sub_cons (k := 58) rfl (sub_cons (k := 11) rfl (sub_cons (k := 57) rfl (sub_cons (k := 56) rfl (sub_cons (k := 55) rfl (sub_cons (k := 54) rfl (sub_cons (k := 53) rfl (sub_cons (k := 52) rfl (sub_cons (k := 51) rfl (sub_cons (k := 50) rfl (sub_cons (k := 49) rfl (sub_cons (k := 48) rfl (sub_cons (k := 12) rfl (sub_cons (k := 47) rfl (sub_cons (k := 46) rfl (sub_cons (k := 41) rfl (sub_cons (k := 45) rfl (sub_cons (k := 44) rfl (sub_cons (k := 43) rfl (sub_cons (k := 42) rfl (sub_cons (k := 10) rfl (sub_cons (k := 40) rfl (sub_cons (k := 39) rfl (sub_cons (k := 38) rfl (sub_cons (k := 37) rfl (sub_cons (k := 35) rfl (sub_cons (k := 34) rfl (sub_cons (k := 9) rfl (sub_cons (k := 8) rfl (sub_cons (k := 33) rfl (sub_cons (k := 32) rfl (sub_cons (k := 27) rfl (sub_cons (k := 31) rfl (sub_cons (k := 30) rfl (sub_cons (k := 29) rfl (sub_cons (k := 28) rfl (sub_cons (k := 7) rfl (sub_cons (k := 26) rfl (sub_cons (k := 25) rfl (sub_cons (k := 24) rfl (sub_cons (k := 22) rfl (sub_cons (k := 21) rfl (sub_cons (k := 5) rfl (sub_cons (k := 4) rfl (sub_cons (k := 0) rfl (sub_nil))))))))))))))))))))))))))))))))))))))))))))))))))))))))) ?_
  refine c_region <| oi (Value.bool false) rfl rfl rfl (by kernel_rfl) <| o_nil <| n_code <| c_seq <| c_else rfl <| c_exit <| x_code <| x_upto <| x_here <| n_code <| c_seq <| c_seq <| c_keep (sub_cons (k := 5) rfl (sub_cons (k := 4) rfl (sub_cons (k := 0) rfl (sub_nil)))) <| c_region <| mv rfl rfl ?_
  refine o_l rfl (l_range Tryz.runUnderlying451 rfl rfl (.inl (.tail _ (.tail _ (.tail _ (.tail _ (.tail _ (.head _)))))))) ?_; intro g8 _
  refine o_nil <| n_code <| c_block <| c_rounds 999 <| c_seq <| c_region ?_
  refine o_l rfl (l_next1 0 rfl rfl (.inl (.tail _ (.tail _ (.tail _ (.tail _ (.tail _ (.tail _ (.head _)))))))) (.head) rfl rfl rfl) ?_; intro _ _
  refine oe rfl (e_extract rfl rfl) <| o_nil <| n_code <| c_seq <| c_then rfl <| c_skip <| n_code <| c_block <| c_seq <| c_region <| oe rfl (e_entry (j := 0) (seen := []) rfl (.inl (.head _)) (.inl (.tail _ (.tail _ (.tail _ (.tail _ (.tail _ (.tail _ (.head _)))))))) rfl) <| oe rfl (e_extract rfl rfl) <| oe rfl (e_extract rfl rfl) <| asg rfl rfl <| asg rfl rfl <| o_nil <| n_code <| c_seq <| c_region <| mv rfl rfl <| oe rfl (e_mkif Tryz.runUnderlying457 rfl rfl) ?_
  refine o_l rfl (l_calle Tryz.call324 (z43 y7 hy7 r3 hr3) rfl rfl (.cons (.tail (.head)) (.cons (.tail (.tail (.head))) (.nil)))) ?_; intro r9 hr9
  refine o_cat (.cons (.cons (.nil))) <| o_nil <| n_code <| c_seq <| c_region <| mv rfl rfl <| oi (Value.int .i64 9) rfl rfl rfl (by kernel_rfl) <| asg rfl rfl <| o_nil <| n_code <| c_seq <| c_region <| mv rfl rfl <| mv rfl rfl <| oe rfl (e_as (r := Value.int .i64 1) (e_lenl Tryz.runUnderlying452 rfl) rfl) <| oi (Value.int .i64 9) rfl rfl rfl (by kernel_rfl) ?_
  refine o_l rfl (l_mksc (l := xb4) (n := 9) (m := 9) Tryz.underlying72 (info_of Tryz.typeInfo5) rfl rfl rfl rfl rfl rfl rfl (by decide) (by kernel_rfl)) ?_; intro g10 _
  refine asg rfl rfl <| o_nil <| n_code <| c_seq <| c_seq <| c_region <| mv rfl rfl <| oe rfl (e_as (r := Value.int .i64 1) (e_lenl Tryz.runUnderlying452 rfl) rfl) <| mv rfl rfl <| o_nil <| n_code <| c_block <| c_rounds 999 <| c_seq <| c_region <| oi (Value.bool true) rfl rfl rfl (by kernel_rfl) <| o_nil <| n_code <| c_seq <| c_then rfl <| c_skip <| n_code <| c_seq <| c_block <| c_seq <| c_region <| mv rfl rfl ?_
  refine oe rfl (e_as (r := Value.pointer (some ⟨y7.g, 0, none⟩)) (e_ia Tryz.runUnderlying452 Tryz.sizeOf455 rfl rfl (by decide) (by decide)) rfl) <| oe rfl (e_loada Tryz.isAgg455 Tryz.sizeOf455 rfl (.inl (.tail _ (.head _))) (.take (.take (.done)))) ?_
  refine o_l rfl (l_alloc Tryz.zeroValue455 rfl rfl) ?_; intro g11 _
  refine asg rfl rfl ?_
  refine o_l rfl (l_storea Tryz.sizeOf455 rfl rfl rfl (by simp [Value.oneCell']) (.head) (.take (.take (.done))) nofrs0) ?_; intro _ _
  refine o_nil <| n_code ?_
  refine c_regiond [(g11, C [Value.slice (some ⟨r3.g, 4, none⟩) 1 (r3.cap - 4), Value.int .u64 7] 455), (y7.g, Ob [Value.slice (some ⟨r3.g, 4, none⟩) 1 (r3.cap - 4), Value.int .u64 7] y7 455), (r3.g, Ob xb2 r3 5), (g8, Io g1 1 [0]), (g6, C [Value.slice (some ⟨r3.g, 4, none⟩) 1 (r3.cap - 4), Value.int .u64 7] 455), (r4, C [Value.int .u64 0, S [], Value.int .i64 1, Value.slice (some ⟨r3.g, 4, none⟩) 1 (r3.cap - 4)] 181), (g2, C [S [1, 85, 0, 1, 97], Value.int .u64 7] 184), (g1, Mo .i64 [(1, Value.slice (some ⟨y7.g, 0, none⟩) 1 y7.cap)]), (p0, C [Value.map (some p1)] 327), (p1, Mo .u32 []), (q2.g, Ob [S [1, 85, 0, 1, 97], Value.int .u64 7] q2 184)] (by kernel_rfl) (.cons_cons _ (.cons _ (.cons_cons _ (.cons_cons _ (.cons_cons _ (.cons_cons _ (.cons_cons _ (.cons_cons _ (.cons_cons _ (.cons_cons _ (.cons_cons _ (.cons_cons _ (.slnil))))))))))))) ?_
  refine d_e 0 (fun _ _ _ _ _ h => h) rfl (by kernel_rfl) (by kernel_rfl) (by kernel_rfl) rfl rfl rfl (e_loada Tryz.isAgg455 Tryz.sizeOf455 rfl (.inl (.head _)) (.take (.take (.done)))) <| d_e 1 (fun _ _ _ _ _ h => h) rfl (by kernel_rfl) (by kernel_rfl) (by kernel_rfl) rfl rfl rfl (e_move rfl) <| d_e 2 (fun _ _ _ _ _ h => h) rfl (by kernel_rfl) (by kernel_rfl) (by kernel_rfl) rfl rfl rfl (e_move rfl) <| d_e 3 (fun _ _ _ _ _ h => h) rfl (by kernel_rfl) (by kernel_rfl) (by kernel_rfl) rfl rfl rfl (e_move rfl) ?_
  refine d_e 4 (fun _ _ _ _ _ h => h) rfl (by kernel_rfl) (by kernel_rfl) (by kernel_rfl) rfl rfl rfl (e_int (r := Value.int .i64 0) rfl rfl (by kernel_rfl)) <| d_e 5 (fun _ _ _ _ _ h => h) rfl (by kernel_rfl) (by kernel_rfl) (by kernel_rfl) rfl rfl rfl (e_move rfl) <| d_e 6 (fun _ _ _ _ _ h => h) rfl (by kernel_rfl) (by kernel_rfl) (by kernel_rfl) rfl rfl rfl (e_int (r := Value.int .i64 1) rfl rfl (by kernel_rfl)) ?_
  refine d_e 7 (fun _ _ _ _ _ h => h) rfl (by kernel_rfl) (by kernel_rfl) (by kernel_rfl) rfl rfl rfl (e_move rfl) <| d_e 8 (fun _ _ _ _ _ h => h) rfl (by kernel_rfl) (by kernel_rfl) (by kernel_rfl) rfl rfl rfl (e_int (r := Value.int .i64 9) rfl rfl (by kernel_rfl)) ?_
  refine d_e 9 (fun _ _ _ _ _ h => h) rfl (by kernel_rfl) (by kernel_rfl) (by kernel_rfl) rfl rfl rfl (e_as (r := Value.slice (some ⟨g10, 0, none⟩) 9 9) (e_sl_lh Tryz.runUnderlying72 Tryz.sizeOf5 rfl rfl rfl (by decide) (by decide) (by decide) (by decide)) (by first | rfl | (simp; try omega))) ?_
  refine d_l 10 (by kernel_rfl) rfl rfl (l_calle Tryz.call325 (z45 r3 hr3 (g10)) rfl rfl (.cons (.tail (.tail (.tail (.head)))) (.cons (.tail (.head)) (.nil)))) (fun _ _ => hs_cons (.tail _ (.tail _ (.head _))) (hs_cons (.tail _ (.tail _ (.tail _ (.head _)))) (hs_cons (.head _) (hs_cons (.tail _ (.tail _ (.tail _ (.tail _ (.head _))))) (hs_cons (.tail _ (.tail _ (.tail _ (.tail _ (.tail _ (.head _)))))) (hs_cons (.tail _ (.tail _ (.tail _ (.tail _ (.tail _ (.tail _ (.head _))))))) (hs_cons (.tail _ (.tail _ (.tail _ (.tail _ (.tail _ (.tail _ (.tail _ (.head _)))))))) (hs_cons (.tail _ (.tail _ (.tail _ (.tail _ (.tail _ (.tail _ (.tail _ (.tail _ (.head _))))))))) (hs_cons (.tail _ (.tail _ (.tail _ (.tail _ (.tail _ (.tail _ (.tail _ (.tail _ (.tail _ (.head _)))))))))) (hs_cons (.tail _ (.tail _ (.tail _ (.tail _ (.tail _ (.tail _ (.tail _ (.tail _ (.tail _ (.tail _ (.head _))))))))))) (hs_cons (.tail _ (.tail _ (.tail _ (.tail _ (.tail _ (.tail _ (.tail _ (.tail _ (.tail _ (.tail _ (.tail _ (.head _)))))))))))) (hs_nil)))))))))))) ?_
  intro r12 hr12
  refine d_cat (.cons (.cons (.nil))) <| d_nil (by kernel_rfl) <| n_block <| n_code <| c_region <| oi (Value.int .i64 1) rfl rfl rfl (by kernel_rfl) <| mv rfl rfl <| o_nil <| n_rounds ?_
  refine c_keep (sub_cons (k := 88) rfl (sub_cons (k := 104) rfl (sub_cons (k := 102) rfl (sub_cons (k := 101) rfl (sub_cons (k := 100) rfl (sub_cons (k := 99) rfl (sub_cons (k := 98) rfl (sub_cons (k := 97) rfl (sub_cons (k := 96) rfl (sub_cons (k := 95) rfl (sub_cons (k := 94) rfl (sub_cons (k := 93) rfl (sub_cons (k := 17) rfl (sub_cons (k := 18) rfl (sub_cons (k := 92) rfl (sub_cons (k := 91) rfl (sub_cons (k := 90) rfl (sub_cons (k := 89) rfl (sub_cons (k := 87) rfl (sub_cons (k := 86) rfl (sub_cons (k := 16) rfl (sub_cons (k := 85) rfl (sub_cons (k := 84) rfl (sub_cons (k := 83) rfl (sub_cons (k := 82) rfl (sub_cons (k := 81) rfl (sub_cons (k := 15) rfl (sub_cons (k := 80) rfl (sub_cons (k := 79) rfl (sub_cons (k := 77) rfl (sub_cons (k := 76) rfl (sub_cons (k := 14) rfl (sub_cons (k := 13) rfl (sub_cons (k := 75) rfl (sub_cons (k := 74) rfl (sub_cons (k := 73) rfl (sub_cons (k := 72) rfl (sub_cons (k := 71) rfl (sub_cons (k := 70) rfl (sub_cons (k := 4) rfl (sub_cons (k := 0) rfl (sub_nil)))))))))))))))))))))))))))))))))))))))))) ?_
  refine c_seq <| c_region <| oi (Value.bool false) rfl rfl rfl (by kernel_rfl) <| o_nil <| n_code <| c_seq <| c_else rfl <| c_exit <| x_code <| x_upto <| x_here <| n_code <| c_seq <| c_region <| mv rfl rfl <| oe rfl (e_convc (r := Value.int .u32 9) Tryz.runUnderlying3 Tryz.runUnderlying212 rfl (by kernel_rfl)) <| mv rfl rfl <| oe rfl (e_as (r := Value.int .i64 1) (e_lenl Tryz.runUnderlying452 rfl) rfl) <| oe rfl (e_convc (r := Value.int .u64 1) Tryz.runUnderlying3 Tryz.runUnderlying23 rfl (by kernel_rfl)) ?_
  refine mv rfl rfl <| oe rfl (e_build (vs := [Value.int .u32 9, Value.int .u64 1, Value.slice (some ⟨g10, 0, none⟩) 9 9]) Tryz.runUnderlying448 Tryz.zeroValue448 (.cons Tryz.sizeOf212 (.cons Tryz.sizeOf23 (.cons Tryz.sizeOf72 (.nil)))) rfl (by kernel_rfl)) ?_
  refine o_l rfl (l_alloc Tryz.zeroValue448 rfl rfl) ?_; intro g13 _
  refine o_l rfl (l_storea Tryz.sizeOf448 rfl rfl rfl (by simp [Value.oneCell']) (.head) (.take (.take (.take (.done)))) nofrs0) ?_; intro _ _
  refine o_nil <| n_code ?_
  refine c_regiond [(g13, C [Value.int .u32 9, Value.int .u64 1, Value.slice (some ⟨g10, 0, none⟩) 9 9] 448), (r3.g, Ob xb2 r3 5), (g10, C xb3 5), (g11, C [Value.slice (some ⟨r3.g, 4, none⟩) 1 (r3.cap - 4), Value.int .u64 7] 455), (y7.g, Ob [Value.slice (some ⟨r3.g, 4, none⟩) 1 (r3.cap - 4), Value.int .u64 7] y7 455), (g8, Io g1 1 [0]), (g6, C [Value.slice (some ⟨r3.g, 4, none⟩) 1 (r3.cap - 4), Value.int .u64 7] 455), (r4, C [Value.int .u64 0, S [], Value.int .i64 1, Value.slice (some ⟨r3.g, 4, none⟩) 1 (r3.cap - 4)] 181), (g2, C [S [1, 85, 0, 1, 97], Value.int .u64 7] 184), (g1, Mo .i64 [(1, Value.slice (some ⟨y7.g, 0, none⟩) 1 y7.cap)]), (p0, C [Value.map (some p1)] 327), (q2.g, Ob [S [1, 85, 0, 1, 97], Value.int .u64 7] q2 184)] (by kernel_rfl) (.cons_cons _ (.cons_cons _ (.cons_cons _ (.cons_cons _ (.cons_cons _ (.cons_cons _ (.cons_cons _ (.cons_cons _ (.cons_cons _ (.cons_cons _ (.cons_cons _ (.cons _ (.cons_cons _ (.slnil)))))))))))))) ?_
  refine d_e 0 (fun _ _ _ _ _ h => h) rfl (by kernel_rfl) (by kernel_rfl) (by kernel_rfl) rfl rfl rfl (e_move rfl) <| d_e 1 (fun _ _ _ _ _ h => h) rfl (by kernel_rfl) (by kernel_rfl) (by kernel_rfl) rfl rfl rfl (e_nilCheck rfl) <| d_e 2 (fun _ _ _ _ _ h => h) rfl (by kernel_rfl) (by kernel_rfl) (by kernel_rfl) rfl rfl rfl (e_load Tryz.isAgg327 rfl (.inl (.tail _ (.tail _ (.tail _ (.tail _ (.tail _ (.tail _ (.tail _ (.tail _ (.tail _ (.tail _ (.head _)))))))))))) rfl) ?_
  refine d_e 3 (fun _ _ _ _ _ h => h) rfl (by kernel_rfl) (by kernel_rfl) (by kernel_rfl) rfl rfl rfl (e_move rfl) <| d_e 4 (fun _ _ _ _ _ h => h) rfl (by kernel_rfl) (by kernel_rfl) (by kernel_rfl) rfl rfl rfl (e_convc (r := Value.int .u32 1) Tryz.runUnderlying3 Tryz.runUnderlying212 rfl (by kernel_rfl)) <| d_e 5 (fun _ _ _ _ _ h => h) rfl (by kernel_rfl) (by kernel_rfl) (by kernel_rfl) rfl rfl rfl (e_int (r := Value.int .u32 9) rfl rfl (by kernel_rfl)) ?_
  refine d_e 6 (fun _ _ _ _ _ h => h) rfl (by kernel_rfl) (by kernel_rfl) (by kernel_rfl) rfl rfl rfl (e_loada Tryz.isAgg448 Tryz.sizeOf448 rfl (.inl (.head _)) (.take (.take (.take (.done))))) ?_
  refine d_l 7 (by kernel_rfl) rfl rfl (l_mapup Tryz.runUnderlying327 Tryz.runUnderlying212 rfl rfl rfl (.tail (.tail (.tail (.tail (.tail (.tail (.tail (.tail (.tail (.tail (.tail (.head))))))))))))) (fun _ _ => hs_cons (.head _) (hs_cons (.tail _ (.head _)) (hs_cons (.tail _ (.tail _ (.head _))) (hs_cons (.tail _ (.tail _ (.tail _ (.head _)))) (hs_cons (.tail _ (.tail _ (.tail _ (.tail _ (.head _))))) (hs_cons (.tail _ (.tail _ (.tail _ (.tail _ (.tail _ (.head _)))))) (hs_cons (.tail _ (.tail _ (.tail _ (.tail _ (.tail _ (.tail _ (.head _))))))) (hs_cons (.tail _ (.tail _ (.tail _ (.tail _ (.tail _ (.tail _ (.tail _ (.head _)))))))) (hs_cons (.tail _ (.tail _ (.tail _ (.tail _ (.tail _ (.tail _ (.tail _ (.tail _ (.head _))))))))) (hs_cons (.tail _ (.tail _ (.tail _ (.tail _ (.tail _ (.tail _ (.tail _ (.tail _ (.tail _ (.head _)))))))))) (hs_cons (.tail _ (.tail _ (.tail _ (.tail _ (.tail _ (.tail _ (.tail _ (.tail _ (.tail _ (.tail _ (.head _))))))))))) (hs_cons (.tail _ (.tail _ (.tail _ (.tail _ (.tail _ (.tail _ (.tail _ (.tail _ (.tail _ (.tail _ (.tail _ (.tail _ (.head _))))))))))))) (hs_nil))))))))))))) ?_
  intro _ _
  refine d_nil (by kernel_rfl) <| n_block <| n_rounds ?_
  refine c_keep (sub_cons (k := 118) rfl (sub_cons (k := 117) rfl (sub_cons (k := 116) rfl (sub_cons (k := 115) rfl (sub_cons (k := 114) rfl (sub_cons (k := 113) rfl (sub_cons (k := 112) rfl (sub_cons (k := 19) rfl (sub_cons (k := 111) rfl (sub_cons (k := 110) rfl (sub_cons (k := 109) rfl (sub_cons (k := 108) rfl (sub_cons (k := 107) rfl (sub_cons (k := 106) rfl (sub_cons (k := 105) rfl (sub_cons (k := 89) rfl (sub_cons (k := 88) rfl (sub_cons (k := 104) rfl (sub_cons (k := 102) rfl (sub_cons (k := 101) rfl (sub_cons (k := 100) rfl (sub_cons (k := 99) rfl (sub_cons (k := 98) rfl (sub_cons (k := 97) rfl (sub_cons (k := 96) rfl (sub_cons (k := 95) rfl (sub_cons (k := 94) rfl (sub_cons (k := 93) rfl (sub_cons (k := 17) rfl (sub_cons (k := 18) rfl (sub_cons (k := 92) rfl (sub_cons (k := 91) rfl (sub_cons (k := 90) rfl (sub_cons (k := 87) rfl (sub_cons (k := 86) rfl (sub_cons (k := 16) rfl (sub_cons (k := 85) rfl (sub_cons (k := 84) rfl (sub_cons (k := 83) rfl (sub_cons (k := 82) rfl (sub_cons (k := 81) rfl (sub_cons (k := 15) rfl (sub_cons (k := 80) rfl (sub_cons (k := 79) rfl (sub_cons (k := 77) rfl (sub_cons (k := 76) rfl (sub_cons (k := 14) rfl (sub_cons (k := 13) rfl (sub_cons (k := 75) rfl (sub_cons (k := 74) rfl (sub_cons (k := 73) rfl (sub_cons (k := 72) rfl (sub_cons (k := 71) rfl (sub_cons (k := 70) rfl (sub_cons (k := 4) rfl (sub_cons (k := 0) rfl (sub_nil))))))))))))))))))))))))))))))))))))))))))))))))))))))))) ?_
  refine c_seq ?_
  refine c_keep (sub_cons (k := 118) rfl (sub_cons (k := 117) rfl (sub_cons (k := 116) rfl (sub_cons (k := 115) rfl (sub_cons (k := 114) rfl (sub_cons (k := 113) rfl (sub_cons (k := 112) rfl (sub_cons (k := 19) rfl (sub_cons (k := 111) rfl (sub_cons (k := 110) rfl (sub_cons (k := 109) rfl (sub_cons (k := 108) rfl (sub_cons (k := 107) rfl (sub_cons (k := 106) rfl (sub_cons (k := 105) rfl (sub_cons (k := 89) rfl (sub_cons (k := 88) rfl (sub_cons (k := 104) rfl (sub_cons (k := 102) rfl (sub_cons (k := 101) rfl (sub_cons (k := 100) rfl (sub_cons (k := 99) rfl (sub_cons (k := 98) rfl (sub_cons (k := 97) rfl (sub_cons (k := 96) rfl (sub_cons (k := 95) rfl (sub_cons (k := 94) rfl (sub_cons (k := 93) rfl (sub_cons (k := 17) rfl (sub_cons (k := 18) rfl (sub_cons (k := 92) rfl (sub_cons (k := 91) rfl (sub_cons (k := 90) rfl (sub_cons (k := 87) rfl (sub_cons (k := 86) rfl (sub_cons (k := 16) rfl (sub_cons (k := 85) rfl (sub_cons (k := 84) rfl (sub_cons (k := 83) rfl (sub_cons (k := 82) rfl (sub_cons (k := 81) rfl (sub_cons (k := 15) rfl (sub_cons (k := 80) rfl (sub_cons (k := 79) rfl (sub_cons (k := 77) rfl (sub_cons (k := 76) rfl (sub_cons (k := 14) rfl (sub_cons (k := 13) rfl (sub_cons (k := 75) rfl (sub_cons (k := 74) rfl (sub_cons (k := 73) rfl (sub_cons (k := 72) rfl (sub_cons (k := 71) rfl (sub_cons (k := 70) rfl (sub_cons (k := 4) rfl (sub_cons (k := 0) rfl (sub_nil))))))))))))))))))))))))))))))))))))))))))))))))))))))))) ?_
  refine c_region ?_
  refine o_l rfl (l_next0 rfl rfl (.inl (.tail _ (.tail _ (.tail _ (.tail _ (.tail _ (.tail _ (.tail _ (.tail _ (.tail _ (.head _))))))))))) (.tail _ (.tail _ (.tail _ (.tail _ (.tail _ (.head _)))))) rfl) ?_; intro _ _
  refine oe rfl (e_extract rfl rfl) <| o_nil <| n_code <| c_seq <| c_else rfl <| c_exit <| x_code <| x_upto <| x_here <| n_code <| c_seq <| c_keep (sub_cons (k := 4) rfl (sub_nil)) <| c_region <| asg rfl rfl <| o_nil <| n_code <| c_ret ?_
  refine WR.sel (.cons (.tail (.tail (.tail (.tail (.tail (.tail (.tail (.tail (.tail (.tail (.head))))))))))) (.cons (.tail (.tail (.tail (.tail (.tail (.tail (.tail (.tail (.tail (.tail (.head))))))))))) (.cons (.tail (.tail (.tail (.tail (.tail (.tail (.tail (.tail (.tail (.tail (.head))))))))))) (.cons (.tail (.tail (.head))) (.nil))))) <| r_fn1 Tryz.results316 rfl ?_
  exact tells (y := (g10)) trivial rfl rfl

theorem z47 {G : HP} (p0 : Nat) (p1 : Nat) (p2 : Nat) :
    CtrE Tryz.prog 401 [Value.pointer (some ⟨p0, 0, none⟩)] G [(p0, C [Value.map (some p1)] 327), (p1, Mo .u32 [(9, Value.agg #[Value.int .u32 9, Value.int .u64 1, Value.slice (some ⟨p2, 0, none⟩) 9 9])]), (p2, C xb3 5)] (T := Unit) (fun _ => True) (fun _ => Value.int .u64 1024) (fun _ => [(p0, C [Value.map (some p1)] 327), (p1, Mo .u32 [(9, Value.agg #[Value.int .u32 9, Value.int .u64 1, Value.slice (some ⟨p2, 0, none⟩) 9 9])]), (p2, C xb3 5)]) := by
  refine fn_enter 3 Tryz.func401 rfl Tryz.ntmps401 rfl ?_
  intro w0
  refine c_seq <| c_region <| asg rfl rfl <| o_nil <| n_code <| c_seq <| c_region <| asg rfl rfl <| o_nil <| n_code <| c_ret <| WR.sel (.cons (.head) (.cons (.head) (.cons (.head) (.nil)))) <| r_fn1 Tryz.results401 rfl ?_
  exact tells (y := (())) trivial rfl rfl

theorem z48 {G : HP} (p0 : Nat) :
    CtrE Tryz.prog 150 [Value.slice (some ⟨p0, 0, none⟩) 10 10, Value.int .u64 1024] G [(p0, C xb0 5)] (T := Unit) (fun _ => True) (fun _ => Value.int .i64 2) (fun _ => [(p0, C xb5 5)]) := by
  refine fn_enter 25 Tryz.func150 rfl Tryz.ntmps150 rfl ?_
  intro w0
  refine c_seq <| c_region <| asg rfl rfl <| o_nil <| n_code <| c_seq <| c_region <| asg rfl rfl <| o_nil <| n_code <| c_seq <| c_block <| c_rounds 999 <| c_seq <| c_seq <| c_region <| mv rfl rfl <| oi (Value.bool true) rfl rfl rfl (by kernel_rfl) <| o_nil <| n_code <| c_then rfl <| c_skip <| n_code <| c_block <| c_seq <| c_region <| mv rfl rfl <| mv rfl rfl <| mv rfl rfl <| oe rfl (e_convc (r := ub 0) Tryz.runUnderlying23 Tryz.runUnderlying5 rfl (by kernel_rfl)) ?_
  refine oi (ub 128) rfl rfl rfl (by kernel_rfl) <| oe rfl (e_as (r := Value.pointer (some ⟨p0, 0, none⟩)) (e_ia Tryz.runUnderlying72 Tryz.sizeOf5 rfl rfl (by decide) (by decide)) rfl) ?_
  refine o_l rfl (l_store Tryz.sizeOf5 rfl rfl rfl (.head) (.head) nofr0) ?_; intro _ _
  refine o_nil <| n_code <| c_seq <| c_region <| mv rfl rfl <| oe rfl (e_shrc (r := Value.int .u64 8) rfl rfl rfl (by kernel_rfl)) <| asg rfl rfl <| o_nil <| n_code <| c_region <| mv rfl rfl <| oi (Value.int .i64 1) rfl rfl rfl (by kernel_rfl) <| asg rfl rfl <| o_nil <| n_block <| n_rounds <| c_seq <| c_seq <| c_region <| mv rfl rfl <| oi (Value.bool false) rfl rfl rfl (by kernel_rfl) <| o_nil <| n_code <| c_else rfl <| c_exit <| x_code <| x_upto <| x_here <| n_code <| c_seq <| c_region <| mv rfl rfl ?_
  refine mv rfl rfl <| mv rfl rfl <| oe rfl (e_convc (r := ub 8) Tryz.runUnderlying23 Tryz.runUnderlying5 rfl (by kernel_rfl)) <| oe rfl (e_as (r := Value.pointer (some ⟨p0, 1, none⟩)) (e_ia Tryz.runUnderlying72 Tryz.sizeOf5 rfl rfl (by decide) (by decide)) rfl) ?_
  refine o_l rfl (l_store Tryz.sizeOf5 rfl rfl rfl (.head) (.tail (.head)) nofr0) ?_; intro _ _
  refine o_nil <| n_code <| c_seq <| c_region <| mv rfl rfl <| oi (Value.int .i64 2) rfl rfl rfl (by kernel_rfl) <| asg rfl rfl <| o_nil <| n_code <| c_ret <| WR.sel (.cons (.head) (.nil)) <| r_fn1 Tryz.results150 rfl ?_
  exact tells (y := (())) trivial rfl rfl

theorem z49 {G : HP} (p0 : Nat) :
    CtrE Tryz.prog 77 [Value.slice (some ⟨p0, 0, none⟩) 10 10, Value.int .u64 1024] G [(p0, C xb0 5)] (T := Unit) (fun _ => True) (fun _ => Value.int .i64 2) (fun _ => [(p0, C xb5 5)]) := by
  refine fn_enter 8 Tryz.func77 rfl Tryz.ntmps77 rfl ?_
  intro w0
  refine c_seq <| c_region <| asg rfl rfl <| o_nil <| n_code <| c_seq <| c_region <| mv rfl rfl <| mv rfl rfl ?_
  refine o_l rfl (l_calle Tryz.call150 (z48 (p0)) rfl rfl (.cons (.head) (.nil))) ?_; intro r1 hr1
  refine o_cat (.cons (.nil)) <| asg rfl rfl <| o_nil <| n_code <| c_ret <| WR.sel (.cons (.head) (.nil)) <| r_fn1 Tryz.results77 rfl ?_
  exact tells (y := (())) trivial rfl rfl

theorem z50 {G : HP} (p0 : Nat) :
    CtrE Tryz.prog 296 [Value.pointer (some ⟨p0, 0, none⟩), Value.int .i64 2] G [(p0, C [Value.slice none 0 0, Value.int .i64 0, Value.int .i8 0] 86)] (T := Unit) (fun _ => True) (fun _ => Value.tuple #[Value.int .i64 0, Value.bool false]) (fun _ => [(p0, C [Value.slice none 0 0, Value.int .i64 0, Value.int .i8 0] 86)]) := by
  refine fn_enter 33 Tryz.func296 rfl Tryz.ntmps296 rfl ?_
  intro w0
  refine c_seq <| c_region <| asg rfl rfl <| asg rfl rfl <| o_nil <| n_code <| c_seq <| c_seq <| c_region <| mv rfl rfl <| oe rfl (e_nilCheck rfl) <| oe rfl (e_as (r := Value.pointer (some ⟨p0, 0, none⟩)) (e_fa Tryz.runUnderlying86 rfl Tryz.sizeOf72 rfl rfl) rfl) <| oe rfl (e_load Tryz.isAgg72 rfl (.inl (.head _)) rfl) <| oe rfl (e_as (r := Value.int .i64 0) (e_lenl Tryz.runUnderlying72 rfl) rfl) <| asg rfl rfl <| o_nil <| n_code <| c_seq <| c_region <| mv rfl rfl <| mv rfl rfl <| oe rfl (e_nilCheck rfl) ?_
  refine oe rfl (e_as (r := Value.pointer (some ⟨p0, 0, none⟩)) (e_fa Tryz.runUnderlying86 rfl Tryz.sizeOf72 rfl rfl) rfl) <| oe rfl (e_load Tryz.isAgg72 rfl (.inl (.head _)) rfl) <| oe rfl (e_as (r := Value.int .i64 0) (e_cap Tryz.runUnderlying72 rfl) rfl) <| mv rfl rfl <| oi (Value.int .i64 0) rfl rfl rfl (by kernel_rfl) <| oi (Value.bool false) rfl rfl rfl (by kernel_rfl) <| o_nil <| n_code <| c_else rfl <| c_skip <| n_code <| c_seq <| c_region <| asg rfl rfl <| asg rfl rfl <| o_nil <| n_code <| c_ret ?_
  refine WR.sel (.cons (.head) (.nil)) <| r_fn (l := [.tmp 4, .tmp 5]) Tryz.results296 rfl rfl ?_
  exact tells (y := (())) trivial rfl rfl

theorem z51 {G : HP} (p0 : Nat) :
    CtrE Tryz.prog 298 [Value.pointer (some ⟨p0, 0, none⟩)] G [(p0, C [Value.slice none 0 0, Value.int .i64 0, Value.int .i8 0] 86)] (T := Unit) (fun _ => True) (fun _ => Value.int .i64 0) (fun _ => [(p0, C [Value.slice none 0 0, Value.int .i64 0, Value.int .i8 0] 86)]) := by
  refine fn_enter 13 Tryz.func298 rfl Tryz.ntmps298 rfl ?_
  intro w0
  refine c_seq <| c_region <| asg rfl rfl <| o_nil <| n_code <| c_seq <| c_regionq (by kernel_rfl) (by kernel_rfl) <| q_e rfl rfl rfl (e_move rfl) <| q_e rfl rfl rfl (e_nilCheck rfl) <| q_e rfl rfl rfl (e_as (r := Value.pointer (some ⟨p0, 0, none⟩)) (e_fa Tryz.runUnderlying86 rfl Tryz.sizeOf72 rfl rfl) rfl) <| q_e rfl rfl rfl (e_load Tryz.isAgg72 rfl (.inl (.head _)) rfl) <| q_e rfl rfl rfl (e_as (r := Value.int .i64 0) (e_lenl Tryz.runUnderlying72 rfl) rfl) <| q_e rfl rfl rfl (e_move rfl) ?_
  refine q_e rfl rfl rfl (e_nilCheck rfl) <| q_e rfl rfl rfl (e_as (r := Value.pointer (some ⟨p0, 1, none⟩)) (e_fa Tryz.runUnderlying86 rfl Tryz.sizeOf3 rfl rfl) rfl) <| q_e rfl rfl rfl (e_load Tryz.isAgg3 rfl (.inl (.head _)) rfl) <| q_e rfl rfl rfl (e_int (r := Value.int .i64 0) rfl rfl (by kernel_rfl)) <| q_e rfl rfl rfl (e_assign rfl) <| q_nil <| n_code <| c_ret <| WR.sel (.cons (.head) (.nil)) <| r_fn1 Tryz.results298 rfl ?_
  exact tells (y := (())) trivial rfl rfl

theorem z52 {G : HP} (p0 : Nat) :
    CtrE Tryz.prog 297 [Value.pointer (some ⟨p0, 0, none⟩), Value.int .i64 2] G [(p0, C [Value.slice none 0 0, Value.int .i64 0, Value.int .i8 0] 86)] (T := Nat) (fun _ => True) (fun y => Value.int .i64 0) (fun y => [(p0, C [Value.slice (some ⟨y, 0, none⟩) 2 64, Value.int .i64 0, Value.int .i8 0] 86), (y, C xb6 5)]) := by
  refine fn_enter 110 Tryz.func297 rfl Tryz.ntmps297 rfl ?_
  intro w0
  refine c_seq <| c_region <| asg rfl rfl <| o_nil <| n_code <| c_seq <| c_region <| mv rfl rfl ?_
  refine o_l rfl (l_calle Tryz.call298 (z51 (p0)) rfl rfl (.cons (.head) (.nil))) ?_; intro r1 hr1
  refine o_cat (.cons (.nil)) <| asg rfl rfl <| o_nil <| n_code <| c_seq <| c_seq <| c_region <| mv rfl rfl <| oi (Value.bool true) rfl rfl rfl (by kernel_rfl) <| mv rfl rfl <| o_e rfl rfl rfl (e_move rfl) <| o_e rfl rfl rfl (e_nilCheck rfl) <| o_e rfl rfl rfl (e_as (r := Value.pointer (some ⟨p0, 1, none⟩)) (e_fa Tryz.runUnderlying86 rfl Tryz.sizeOf3 rfl rfl) rfl) <| o_e rfl rfl rfl (e_load Tryz.isAgg3 rfl (.inl (.head _)) rfl) <| o_e rfl rfl rfl (e_int (r := Value.bool false) rfl rfl (by kernel_rfl)) ?_
  refine oe rfl (e_pick_t rfl rfl) <| o_nil <| n_code <| c_else rfl <| c_skip <| n_code <| c_seq <| c_seq <| c_region <| mv rfl rfl <| mv rfl rfl ?_
  refine o_l rfl (l_calle Tryz.call296 (z50 (p0)) rfl rfl (.cons (.head) (.nil))) ?_; intro r2 hr2
  refine o_cat (.cons (.nil)) <| mv rfl rfl <| oe rfl (e_extract rfl rfl) <| oe rfl (e_extract rfl rfl) <| asg rfl rfl <| asg rfl rfl <| o_nil <| n_code <| c_seq <| c_region <| mv rfl rfl <| o_nil <| n_code <| c_else rfl <| c_skip <| n_code <| c_seq <| c_seq <| c_region <| mv rfl rfl <| oe rfl (e_nilCheck rfl) <| oe rfl (e_as (r := Value.pointer (some ⟨p0, 0, none⟩)) (e_fa Tryz.runUnderlying86 rfl Tryz.sizeOf72 rfl rfl) rfl) <| oe rfl (e_load Tryz.isAgg72 rfl (.inl (.head _)) rfl) ?_
  refine oe rfl (e_as (r := Value.bool true) (e_leqn Tryz.runUnderlying72 rfl) rfl) <| mv rfl rfl <| o_e rfl rfl rfl (e_move rfl) <| o_e rfl rfl rfl (e_int (r := Value.bool true) rfl rfl (by kernel_rfl)) <| oe rfl (e_pick_t rfl rfl) <| o_nil <| n_code <| c_then rfl <| c_seq <| c_region <| mv rfl rfl <| mv rfl rfl ?_
  refine o_l rfl (l_mksc (l := xb6) (n := 2) (m := 64) Tryz.underlying72 (info_of Tryz.typeInfo5) rfl rfl rfl rfl rfl rfl rfl (by decide) (by kernel_rfl)) ?_; intro g3 _
  refine oe rfl (e_nilCheck rfl) <| oe rfl (e_as (r := Value.pointer (some ⟨p0, 0, none⟩)) (e_fa Tryz.runUnderlying86 rfl Tryz.sizeOf72 rfl rfl) rfl) ?_
  refine o_l rfl (l_store Tryz.sizeOf72 rfl rfl rfl (.tail (.head)) (.head) nofr0) ?_; intro _ _
  refine o_nil <| n_code <| c_seq <| c_region <| asg rfl rfl <| o_nil <| n_code <| c_ret <| WR.sel (.cons (.tail (.head)) (.cons (.head) (.nil))) <| r_fn1 Tryz.results297 rfl ?_
  exact tells (y := (g3)) trivial rfl rfl

theorem z53 {G : HP} (p0 : Nat) (p1 : Nat) :
    CtrE Tryz.prog 294 [Value.pointer (some ⟨p0, 0, none⟩), Value.slice (some ⟨p1, 0, none⟩) 2 10] G [(p0, C [Value.slice none 0 0, Value.int .i64 0, Value.int .i8 0] 86), (p1, C xb5 5)] (T := Nat) (fun _ => True) (fun y => Value.tuple #[Value.int .i64 2, Value.nilIface]) (fun y => [(p0, C [Value.slice (some ⟨y, 0, none⟩) 2 64, Value.int .i64 0, Value.int .i8 0] 86), (p1, C xb5 5), (y, C xb7 5)]) := by
  refine fn_enter 32 Tryz.func294 rfl Tryz.ntmps294 rfl ?_
  intro w0
  refine c_seq <| c_region <| asg rfl rfl <| asg rfl rfl <| o_nil <| n_code <| c_seq <| c_region <| mv rfl rfl <| oe rfl (e_nilCheck rfl) <| oe rfl (e_as (r := Value.pointer (some ⟨p0, 2, none⟩)) (e_fa Tryz.runUnderlying86 rfl Tryz.sizeOf84 rfl rfl) rfl) ?_
  refine o_l rfl (l_store Tryz.sizeOf84 rfl rfl rfl (.head) (.tail (.tail (.head))) nofr0) ?_; intro _ _
  refine o_nil <| n_code <| c_seq <| c_region <| mv rfl rfl <| mv rfl rfl <| oe rfl (e_as (r := Value.int .i64 2) (e_lenl Tryz.runUnderlying72 rfl) rfl) ?_
  refine o_l rfl (l_calle Tryz.call296 (z50 (p0)) rfl rfl (.cons (.head) (.nil))) ?_; intro r1 hr1
  refine o_cat (.cons (.nil)) <| mv rfl rfl <| oe rfl (e_extract rfl rfl) <| oe rfl (e_extract rfl rfl) <| asg rfl rfl <| asg rfl rfl <| o_nil <| n_code <| c_seq <| c_seq <| c_region <| mv rfl rfl <| oe rfl (e_as (r := Value.bool true) (e_not rfl) rfl) <| o_nil <| n_code <| c_then rfl <| c_region <| mv rfl rfl <| mv rfl rfl <| oe rfl (e_as (r := Value.int .i64 2) (e_lenl Tryz.runUnderlying72 rfl) rfl) ?_
  refine o_l rfl (l_calle Tryz.call297 (z52 (p0)) rfl rfl (.cons (.head) (.nil))) ?_; intro r2 hr2
  refine o_cat (.cons (.cons (.nil))) <| asg rfl rfl <| o_nil <| n_code <| c_seq <| c_region <| mv rfl rfl <| oe rfl (e_nilCheck rfl) <| oe rfl (e_as (r := Value.pointer (some ⟨p0, 0, none⟩)) (e_fa Tryz.runUnderlying86 rfl Tryz.sizeOf72 rfl rfl) rfl) <| oe rfl (e_load Tryz.isAgg72 rfl (.inl (.head _)) rfl) <| mv rfl rfl <| oe rfl (e_as (r := Value.slice (some ⟨r2, 0, none⟩) 2 64) (e_sl_l Tryz.runUnderlying72 Tryz.sizeOf5 rfl rfl (by decide) (by decide) (by decide)) (by first | rfl | (simp; try omega))) ?_
  refine mv rfl rfl ?_
  refine o_l rfl (l_copy (vs := [ub 128, ub 8]) (k' := 2) Tryz.runUnderlying72 Tryz.sizeOf5 rfl rfl rfl (Sv.blk (vs := [ub 128, ub 8]) Tryz.underlying72 (.inl (.tail _ (.tail _ (.head _)))) (.take (.take (.done))) (by simp [Value.oneCell'])) rfl (.tail (.head)) (.take (.take (.done))) (.inr rfl)) ?_; intro _ _
  refine asg rfl rfl <| asg rfl rfl <| o_nil <| n_code <| c_ret <| WR.sel (.cons (.head) (.cons (.tail (.head)) (.cons (.head) (.nil)))) <| r_fn (l := [.tmp 4, .tmp 5]) Tryz.results294 rfl rfl ?_
  exact tells (y := (r2)) trivial rfl rfl

theorem z54 {G : HP} (p0 : Nat) :
    CtrE Tryz.prog 326 [Value.agg #[], Value.slice (some ⟨p0, 0, none⟩) 4 4, Value.int .u32 1] G [(p0, C [ub 0, ub 0, ub 0, ub 0] 5)] (T := Unit) (fun _ => True) (fun _ => Value.tuple #[]) (fun _ => [(p0, C [ub 1, ub 0, ub 0, ub 0] 5)]) := by
  refine fn_enter 28 Tryz.func326 rfl Tryz.ntmps326 rfl ?_
  intro w0
  refine c_seq <| c_region ?_
  refine o_l rfl (l_box rfl rfl rfl) ?_; intro g1 _
  refine o_nil <| n_code <| c_seq <| c_region <| mv rfl rfl <| oe rfl (e_as (r := Value.pointer (some ⟨p0, 3, none⟩)) (e_ia Tryz.runUnderlying72 Tryz.sizeOf5 rfl rfl (by decide) (by decide)) rfl) <| oe rfl (e_load Tryz.isAgg5 rfl (.inl (.tail _ (.head _))) rfl) <| o_nil <| n_code <| c_seq <| c_region <| mv rfl rfl <| mv rfl rfl <| oe rfl (e_convc (r := ub 1) Tryz.runUnderlying212 Tryz.runUnderlying5 rfl (by kernel_rfl)) ?_
  refine oe rfl (e_as (r := Value.pointer (some ⟨p0, 0, none⟩)) (e_ia Tryz.runUnderlying72 Tryz.sizeOf5 rfl rfl (by decide) (by decide)) rfl) ?_
  refine o_l rfl (l_store Tryz.sizeOf5 rfl rfl rfl (.tail (.head)) (.head) nofr0) ?_; intro _ _
  refine o_nil <| n_code <| c_seq <| c_region <| mv rfl rfl <| mv rfl rfl <| oe rfl (e_shrc (r := Value.int .u32 0) rfl rfl rfl (by kernel_rfl)) <| oe rfl (e_convc (r := ub 0) Tryz.runUnderlying212 Tryz.runUnderlying5 rfl (by kernel_rfl)) <| oe rfl (e_as (r := Value.pointer (some ⟨p0, 1, none⟩)) (e_ia Tryz.runUnderlying72 Tryz.sizeOf5 rfl rfl (by decide) (by decide)) rfl) ?_
  refine o_l rfl (l_store Tryz.sizeOf5 rfl rfl rfl (.tail (.head)) (.tail (.head)) nofr0) ?_; intro _ _
  refine o_nil <| n_code <| c_seq <| c_region <| mv rfl rfl <| mv rfl rfl <| oe rfl (e_shrc (r := Value.int .u32 0) rfl rfl rfl (by kernel_rfl)) <| oe rfl (e_convc (r := ub 0) Tryz.runUnderlying212 Tryz.runUnderlying5 rfl (by kernel_rfl)) <| oe rfl (e_as (r := Value.pointer (some ⟨p0, 2, none⟩)) (e_ia Tryz.runUnderlying72 Tryz.sizeOf5 rfl rfl (by decide) (by decide)) rfl) ?_
  refine o_l rfl (l_store Tryz.sizeOf5 rfl rfl rfl (.tail (.head)) (.tail (.tail (.head))) nofr0) ?_; intro _ _
  refine o_nil <| n_code <| c_region <| mv rfl rfl <| mv rfl rfl <| oe rfl (e_shrc (r := Value.int .u32 0) rfl rfl rfl (by kernel_rfl)) <| oe rfl (e_convc (r := ub 0) Tryz.runUnderlying212 Tryz.runUnderlying5 rfl (by kernel_rfl)) <| oe rfl (e_as (r := Value.pointer (some ⟨p0, 3, none⟩)) (e_ia Tryz.runUnderlying72 Tryz.sizeOf5 rfl rfl (by decide) (by decide)) rfl) ?_
  refine o_l rfl (l_store Tryz.sizeOf5 rfl rfl rfl (.tail (.head)) (.tail (.tail (.tail (.head)))) nofr0) ?_; intro _ _
  refine o_nil <| WN.sel (.cons (.tail (.head)) (.nil)) <| n_fn0 Tryz.results326 ?_
  exact tells (y := (())) trivial rfl rfl

theorem z55 {G : HP} (p0 : Nat) (p1 : Nat) :
    CtrE Tryz.prog 296 [Value.pointer (some ⟨p0, 0, none⟩), Value.int .i64 4] G [(p0, C [Value.slice (some ⟨p1, 0, none⟩) 2 64, Value.int .i64 0, Value.int .i8 0] 86), (p1, C xb7 5)] (T := Unit) (fun _ => True) (fun _ => Value.tuple #[Value.int .i64 2, Value.bool true]) (fun _ => [(p0, C [Value.slice (some ⟨p1, 0, none⟩) 6 64, Value.int .i64 0, Value.int .i8 0] 86), (p1, C xb7 5)]) := by
  refine fn_enter 33 Tryz.func296 rfl Tryz.ntmps296 rfl ?_
  intro w0
  refine c_seq <| c_region <| asg rfl rfl <| asg rfl rfl <| o_nil <| n_code <| c_seq <| c_seq <| c_region <| mv rfl rfl <| oe rfl (e_nilCheck rfl) <| oe rfl (e_as (r := Value.pointer (some ⟨p0, 0, none⟩)) (e_fa Tryz.runUnderlying86 rfl Tryz.sizeOf72 rfl rfl) rfl) <| oe rfl (e_load Tryz.isAgg72 rfl (.inl (.head _)) rfl) <| oe rfl (e_as (r := Value.int .i64 2) (e_lenl Tryz.runUnderlying72 rfl) rfl) <| asg rfl rfl <| o_nil <| n_code <| c_seq <| c_region <| mv rfl rfl <| mv rfl rfl <| oe rfl (e_nilCheck rfl) ?_
  refine oe rfl (e_as (r := Value.pointer (some ⟨p0, 0, none⟩)) (e_fa Tryz.runUnderlying86 rfl Tryz.sizeOf72 rfl rfl) rfl) <| oe rfl (e_load Tryz.isAgg72 rfl (.inl (.head _)) rfl) <| oe rfl (e_as (r := Value.int .i64 64) (e_cap Tryz.runUnderlying72 rfl) rfl) <| mv rfl rfl <| oi (Value.int .i64 62) rfl rfl rfl (by kernel_rfl) <| oi (Value.bool true) rfl rfl rfl (by kernel_rfl) <| o_nil <| n_code <| c_then rfl <| c_seq <| c_region <| mv rfl rfl <| mv rfl rfl <| oe rfl (e_nilCheck rfl) ?_
  refine oe rfl (e_as (r := Value.pointer (some ⟨p0, 0, none⟩)) (e_fa Tryz.runUnderlying86 rfl Tryz.sizeOf72 rfl rfl) rfl) <| oe rfl (e_load Tryz.isAgg72 rfl (.inl (.head _)) rfl) <| mv rfl rfl <| mv rfl rfl <| oi (Value.int .i64 6) rfl rfl rfl (by kernel_rfl) <| oe rfl (e_as (r := Value.slice (some ⟨p1, 0, none⟩) 6 64) (e_sl_h Tryz.runUnderlying72 Tryz.sizeOf5 rfl rfl (by decide) (by decide)) rfl) <| oe rfl (e_nilCheck rfl) ?_
  refine oe rfl (e_as (r := Value.pointer (some ⟨p0, 0, none⟩)) (e_fa Tryz.runUnderlying86 rfl Tryz.sizeOf72 rfl rfl) rfl) ?_
  refine o_l rfl (l_store Tryz.sizeOf72 rfl rfl rfl (.head) (.head) nofr0) ?_; intro _ _
  refine o_nil <| n_code <| c_seq <| c_region <| mv rfl rfl <| asg rfl rfl <| asg rfl rfl <| o_nil <| n_code <| c_ret <| WR.sel (.cons (.head) (.cons (.head) (.nil))) <| r_fn (l := [.tmp 4, .tmp 5]) Tryz.results296 rfl rfl ?_
  exact tells (y := (())) trivial rfl rfl

theorem z56 {G : HP} (p0 : Nat) (p1 : Nat) (p2 : Nat) :
    CtrE Tryz.prog 294 [Value.pointer (some ⟨p0, 0, none⟩), Value.slice (some ⟨p2, 0, none⟩) 4 4] G [(p0, C [Value.slice (some ⟨p1, 0, none⟩) 2 64, Value.int .i64 0, Value.int .i8 0] 86), (p1, C xb7 5), (p2, C [ub 1, ub 0, ub 0, ub 0] 5)] (T := Unit) (fun _ => True) (fun _ => Value.tuple #[Value.int .i64 4, Value.nilIface]) (fun _ => [(p0, C [Value.slice (some ⟨p1, 0, none⟩) 6 64, Value.int .i64 0, Value.int .i8 0] 86), (p1, C xb8 5), (p2, C [ub 1, ub 0, ub 0, ub 0] 5)]) := by
  refine fn_enter 32 Tryz.func294 rfl Tryz.ntmps294 rfl ?_
  intro w0
  refine c_seq <| c_region <| asg rfl rfl <| asg rfl rfl <| o_nil <| n_code <| c_seq <| c_region <| mv rfl rfl <| oe rfl (e_nilCheck rfl) <| oe rfl (e_as (r := Value.pointer (some ⟨p0, 2, none⟩)) (e_fa Tryz.runUnderlying86 rfl Tryz.sizeOf84 rfl rfl) rfl) ?_
  refine o_l rfl (l_store Tryz.sizeOf84 rfl rfl rfl (.head) (.tail (.tail (.head))) nofr0) ?_; intro _ _
  refine o_nil <| n_code <| c_seq <| c_region <| mv rfl rfl <| mv rfl rfl <| oe rfl (e_as (r := Value.int .i64 4) (e_lenl Tryz.runUnderlying72 rfl) rfl) ?_
  refine o_l rfl (l_calle Tryz.call296 (z55 (p0) (p1)) rfl rfl (.cons (.head) (.cons (.head) (.nil)))) ?_; intro r1 hr1
  refine o_cat (.cons (.cons (.nil))) <| mv rfl rfl <| oe rfl (e_extract rfl rfl) <| oe rfl (e_extract rfl rfl) <| asg rfl rfl <| asg rfl rfl <| o_nil <| n_code <| c_seq <| c_seq <| c_region <| mv rfl rfl <| oe rfl (e_as (r := Value.bool false) (e_not rfl) rfl) <| o_nil <| n_code <| c_else rfl <| c_skip <| n_code <| c_seq <| c_region <| mv rfl rfl <| oe rfl (e_nilCheck rfl) <| oe rfl (e_as (r := Value.pointer (some ⟨p0, 0, none⟩)) (e_fa Tryz.runUnderlying86 rfl Tryz.sizeOf72 rfl rfl) rfl) ?_
  refine oe rfl (e_load Tryz.isAgg72 rfl (.inl (.head _)) rfl) <| mv rfl rfl <| oe rfl (e_as (r := Value.slice (some ⟨p1, 2, none⟩) 4 62) (e_sl_l Tryz.runUnderlying72 Tryz.sizeOf5 rfl rfl (by decide) (by decide) (by decide)) (by first | rfl | (simp; try omega))) <| mv rfl rfl ?_
  refine o_l rfl (l_copy (vs := [ub 1, ub 0, ub 0, ub 0]) (k' := 4) Tryz.runUnderlying72 Tryz.sizeOf5 rfl rfl rfl (Sv.blk (vs := [ub 1, ub 0, ub 0, ub 0]) Tryz.underlying72 (.inl (.tail _ (.tail _ (.head _)))) (.take (.take (.take (.take (.done))))) (by simp [Value.oneCell'])) rfl (.tail (.head)) (.skip (.skip (.take (.take (.take (.take (.done))))))) (.inr rfl)) ?_; intro _ _
  refine asg rfl rfl <| asg rfl rfl <| o_nil <| n_code <| c_ret <| WR.sel (.cons (.head) (.cons (.head) (.cons (.head) (.nil)))) <| r_fn (l := [.tmp 4, .tmp 5]) Tryz.results294 rfl rfl ?_
  exact tells (y := (())) trivial rfl rfl

theorem z57 {G : HP} (p0 : Nat) (p1 : Nat) :
    CtrE Tryz.prog 318 [Value.iface 89 (Value.pointer (some ⟨p0, 0, none⟩)), Value.int .u32 1] G [(p0, C [Value.slice (some ⟨p1, 0, none⟩) 2 64, Value.int .i64 0, Value.int .i8 0] 86), (p1, C xb7 5)] (T := Unit) (fun _ => True) (fun _ => Value.nilIface) (fun _ => [(p0, C [Value.slice (some ⟨p1, 0, none⟩) 6 64, Value.int .i64 0, Value.int .i8 0] 86), (p1, C xb8 5)]) := by
  refine fn_enter 20 Tryz.func318 rfl Tryz.ntmps318 rfl ?_
  intro w0
  refine c_seq <| c_region <| asg rfl rfl <| o_nil <| n_code <| c_seq <| c_region ?_
  refine o_l rfl (l_mksc (l := [ub 0, ub 0, ub 0, ub 0]) (n := 4) (m := 4) Tryz.underlying72 (info_of Tryz.typeInfo5) rfl rfl rfl rfl rfl rfl rfl (by decide) (by kernel_rfl)) ?_; intro g1 _
  refine asg rfl rfl <| o_nil <| n_code <| c_seq <| c_region <| oe rfl (e_load0 Tryz.isAgg294 Tryz.sizeOf294 rfl) <| mv rfl rfl <| mv rfl rfl ?_
  refine o_l rfl (l_calle Tryz.call326 (z54 (g1)) rfl rfl (.cons (.head) (.nil))) ?_; intro r2 hr2
  refine o_cat (.cons (.nil)) <| o_nil <| n_code <| c_seq <| c_region <| mv rfl rfl <| mv rfl rfl ?_
  refine o_l rfl (l_callie Tryz.call294 (by intro w; kernel_rfl) (z56 (p0) (p1) (g1)) rfl rfl rfl (.cons (.tail (.head)) (.cons (.tail (.head)) (.cons (.head) (.nil))))) ?_; intro r3 hr3
  refine o_cat (.cons (.cons (.cons (.nil)))) <| mv rfl rfl <| oe rfl (e_extract rfl rfl) <| oe rfl (e_extract rfl rfl) <| asg rfl rfl <| asg rfl rfl <| o_nil <| n_code <| c_seq <| c_region <| mv rfl rfl <| asg rfl rfl <| o_nil <| n_code <| c_ret <| WR.sel (.cons (.head) (.cons (.head) (.nil))) <| r_fn1 Tryz.results318 rfl ?_
  exact tells (y := (())) trivial rfl rfl

theorem z58 {G : HP}  :
    CtrE Tryz.prog 66 [Value.int .u64 1] G [] (T := Unit) (fun _ => True) (fun _ => Value.int .i64 1) (fun _ => []) := by
  refine fn_enter 8 Tryz.func66 rfl Tryz.ntmps66 rfl ?_
  intro w0
  refine c_seq <| c_region <| asg rfl rfl <| o_nil <| n_code <| c_seq <| c_else rfl <| c_skip <| n_code <| c_seq <| c_region <| mv rfl rfl ?_
  refine o_l rfl (l_calle Tryz.call123 (z6 ) rfl rfl (.nil)) ?_; intro r1 hr1
  refine o_cat (.nil) <| asg rfl rfl <| o_nil <| n_code <| c_ret <| WR.sel (.nil) <| r_fn1 Tryz.results66 rfl ?_
  exact tells (y := (())) trivial rfl rfl

theorem z59 {G : HP} (q0 : Tl) (h0 : TlOk 1 1 q0) :
    CtrE Tryz.prog 370 [Value.slice (some ⟨q0.g, 0, none⟩) 1 q0.cap, Value.int .i64 0, Value.int .i64 1] G [(q0.g, Ob [Value.int .u32 9] q0 212)] (T := Unit) (fun _ => True) (fun _ => Value.tuple #[]) (fun _ => [(q0.g, Ob [Value.int .u32 9] q0 212)]) := by
  refine fn_enter 49 Tryz.func370 rfl Tryz.ntmps370 rfl ?_
  intro w0
  refine c_seq <| c_region <| mv rfl rfl <| oi (Value.int .i64 1) rfl rfl rfl (by kernel_rfl) <| asg rfl rfl <| o_nil <| n_code <| c_block <| c_rounds 999 <| c_seq <| c_seq <| c_region <| mv rfl rfl <| mv rfl rfl <| oi (Value.bool false) rfl rfl rfl (by kernel_rfl) <| o_nil <| n_code <| c_else rfl <| c_exit <| x_code <| x_upto <| x_here <| WN.sel (.cons (.head) (.nil)) <| n_fn0 Tryz.results370 ?_
  exact tells (y := (())) trivial rfl rfl
end Go.Proofs

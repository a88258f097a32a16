/- laws.ixOne at its two kinds, run by laws: part 3. -/
import Derived.KernelRfl
import Derived.Test.YtochgglejmfelaaGreatDoorZ2
namespace Go.Proofs
open Go Go.Sl
set_option maxRecDepth 100000
set_option maxHeartbeats 4000000
theorem z60 {G : HP} (q0 : Tl) (h0 : TlOk 1 1 q0) :
    CtrE Tryz.prog 360 [Value.slice (some ⟨q0.g, 0, none⟩) 1 q0.cap, Value.int .i64 0, Value.int .i64 1, Value.int .i64 1] G [(q0.g, Ob [Value.int .u32 9] q0 212)] (T := Unit) (fun _ => True) (fun _ => Value.tuple #[]) (fun _ => [(q0.g, Ob [Value.int .u32 9] q0 212)]) := by
  refine fn_enter 134 Tryz.func360 rfl Tryz.ntmps360 rfl ?_
  intro w0
  refine c_seq <| c_region <| asg rfl rfl <| o_nil <| n_code <| c_seq <| c_region <| asg rfl rfl <| o_nil <| n_code <| c_block <| c_rounds 999 <| c_block <| c_seq <| c_region <| mv rfl rfl <| mv rfl rfl <| oi (Value.int .i64 1) rfl rfl rfl (by kernel_rfl) <| asg rfl rfl <| o_nil <| n_code <| c_seq <| c_seq <| c_region <| mv rfl rfl <| oi (Value.bool true) rfl rfl rfl (by kernel_rfl) <| o_nil <| n_code <| c_then rfl <| c_seq <| c_region <| mv rfl rfl <| mv rfl rfl <| mv rfl rfl ?_
  refine o_l rfl (l_calle Tryz.call370 (z59 q0 h0) rfl rfl (.cons (.head) (.nil))) ?_; intro r1 hr1
  refine o_cat (.cons (.nil)) <| o_nil <| n_code <| c_ret <| WR.sel (.cons (.head) (.nil)) <| r_fn0 Tryz.results360 ?_
  exact tells (y := (())) trivial rfl rfl

theorem z61 {G : HP} (q0 : Tl) (h0 : TlOk 1 1 q0) :
    CtrE Tryz.prog 339 [Value.slice (some ⟨q0.g, 0, none⟩) 1 q0.cap] G [(q0.g, Ob [Value.int .u32 9] q0 212)] (T := Unit) (fun _ => True) (fun _ => Value.tuple #[]) (fun _ => [(q0.g, Ob [Value.int .u32 9] q0 212)]) := by
  refine fn_enter 11 Tryz.func339 rfl Tryz.ntmps339 rfl ?_
  intro w0
  refine c_seq <| c_region <| mv rfl rfl <| oe rfl (e_as (r := Value.int .i64 1) (e_lenl Tryz.runUnderlying472 rfl) rfl) <| asg rfl rfl <| o_nil <| n_code <| c_region <| mv rfl rfl <| mv rfl rfl <| mv rfl rfl <| oe rfl (e_convc (r := Value.int .u64 1) Tryz.runUnderlying3 Tryz.runUnderlying131 rfl (by kernel_rfl)) ?_
  refine o_l rfl (l_calle Tryz.call66 (z58 ) rfl rfl (.nil)) ?_; intro r1 hr1
  refine o_cat (.nil) ?_
  refine o_l rfl (l_calle Tryz.call360 (z60 q0 h0) rfl rfl (.cons (.head) (.nil))) ?_; intro r2 hr2
  refine o_cat (.cons (.nil)) <| o_nil <| WN.sel (.cons (.head) (.nil)) <| n_fn0 Tryz.results339 ?_
  exact tells (y := (())) trivial rfl rfl

theorem z62 {G : HP} (p0 : Nat) :
    CtrE Tryz.prog 326 [Value.agg #[], Value.slice (some ⟨p0, 0, none⟩) 4 4, Value.int .u32 9] G [(p0, C [ub 0, ub 0, ub 0, ub 0] 5)] (T := Unit) (fun _ => True) (fun _ => Value.tuple #[]) (fun _ => [(p0, C [ub 9, ub 0, ub 0, ub 0] 5)]) := by
  refine fn_enter 28 Tryz.func326 rfl Tryz.ntmps326 rfl ?_
  intro w0
  refine c_seq <| c_region ?_
  refine o_l rfl (l_box rfl rfl rfl) ?_; intro g1 _
  refine o_nil <| n_code <| c_seq <| c_region <| mv rfl rfl <| oe rfl (e_as (r := Value.pointer (some ⟨p0, 3, none⟩)) (e_ia Tryz.runUnderlying72 Tryz.sizeOf5 rfl rfl (by decide) (by decide)) rfl) <| oe rfl (e_load Tryz.isAgg5 rfl (.inl (.tail _ (.head _))) rfl) <| o_nil <| n_code <| c_seq <| c_region <| mv rfl rfl <| mv rfl rfl <| oe rfl (e_convc (r := ub 9) Tryz.runUnderlying212 Tryz.runUnderlying5 rfl (by kernel_rfl)) ?_
  refine oe rfl (e_as (r := Value.pointer (some ⟨p0, 0, none⟩)) (e_ia Tryz.runUnderlying72 Tryz.sizeOf5 rfl rfl (by decide) (by decide)) rfl) ?_
  refine o_l rfl (l_store Tryz.sizeOf5 rfl rfl rfl (.tail (.head)) (.head) nofr0) ?_; intro _ _
  refine o_nil <| n_code <| c_seq <| c_region <| mv rfl rfl <| mv rfl rfl <| oe rfl (e_shrc (r := Value.int .u32 0) rfl rfl rfl (by kernel_rfl)) <| oe rfl (e_convc (r := ub 0) Tryz.runUnderlying212 Tryz.runUnderlying5 rfl (by kernel_rfl)) <| oe rfl (e_as (r := Value.pointer (some ⟨p0, 1, none⟩)) (e_ia Tryz.runUnderlying72 Tryz.sizeOf5 rfl rfl (by decide) (by decide)) rfl) ?_
  refine o_l rfl (l_store Tryz.sizeOf5 rfl rfl rfl (.tail (.head)) (.tail (.head)) nofr0) ?_; intro _ _
  refine o_nil <| n_code <| c_seq <| c_region <| mv rfl rfl <| mv rfl rfl <| oe rfl (e_shrc (r := Value.int .u32 0) rfl rfl rfl (by kernel_rfl)) <| oe rfl (e_convc (r := ub 0) Tryz.runUnderlying212 Tryz.runUnderlying5 rfl (by kernel_rfl)) <| oe rfl (e_as (r := Value.pointer (some ⟨p0, 2, none⟩)) (e_ia Tryz.runUnderlying72 Tryz.sizeOf5 rfl rfl (by decide) (by decide)) rfl) ?_
  refine o_l rfl (l_store Tryz.sizeOf5 rfl rfl rfl (.tail (.head)) (.tail (.tail (.head))) nofr0) ?_; intro _ _
  refine o_nil <| n_code <| c_region <| mv rfl rfl <| mv rfl rfl <| oe rfl (e_shrc (r := Value.int .u32 0) rfl rfl rfl (by kernel_rfl)) <| oe rfl (e_convc (r := ub 0) Tryz.runUnderlying212 Tryz.runUnderlying5 rfl (by kernel_rfl)) <| oe rfl (e_as (r := Value.pointer (some ⟨p0, 3, none⟩)) (e_ia Tryz.runUnderlying72 Tryz.sizeOf5 rfl rfl (by decide) (by decide)) rfl) ?_
  refine o_l rfl (l_store Tryz.sizeOf5 rfl rfl rfl (.tail (.head)) (.tail (.tail (.tail (.head)))) nofr0) ?_; intro _ _
  refine o_nil <| WN.sel (.cons (.tail (.head)) (.nil)) <| n_fn0 Tryz.results326 ?_
  exact tells (y := (())) trivial rfl rfl

theorem z63 {G : HP} (p0 : Nat) (p1 : Nat) :
    CtrE Tryz.prog 296 [Value.pointer (some ⟨p0, 0, none⟩), Value.int .i64 4] G [(p0, C [Value.slice (some ⟨p1, 0, none⟩) 6 64, Value.int .i64 0, Value.int .i8 0] 86), (p1, C xb8 5)] (T := Unit) (fun _ => True) (fun _ => Value.tuple #[Value.int .i64 6, Value.bool true]) (fun _ => [(p0, C [Value.slice (some ⟨p1, 0, none⟩) 10 64, Value.int .i64 0, Value.int .i8 0] 86), (p1, C xb8 5)]) := by
  refine fn_enter 33 Tryz.func296 rfl Tryz.ntmps296 rfl ?_
  intro w0
  refine c_seq <| c_region <| asg rfl rfl <| asg rfl rfl <| o_nil <| n_code <| c_seq <| c_seq <| c_region <| mv rfl rfl <| oe rfl (e_nilCheck rfl) <| oe rfl (e_as (r := Value.pointer (some ⟨p0, 0, none⟩)) (e_fa Tryz.runUnderlying86 rfl Tryz.sizeOf72 rfl rfl) rfl) <| oe rfl (e_load Tryz.isAgg72 rfl (.inl (.head _)) rfl) <| oe rfl (e_as (r := Value.int .i64 6) (e_lenl Tryz.runUnderlying72 rfl) rfl) <| asg rfl rfl <| o_nil <| n_code <| c_seq <| c_region <| mv rfl rfl <| mv rfl rfl <| oe rfl (e_nilCheck rfl) ?_
  refine oe rfl (e_as (r := Value.pointer (some ⟨p0, 0, none⟩)) (e_fa Tryz.runUnderlying86 rfl Tryz.sizeOf72 rfl rfl) rfl) <| oe rfl (e_load Tryz.isAgg72 rfl (.inl (.head _)) rfl) <| oe rfl (e_as (r := Value.int .i64 64) (e_cap Tryz.runUnderlying72 rfl) rfl) <| mv rfl rfl <| oi (Value.int .i64 58) rfl rfl rfl (by kernel_rfl) <| oi (Value.bool true) rfl rfl rfl (by kernel_rfl) <| o_nil <| n_code <| c_then rfl <| c_seq <| c_region <| mv rfl rfl <| mv rfl rfl <| oe rfl (e_nilCheck rfl) ?_
  refine oe rfl (e_as (r := Value.pointer (some ⟨p0, 0, none⟩)) (e_fa Tryz.runUnderlying86 rfl Tryz.sizeOf72 rfl rfl) rfl) <| oe rfl (e_load Tryz.isAgg72 rfl (.inl (.head _)) rfl) <| mv rfl rfl <| mv rfl rfl <| oi (Value.int .i64 10) rfl rfl rfl (by kernel_rfl) <| oe rfl (e_as (r := Value.slice (some ⟨p1, 0, none⟩) 10 64) (e_sl_h Tryz.runUnderlying72 Tryz.sizeOf5 rfl rfl (by decide) (by decide)) rfl) <| oe rfl (e_nilCheck rfl) ?_
  refine oe rfl (e_as (r := Value.pointer (some ⟨p0, 0, none⟩)) (e_fa Tryz.runUnderlying86 rfl Tryz.sizeOf72 rfl rfl) rfl) ?_
  refine o_l rfl (l_store Tryz.sizeOf72 rfl rfl rfl (.head) (.head) nofr0) ?_; intro _ _
  refine o_nil <| n_code <| c_seq <| c_region <| mv rfl rfl <| asg rfl rfl <| asg rfl rfl <| o_nil <| n_code <| c_ret <| WR.sel (.cons (.head) (.cons (.head) (.nil))) <| r_fn (l := [.tmp 4, .tmp 5]) Tryz.results296 rfl rfl ?_
  exact tells (y := (())) trivial rfl rfl

theorem z64 {G : HP} (p0 : Nat) (p1 : Nat) (p2 : Nat) :
    CtrE Tryz.prog 294 [Value.pointer (some ⟨p0, 0, none⟩), Value.slice (some ⟨p2, 0, none⟩) 4 4] G [(p0, C [Value.slice (some ⟨p1, 0, none⟩) 6 64, Value.int .i64 0, Value.int .i8 0] 86), (p1, C xb8 5), (p2, C [ub 9, ub 0, ub 0, ub 0] 5)] (T := Unit) (fun _ => True) (fun _ => Value.tuple #[Value.int .i64 4, Value.nilIface]) (fun _ => [(p0, C [Value.slice (some ⟨p1, 0, none⟩) 10 64, Value.int .i64 0, Value.int .i8 0] 86), (p1, C xb9 5), (p2, C [ub 9, ub 0, ub 0, ub 0] 5)]) := by
  refine fn_enter 32 Tryz.func294 rfl Tryz.ntmps294 rfl ?_
  intro w0
  refine c_seq <| c_region <| asg rfl rfl <| asg rfl rfl <| o_nil <| n_code <| c_seq <| c_region <| mv rfl rfl <| oe rfl (e_nilCheck rfl) <| oe rfl (e_as (r := Value.pointer (some ⟨p0, 2, none⟩)) (e_fa Tryz.runUnderlying86 rfl Tryz.sizeOf84 rfl rfl) rfl) ?_
  refine o_l rfl (l_store Tryz.sizeOf84 rfl rfl rfl (.head) (.tail (.tail (.head))) nofr0) ?_; intro _ _
  refine o_nil <| n_code <| c_seq <| c_region <| mv rfl rfl <| mv rfl rfl <| oe rfl (e_as (r := Value.int .i64 4) (e_lenl Tryz.runUnderlying72 rfl) rfl) ?_
  refine o_l rfl (l_calle Tryz.call296 (z63 (p0) (p1)) rfl rfl (.cons (.head) (.cons (.head) (.nil)))) ?_; intro r1 hr1
  refine o_cat (.cons (.cons (.nil))) <| mv rfl rfl <| oe rfl (e_extract rfl rfl) <| oe rfl (e_extract rfl rfl) <| asg rfl rfl <| asg rfl rfl <| o_nil <| n_code <| c_seq <| c_seq <| c_region <| mv rfl rfl <| oe rfl (e_as (r := Value.bool false) (e_not rfl) rfl) <| o_nil <| n_code <| c_else rfl <| c_skip <| n_code <| c_seq <| c_region <| mv rfl rfl <| oe rfl (e_nilCheck rfl) <| oe rfl (e_as (r := Value.pointer (some ⟨p0, 0, none⟩)) (e_fa Tryz.runUnderlying86 rfl Tryz.sizeOf72 rfl rfl) rfl) ?_
  refine oe rfl (e_load Tryz.isAgg72 rfl (.inl (.head _)) rfl) <| mv rfl rfl <| oe rfl (e_as (r := Value.slice (some ⟨p1, 6, none⟩) 4 58) (e_sl_l Tryz.runUnderlying72 Tryz.sizeOf5 rfl rfl (by decide) (by decide) (by decide)) (by first | rfl | (simp; try omega))) <| mv rfl rfl ?_
  refine o_l rfl (l_copy (vs := [ub 9, ub 0, ub 0, ub 0]) (k' := 4) Tryz.runUnderlying72 Tryz.sizeOf5 rfl rfl rfl (Sv.blk (vs := [ub 9, ub 0, ub 0, ub 0]) Tryz.underlying72 (.inl (.tail _ (.tail _ (.head _)))) (.take (.take (.take (.take (.done))))) (by simp [Value.oneCell'])) rfl (.tail (.head)) (.skip (.skip (.skip (.skip (.skip (.skip (.take (.take (.take (.take (.done))))))))))) (.inr rfl)) ?_; intro _ _
  refine asg rfl rfl <| asg rfl rfl <| o_nil <| n_code <| c_ret <| WR.sel (.cons (.head) (.cons (.head) (.cons (.head) (.nil)))) <| r_fn (l := [.tmp 4, .tmp 5]) Tryz.results294 rfl rfl ?_
  exact tells (y := (())) trivial rfl rfl

theorem z65 {G : HP} (p0 : Nat) (p1 : Nat) :
    CtrE Tryz.prog 318 [Value.iface 89 (Value.pointer (some ⟨p0, 0, none⟩)), Value.int .u32 9] G [(p0, C [Value.slice (some ⟨p1, 0, none⟩) 6 64, Value.int .i64 0, Value.int .i8 0] 86), (p1, C xb8 5)] (T := Unit) (fun _ => True) (fun _ => Value.nilIface) (fun _ => [(p0, C [Value.slice (some ⟨p1, 0, none⟩) 10 64, Value.int .i64 0, Value.int .i8 0] 86), (p1, C xb9 5)]) := by
  refine fn_enter 20 Tryz.func318 rfl Tryz.ntmps318 rfl ?_
  intro w0
  refine c_seq <| c_region <| asg rfl rfl <| o_nil <| n_code <| c_seq <| c_region ?_
  refine o_l rfl (l_mksc (l := [ub 0, ub 0, ub 0, ub 0]) (n := 4) (m := 4) Tryz.underlying72 (info_of Tryz.typeInfo5) rfl rfl rfl rfl rfl rfl rfl (by decide) (by kernel_rfl)) ?_; intro g1 _
  refine asg rfl rfl <| o_nil <| n_code <| c_seq <| c_region <| oe rfl (e_load0 Tryz.isAgg294 Tryz.sizeOf294 rfl) <| mv rfl rfl <| mv rfl rfl ?_
  refine o_l rfl (l_calle Tryz.call326 (z62 (g1)) rfl rfl (.cons (.head) (.nil))) ?_; intro r2 hr2
  refine o_cat (.cons (.nil)) <| o_nil <| n_code <| c_seq <| c_region <| mv rfl rfl <| mv rfl rfl ?_
  refine o_l rfl (l_callie Tryz.call294 (by intro w; kernel_rfl) (z64 (p0) (p1) (g1)) rfl rfl rfl (.cons (.tail (.head)) (.cons (.tail (.head)) (.cons (.head) (.nil))))) ?_; intro r3 hr3
  refine o_cat (.cons (.cons (.cons (.nil)))) <| mv rfl rfl <| oe rfl (e_extract rfl rfl) <| oe rfl (e_extract rfl rfl) <| asg rfl rfl <| asg rfl rfl <| o_nil <| n_code <| c_seq <| c_region <| mv rfl rfl <| asg rfl rfl <| o_nil <| n_code <| c_ret <| WR.sel (.cons (.head) (.cons (.head) (.nil))) <| r_fn1 Tryz.results318 rfl ?_
  exact tells (y := (())) trivial rfl rfl

theorem z66 {G : HP} (p0 : Nat) :
    CtrE Tryz.prog 179 [Value.agg #[], Value.slice (some ⟨p0, 0, none⟩) 8 8, Value.int .u64 9] G [(p0, C xb10 5)] (T := Unit) (fun _ => True) (fun _ => Value.tuple #[]) (fun _ => [(p0, C xb11 5)]) := by
  refine fn_enter 48 Tryz.func179 rfl Tryz.ntmps179 rfl ?_
  intro w0
  refine c_seq <| c_region ?_
  refine o_l rfl (l_box rfl rfl rfl) ?_; intro g1 _
  refine o_nil <| n_code <| c_seq <| c_region <| mv rfl rfl <| oe rfl (e_as (r := Value.pointer (some ⟨p0, 7, none⟩)) (e_ia Tryz.runUnderlying72 Tryz.sizeOf5 rfl rfl (by decide) (by decide)) rfl) <| oe rfl (e_load Tryz.isAgg5 rfl (.inl (.tail _ (.head _))) rfl) <| o_nil <| n_code <| c_seq <| c_region <| mv rfl rfl <| mv rfl rfl <| oe rfl (e_convc (r := ub 9) Tryz.runUnderlying23 Tryz.runUnderlying5 rfl (by kernel_rfl)) ?_
  refine oe rfl (e_as (r := Value.pointer (some ⟨p0, 0, none⟩)) (e_ia Tryz.runUnderlying72 Tryz.sizeOf5 rfl rfl (by decide) (by decide)) rfl) ?_
  refine o_l rfl (l_store Tryz.sizeOf5 rfl rfl rfl (.tail (.head)) (.head) nofr0) ?_; intro _ _
  refine o_nil <| n_code <| c_seq <| c_region <| mv rfl rfl <| mv rfl rfl <| oe rfl (e_shrc (r := Value.int .u64 0) rfl rfl rfl (by kernel_rfl)) <| oe rfl (e_convc (r := ub 0) Tryz.runUnderlying23 Tryz.runUnderlying5 rfl (by kernel_rfl)) <| oe rfl (e_as (r := Value.pointer (some ⟨p0, 1, none⟩)) (e_ia Tryz.runUnderlying72 Tryz.sizeOf5 rfl rfl (by decide) (by decide)) rfl) ?_
  refine o_l rfl (l_store Tryz.sizeOf5 rfl rfl rfl (.tail (.head)) (.tail (.head)) nofr0) ?_; intro _ _
  refine o_nil <| n_code <| c_seq <| c_region <| mv rfl rfl <| mv rfl rfl <| oe rfl (e_shrc (r := Value.int .u64 0) rfl rfl rfl (by kernel_rfl)) <| oe rfl (e_convc (r := ub 0) Tryz.runUnderlying23 Tryz.runUnderlying5 rfl (by kernel_rfl)) <| oe rfl (e_as (r := Value.pointer (some ⟨p0, 2, none⟩)) (e_ia Tryz.runUnderlying72 Tryz.sizeOf5 rfl rfl (by decide) (by decide)) rfl) ?_
  refine o_l rfl (l_store Tryz.sizeOf5 rfl rfl rfl (.tail (.head)) (.tail (.tail (.head))) nofr0) ?_; intro _ _
  refine o_nil <| n_code <| c_seq <| c_region <| mv rfl rfl <| mv rfl rfl <| oe rfl (e_shrc (r := Value.int .u64 0) rfl rfl rfl (by kernel_rfl)) <| oe rfl (e_convc (r := ub 0) Tryz.runUnderlying23 Tryz.runUnderlying5 rfl (by kernel_rfl)) <| oe rfl (e_as (r := Value.pointer (some ⟨p0, 3, none⟩)) (e_ia Tryz.runUnderlying72 Tryz.sizeOf5 rfl rfl (by decide) (by decide)) rfl) ?_
  refine o_l rfl (l_store Tryz.sizeOf5 rfl rfl rfl (.tail (.head)) (.tail (.tail (.tail (.head)))) nofr0) ?_; intro _ _
  refine o_nil <| n_code <| c_seq <| c_region <| mv rfl rfl <| mv rfl rfl <| oe rfl (e_shrc (r := Value.int .u64 0) rfl rfl rfl (by kernel_rfl)) <| oe rfl (e_convc (r := ub 0) Tryz.runUnderlying23 Tryz.runUnderlying5 rfl (by kernel_rfl)) <| oe rfl (e_as (r := Value.pointer (some ⟨p0, 4, none⟩)) (e_ia Tryz.runUnderlying72 Tryz.sizeOf5 rfl rfl (by decide) (by decide)) rfl) ?_
  refine o_l rfl (l_store Tryz.sizeOf5 rfl rfl rfl (.tail (.head)) (.tail (.tail (.tail (.tail (.head))))) nofr0) ?_; intro _ _
  refine o_nil <| n_code <| c_seq <| c_region <| mv rfl rfl <| mv rfl rfl <| oe rfl (e_shrc (r := Value.int .u64 0) rfl rfl rfl (by kernel_rfl)) <| oe rfl (e_convc (r := ub 0) Tryz.runUnderlying23 Tryz.runUnderlying5 rfl (by kernel_rfl)) <| oe rfl (e_as (r := Value.pointer (some ⟨p0, 5, none⟩)) (e_ia Tryz.runUnderlying72 Tryz.sizeOf5 rfl rfl (by decide) (by decide)) rfl) ?_
  refine o_l rfl (l_store Tryz.sizeOf5 rfl rfl rfl (.tail (.head)) (.tail (.tail (.tail (.tail (.tail (.head)))))) nofr0) ?_; intro _ _
  refine o_nil <| n_code <| c_seq <| c_region <| mv rfl rfl <| mv rfl rfl <| oe rfl (e_shrc (r := Value.int .u64 0) rfl rfl rfl (by kernel_rfl)) <| oe rfl (e_convc (r := ub 0) Tryz.runUnderlying23 Tryz.runUnderlying5 rfl (by kernel_rfl)) <| oe rfl (e_as (r := Value.pointer (some ⟨p0, 6, none⟩)) (e_ia Tryz.runUnderlying72 Tryz.sizeOf5 rfl rfl (by decide) (by decide)) rfl) ?_
  refine o_l rfl (l_store Tryz.sizeOf5 rfl rfl rfl (.tail (.head)) (.tail (.tail (.tail (.tail (.tail (.tail (.head))))))) nofr0) ?_; intro _ _
  refine o_nil <| n_code <| c_region <| mv rfl rfl <| mv rfl rfl <| oe rfl (e_shrc (r := Value.int .u64 0) rfl rfl rfl (by kernel_rfl)) <| oe rfl (e_convc (r := ub 0) Tryz.runUnderlying23 Tryz.runUnderlying5 rfl (by kernel_rfl)) <| oe rfl (e_as (r := Value.pointer (some ⟨p0, 7, none⟩)) (e_ia Tryz.runUnderlying72 Tryz.sizeOf5 rfl rfl (by decide) (by decide)) rfl) ?_
  refine o_l rfl (l_store Tryz.sizeOf5 rfl rfl rfl (.tail (.head)) (.tail (.tail (.tail (.tail (.tail (.tail (.tail (.head)))))))) nofr0) ?_; intro _ _
  refine o_nil <| WN.sel (.cons (.tail (.head)) (.nil)) <| n_fn0 Tryz.results179 ?_
  exact tells (y := (())) trivial rfl rfl

theorem z67 {G : HP} (p0 : Nat) (p1 : Nat) :
    CtrE Tryz.prog 296 [Value.pointer (some ⟨p0, 0, none⟩), Value.int .i64 8] G [(p0, C [Value.slice (some ⟨p1, 0, none⟩) 10 64, Value.int .i64 0, Value.int .i8 0] 86), (p1, C xb9 5)] (T := Unit) (fun _ => True) (fun _ => Value.tuple #[Value.int .i64 10, Value.bool true]) (fun _ => [(p0, C [Value.slice (some ⟨p1, 0, none⟩) 18 64, Value.int .i64 0, Value.int .i8 0] 86), (p1, C xb9 5)]) := by
  refine fn_enter 33 Tryz.func296 rfl Tryz.ntmps296 rfl ?_
  intro w0
  refine c_seq <| c_region <| asg rfl rfl <| asg rfl rfl <| o_nil <| n_code <| c_seq <| c_seq <| c_region <| mv rfl rfl <| oe rfl (e_nilCheck rfl) <| oe rfl (e_as (r := Value.pointer (some ⟨p0, 0, none⟩)) (e_fa Tryz.runUnderlying86 rfl Tryz.sizeOf72 rfl rfl) rfl) <| oe rfl (e_load Tryz.isAgg72 rfl (.inl (.head _)) rfl) <| oe rfl (e_as (r := Value.int .i64 10) (e_lenl Tryz.runUnderlying72 rfl) rfl) <| asg rfl rfl <| o_nil <| n_code <| c_seq <| c_region <| mv rfl rfl <| mv rfl rfl <| oe rfl (e_nilCheck rfl) ?_
  refine oe rfl (e_as (r := Value.pointer (some ⟨p0, 0, none⟩)) (e_fa Tryz.runUnderlying86 rfl Tryz.sizeOf72 rfl rfl) rfl) <| oe rfl (e_load Tryz.isAgg72 rfl (.inl (.head _)) rfl) <| oe rfl (e_as (r := Value.int .i64 64) (e_cap Tryz.runUnderlying72 rfl) rfl) <| mv rfl rfl <| oi (Value.int .i64 54) rfl rfl rfl (by kernel_rfl) <| oi (Value.bool true) rfl rfl rfl (by kernel_rfl) <| o_nil <| n_code <| c_then rfl <| c_seq <| c_region <| mv rfl rfl <| mv rfl rfl <| oe rfl (e_nilCheck rfl) ?_
  refine oe rfl (e_as (r := Value.pointer (some ⟨p0, 0, none⟩)) (e_fa Tryz.runUnderlying86 rfl Tryz.sizeOf72 rfl rfl) rfl) <| oe rfl (e_load Tryz.isAgg72 rfl (.inl (.head _)) rfl) <| mv rfl rfl <| mv rfl rfl <| oi (Value.int .i64 18) rfl rfl rfl (by kernel_rfl) <| oe rfl (e_as (r := Value.slice (some ⟨p1, 0, none⟩) 18 64) (e_sl_h Tryz.runUnderlying72 Tryz.sizeOf5 rfl rfl (by decide) (by decide)) rfl) <| oe rfl (e_nilCheck rfl) ?_
  refine oe rfl (e_as (r := Value.pointer (some ⟨p0, 0, none⟩)) (e_fa Tryz.runUnderlying86 rfl Tryz.sizeOf72 rfl rfl) rfl) ?_
  refine o_l rfl (l_store Tryz.sizeOf72 rfl rfl rfl (.head) (.head) nofr0) ?_; intro _ _
  refine o_nil <| n_code <| c_seq <| c_region <| mv rfl rfl <| asg rfl rfl <| asg rfl rfl <| o_nil <| n_code <| c_ret <| WR.sel (.cons (.head) (.cons (.head) (.nil))) <| r_fn (l := [.tmp 4, .tmp 5]) Tryz.results296 rfl rfl ?_
  exact tells (y := (())) trivial rfl rfl

theorem z68 {G : HP} (p0 : Nat) (p1 : Nat) (p2 : Nat) :
    CtrE Tryz.prog 294 [Value.pointer (some ⟨p0, 0, none⟩), Value.slice (some ⟨p2, 0, none⟩) 8 8] G [(p0, C [Value.slice (some ⟨p1, 0, none⟩) 10 64, Value.int .i64 0, Value.int .i8 0] 86), (p1, C xb9 5), (p2, C xb11 5)] (T := Unit) (fun _ => True) (fun _ => Value.tuple #[Value.int .i64 8, Value.nilIface]) (fun _ => [(p0, C [Value.slice (some ⟨p1, 0, none⟩) 18 64, Value.int .i64 0, Value.int .i8 0] 86), (p1, C xb12 5), (p2, C xb11 5)]) := by
  refine fn_enter 32 Tryz.func294 rfl Tryz.ntmps294 rfl ?_
  intro w0
  refine c_seq <| c_region <| asg rfl rfl <| asg rfl rfl <| o_nil <| n_code <| c_seq <| c_region <| mv rfl rfl <| oe rfl (e_nilCheck rfl) <| oe rfl (e_as (r := Value.pointer (some ⟨p0, 2, none⟩)) (e_fa Tryz.runUnderlying86 rfl Tryz.sizeOf84 rfl rfl) rfl) ?_
  refine o_l rfl (l_store Tryz.sizeOf84 rfl rfl rfl (.head) (.tail (.tail (.head))) nofr0) ?_; intro _ _
  refine o_nil <| n_code <| c_seq <| c_region <| mv rfl rfl <| mv rfl rfl <| oe rfl (e_as (r := Value.int .i64 8) (e_lenl Tryz.runUnderlying72 rfl) rfl) ?_
  refine o_l rfl (l_calle Tryz.call296 (z67 (p0) (p1)) rfl rfl (.cons (.head) (.cons (.head) (.nil)))) ?_; intro r1 hr1
  refine o_cat (.cons (.cons (.nil))) <| mv rfl rfl <| oe rfl (e_extract rfl rfl) <| oe rfl (e_extract rfl rfl) <| asg rfl rfl <| asg rfl rfl <| o_nil <| n_code <| c_seq <| c_seq <| c_region <| mv rfl rfl <| oe rfl (e_as (r := Value.bool false) (e_not rfl) rfl) <| o_nil <| n_code <| c_else rfl <| c_skip <| n_code <| c_seq <| c_region <| mv rfl rfl <| oe rfl (e_nilCheck rfl) <| oe rfl (e_as (r := Value.pointer (some ⟨p0, 0, none⟩)) (e_fa Tryz.runUnderlying86 rfl Tryz.sizeOf72 rfl rfl) rfl) ?_
  refine oe rfl (e_load Tryz.isAgg72 rfl (.inl (.head _)) rfl) <| mv rfl rfl <| oe rfl (e_as (r := Value.slice (some ⟨p1, 10, none⟩) 8 54) (e_sl_l Tryz.runUnderlying72 Tryz.sizeOf5 rfl rfl (by decide) (by decide) (by decide)) (by first | rfl | (simp; try omega))) <| mv rfl rfl ?_
  refine o_l rfl (l_copy (vs := xb11) (k' := 8) Tryz.runUnderlying72 Tryz.sizeOf5 rfl rfl rfl (Sv.blk (vs := xb11) Tryz.underlying72 (.inl (.tail _ (.tail _ (.head _)))) (.take (.take (.take (.take (.take (.take (.take (.take (.done))))))))) (by simp [Value.oneCell'])) rfl (.tail (.head)) (.skip (.skip (.skip (.skip (.skip (.skip (.skip (.skip (.skip (.skip (.take (.take (.take (.take (.take (.take (.take (.take (.done))))))))))))))))))) (.inr rfl)) ?_; intro _ _
  refine asg rfl rfl <| asg rfl rfl <| o_nil <| n_code <| c_ret <| WR.sel (.cons (.head) (.cons (.head) (.cons (.head) (.nil)))) <| r_fn (l := [.tmp 4, .tmp 5]) Tryz.results294 rfl rfl ?_
  exact tells (y := (())) trivial rfl rfl

theorem z69 {G : HP} (p0 : Nat) (p1 : Nat) :
    CtrE Tryz.prog 328 [Value.iface 89 (Value.pointer (some ⟨p0, 0, none⟩)), Value.int .u64 9] G [(p0, C [Value.slice (some ⟨p1, 0, none⟩) 10 64, Value.int .i64 0, Value.int .i8 0] 86), (p1, C xb9 5)] (T := Unit) (fun _ => True) (fun _ => Value.nilIface) (fun _ => [(p0, C [Value.slice (some ⟨p1, 0, none⟩) 18 64, Value.int .i64 0, Value.int .i8 0] 86), (p1, C xb12 5)]) := by
  refine fn_enter 20 Tryz.func328 rfl Tryz.ntmps328 rfl ?_
  intro w0
  refine c_seq <| c_region <| asg rfl rfl <| o_nil <| n_code <| c_seq <| c_region ?_
  refine o_l rfl (l_mksc (l := xb10) (n := 8) (m := 8) Tryz.underlying72 (info_of Tryz.typeInfo5) rfl rfl rfl rfl rfl rfl rfl (by decide) (by kernel_rfl)) ?_; intro g1 _
  refine asg rfl rfl <| o_nil <| n_code <| c_seq <| c_region <| oe rfl (e_load0 Tryz.isAgg294 Tryz.sizeOf294 rfl) <| mv rfl rfl <| mv rfl rfl ?_
  refine o_l rfl (l_calle Tryz.call179 (z66 (g1)) rfl rfl (.cons (.head) (.nil))) ?_; intro r2 hr2
  refine o_cat (.cons (.nil)) <| o_nil <| n_code <| c_seq <| c_region <| mv rfl rfl <| mv rfl rfl ?_
  refine o_l rfl (l_callie Tryz.call294 (by intro w; kernel_rfl) (z68 (p0) (p1) (g1)) rfl rfl rfl (.cons (.tail (.head)) (.cons (.tail (.head)) (.cons (.head) (.nil))))) ?_; intro r3 hr3
  refine o_cat (.cons (.cons (.cons (.nil)))) <| mv rfl rfl <| oe rfl (e_extract rfl rfl) <| oe rfl (e_extract rfl rfl) <| asg rfl rfl <| asg rfl rfl <| o_nil <| n_code <| c_seq <| c_region <| mv rfl rfl <| asg rfl rfl <| o_nil <| n_code <| c_ret <| WR.sel (.cons (.head) (.cons (.head) (.nil))) <| r_fn1 Tryz.results328 rfl ?_
  exact tells (y := (())) trivial rfl rfl

theorem z70 {G : HP} (p0 : Nat) (p1 : Nat) :
    CtrE Tryz.prog 296 [Value.pointer (some ⟨p0, 0, none⟩), Value.int .i64 9] G [(p0, C [Value.slice (some ⟨p1, 0, none⟩) 18 64, Value.int .i64 0, Value.int .i8 0] 86), (p1, C xb12 5)] (T := Unit) (fun _ => True) (fun _ => Value.tuple #[Value.int .i64 18, Value.bool true]) (fun _ => [(p0, C [Value.slice (some ⟨p1, 0, none⟩) 27 64, Value.int .i64 0, Value.int .i8 0] 86), (p1, C xb12 5)]) := by
  refine fn_enter 33 Tryz.func296 rfl Tryz.ntmps296 rfl ?_
  intro w0
  refine c_seq <| c_region <| asg rfl rfl <| asg rfl rfl <| o_nil <| n_code <| c_seq <| c_seq <| c_region <| mv rfl rfl <| oe rfl (e_nilCheck rfl) <| oe rfl (e_as (r := Value.pointer (some ⟨p0, 0, none⟩)) (e_fa Tryz.runUnderlying86 rfl Tryz.sizeOf72 rfl rfl) rfl) <| oe rfl (e_load Tryz.isAgg72 rfl (.inl (.head _)) rfl) <| oe rfl (e_as (r := Value.int .i64 18) (e_lenl Tryz.runUnderlying72 rfl) rfl) <| asg rfl rfl <| o_nil <| n_code <| c_seq <| c_region <| mv rfl rfl <| mv rfl rfl <| oe rfl (e_nilCheck rfl) ?_
  refine oe rfl (e_as (r := Value.pointer (some ⟨p0, 0, none⟩)) (e_fa Tryz.runUnderlying86 rfl Tryz.sizeOf72 rfl rfl) rfl) <| oe rfl (e_load Tryz.isAgg72 rfl (.inl (.head _)) rfl) <| oe rfl (e_as (r := Value.int .i64 64) (e_cap Tryz.runUnderlying72 rfl) rfl) <| mv rfl rfl <| oi (Value.int .i64 46) rfl rfl rfl (by kernel_rfl) <| oi (Value.bool true) rfl rfl rfl (by kernel_rfl) <| o_nil <| n_code <| c_then rfl <| c_seq <| c_region <| mv rfl rfl <| mv rfl rfl <| oe rfl (e_nilCheck rfl) ?_
  refine oe rfl (e_as (r := Value.pointer (some ⟨p0, 0, none⟩)) (e_fa Tryz.runUnderlying86 rfl Tryz.sizeOf72 rfl rfl) rfl) <| oe rfl (e_load Tryz.isAgg72 rfl (.inl (.head _)) rfl) <| mv rfl rfl <| mv rfl rfl <| oi (Value.int .i64 27) rfl rfl rfl (by kernel_rfl) <| oe rfl (e_as (r := Value.slice (some ⟨p1, 0, none⟩) 27 64) (e_sl_h Tryz.runUnderlying72 Tryz.sizeOf5 rfl rfl (by decide) (by decide)) rfl) <| oe rfl (e_nilCheck rfl) ?_
  refine oe rfl (e_as (r := Value.pointer (some ⟨p0, 0, none⟩)) (e_fa Tryz.runUnderlying86 rfl Tryz.sizeOf72 rfl rfl) rfl) ?_
  refine o_l rfl (l_store Tryz.sizeOf72 rfl rfl rfl (.head) (.head) nofr0) ?_; intro _ _
  refine o_nil <| n_code <| c_seq <| c_region <| mv rfl rfl <| asg rfl rfl <| asg rfl rfl <| o_nil <| n_code <| c_ret <| WR.sel (.cons (.head) (.cons (.head) (.nil))) <| r_fn (l := [.tmp 4, .tmp 5]) Tryz.results296 rfl rfl ?_
  exact tells (y := (())) trivial rfl rfl

theorem z71 {G : HP} (p0 : Nat) (p1 : Nat) (p2 : Nat) :
    CtrE Tryz.prog 294 [Value.pointer (some ⟨p0, 0, none⟩), Value.slice (some ⟨p2, 0, none⟩) 9 9] G [(p0, C [Value.slice (some ⟨p1, 0, none⟩) 18 64, Value.int .i64 0, Value.int .i8 0] 86), (p1, C xb12 5), (p2, C xb3 5)] (T := Unit) (fun _ => True) (fun _ => Value.tuple #[Value.int .i64 9, Value.nilIface]) (fun _ => [(p0, C [Value.slice (some ⟨p1, 0, none⟩) 27 64, Value.int .i64 0, Value.int .i8 0] 86), (p1, C xb13 5), (p2, C xb3 5)]) := by
  refine fn_enter 32 Tryz.func294 rfl Tryz.ntmps294 rfl ?_
  intro w0
  refine c_seq <| c_region <| asg rfl rfl <| asg rfl rfl <| o_nil <| n_code <| c_seq <| c_region <| mv rfl rfl <| oe rfl (e_nilCheck rfl) <| oe rfl (e_as (r := Value.pointer (some ⟨p0, 2, none⟩)) (e_fa Tryz.runUnderlying86 rfl Tryz.sizeOf84 rfl rfl) rfl) ?_
  refine o_l rfl (l_store Tryz.sizeOf84 rfl rfl rfl (.head) (.tail (.tail (.head))) nofr0) ?_; intro _ _
  refine o_nil <| n_code <| c_seq <| c_region <| mv rfl rfl <| mv rfl rfl <| oe rfl (e_as (r := Value.int .i64 9) (e_lenl Tryz.runUnderlying72 rfl) rfl) ?_
  refine o_l rfl (l_calle Tryz.call296 (z70 (p0) (p1)) rfl rfl (.cons (.head) (.cons (.head) (.nil)))) ?_; intro r1 hr1
  refine o_cat (.cons (.cons (.nil))) <| mv rfl rfl <| oe rfl (e_extract rfl rfl) <| oe rfl (e_extract rfl rfl) <| asg rfl rfl <| asg rfl rfl <| o_nil <| n_code <| c_seq <| c_seq <| c_region <| mv rfl rfl <| oe rfl (e_as (r := Value.bool false) (e_not rfl) rfl) <| o_nil <| n_code <| c_else rfl <| c_skip <| n_code <| c_seq <| c_region <| mv rfl rfl <| oe rfl (e_nilCheck rfl) <| oe rfl (e_as (r := Value.pointer (some ⟨p0, 0, none⟩)) (e_fa Tryz.runUnderlying86 rfl Tryz.sizeOf72 rfl rfl) rfl) ?_
  refine oe rfl (e_load Tryz.isAgg72 rfl (.inl (.head _)) rfl) <| mv rfl rfl <| oe rfl (e_as (r := Value.slice (some ⟨p1, 18, none⟩) 9 46) (e_sl_l Tryz.runUnderlying72 Tryz.sizeOf5 rfl rfl (by decide) (by decide) (by decide)) (by first | rfl | (simp; try omega))) <| mv rfl rfl ?_
  refine o_l rfl (l_copy (vs := xb3) (k' := 9) Tryz.runUnderlying72 Tryz.sizeOf5 rfl rfl rfl (Sv.blk (vs := xb3) Tryz.underlying72 (.inl (.tail _ (.tail _ (.head _)))) (.take (.take (.take (.take (.take (.take (.take (.take (.take (.done)))))))))) (by simp [Value.oneCell'])) rfl (.tail (.head)) (.skip (.skip (.skip (.skip (.skip (.skip (.skip (.skip (.skip (.skip (.skip (.skip (.skip (.skip (.skip (.skip (.skip (.skip (.take (.take (.take (.take (.take (.take (.take (.take (.take (.done)))))))))))))))))))))))))))) (.inr rfl)) ?_; intro _ _
  refine asg rfl rfl <| asg rfl rfl <| o_nil <| n_code <| c_ret <| WR.sel (.cons (.head) (.cons (.head) (.cons (.head) (.nil)))) <| r_fn (l := [.tmp 4, .tmp 5]) Tryz.results294 rfl rfl ?_
  exact tells (y := (())) trivial rfl rfl

theorem z72 {G : HP} (p0 : Nat) (p1 : Nat) (p2 : Nat) (p3 : Nat) :
    CtrE Tryz.prog 340 [Value.pointer (some ⟨p0, 0, none⟩), Value.iface 89 (Value.pointer (some ⟨p2, 0, none⟩))] G [(p0, C [Value.int .u32 9, Value.int .u64 1, Value.slice (some ⟨p1, 0, none⟩) 9 9] 448), (p1, C xb3 5), (p2, C [Value.slice (some ⟨p3, 0, none⟩) 6 64, Value.int .i64 0, Value.int .i8 0] 86), (p3, C xb8 5)] (T := Unit) (fun _ => True) (fun _ => Value.tuple #[Value.int .u64 21, Value.nilIface]) (fun _ => [(p0, C [Value.int .u32 9, Value.int .u64 1, Value.slice (some ⟨p1, 0, none⟩) 9 9] 448), (p1, C xb3 5), (p2, C [Value.slice (some ⟨p3, 0, none⟩) 27 64, Value.int .i64 0, Value.int .i8 0] 86), (p3, C xb13 5)]) := by
  refine fn_enter 53 Tryz.func340 rfl Tryz.ntmps340 rfl ?_
  intro w0
  refine c_seq <| c_region <| asg rfl rfl <| asg rfl rfl <| o_nil <| n_code <| c_seq <| c_region <| asg rfl rfl <| o_nil <| n_code <| c_seq <| c_seq <| c_region <| mv rfl rfl <| mv rfl rfl <| oe rfl (e_nilCheck rfl) <| oe rfl (e_as (r := Value.pointer (some ⟨p0, 0, none⟩)) (e_fa Tryz.runUnderlying448 rfl Tryz.sizeOf212 rfl rfl) rfl) <| oe rfl (e_load Tryz.isAgg212 rfl (.inl (.head _)) rfl) ?_
  refine o_l rfl (l_calle Tryz.call318 (z65 (p2) (p3)) rfl rfl (.cons (.tail (.tail (.head))) (.cons (.tail (.tail (.head))) (.nil)))) ?_; intro r1 hr1
  refine o_cat (.cons (.cons (.nil))) <| asg rfl rfl <| o_nil <| n_code <| c_seq <| c_region <| mv rfl rfl <| oe rfl (e_nnen Tryz.runUnderlying80 rfl) <| o_nil <| n_code <| c_else rfl <| c_skip <| n_code <| c_seq <| c_region <| mv rfl rfl <| oi (Value.int .u64 4) rfl rfl rfl (by kernel_rfl) <| asg rfl rfl <| o_nil <| n_code <| c_seq <| c_seq <| c_region <| mv rfl rfl <| mv rfl rfl <| oe rfl (e_nilCheck rfl) ?_
  refine oe rfl (e_as (r := Value.pointer (some ⟨p0, 2, none⟩)) (e_fa Tryz.runUnderlying448 rfl Tryz.sizeOf72 rfl rfl) rfl) <| oe rfl (e_load Tryz.isAgg72 rfl (.inl (.tail _ (.tail _ (.head _)))) rfl) <| oe rfl (e_as (r := Value.int .i64 9) (e_lenl Tryz.runUnderlying72 rfl) rfl) <| oe rfl (e_convc (r := Value.int .u64 9) Tryz.runUnderlying3 Tryz.runUnderlying23 rfl (by kernel_rfl)) ?_
  refine o_l rfl (l_calle Tryz.call328 (z69 (p2) (p3)) rfl rfl (.cons (.head) (.cons (.head) (.nil)))) ?_; intro r2 hr2
  refine o_cat (.cons (.cons (.nil))) <| asg rfl rfl <| o_nil <| n_code <| c_seq <| c_region <| mv rfl rfl <| oe rfl (e_nnen Tryz.runUnderlying80 rfl) <| o_nil <| n_code <| c_else rfl <| c_skip <| n_code <| c_seq <| c_region <| mv rfl rfl <| oi (Value.int .u64 12) rfl rfl rfl (by kernel_rfl) <| asg rfl rfl <| o_nil <| n_code <| c_seq ?_
  refine c_regiond [(p0, C [Value.int .u32 9, Value.int .u64 1, Value.slice (some ⟨p1, 0, none⟩) 9 9] 448), (p1, C xb3 5)] (by kernel_rfl) (.cons _ (.cons _ (.cons_cons _ (.cons_cons _ (.slnil))))) <| d_e 0 (fun _ _ _ _ _ h => h) rfl (by kernel_rfl) (by kernel_rfl) (by kernel_rfl) rfl rfl rfl (e_move rfl) ?_
  refine d_e 1 (fun _ _ _ _ _ h => h) rfl (by kernel_rfl) (by kernel_rfl) (by kernel_rfl) rfl rfl rfl (e_move rfl) <| d_e 2 (fun _ _ _ _ _ h => h) rfl (by kernel_rfl) (by kernel_rfl) (by kernel_rfl) rfl rfl rfl (e_nilCheck rfl) <| d_e 3 (fun _ _ _ _ _ h => h) rfl (by kernel_rfl) (by kernel_rfl) (by kernel_rfl) rfl rfl rfl (e_as (r := Value.pointer (some ⟨p0, 2, none⟩)) (e_fa Tryz.runUnderlying448 rfl Tryz.sizeOf72 rfl rfl) rfl) ?_
  refine d_e 4 (fun _ _ _ _ _ h => h) rfl (by kernel_rfl) (by kernel_rfl) (by kernel_rfl) rfl rfl rfl (e_load Tryz.isAgg72 rfl (.inl (.head _)) rfl) <| d_e 5 (fun _ _ _ _ _ h => h) rfl (by kernel_rfl) (by kernel_rfl) (by kernel_rfl) rfl rfl rfl (e_func rfl rfl) <| d_e 6 (fun _ _ _ _ _ h => h) rfl (by kernel_rfl) (by kernel_rfl) (by kernel_rfl) rfl rfl rfl (e_nilm (by intro w; kernel_rfl) rfl) <| d_e 7 (fun _ _ _ _ _ h => h) rfl (by kernel_rfl) (by kernel_rfl) (by kernel_rfl) rfl rfl rfl (e_move rfl) ?_
  refine d_l 8 (by kernel_rfl) rfl rfl (l_callie Tryz.call294 (by intro w; kernel_rfl) (z71 (p2) (p3) (p1)) rfl rfl rfl (.cons (.head) (.cons (.head) (.cons (.tail (.head)) (.nil))))) (fun _ _ => hs_cons (.tail _ (.tail _ (.tail _ (.head _)))) (hs_cons (.tail _ (.tail _ (.head _))) (hs_nil))) ?_
  intro r3 hr3
  refine d_cat (.cons (.cons (.cons (.nil)))) <| d_e 9 (fun _ _ _ _ _ h => h) rfl (by kernel_rfl) (by kernel_rfl) (by kernel_rfl) rfl rfl rfl (e_move rfl) <| d_e 10 (fun _ _ _ _ _ h => h) rfl (by kernel_rfl) (by kernel_rfl) (by kernel_rfl) rfl rfl rfl (e_extract rfl rfl) <| d_e 11 (fun _ _ _ _ _ h => h) rfl (by kernel_rfl) (by kernel_rfl) (by kernel_rfl) rfl rfl rfl (e_extract rfl rfl) <| d_e 12 (fun _ _ _ _ _ h => h) rfl (by kernel_rfl) (by kernel_rfl) (by kernel_rfl) rfl rfl rfl (e_assign rfl) ?_
  refine d_e 13 (fun _ _ _ _ _ h => h) rfl (by kernel_rfl) (by kernel_rfl) (by kernel_rfl) rfl rfl rfl (e_assign rfl) <| d_nil (by kernel_rfl) <| n_code <| c_seq <| c_region <| mv rfl rfl <| mv rfl rfl <| oe rfl (e_convc (r := Value.int .u64 9) Tryz.runUnderlying3 Tryz.runUnderlying23 rfl (by kernel_rfl)) <| oi (Value.int .u64 21) rfl rfl rfl (by kernel_rfl) <| mv rfl rfl <| asg rfl rfl <| asg rfl rfl <| o_nil <| n_code <| c_ret ?_
  refine WR.sel (.cons (.tail (.tail (.tail (.head)))) (.cons (.tail (.tail (.head))) (.cons (.head) (.cons (.head) (.nil))))) <| r_fn (l := [.tmp 4, .tmp 5]) Tryz.results340 rfl rfl ?_
  exact tells (y := (())) trivial rfl rfl

theorem z73 {G : HP} (p0 : Nat) (p1 : Nat) (p2 : Nat) (p3 : Nat) (p4 : Nat) :
    CtrE Tryz.prog 329 [Value.pointer (some ⟨p0, 0, none⟩), Value.iface 89 (Value.pointer (some ⟨p3, 0, none⟩))] G [(p0, C [Value.map (some p1)] 327), (p1, Mo .u32 [(9, Value.agg #[Value.int .u32 9, Value.int .u64 1, Value.slice (some ⟨p2, 0, none⟩) 9 9])]), (p2, C xb3 5), (p3, C [Value.slice (some ⟨p4, 0, none⟩) 2 64, Value.int .i64 0, Value.int .i8 0] 86), (p4, C xb7 5)] (T := Unit) (fun _ => True) (fun _ => Value.tuple #[Value.int .u64 25, Value.nilIface]) (fun _ => [(p0, C [Value.map (some p1)] 327), (p1, Mo .u32 [(9, Value.agg #[Value.int .u32 9, Value.int .u64 1, Value.slice (some ⟨p2, 0, none⟩) 9 9])]), (p2, C xb3 5), (p3, C [Value.slice (some ⟨p4, 0, none⟩) 27 64, Value.int .i64 0, Value.int .i8 0] 86), (p4, C xb13 5)]) := by
  refine fn_enter 72 Tryz.func329 rfl Tryz.ntmps329 rfl ?_
  intro w0
  refine c_seq <| c_region <| asg rfl rfl <| asg rfl rfl <| o_nil <| n_code <| c_seq <| c_region <| asg rfl rfl <| o_nil <| n_code <| c_seq <| c_seq <| c_region <| mv rfl rfl <| mv rfl rfl <| oe rfl (e_nilCheck rfl) <| oe rfl (e_load Tryz.isAgg327 rfl (.inl (.head _)) rfl) <| oe rfl (e_as (r := Value.int .i64 1) (e_lenm Tryz.runUnderlying327 rfl (.inl (.tail _ (.head _)))) rfl) <| oe rfl (e_convc (r := Value.int .u32 1) Tryz.runUnderlying3 Tryz.runUnderlying212 rfl (by kernel_rfl)) ?_
  refine o_l rfl (l_calle Tryz.call318 (z57 (p3) (p4)) rfl rfl (.cons (.tail (.tail (.tail (.head)))) (.cons (.tail (.tail (.tail (.head)))) (.nil)))) ?_; intro r1 hr1
  refine o_cat (.cons (.cons (.nil))) <| asg rfl rfl <| o_nil <| n_code <| c_seq <| c_region <| mv rfl rfl <| oe rfl (e_nnen Tryz.runUnderlying80 rfl) <| o_nil <| n_code <| c_else rfl <| c_skip <| n_code <| c_seq <| c_region <| mv rfl rfl <| oi (Value.int .u64 4) rfl rfl rfl (by kernel_rfl) <| asg rfl rfl <| o_nil <| n_code <| c_seq <| c_region <| mv rfl rfl <| oe rfl (e_nilCheck rfl) <| oe rfl (e_load Tryz.isAgg327 rfl (.inl (.tail _ (.tail _ (.head _)))) rfl) ?_
  refine oe rfl (e_as (r := Value.int .i64 1) (e_lenm Tryz.runUnderlying327 rfl (.inl (.tail _ (.tail _ (.tail _ (.head _)))))) rfl) ?_
  refine o_l rfl (l_mksc (l := [Value.int .u32 0]) (n := 0) (m := 1) Tryz.underlying472 (info_of Tryz.typeInfo212) rfl rfl rfl rfl rfl rfl rfl (by decide) (by kernel_rfl)) ?_; intro g2 _
  refine asg rfl rfl <| o_nil <| n_code <| c_seq <| c_seq <| c_region <| mv rfl rfl <| oe rfl (e_nilCheck rfl) <| oe rfl (e_load Tryz.isAgg327 rfl (.inl (.tail _ (.tail _ (.tail _ (.head _))))) rfl) ?_
  refine o_l rfl (l_range Tryz.runUnderlying327 rfl rfl (.inl (.tail _ (.tail _ (.tail _ (.tail _ (.head _))))))) ?_; intro g3 _
  refine o_nil <| n_code <| c_block <| c_rounds 999 <| c_seq <| c_region ?_
  refine o_l rfl (l_next1 0 rfl rfl (.inl (.tail _ (.tail _ (.tail _ (.tail _ (.tail _ (.head _))))))) (.head) rfl rfl rfl) ?_; intro _ _
  refine oe rfl (e_extract rfl rfl) <| o_nil <| n_code <| c_seq <| c_then rfl <| c_skip <| n_code <| c_block <| c_seq <| c_region <| oe rfl (e_entry (j := 0) (seen := []) rfl (.inl (.head _)) (.inl (.tail _ (.tail _ (.tail _ (.tail _ (.tail _ (.head _))))))) rfl) <| oe rfl (e_extract rfl rfl) <| asg rfl rfl <| o_nil <| n_code <| c_region <| mv rfl rfl <| mv rfl rfl ?_
  refine o_l rfl (l_bs1 Tryz.runUnderlying472 Tryz.sizeOf212 Tryz.zeroValue212 rfl rfl rfl) ?_; intro g4 _
  refine o_l rfl (l_app (off := 1) (L := [Value.int .u32 9]) Tryz.underlying472 (info_of Tryz.typeInfo212) rfl rfl rfl rfl rfl rfl (.tail (.tail (.head))) rfl (by decide) (by decide) (.inr rfl) (.done) (Sv.blk (vs := [Value.int .u32 9]) Tryz.underlying472 (.inl (.head _)) (.take (.done)) (by simp [Value.oneCell'])) (.nil) rfl rfl rfl rfl) ?_; intro y5 hy5
  refine asg rfl rfl <| o_nil <| n_block <| n_rounds <| c_keep (sub_cons (k := 8) rfl (sub_cons (k := 44) rfl (sub_cons (k := 43) rfl (sub_cons (k := 42) rfl (sub_cons (k := 41) rfl (sub_cons (k := 9) rfl (sub_cons (k := 40) rfl (sub_cons (k := 39) rfl (sub_cons (k := 38) rfl (sub_cons (k := 37) rfl (sub_cons (k := 36) rfl (sub_cons (k := 6) rfl (sub_cons (k := 5) rfl (sub_cons (k := 4) rfl (sub_cons (k := 1) rfl (sub_cons (k := 0) rfl (sub_nil))))))))))))))))) <| c_seq <| c_region ?_
  refine o_l rfl (l_next0 rfl rfl (.inl (.tail _ (.tail _ (.tail _ (.tail _ (.tail _ (.tail _ (.head _)))))))) (.tail _ (.tail _ (.head _))) rfl) ?_; intro _ _
  refine oe rfl (e_extract rfl rfl) <| o_nil <| n_code <| c_seq <| c_else rfl <| c_exit <| x_code <| x_upto <| x_here <| n_code <| c_seq <| c_region <| mv rfl rfl ?_
  refine o_l rfl (l_calle Tryz.call339 (z61 y5 hy5) rfl rfl (.cons (.head) (.nil))) ?_; intro r6 hr6
  refine o_cat (.cons (.nil)) <| o_nil <| n_code <| c_seq <| c_seq <| c_region <| mv rfl rfl <| oe rfl (e_as (r := Value.int .i64 1) (e_lenl Tryz.runUnderlying472 rfl) rfl) <| mv rfl rfl <| o_nil <| n_code <| c_block <| c_rounds 999 <| c_seq <| c_region <| oi (Value.bool true) rfl rfl rfl (by kernel_rfl) <| o_nil <| n_code <| c_seq <| c_then rfl <| c_skip <| n_code <| c_seq <| c_block <| c_seq <| c_region ?_
  refine oe rfl (e_as (r := Value.pointer (some ⟨y5.g, 0, none⟩)) (e_ia Tryz.runUnderlying472 Tryz.sizeOf212 rfl rfl (by decide) (by decide)) rfl) <| oe rfl (e_load Tryz.isAgg212 rfl (.inl (.head _)) rfl) <| asg rfl rfl <| o_nil <| n_code <| c_seq <| c_region <| mv rfl rfl <| oe rfl (e_nilCheck rfl) <| oe rfl (e_load Tryz.isAgg327 rfl (.inl (.tail _ (.tail _ (.tail _ (.tail _ (.tail _ (.head _))))))) rfl) <| mv rfl rfl ?_
  refine oe rfl (e_as (r := Value.agg #[Value.int .u32 9, Value.int .u64 1, Value.slice (some ⟨p2, 0, none⟩) 9 9]) (e_lookup Tryz.runUnderlying327 Tryz.runUnderlying212 Tryz.zeroValue448 rfl rfl (.inl (.tail _ (.tail _ (.tail _ (.tail _ (.tail _ (.tail _ (.head _))))))))) (by kernel_rfl)) ?_
  refine o_l rfl (l_alloc Tryz.zeroValue448 rfl rfl) ?_; intro g7 _
  refine o_l rfl (l_storea Tryz.sizeOf448 rfl rfl rfl (by simp [Value.oneCell']) (.head) (.take (.take (.take (.done)))) nofrs0) ?_; intro _ _
  refine o_nil <| n_code <| c_seq <| c_region <| mv rfl rfl ?_
  refine o_l rfl (l_calle Tryz.call340 (z72 (g7) (p2) (p3) (p4)) rfl rfl (.cons (.head) (.cons (.tail (.tail (.tail (.tail (.tail (.tail (.tail (.head)))))))) (.cons (.tail (.tail (.tail (.head)))) (.cons (.tail (.tail (.tail (.head)))) (.nil)))))) ?_; intro r8 hr8
  refine o_cat (.cons (.cons (.cons (.cons (.nil))))) <| mv rfl rfl <| oe rfl (e_extract rfl rfl) <| oe rfl (e_extract rfl rfl) <| asg rfl rfl <| asg rfl rfl <| o_nil <| n_code <| c_seq <| c_region <| mv rfl rfl <| mv rfl rfl <| oi (Value.int .u64 25) rfl rfl rfl (by kernel_rfl) <| asg rfl rfl <| o_nil <| n_code <| c_seq <| c_region <| mv rfl rfl <| oe rfl (e_nnen Tryz.runUnderlying80 rfl) <| o_nil <| n_code <| c_else rfl <| c_skip <| n_block <| n_code <| c_region ?_
  refine oi (Value.int .i64 1) rfl rfl rfl (by kernel_rfl) <| mv rfl rfl <| o_nil <| n_rounds ?_
  refine c_keep (sub_cons (k := 49) rfl (sub_cons (k := 70) rfl (sub_cons (k := 67) rfl (sub_cons (k := 66) rfl (sub_cons (k := 6) rfl (sub_cons (k := 65) rfl (sub_cons (k := 64) rfl (sub_cons (k := 63) rfl (sub_cons (k := 14) rfl (sub_cons (k := 13) rfl (sub_cons (k := 62) rfl (sub_cons (k := 61) rfl (sub_cons (k := 58) rfl (sub_cons (k := 60) rfl (sub_cons (k := 59) rfl (sub_cons (k := 12) rfl (sub_cons (k := 57) rfl (sub_cons (k := 56) rfl (sub_cons (k := 55) rfl (sub_cons (k := 54) rfl (sub_cons (k := 53) rfl (sub_cons (k := 11) rfl (sub_cons (k := 52) rfl (sub_cons (k := 51) rfl (sub_cons (k := 50) rfl (sub_cons (k := 48) rfl (sub_cons (k := 47) rfl (sub_cons (k := 5) rfl (sub_cons (k := 4) rfl (sub_cons (k := 1) rfl (sub_cons (k := 0) rfl (sub_nil)))))))))))))))))))))))))))))))) ?_
  refine c_seq <| c_region <| oi (Value.bool false) rfl rfl rfl (by kernel_rfl) <| o_nil <| n_code <| c_seq <| c_else rfl <| c_exit <| x_code <| x_upto <| x_here <| n_code <| c_seq <| c_region <| mv rfl rfl <| asg rfl rfl <| asg rfl rfl <| o_nil <| n_code <| c_ret <| WR.sel (.cons (.tail (.tail (.tail (.tail (.tail (.tail (.tail (.head)))))))) (.cons (.tail (.tail (.tail (.tail (.tail (.tail (.tail (.head)))))))) (.cons (.tail (.head)) (.cons (.tail (.head)) (.cons (.tail (.head)) (.nil)))))) ?_
  refine r_fn (l := [.tmp 4, .tmp 5]) Tryz.results329 rfl rfl ?_
  exact tells (y := (())) trivial rfl rfl

theorem z74 {G : HP} (p0 : Nat) (p1 : Nat) (p2 : Nat) (p3 : Nat) :
    CtrE Tryz.prog 42 [Value.iface 328 (Value.pointer (some ⟨p0, 0, none⟩)), Value.iface 89 (Value.pointer (some ⟨p3, 0, none⟩))] G [(p0, C [Value.map (some p1)] 327), (p1, Mo .u32 [(9, Value.agg #[Value.int .u32 9, Value.int .u64 1, Value.slice (some ⟨p2, 0, none⟩) 9 9])]), (p2, C xb3 5), (p3, C [Value.slice none 0 0, Value.int .i64 0, Value.int .i8 0] 86)] (T := Nat) (fun _ => True) (fun y => Value.tuple #[Value.int .u64 27, Value.nilIface]) (fun y => [(p0, C [Value.map (some p1)] 327), (p1, Mo .u32 [(9, Value.agg #[Value.int .u32 9, Value.int .u64 1, Value.slice (some ⟨p2, 0, none⟩) 9 9])]), (p2, C xb3 5), (p3, C [Value.slice (some ⟨y, 0, none⟩) 27 64, Value.int .i64 0, Value.int .i8 0] 86), (y, C xb13 5)]) := by
  refine fn_enter 43 Tryz.func42 rfl Tryz.ntmps42 rfl ?_
  intro w0
  refine c_seq <| c_region <| asg rfl rfl <| asg rfl rfl <| o_nil <| n_code <| c_seq <| c_region ?_
  refine o_l rfl (l_mksc (l := xb0) (n := 10) (m := 10) Tryz.underlying72 (info_of Tryz.typeInfo5) rfl rfl rfl rfl rfl rfl rfl (by decide) (by kernel_rfl)) ?_; intro g1 _
  refine asg rfl rfl <| o_nil <| n_code <| c_seq <| c_region <| mv rfl rfl <| mv rfl rfl ?_
  refine o_l rfl (l_callie Tryz.call401 (by intro w; kernel_rfl) (z47 (p0) (p1) (p2)) rfl rfl rfl (.cons (.tail (.head)) (.cons (.tail (.head)) (.cons (.tail (.head)) (.nil))))) ?_; intro r2 hr2
  refine o_cat (.cons (.cons (.cons (.nil)))) ?_
  refine o_l rfl (l_calle Tryz.call77 (z49 (g1)) rfl rfl (.cons (.tail (.tail (.tail (.head)))) (.nil))) ?_; intro r3 hr3
  refine o_cat (.cons (.nil)) <| asg rfl rfl <| o_nil <| n_code <| c_seq ?_
  refine c_regiond [(g1, C xb5 5), (p0, C [Value.map (some p1)] 327), (p1, Mo .u32 [(9, Value.agg #[Value.int .u32 9, Value.int .u64 1, Value.slice (some ⟨p2, 0, none⟩) 9 9])]), (p2, C xb3 5)] (by kernel_rfl) (.cons_cons _ (.cons_cons _ (.cons_cons _ (.cons_cons _ (.cons _ (.slnil)))))) ?_
  refine d_e 0 (fun _ _ _ _ _ h => h) rfl (by kernel_rfl) (by kernel_rfl) (by kernel_rfl) rfl rfl rfl (e_move rfl) <| d_e 1 (fun _ _ _ _ _ h => h) rfl (by kernel_rfl) (by kernel_rfl) (by kernel_rfl) rfl rfl rfl (e_move rfl) <| d_e 2 (fun _ _ _ _ _ h => h) rfl (by kernel_rfl) (by kernel_rfl) (by kernel_rfl) rfl rfl rfl (e_move rfl) ?_
  refine d_e 3 (fun _ _ _ _ _ h => h) rfl (by kernel_rfl) (by kernel_rfl) (by kernel_rfl) rfl rfl rfl (e_as (r := Value.slice (some ⟨g1, 0, none⟩) 2 10) (e_sl_h Tryz.runUnderlying72 Tryz.sizeOf5 rfl rfl (by decide) (by decide)) rfl) <| d_e 4 (fun _ _ _ _ _ h => h) rfl (by kernel_rfl) (by kernel_rfl) (by kernel_rfl) rfl rfl rfl (e_func rfl rfl) <| d_e 5 (fun _ _ _ _ _ h => h) rfl (by kernel_rfl) (by kernel_rfl) (by kernel_rfl) rfl rfl rfl (e_nilm (by intro w; kernel_rfl) rfl) ?_
  refine d_e 6 (fun _ _ _ _ _ h => h) rfl (by kernel_rfl) (by kernel_rfl) (by kernel_rfl) rfl rfl rfl (e_move rfl) ?_
  refine d_l 7 (by kernel_rfl) rfl rfl (l_callie Tryz.call294 (by intro w; kernel_rfl) (z53 (p3) (g1)) rfl rfl rfl (.cons (.tail (.tail (.tail (.tail (.head))))) (.cons (.head) (.nil)))) (fun _ _ => hs_cons (.tail _ (.head _)) (hs_cons (.tail _ (.tail _ (.tail _ (.head _)))) (hs_cons (.tail _ (.tail _ (.tail _ (.tail _ (.head _))))) (hs_cons (.tail _ (.tail _ (.tail _ (.tail _ (.tail _ (.head _)))))) (hs_nil))))) ?_
  intro r4 hr4
  refine d_cat (.cons (.cons (.cons (.nil)))) <| d_e 8 (fun _ _ _ _ _ h => h) rfl (by kernel_rfl) (by kernel_rfl) (by kernel_rfl) rfl rfl rfl (e_move rfl) <| d_e 9 (fun _ _ _ _ _ h => h) rfl (by kernel_rfl) (by kernel_rfl) (by kernel_rfl) rfl rfl rfl (e_extract rfl rfl) <| d_e 10 (fun _ _ _ _ _ h => h) rfl (by kernel_rfl) (by kernel_rfl) (by kernel_rfl) rfl rfl rfl (e_extract rfl rfl) <| d_e 11 (fun _ _ _ _ _ h => h) rfl (by kernel_rfl) (by kernel_rfl) (by kernel_rfl) rfl rfl rfl (e_assign rfl) ?_
  refine d_e 12 (fun _ _ _ _ _ h => h) rfl (by kernel_rfl) (by kernel_rfl) (by kernel_rfl) rfl rfl rfl (e_assign rfl) <| d_nil (by kernel_rfl) <| n_code <| c_seq <| c_seq <| c_region <| mv rfl rfl <| oe rfl (e_nnen Tryz.runUnderlying80 rfl) <| o_nil <| n_code <| c_else rfl <| c_skip <| n_code <| c_seq <| c_region <| mv rfl rfl <| mv rfl rfl ?_
  refine o_l rfl (l_callie Tryz.call329 (by intro w; kernel_rfl) (z73 (p0) (p1) (p2) (p3) (r4)) rfl rfl rfl (.cons (.tail (.tail (.tail (.head)))) (.cons (.tail (.tail (.tail (.head)))) (.cons (.tail (.tail (.tail (.head)))) (.cons (.head) (.cons (.tail (.head)) (.nil))))))) ?_; intro r5 hr5
  refine o_cat (.cons (.cons (.cons (.cons (.cons (.nil)))))) <| mv rfl rfl <| oe rfl (e_extract rfl rfl) <| oe rfl (e_extract rfl rfl) <| asg rfl rfl <| asg rfl rfl <| o_nil <| n_code <| c_seq <| c_region <| mv rfl rfl <| oe rfl (e_convc (r := Value.int .u64 2) Tryz.runUnderlying3 Tryz.runUnderlying23 rfl (by kernel_rfl)) <| mv rfl rfl <| oi (Value.int .u64 27) rfl rfl rfl (by kernel_rfl) <| mv rfl rfl <| asg rfl rfl <| asg rfl rfl <| o_nil <| n_code <| c_ret ?_
  refine WR.sel (.cons (.head) (.cons (.head) (.cons (.head) (.cons (.head) (.cons (.head) (.nil)))))) <| r_fn (l := [.tmp 4, .tmp 5]) Tryz.results42 rfl rfl ?_
  exact tells (y := (r4)) trivial rfl rfl

theorem z75 {G : HP} (p0 : Nat) (p1 : Nat) :
    CtrE Tryz.prog 44 [Value.pointer (some ⟨p0, 0, none⟩)] G [(p0, C [Value.slice (some ⟨p1, 0, none⟩) 27 64, Value.int .i64 0, Value.int .i8 0] 86), (p1, C xb13 5)] (T := Unit) (fun _ => True) (fun _ => S [128, 8, 1, 0, 0, 0, 9, 0, 0, 0, 9, 0, 0, 0, 0, 0, 0, 0, 97, 7, 0, 0, 0, 0, 0, 0, 0]) (fun _ => [(p0, C [Value.slice (some ⟨p1, 0, none⟩) 27 64, Value.int .i64 0, Value.int .i8 0] 86), (p1, C xb13 5)]) := by
  refine fn_enter 15 Tryz.func44 rfl Tryz.ntmps44 rfl ?_
  intro w0
  refine c_seq <| c_region <| asg rfl rfl <| o_nil <| n_code <| c_seq <| c_seq <| c_region <| mv rfl rfl <| oe rfl (e_as (r := Value.bool false) (e_peqn Tryz.runUnderlying89 rfl) rfl) <| o_nil <| n_code <| c_else rfl <| c_skip <| n_code <| c_seq <| c_regionq (by kernel_rfl) (by kernel_rfl) <| q_e rfl rfl rfl (e_move rfl) <| q_e rfl rfl rfl (e_nilCheck rfl) <| q_e rfl rfl rfl (e_as (r := Value.pointer (some ⟨p0, 0, none⟩)) (e_fa Tryz.runUnderlying86 rfl Tryz.sizeOf72 rfl rfl) rfl) ?_
  refine q_e rfl rfl rfl (e_load Tryz.isAgg72 rfl (.inl (.head _)) rfl) <| q_e rfl rfl rfl (e_move rfl) <| q_e rfl rfl rfl (e_nilCheck rfl) <| q_e rfl rfl rfl (e_as (r := Value.pointer (some ⟨p0, 1, none⟩)) (e_fa Tryz.runUnderlying86 rfl Tryz.sizeOf3 rfl rfl) rfl) <| q_e rfl rfl rfl (e_load Tryz.isAgg3 rfl (.inl (.head _)) rfl) ?_
  refine q_e rfl rfl rfl (e_as (r := Value.slice (some ⟨p1, 0, none⟩) 27 64) (e_sl_l Tryz.runUnderlying72 Tryz.sizeOf5 rfl rfl (by decide) (by decide) (by decide)) (by first | rfl | (simp; try omega))) ?_
  refine q_e rfl rfl rfl (e_bs (bs := [128, 8, 1, 0, 0, 0, 9, 0, 0, 0, 9, 0, 0, 0, 0, 0, 0, 0, 97, 7, 0, 0, 0, 0, 0, 0, 0]) Tryz.underlying72 Tryz.underlying5 Tryz.underlying9 rfl (.inl (.tail _ (.head _))) (.take (.take (.take (.take (.take (.take (.take (.take (.take (.take (.take (.take (.take (.take (.take (.take (.take (.take (.take (.take (.take (.take (.take (.take (.take (.take (.take (.done))))))))))))))))))))))))))))) <| q_e rfl rfl rfl (e_assign rfl) <| q_nil <| n_code <| c_ret ?_
  refine WR.sel (.cons (.head) (.cons (.head) (.nil))) <| r_fn1 Tryz.results44 rfl ?_
  exact tells (y := (())) trivial rfl rfl

theorem z76 {G : HP} (p0 : Nat) (p1 : Nat) (p2 : Nat) :
    CtrE Tryz.prog 59 [Value.iface 328 (Value.pointer (some ⟨p0, 0, none⟩)), Value.nilIface] G [(p0, C [Value.map (some p1)] 327), (p1, Mo .u32 [(9, Value.agg #[Value.int .u32 9, Value.int .u64 1, Value.slice (some ⟨p2, 0, none⟩) 9 9])]), (p2, C xb3 5)] (T := Unit) (fun _ => True) (fun _ => Value.tuple #[S [128, 8, 1, 0, 0, 0, 9, 0, 0, 0, 9, 0, 0, 0, 0, 0, 0, 0, 97, 7, 0, 0, 0, 0, 0, 0, 0], Value.bool true]) (fun _ => [(p0, C [Value.map (some p1)] 327), (p1, Mo .u32 [(9, Value.agg #[Value.int .u32 9, Value.int .u64 1, Value.slice (some ⟨p2, 0, none⟩) 9 9])]), (p2, C xb3 5)]) := by
  refine fn_enter 20 Tryz.func59 rfl Tryz.ntmps59 rfl ?_
  intro w0
  refine c_seq <| c_region <| asg rfl rfl <| asg rfl rfl <| o_nil <| n_code <| c_seq <| c_seq <| c_region <| mv rfl rfl <| oe rfl (e_nnen Tryz.runUnderlying80 rfl) <| o_nil <| n_code <| c_else rfl <| c_skip <| n_code <| c_seq <| c_region ?_
  refine o_l rfl (l_alloc Tryz.zeroValue86 rfl rfl) ?_; intro g1 _
  refine o_nil <| n_code <| c_seq <| c_seq <| c_region <| mv rfl rfl <| oe rfl (e_mkif Tryz.runUnderlying89 rfl rfl) ?_
  refine o_l rfl (l_calle Tryz.call42 (z74 (p0) (p1) (p2) (g1)) rfl rfl (.cons (.tail (.head)) (.cons (.tail (.head)) (.cons (.tail (.head)) (.cons (.head) (.nil)))))) ?_; intro r2 hr2
  refine o_cat (.cons (.cons (.cons (.cons (.cons (.nil)))))) <| mv rfl rfl <| oe rfl (e_extract rfl rfl) <| oe rfl (e_extract rfl rfl) <| asg rfl rfl <| asg rfl rfl <| o_nil <| n_code <| c_seq <| c_region <| mv rfl rfl <| oe rfl (e_nnen Tryz.runUnderlying80 rfl) <| o_nil <| n_code <| c_else rfl <| c_skip <| n_code <| c_seq <| c_region ?_
  refine o_l rfl (l_calle Tryz.call44 (z75 (g1) (r2)) rfl rfl (.cons (.tail (.tail (.tail (.head)))) (.cons (.tail (.tail (.tail (.head)))) (.nil)))) ?_; intro r3 hr3
  refine o_cat (.cons (.cons (.nil))) <| asg rfl rfl <| asg rfl rfl <| o_nil <| n_code <| c_ret <| WR.sel (.cons (.tail (.tail (.head))) (.cons (.tail (.tail (.head))) (.cons (.tail (.tail (.head))) (.nil)))) <| r_fn (l := [.tmp 4, .tmp 5]) Tryz.results59 rfl rfl ?_
  exact tells (y := (())) trivial rfl rfl

theorem z77 {G : HP} (p0 : Nat) :
    CtrE Tryz.prog 56 [Value.slice (some ⟨p0, 0, none⟩) 1 1, Value.int .u64 1024] G [(p0, C [Value.int .u64 1, Value.int .u64 85, Value.int .u64 0, S [97], Value.int .u64 7] 56)] (T := Unit) (fun _ => True) (fun _ => Value.tuple #[S [128, 8, 1, 0, 0, 0, 9, 0, 0, 0, 9, 0, 0, 0, 0, 0, 0, 0, 97, 7, 0, 0, 0, 0, 0, 0, 0], Value.bool true]) (fun _ => [(p0, C [Value.int .u64 1, Value.int .u64 85, Value.int .u64 0, S [97], Value.int .u64 7] 56)]) := by
  refine fn_enter 49 Tryz.func56 rfl Tryz.ntmps56 rfl ?_
  intro w0
  refine c_seq <| c_region <| asg rfl rfl <| asg rfl rfl <| o_nil <| n_code <| c_seq <| c_region <| mv rfl rfl ?_
  refine o_l rfl (l_calle Tryz.call76 (z3 ) rfl rfl (.nil)) ?_; intro r1 hr1
  refine o_cat (.cons (.cons (.nil))) <| mv rfl rfl <| oe rfl (e_extract rfl rfl) <| oe rfl (e_extract rfl rfl) <| asg rfl rfl <| asg rfl rfl <| o_nil <| n_code <| c_seq <| c_seq <| c_region <| mv rfl rfl <| oe rfl (e_nnen Tryz.runUnderlying80 rfl) <| o_nil <| n_code <| c_else rfl <| c_skip <| n_code <| c_seq <| c_region <| asg rfl rfl <| o_nil <| n_code <| c_seq <| c_seq <| c_region <| mv rfl rfl <| oe rfl (e_as (r := Value.int .i64 1) (e_lenl Tryz.runUnderlying22 rfl) rfl) <| mv rfl rfl <| o_nil <| n_code ?_
  refine c_block <| c_rounds 999 <| c_seq <| c_region <| oi (Value.bool true) rfl rfl rfl (by kernel_rfl) <| o_nil <| n_code <| c_seq <| c_then rfl <| c_skip <| n_code <| c_seq <| c_block <| c_seq <| c_region <| oe rfl (e_as (r := Value.pointer (some ⟨p0, 0, none⟩)) (e_ia Tryz.runUnderlying22 Tryz.sizeOf56 rfl rfl (by decide) (by decide)) rfl) <| oe rfl (e_loada Tryz.isAgg56 Tryz.sizeOf56 rfl (.inl (.tail _ (.tail _ (.head _)))) (.take (.take (.take (.take (.take (.done))))))) ?_
  refine o_l rfl (l_alloc Tryz.zeroValue56 rfl rfl) ?_; intro g2 _
  refine o_l rfl (l_storea Tryz.sizeOf56 rfl rfl rfl (by simp [Value.oneCell']) (.head) (.take (.take (.take (.take (.take (.done)))))) nofrs0) ?_; intro _ _
  refine o_nil <| n_code <| c_seq <| c_region <| oe rfl (e_as (r := Value.pointer (some ⟨g2, 0, none⟩)) (e_fa Tryz.runUnderlying56 rfl Tryz.sizeOf25 rfl rfl) rfl) <| oe rfl (e_loada Tryz.isAgg25 Tryz.sizeOf25 rfl (.inl (.head _)) (.take (.take (.take (.take (.done)))))) ?_
  refine o_l rfl (l_calle Tryz.call68 (z28 ) rfl rfl (.nil)) ?_; intro r3 hr3
  refine o_cat (.nil) <| mv rfl rfl <| oe rfl (e_extract rfl rfl) <| oe rfl (e_extract rfl rfl) ?_
  refine o_l rfl (l_alloc Tryz.zeroValue111 rfl rfl) ?_; intro g4 _
  refine o_l rfl (l_storea Tryz.sizeOf111 rfl rfl rfl (by simp [Value.oneCell']) (.head) (.take (.done)) nofrs0) ?_; intro _ _
  refine asg rfl rfl <| o_nil <| n_code <| c_seq <| c_seq <| c_region <| mv rfl rfl <| oe rfl (e_as (r := Value.bool false) (e_not rfl) rfl) <| o_nil <| n_code <| c_else rfl <| c_skip <| n_code <| c_region <| mv rfl rfl <| oe rfl (e_loada Tryz.isAgg111 Tryz.sizeOf111 rfl (.inl (.head _)) (.take (.done))) <| oe rfl (e_as (r := Value.pointer (some ⟨g2, 4, none⟩)) (e_fa Tryz.runUnderlying56 rfl Tryz.sizeOf23 rfl rfl) rfl) <| oe rfl (e_load Tryz.isAgg23 rfl (.inl (.tail _ (.head _))) rfl) ?_
  refine oe rfl (e_build (vs := [S [1, 85, 0, 1, 97], Value.int .u64 7]) Tryz.runUnderlying184 Tryz.zeroValue184 (.cons Tryz.sizeOf111 (.cons Tryz.sizeOf23 (.nil))) rfl (by kernel_rfl)) ?_
  refine o_l rfl (l_bs (l := [S [1, 85, 0, 1, 97], Value.int .u64 7]) Tryz.runUnderlying182 Tryz.sizeOf184 Tryz.zeroValue184 rfl rfl rfl rfl (by kernel_rfl)) ?_; intro g5 _
  refine o_l rfl (l_app0 (vs := [S [1, 85, 0, 1, 97], Value.int .u64 7]) Tryz.underlying182 (info_of Tryz.typeInfo184) rfl rfl rfl rfl rfl rfl (Sv.blk (vs := [S [1, 85, 0, 1, 97], Value.int .u64 7]) Tryz.underlying182 (.inl (.head _)) (.take (.take (.done))) (by simp [Value.oneCell'])) rfl rfl rfl) ?_; intro y6 hy6
  refine asg rfl rfl <| o_nil <| n_block <| n_code <| c_region <| oi (Value.int .i64 1) rfl rfl rfl (by kernel_rfl) <| mv rfl rfl <| o_nil <| n_rounds ?_
  refine c_keep (sub_cons (k := 22) rfl (sub_cons (k := 41) rfl (sub_cons (k := 8) rfl (sub_cons (k := 40) rfl (sub_cons (k := 39) rfl (sub_cons (k := 38) rfl (sub_cons (k := 37) rfl (sub_cons (k := 36) rfl (sub_cons (k := 35) rfl (sub_cons (k := 34) rfl (sub_cons (k := 33) rfl (sub_cons (k := 32) rfl (sub_cons (k := 12) rfl (sub_cons (k := 11) rfl (sub_cons (k := 31) rfl (sub_cons (k := 30) rfl (sub_cons (k := 26) rfl (sub_cons (k := 29) rfl (sub_cons (k := 28) rfl (sub_cons (k := 27) rfl (sub_cons (k := 10) rfl (sub_cons (k := 25) rfl (sub_cons (k := 24) rfl (sub_cons (k := 23) rfl (sub_cons (k := 21) rfl (sub_cons (k := 20) rfl (sub_cons (k := 6) rfl (sub_cons (k := 5) rfl (sub_cons (k := 4) rfl (sub_nil)))))))))))))))))))))))))))))) ?_
  refine c_seq <| c_region <| oi (Value.bool false) rfl rfl rfl (by kernel_rfl) <| o_nil <| n_code <| c_seq <| c_else rfl <| c_exit <| x_code <| x_upto <| x_here <| n_code <| c_seq <| c_region <| mv rfl rfl <| mv rfl rfl <| mv rfl rfl ?_
  refine o_l rfl (l_callie Tryz.call316 (by intro w; kernel_rfl) (z46 (r1.1) (r1.2) y6 hy6) rfl rfl rfl (.cons (.tail (.tail (.tail (.tail (.head))))) (.cons (.tail (.tail (.tail (.tail (.head))))) (.cons (.head) (.nil))))) ?_; intro r7 hr7
  refine o_cat (.cons (.cons (.cons (.cons (.nil))))) ?_
  refine o_l rfl (l_calle Tryz.call59 (z76 (r1.1) (r1.2) (r7)) rfl rfl (.cons (.head) (.cons (.head) (.cons (.tail (.head)) (.nil))))) ?_; intro r8 hr8
  refine o_cat (.cons (.cons (.cons (.nil)))) <| oe rfl (e_extract rfl rfl) <| oe rfl (e_extract rfl rfl) <| asg rfl rfl <| asg rfl rfl <| o_nil <| n_code <| c_ret <| WR.sel (.cons (.tail (.tail (.tail (.tail (.tail (.tail (.tail (.head)))))))) (.nil)) <| r_fn (l := [.tmp 4, .tmp 5]) Tryz.results56 rfl rfl ?_
  exact tells (y := (())) trivial rfl rfl

theorem z78 {G : HP} (p0 : Nat) :
    CtrE Tryz.prog 27 [Value.slice (some ⟨p0, 0, none⟩) 1 1, Value.int .u64 1024] G [(p0, C [Value.int .u64 1, Value.int .u64 85, Value.int .u64 0, S [97], Value.int .u64 7] 56)] (T := Unit) (fun _ => True) (fun _ => Value.tuple #[S [128, 8, 1, 0, 0, 0, 9, 0, 0, 0, 9, 0, 0, 0, 0, 0, 0, 0, 97, 7, 0, 0, 0, 0, 0, 0, 0], Value.bool true]) (fun _ => [(p0, C [Value.int .u64 1, Value.int .u64 85, Value.int .u64 0, S [97], Value.int .u64 7] 56)]) := by
  refine fn_enter 11 Tryz.func27 rfl Tryz.ntmps27 rfl ?_
  intro w0
  refine c_seq <| c_region <| asg rfl rfl <| asg rfl rfl <| o_nil <| n_code <| c_seq <| c_region <| mv rfl rfl <| mv rfl rfl ?_
  refine o_l rfl (l_calle Tryz.call56 (z77 (p0)) rfl rfl (.cons (.head) (.nil))) ?_; intro r1 hr1
  refine o_cat (.cons (.nil)) <| oe rfl (e_extract rfl rfl) <| oe rfl (e_extract rfl rfl) <| asg rfl rfl <| asg rfl rfl <| o_nil <| n_code <| c_ret <| WR.sel (.cons (.head) (.nil)) <| r_fn (l := [.tmp 4, .tmp 5]) Tryz.results27 rfl rfl ?_
  exact tells (y := (())) trivial rfl rfl

theorem z79 {G : HP} (q0 : Tl) (h0 : TlOk 1 27 q0) :
    CtrE Tryz.prog 40 [Value.slice (some ⟨q0.g, 0, none⟩) 27 q0.cap] G [(q0.g, Ob xb14 q0 5)] (T := Nat) (fun _ => True) (fun y => Value.pointer (some ⟨y, 0, none⟩)) (fun y => [(q0.g, Ob xb14 q0 5), (y, C [Value.slice (some ⟨q0.g, 0, none⟩) 27 q0.cap, Value.int .i64 0, Value.int .i64 (-1)] 144)]) := by
  refine fn_enter 6 Tryz.func40 rfl Tryz.ntmps40 rfl ?_
  intro w0
  refine c_seq <| c_region <| asg rfl rfl <| o_nil <| n_code <| c_seq <| c_region <| mv rfl rfl <| oe rfl (e_build (vs := [Value.slice (some ⟨q0.g, 0, none⟩) 27 q0.cap, Value.int .i64 0, Value.int .i64 (-1)]) Tryz.runUnderlying144 Tryz.zeroValue144 (.cons Tryz.sizeOf72 (.cons Tryz.sizeOf2 (.cons Tryz.sizeOf3 (.nil)))) rfl (by kernel_rfl)) ?_
  refine o_l rfl (l_box rfl rfl rfl) ?_; intro g1 _
  refine asg rfl rfl <| o_nil <| n_code <| c_ret <| WR.sel (.cons (.tail (.head)) (.cons (.head) (.nil))) <| r_fn1 Tryz.results40 rfl ?_
  exact tells (y := (g1)) trivial rfl rfl
end Go.Proofs

/- laws.ixOne at its two kinds, run by laws: part 7. -/
import Derived.KernelRfl
import Derived.Test.YtochgglejmfelaaGreatDoorZ6
namespace Go.Proofs
open Go Go.Sl
set_option maxRecDepth 100000
set_option maxHeartbeats 4000000
theorem z140 {G : HP} (p0 : Nat) (p1 : Nat) (p2 : Nat) (p3 : Nat) (p4 : Nat) :
    CtrE Tryz.prog 319 [Value.pointer (some ⟨p0, 0, none⟩)] G [(p0, C [Value.map (some p1)] 330), (p1, Mo .u64 [(0, Value.pointer (some ⟨p2, 0, none⟩))]), (p2, C [Value.map (some p3), Value.int .u64 0] 437), (p3, Mo .u32 [(9, Value.agg #[Value.int .u32 9, Value.int .u64 1, Value.slice (some ⟨p4, 0, none⟩) 9 9])]), (p4, C xb3 5)] (T := Tl) (fun y => TlOk 1 1 y) (fun y => Value.slice (some ⟨y.g, 0, none⟩) 1 y.cap) (fun y => [(p0, C [Value.map (some p1)] 330), (p1, Mo .u64 [(0, Value.pointer (some ⟨p2, 0, none⟩))]), (p2, C [Value.map (some p3), Value.int .u64 0] 437), (p3, Mo .u32 [(9, Value.agg #[Value.int .u32 9, Value.int .u64 1, Value.slice (some ⟨p4, 0, none⟩) 9 9])]), (p4, C xb3 5), (y.g, Ob [Value.int .u64 0] y 23)]) := by
  refine fn_enter 25 Tryz.func319 rfl Tryz.ntmps319 rfl ?_
  intro w0
  refine c_seq <| c_region <| asg rfl rfl <| o_nil <| n_code <| c_seq <| c_region <| mv rfl rfl <| oe rfl (e_nilCheck rfl) <| oe rfl (e_load Tryz.isAgg330 rfl (.inl (.head _)) rfl) <| oe rfl (e_as (r := Value.int .i64 1) (e_lenm Tryz.runUnderlying330 rfl (.inl (.tail _ (.head _)))) rfl) ?_
  refine o_l rfl (l_mksc (l := [Value.int .u64 0]) (n := 0) (m := 1) Tryz.underlying29 (info_of Tryz.typeInfo23) rfl rfl rfl rfl rfl rfl rfl (by decide) (by kernel_rfl)) ?_; intro g1 _
  refine asg rfl rfl <| o_nil <| n_code <| c_seq <| c_seq <| c_region <| mv rfl rfl <| oe rfl (e_nilCheck rfl) <| oe rfl (e_load Tryz.isAgg330 rfl (.inl (.tail _ (.head _))) rfl) ?_
  refine o_l rfl (l_range Tryz.runUnderlying330 rfl rfl (.inl (.tail _ (.tail _ (.head _))))) ?_; intro g2 _
  refine o_nil <| n_code <| c_block <| c_rounds 999 <| c_seq <| c_region ?_
  refine o_l rfl (l_next1 0 rfl rfl (.inl (.tail _ (.tail _ (.tail _ (.head _))))) (.head) rfl rfl rfl) ?_; intro _ _
  refine oe rfl (e_extract rfl rfl) <| o_nil <| n_code <| c_seq <| c_then rfl <| c_skip <| n_code <| c_block <| c_seq <| c_region <| oe rfl (e_entry (j := 0) (seen := []) rfl (.inl (.head _)) (.inl (.tail _ (.tail _ (.tail _ (.head _))))) rfl) <| oe rfl (e_extract rfl rfl) <| asg rfl rfl <| o_nil <| n_code <| c_region <| mv rfl rfl <| mv rfl rfl ?_
  refine o_l rfl (l_bs1 Tryz.runUnderlying29 Tryz.sizeOf23 Tryz.zeroValue23 rfl rfl rfl) ?_; intro g3 _
  refine o_l rfl (l_app (off := 1) (L := [Value.int .u64 0]) Tryz.underlying29 (info_of Tryz.typeInfo23) rfl rfl rfl rfl rfl rfl (.tail (.tail (.head))) rfl (by decide) (by decide) (.inr rfl) (.done) (Sv.blk (vs := [Value.int .u64 0]) Tryz.underlying29 (.inl (.head _)) (.take (.done)) (by simp [Value.oneCell'])) (.nil) rfl rfl rfl rfl) ?_; intro y4 hy4
  refine asg rfl rfl <| o_nil <| n_block <| n_rounds <| c_seq <| c_region ?_
  refine o_l rfl (l_next0 rfl rfl (.inl (.tail _ (.tail _ (.tail _ (.tail _ (.head _)))))) (.tail _ (.tail _ (.head _))) rfl) ?_; intro _ _
  refine oe rfl (e_extract rfl rfl) <| o_nil <| n_code <| c_seq <| c_else rfl <| c_exit <| x_code <| x_upto <| x_here <| n_code <| c_seq <| c_region <| mv rfl rfl ?_
  refine o_l rfl (l_calle Tryz.call327 (z139 y4 hy4) rfl rfl (.cons (.head) (.nil))) ?_; intro r5 hr5
  refine o_cat (.cons (.nil)) <| o_nil <| n_code <| c_seq <| c_region <| mv rfl rfl <| asg rfl rfl <| o_nil <| n_code <| c_ret <| WR.sel (.cons (.tail (.tail (.tail (.head)))) (.cons (.tail (.tail (.tail (.head)))) (.cons (.tail (.tail (.tail (.head)))) (.cons (.tail (.tail (.tail (.head)))) (.cons (.tail (.tail (.tail (.head)))) (.cons (.head) (.nil))))))) <| r_fn1 Tryz.results319 rfl ?_
  exact tells (y := (y4)) hy4 rfl rfl

theorem z141 {G : HP} (p0 : Nat) :
    CtrE Tryz.prog 179 [Value.agg #[], Value.slice (some ⟨p0, 0, none⟩) 8 8, Value.int .u64 0] G [(p0, C xb10 5)] (T := Unit) (fun _ => True) (fun _ => Value.tuple #[]) (fun _ => [(p0, C xb10 5)]) := by
  refine fn_enter 48 Tryz.func179 rfl Tryz.ntmps179 rfl ?_
  intro w0
  refine c_seq <| c_region ?_
  refine o_l rfl (l_box rfl rfl rfl) ?_; intro g1 _
  refine o_nil <| n_code <| c_seq <| c_region <| mv rfl rfl <| oe rfl (e_as (r := Value.pointer (some ⟨p0, 7, none⟩)) (e_ia Tryz.runUnderlying72 Tryz.sizeOf5 rfl rfl (by decide) (by decide)) rfl) <| oe rfl (e_load Tryz.isAgg5 rfl (.inl (.tail _ (.head _))) rfl) <| o_nil <| n_code <| c_seq <| c_region <| mv rfl rfl <| mv rfl rfl <| oe rfl (e_convc (r := ub 0) Tryz.runUnderlying23 Tryz.runUnderlying5 rfl (by kernel_rfl)) ?_
  refine oe rfl (e_as (r := Value.pointer (some ⟨p0, 0, none⟩)) (e_ia Tryz.runUnderlying72 Tryz.sizeOf5 rfl rfl (by decide) (by decide)) rfl) ?_
  refine o_l rfl (l_store Tryz.sizeOf5 rfl rfl rfl (.tail (.head)) (.head) nofr0) ?_; intro _ _
  refine o_nil <| n_code <| c_seq <| c_region <| mv rfl rfl <| mv rfl rfl <| oe rfl (e_shrc (r := Value.int .u64 0) rfl rfl rfl (by kernel_rfl)) <| oe rfl (e_convc (r := ub 0) Tryz.runUnderlying23 Tryz.runUnderlying5 rfl (by kernel_rfl)) <| oe rfl (e_as (r := Value.pointer (some ⟨p0, 1, none⟩)) (e_ia Tryz.runUnderlying72 Tryz.sizeOf5 rfl rfl (by decide) (by decide)) rfl) ?_
  refine o_l rfl (l_store Tryz.sizeOf5 rfl rfl rfl (.tail (.head)) (.tail (.head)) nofr0) ?_; intro _ _
  refine o_nil <| n_code <| c_seq <| c_region <| mv rfl rfl <| mv rfl rfl <| oe rfl (e_shrc (r := Value.int .u64 0) rfl rfl rfl (by kernel_rfl)) <| oe rfl (e_convc (r := ub 0) Tryz.runUnderlying23 Tryz.runUnderlying5 rfl (by kernel_rfl)) <| oe rfl (e_as (r := Value.pointer (some ⟨p0, 2, none⟩)) (e_ia Tryz.runUnderlying72 Tryz.sizeOf5 rfl rfl (by decide) (by decide)) rfl) ?_
  refine o_l rfl (l_store Tryz.sizeOf5 rfl rfl rfl (.tail (.head)) (.tail (.tail (.head))) nofr0) ?_; intro _ _
  refine o_nil <| n_code <| c_seq <| c_region <| mv rfl rfl <| mv rfl rfl <| oe rfl (e_shrc (r := Value.int .u64 0) rfl rfl rfl (by kernel_rfl)) <| oe rfl (e_convc (r := ub 0) Tryz.runUnderlying23 Tryz.runUnderlying5 rfl (by kernel_rfl)) <| oe rfl (e_as (r := Value.pointer (some ⟨p0, 3, none⟩)) (e_ia Tryz.runUnderlying72 Tryz.sizeOf5 rfl rfl (by decide) (by decide)) rfl) ?_
  refine o_l rfl (l_store Tryz.sizeOf5 rfl rfl rfl (.tail (.head)) (.tail (.tail (.tail (.head)))) nofr0) ?_; intro _ _
  refine o_nil <| n_code <| c_seq <| c_region <| mv rfl rfl <| mv rfl rfl <| oe rfl (e_shrc (r := Value.int .u64 0) rfl rfl rfl (by kernel_rfl)) <| oe rfl (e_convc (r := ub 0) Tryz.runUnderlying23 Tryz.runUnderlying5 rfl (by kernel_rfl)) <| oe rfl (e_as (r := Value.pointer (some ⟨p0, 4, none⟩)) (e_ia Tryz.runUnderlying72 Tryz.sizeOf5 rfl rfl (by decide) (by decide)) rfl) ?_
  refine o_l rfl (l_store Tryz.sizeOf5 rfl rfl rfl (.tail (.head)) (.tail (.tail (.tail (.tail (.head))))) nofr0) ?_; intro _ _
  refine o_nil <| n_code <| c_seq <| c_region <| mv rfl rfl <| mv rfl rfl <| oe rfl (e_shrc (r := Value.int .u64 0) rfl rfl rfl (by kernel_rfl)) <| oe rfl (e_convc (r := ub 0) Tryz.runUnderlying23 Tryz.runUnderlying5 rfl (by kernel_rfl)) <| oe rfl (e_as (r := Value.pointer (some ⟨p0, 5, none⟩)) (e_ia Tryz.runUnderlying72 Tryz.sizeOf5 rfl rfl (by decide) (by decide)) rfl) ?_
  refine o_l rfl (l_store Tryz.sizeOf5 rfl rfl rfl (.tail (.head)) (.tail (.tail (.tail (.tail (.tail (.head)))))) nofr0) ?_; intro _ _
  refine o_nil <| n_code <| c_seq <| c_region <| mv rfl rfl <| mv rfl rfl <| oe rfl (e_shrc (r := Value.int .u64 0) rfl rfl rfl (by kernel_rfl)) <| oe rfl (e_convc (r := ub 0) Tryz.runUnderlying23 Tryz.runUnderlying5 rfl (by kernel_rfl)) <| oe rfl (e_as (r := Value.pointer (some ⟨p0, 6, none⟩)) (e_ia Tryz.runUnderlying72 Tryz.sizeOf5 rfl rfl (by decide) (by decide)) rfl) ?_
  refine o_l rfl (l_store Tryz.sizeOf5 rfl rfl rfl (.tail (.head)) (.tail (.tail (.tail (.tail (.tail (.tail (.head))))))) nofr0) ?_; intro _ _
  refine o_nil <| n_code <| c_region <| mv rfl rfl <| mv rfl rfl <| oe rfl (e_shrc (r := Value.int .u64 0) rfl rfl rfl (by kernel_rfl)) <| oe rfl (e_convc (r := ub 0) Tryz.runUnderlying23 Tryz.runUnderlying5 rfl (by kernel_rfl)) <| oe rfl (e_as (r := Value.pointer (some ⟨p0, 7, none⟩)) (e_ia Tryz.runUnderlying72 Tryz.sizeOf5 rfl rfl (by decide) (by decide)) rfl) ?_
  refine o_l rfl (l_store Tryz.sizeOf5 rfl rfl rfl (.tail (.head)) (.tail (.tail (.tail (.tail (.tail (.tail (.tail (.head)))))))) nofr0) ?_; intro _ _
  refine o_nil <| WN.sel (.cons (.tail (.head)) (.nil)) <| n_fn0 Tryz.results179 ?_
  exact tells (y := (())) trivial rfl rfl

theorem z142 {G : HP} (p0 : Nat) (p1 : Nat) :
    CtrE Tryz.prog 296 [Value.pointer (some ⟨p0, 0, none⟩), Value.int .i64 8] G [(p0, C [Value.slice (some ⟨p1, 0, none⟩) 6 64, Value.int .i64 0, Value.int .i8 0] 86), (p1, C xb20 5)] (T := Unit) (fun _ => True) (fun _ => Value.tuple #[Value.int .i64 6, Value.bool true]) (fun _ => [(p0, C [Value.slice (some ⟨p1, 0, none⟩) 14 64, Value.int .i64 0, Value.int .i8 0] 86), (p1, C xb20 5)]) := by
  refine fn_enter 33 Tryz.func296 rfl Tryz.ntmps296 rfl ?_
  intro w0
  refine c_seq <| c_region <| asg rfl rfl <| asg rfl rfl <| o_nil <| n_code <| c_seq <| c_seq <| c_region <| mv rfl rfl <| oe rfl (e_nilCheck rfl) <| oe rfl (e_as (r := Value.pointer (some ⟨p0, 0, none⟩)) (e_fa Tryz.runUnderlying86 rfl Tryz.sizeOf72 rfl rfl) rfl) <| oe rfl (e_load Tryz.isAgg72 rfl (.inl (.head _)) rfl) <| oe rfl (e_as (r := Value.int .i64 6) (e_lenl Tryz.runUnderlying72 rfl) rfl) <| asg rfl rfl <| o_nil <| n_code <| c_seq <| c_region <| mv rfl rfl <| mv rfl rfl <| oe rfl (e_nilCheck rfl) ?_
  refine oe rfl (e_as (r := Value.pointer (some ⟨p0, 0, none⟩)) (e_fa Tryz.runUnderlying86 rfl Tryz.sizeOf72 rfl rfl) rfl) <| oe rfl (e_load Tryz.isAgg72 rfl (.inl (.head _)) rfl) <| oe rfl (e_as (r := Value.int .i64 64) (e_cap Tryz.runUnderlying72 rfl) rfl) <| mv rfl rfl <| oi (Value.int .i64 58) rfl rfl rfl (by kernel_rfl) <| oi (Value.bool true) rfl rfl rfl (by kernel_rfl) <| o_nil <| n_code <| c_then rfl <| c_seq <| c_region <| mv rfl rfl <| mv rfl rfl <| oe rfl (e_nilCheck rfl) ?_
  refine oe rfl (e_as (r := Value.pointer (some ⟨p0, 0, none⟩)) (e_fa Tryz.runUnderlying86 rfl Tryz.sizeOf72 rfl rfl) rfl) <| oe rfl (e_load Tryz.isAgg72 rfl (.inl (.head _)) rfl) <| mv rfl rfl <| mv rfl rfl <| oi (Value.int .i64 14) rfl rfl rfl (by kernel_rfl) <| oe rfl (e_as (r := Value.slice (some ⟨p1, 0, none⟩) 14 64) (e_sl_h Tryz.runUnderlying72 Tryz.sizeOf5 rfl rfl (by decide) (by decide)) rfl) <| oe rfl (e_nilCheck rfl) ?_
  refine oe rfl (e_as (r := Value.pointer (some ⟨p0, 0, none⟩)) (e_fa Tryz.runUnderlying86 rfl Tryz.sizeOf72 rfl rfl) rfl) ?_
  refine o_l rfl (l_store Tryz.sizeOf72 rfl rfl rfl (.head) (.head) nofr0) ?_; intro _ _
  refine o_nil <| n_code <| c_seq <| c_region <| mv rfl rfl <| asg rfl rfl <| asg rfl rfl <| o_nil <| n_code <| c_ret <| WR.sel (.cons (.head) (.cons (.head) (.nil))) <| r_fn (l := [.tmp 4, .tmp 5]) Tryz.results296 rfl rfl ?_
  exact tells (y := (())) trivial rfl rfl

theorem z143 {G : HP} (p0 : Nat) (p1 : Nat) (p2 : Nat) :
    CtrE Tryz.prog 294 [Value.pointer (some ⟨p0, 0, none⟩), Value.slice (some ⟨p2, 0, none⟩) 8 8] G [(p0, C [Value.slice (some ⟨p1, 0, none⟩) 6 64, Value.int .i64 0, Value.int .i8 0] 86), (p1, C xb20 5), (p2, C xb10 5)] (T := Unit) (fun _ => True) (fun _ => Value.tuple #[Value.int .i64 8, Value.nilIface]) (fun _ => [(p0, C [Value.slice (some ⟨p1, 0, none⟩) 14 64, Value.int .i64 0, Value.int .i8 0] 86), (p1, C xb20 5), (p2, C xb10 5)]) := by
  refine fn_enter 32 Tryz.func294 rfl Tryz.ntmps294 rfl ?_
  intro w0
  refine c_seq <| c_region <| asg rfl rfl <| asg rfl rfl <| o_nil <| n_code <| c_seq <| c_region <| mv rfl rfl <| oe rfl (e_nilCheck rfl) <| oe rfl (e_as (r := Value.pointer (some ⟨p0, 2, none⟩)) (e_fa Tryz.runUnderlying86 rfl Tryz.sizeOf84 rfl rfl) rfl) ?_
  refine o_l rfl (l_store Tryz.sizeOf84 rfl rfl rfl (.head) (.tail (.tail (.head))) nofr0) ?_; intro _ _
  refine o_nil <| n_code <| c_seq <| c_region <| mv rfl rfl <| mv rfl rfl <| oe rfl (e_as (r := Value.int .i64 8) (e_lenl Tryz.runUnderlying72 rfl) rfl) ?_
  refine o_l rfl (l_calle Tryz.call296 (z142 (p0) (p1)) rfl rfl (.cons (.head) (.cons (.head) (.nil)))) ?_; intro r1 hr1
  refine o_cat (.cons (.cons (.nil))) <| mv rfl rfl <| oe rfl (e_extract rfl rfl) <| oe rfl (e_extract rfl rfl) <| asg rfl rfl <| asg rfl rfl <| o_nil <| n_code <| c_seq <| c_seq <| c_region <| mv rfl rfl <| oe rfl (e_as (r := Value.bool false) (e_not rfl) rfl) <| o_nil <| n_code <| c_else rfl <| c_skip <| n_code <| c_seq <| c_region <| mv rfl rfl <| oe rfl (e_nilCheck rfl) <| oe rfl (e_as (r := Value.pointer (some ⟨p0, 0, none⟩)) (e_fa Tryz.runUnderlying86 rfl Tryz.sizeOf72 rfl rfl) rfl) ?_
  refine oe rfl (e_load Tryz.isAgg72 rfl (.inl (.head _)) rfl) <| mv rfl rfl <| oe rfl (e_as (r := Value.slice (some ⟨p1, 6, none⟩) 8 58) (e_sl_l Tryz.runUnderlying72 Tryz.sizeOf5 rfl rfl (by decide) (by decide) (by decide)) (by first | rfl | (simp; try omega))) <| mv rfl rfl ?_
  refine o_l rfl (l_copy (vs := xb10) (k' := 8) Tryz.runUnderlying72 Tryz.sizeOf5 rfl rfl rfl (Sv.blk (vs := xb10) Tryz.underlying72 (.inl (.tail _ (.tail _ (.head _)))) (.take (.take (.take (.take (.take (.take (.take (.take (.done))))))))) (by simp [Value.oneCell'])) rfl (.tail (.head)) (.skip (.skip (.skip (.skip (.skip (.skip (.take (.take (.take (.take (.take (.take (.take (.take (.done))))))))))))))) (.inr rfl)) ?_; intro _ _
  refine asg rfl rfl <| asg rfl rfl <| o_nil <| n_code <| c_ret <| WR.sel (.cons (.head) (.cons (.head) (.cons (.head) (.nil)))) <| r_fn (l := [.tmp 4, .tmp 5]) Tryz.results294 rfl rfl ?_
  exact tells (y := (())) trivial rfl rfl

theorem z144 {G : HP} (p0 : Nat) (p1 : Nat) :
    CtrE Tryz.prog 328 [Value.iface 89 (Value.pointer (some ⟨p0, 0, none⟩)), Value.int .u64 0] G [(p0, C [Value.slice (some ⟨p1, 0, none⟩) 6 64, Value.int .i64 0, Value.int .i8 0] 86), (p1, C xb20 5)] (T := Unit) (fun _ => True) (fun _ => Value.nilIface) (fun _ => [(p0, C [Value.slice (some ⟨p1, 0, none⟩) 14 64, Value.int .i64 0, Value.int .i8 0] 86), (p1, C xb20 5)]) := by
  refine fn_enter 20 Tryz.func328 rfl Tryz.ntmps328 rfl ?_
  intro w0
  refine c_seq <| c_region <| asg rfl rfl <| o_nil <| n_code <| c_seq <| c_region ?_
  refine o_l rfl (l_mksc (l := xb10) (n := 8) (m := 8) Tryz.underlying72 (info_of Tryz.typeInfo5) rfl rfl rfl rfl rfl rfl rfl (by decide) (by kernel_rfl)) ?_; intro g1 _
  refine asg rfl rfl <| o_nil <| n_code <| c_seq <| c_region <| oe rfl (e_load0 Tryz.isAgg294 Tryz.sizeOf294 rfl) <| mv rfl rfl <| mv rfl rfl ?_
  refine o_l rfl (l_calle Tryz.call179 (z141 (g1)) rfl rfl (.cons (.head) (.nil))) ?_; intro r2 hr2
  refine o_cat (.cons (.nil)) <| o_nil <| n_code <| c_seq <| c_region <| mv rfl rfl <| mv rfl rfl ?_
  refine o_l rfl (l_callie Tryz.call294 (by intro w; kernel_rfl) (z143 (p0) (p1) (g1)) rfl rfl rfl (.cons (.tail (.head)) (.cons (.tail (.head)) (.cons (.head) (.nil))))) ?_; intro r3 hr3
  refine o_cat (.cons (.cons (.cons (.nil)))) <| mv rfl rfl <| oe rfl (e_extract rfl rfl) <| oe rfl (e_extract rfl rfl) <| asg rfl rfl <| asg rfl rfl <| o_nil <| n_code <| c_seq <| c_region <| mv rfl rfl <| asg rfl rfl <| o_nil <| n_code <| c_ret <| WR.sel (.cons (.head) (.cons (.head) (.nil))) <| r_fn1 Tryz.results328 rfl ?_
  exact tells (y := (())) trivial rfl rfl

theorem z145 {G : HP} (p0 : Nat) (p1 : Nat) :
    CtrE Tryz.prog 296 [Value.pointer (some ⟨p0, 0, none⟩), Value.int .i64 4] G [(p0, C [Value.slice (some ⟨p1, 0, none⟩) 14 64, Value.int .i64 0, Value.int .i8 0] 86), (p1, C xb20 5)] (T := Unit) (fun _ => True) (fun _ => Value.tuple #[Value.int .i64 14, Value.bool true]) (fun _ => [(p0, C [Value.slice (some ⟨p1, 0, none⟩) 18 64, Value.int .i64 0, Value.int .i8 0] 86), (p1, C xb20 5)]) := by
  refine fn_enter 33 Tryz.func296 rfl Tryz.ntmps296 rfl ?_
  intro w0
  refine c_seq <| c_region <| asg rfl rfl <| asg rfl rfl <| o_nil <| n_code <| c_seq <| c_seq <| c_region <| mv rfl rfl <| oe rfl (e_nilCheck rfl) <| oe rfl (e_as (r := Value.pointer (some ⟨p0, 0, none⟩)) (e_fa Tryz.runUnderlying86 rfl Tryz.sizeOf72 rfl rfl) rfl) <| oe rfl (e_load Tryz.isAgg72 rfl (.inl (.head _)) rfl) <| oe rfl (e_as (r := Value.int .i64 14) (e_lenl Tryz.runUnderlying72 rfl) rfl) <| asg rfl rfl <| o_nil <| n_code <| c_seq <| c_region <| mv rfl rfl <| mv rfl rfl <| oe rfl (e_nilCheck rfl) ?_
  refine oe rfl (e_as (r := Value.pointer (some ⟨p0, 0, none⟩)) (e_fa Tryz.runUnderlying86 rfl Tryz.sizeOf72 rfl rfl) rfl) <| oe rfl (e_load Tryz.isAgg72 rfl (.inl (.head _)) rfl) <| oe rfl (e_as (r := Value.int .i64 64) (e_cap Tryz.runUnderlying72 rfl) rfl) <| mv rfl rfl <| oi (Value.int .i64 50) rfl rfl rfl (by kernel_rfl) <| oi (Value.bool true) rfl rfl rfl (by kernel_rfl) <| o_nil <| n_code <| c_then rfl <| c_seq <| c_region <| mv rfl rfl <| mv rfl rfl <| oe rfl (e_nilCheck rfl) ?_
  refine oe rfl (e_as (r := Value.pointer (some ⟨p0, 0, none⟩)) (e_fa Tryz.runUnderlying86 rfl Tryz.sizeOf72 rfl rfl) rfl) <| oe rfl (e_load Tryz.isAgg72 rfl (.inl (.head _)) rfl) <| mv rfl rfl <| mv rfl rfl <| oi (Value.int .i64 18) rfl rfl rfl (by kernel_rfl) <| oe rfl (e_as (r := Value.slice (some ⟨p1, 0, none⟩) 18 64) (e_sl_h Tryz.runUnderlying72 Tryz.sizeOf5 rfl rfl (by decide) (by decide)) rfl) <| oe rfl (e_nilCheck rfl) ?_
  refine oe rfl (e_as (r := Value.pointer (some ⟨p0, 0, none⟩)) (e_fa Tryz.runUnderlying86 rfl Tryz.sizeOf72 rfl rfl) rfl) ?_
  refine o_l rfl (l_store Tryz.sizeOf72 rfl rfl rfl (.head) (.head) nofr0) ?_; intro _ _
  refine o_nil <| n_code <| c_seq <| c_region <| mv rfl rfl <| asg rfl rfl <| asg rfl rfl <| o_nil <| n_code <| c_ret <| WR.sel (.cons (.head) (.cons (.head) (.nil))) <| r_fn (l := [.tmp 4, .tmp 5]) Tryz.results296 rfl rfl ?_
  exact tells (y := (())) trivial rfl rfl

theorem z146 {G : HP} (p0 : Nat) (p1 : Nat) (p2 : Nat) :
    CtrE Tryz.prog 294 [Value.pointer (some ⟨p0, 0, none⟩), Value.slice (some ⟨p2, 0, none⟩) 4 4] G [(p0, C [Value.slice (some ⟨p1, 0, none⟩) 14 64, Value.int .i64 0, Value.int .i8 0] 86), (p1, C xb20 5), (p2, C [ub 1, ub 0, ub 0, ub 0] 5)] (T := Unit) (fun _ => True) (fun _ => Value.tuple #[Value.int .i64 4, Value.nilIface]) (fun _ => [(p0, C [Value.slice (some ⟨p1, 0, none⟩) 18 64, Value.int .i64 0, Value.int .i8 0] 86), (p1, C xb21 5), (p2, C [ub 1, ub 0, ub 0, ub 0] 5)]) := by
  refine fn_enter 32 Tryz.func294 rfl Tryz.ntmps294 rfl ?_
  intro w0
  refine c_seq <| c_region <| asg rfl rfl <| asg rfl rfl <| o_nil <| n_code <| c_seq <| c_region <| mv rfl rfl <| oe rfl (e_nilCheck rfl) <| oe rfl (e_as (r := Value.pointer (some ⟨p0, 2, none⟩)) (e_fa Tryz.runUnderlying86 rfl Tryz.sizeOf84 rfl rfl) rfl) ?_
  refine o_l rfl (l_store Tryz.sizeOf84 rfl rfl rfl (.head) (.tail (.tail (.head))) nofr0) ?_; intro _ _
  refine o_nil <| n_code <| c_seq <| c_region <| mv rfl rfl <| mv rfl rfl <| oe rfl (e_as (r := Value.int .i64 4) (e_lenl Tryz.runUnderlying72 rfl) rfl) ?_
  refine o_l rfl (l_calle Tryz.call296 (z145 (p0) (p1)) rfl rfl (.cons (.head) (.cons (.head) (.nil)))) ?_; intro r1 hr1
  refine o_cat (.cons (.cons (.nil))) <| mv rfl rfl <| oe rfl (e_extract rfl rfl) <| oe rfl (e_extract rfl rfl) <| asg rfl rfl <| asg rfl rfl <| o_nil <| n_code <| c_seq <| c_seq <| c_region <| mv rfl rfl <| oe rfl (e_as (r := Value.bool false) (e_not rfl) rfl) <| o_nil <| n_code <| c_else rfl <| c_skip <| n_code <| c_seq <| c_region <| mv rfl rfl <| oe rfl (e_nilCheck rfl) <| oe rfl (e_as (r := Value.pointer (some ⟨p0, 0, none⟩)) (e_fa Tryz.runUnderlying86 rfl Tryz.sizeOf72 rfl rfl) rfl) ?_
  refine oe rfl (e_load Tryz.isAgg72 rfl (.inl (.head _)) rfl) <| mv rfl rfl <| oe rfl (e_as (r := Value.slice (some ⟨p1, 14, none⟩) 4 50) (e_sl_l Tryz.runUnderlying72 Tryz.sizeOf5 rfl rfl (by decide) (by decide) (by decide)) (by first | rfl | (simp; try omega))) <| mv rfl rfl ?_
  refine o_l rfl (l_copy (vs := [ub 1, ub 0, ub 0, ub 0]) (k' := 4) Tryz.runUnderlying72 Tryz.sizeOf5 rfl rfl rfl (Sv.blk (vs := [ub 1, ub 0, ub 0, ub 0]) Tryz.underlying72 (.inl (.tail _ (.tail _ (.head _)))) (.take (.take (.take (.take (.done))))) (by simp [Value.oneCell'])) rfl (.tail (.head)) (.skip (.skip (.skip (.skip (.skip (.skip (.skip (.skip (.skip (.skip (.skip (.skip (.skip (.skip (.take (.take (.take (.take (.done))))))))))))))))))) (.inr rfl)) ?_; intro _ _
  refine asg rfl rfl <| asg rfl rfl <| o_nil <| n_code <| c_ret <| WR.sel (.cons (.head) (.cons (.head) (.cons (.head) (.nil)))) <| r_fn (l := [.tmp 4, .tmp 5]) Tryz.results294 rfl rfl ?_
  exact tells (y := (())) trivial rfl rfl

theorem z147 {G : HP} (p0 : Nat) (p1 : Nat) :
    CtrE Tryz.prog 318 [Value.iface 89 (Value.pointer (some ⟨p0, 0, none⟩)), Value.int .u32 1] G [(p0, C [Value.slice (some ⟨p1, 0, none⟩) 14 64, Value.int .i64 0, Value.int .i8 0] 86), (p1, C xb20 5)] (T := Unit) (fun _ => True) (fun _ => Value.nilIface) (fun _ => [(p0, C [Value.slice (some ⟨p1, 0, none⟩) 18 64, Value.int .i64 0, Value.int .i8 0] 86), (p1, C xb21 5)]) := by
  refine fn_enter 20 Tryz.func318 rfl Tryz.ntmps318 rfl ?_
  intro w0
  refine c_seq <| c_region <| asg rfl rfl <| o_nil <| n_code <| c_seq <| c_region ?_
  refine o_l rfl (l_mksc (l := [ub 0, ub 0, ub 0, ub 0]) (n := 4) (m := 4) Tryz.underlying72 (info_of Tryz.typeInfo5) rfl rfl rfl rfl rfl rfl rfl (by decide) (by kernel_rfl)) ?_; intro g1 _
  refine asg rfl rfl <| o_nil <| n_code <| c_seq <| c_region <| oe rfl (e_load0 Tryz.isAgg294 Tryz.sizeOf294 rfl) <| mv rfl rfl <| mv rfl rfl ?_
  refine o_l rfl (l_calle Tryz.call326 (z54 (g1)) rfl rfl (.cons (.head) (.nil))) ?_; intro r2 hr2
  refine o_cat (.cons (.nil)) <| o_nil <| n_code <| c_seq <| c_region <| mv rfl rfl <| mv rfl rfl ?_
  refine o_l rfl (l_callie Tryz.call294 (by intro w; kernel_rfl) (z146 (p0) (p1) (g1)) rfl rfl rfl (.cons (.tail (.head)) (.cons (.tail (.head)) (.cons (.head) (.nil))))) ?_; intro r3 hr3
  refine o_cat (.cons (.cons (.cons (.nil)))) <| mv rfl rfl <| oe rfl (e_extract rfl rfl) <| oe rfl (e_extract rfl rfl) <| asg rfl rfl <| asg rfl rfl <| o_nil <| n_code <| c_seq <| c_region <| mv rfl rfl <| asg rfl rfl <| o_nil <| n_code <| c_ret <| WR.sel (.cons (.head) (.cons (.head) (.nil))) <| r_fn1 Tryz.results318 rfl ?_
  exact tells (y := (())) trivial rfl rfl

theorem z148 {G : HP} (p0 : Nat) (p1 : Nat) :
    CtrE Tryz.prog 296 [Value.pointer (some ⟨p0, 0, none⟩), Value.int .i64 4] G [(p0, C [Value.slice (some ⟨p1, 0, none⟩) 18 64, Value.int .i64 0, Value.int .i8 0] 86), (p1, C xb21 5)] (T := Unit) (fun _ => True) (fun _ => Value.tuple #[Value.int .i64 18, Value.bool true]) (fun _ => [(p0, C [Value.slice (some ⟨p1, 0, none⟩) 22 64, Value.int .i64 0, Value.int .i8 0] 86), (p1, C xb21 5)]) := by
  refine fn_enter 33 Tryz.func296 rfl Tryz.ntmps296 rfl ?_
  intro w0
  refine c_seq <| c_region <| asg rfl rfl <| asg rfl rfl <| o_nil <| n_code <| c_seq <| c_seq <| c_region <| mv rfl rfl <| oe rfl (e_nilCheck rfl) <| oe rfl (e_as (r := Value.pointer (some ⟨p0, 0, none⟩)) (e_fa Tryz.runUnderlying86 rfl Tryz.sizeOf72 rfl rfl) rfl) <| oe rfl (e_load Tryz.isAgg72 rfl (.inl (.head _)) rfl) <| oe rfl (e_as (r := Value.int .i64 18) (e_lenl Tryz.runUnderlying72 rfl) rfl) <| asg rfl rfl <| o_nil <| n_code <| c_seq <| c_region <| mv rfl rfl <| mv rfl rfl <| oe rfl (e_nilCheck rfl) ?_
  refine oe rfl (e_as (r := Value.pointer (some ⟨p0, 0, none⟩)) (e_fa Tryz.runUnderlying86 rfl Tryz.sizeOf72 rfl rfl) rfl) <| oe rfl (e_load Tryz.isAgg72 rfl (.inl (.head _)) rfl) <| oe rfl (e_as (r := Value.int .i64 64) (e_cap Tryz.runUnderlying72 rfl) rfl) <| mv rfl rfl <| oi (Value.int .i64 46) rfl rfl rfl (by kernel_rfl) <| oi (Value.bool true) rfl rfl rfl (by kernel_rfl) <| o_nil <| n_code <| c_then rfl <| c_seq <| c_region <| mv rfl rfl <| mv rfl rfl <| oe rfl (e_nilCheck rfl) ?_
  refine oe rfl (e_as (r := Value.pointer (some ⟨p0, 0, none⟩)) (e_fa Tryz.runUnderlying86 rfl Tryz.sizeOf72 rfl rfl) rfl) <| oe rfl (e_load Tryz.isAgg72 rfl (.inl (.head _)) rfl) <| mv rfl rfl <| mv rfl rfl <| oi (Value.int .i64 22) rfl rfl rfl (by kernel_rfl) <| oe rfl (e_as (r := Value.slice (some ⟨p1, 0, none⟩) 22 64) (e_sl_h Tryz.runUnderlying72 Tryz.sizeOf5 rfl rfl (by decide) (by decide)) rfl) <| oe rfl (e_nilCheck rfl) ?_
  refine oe rfl (e_as (r := Value.pointer (some ⟨p0, 0, none⟩)) (e_fa Tryz.runUnderlying86 rfl Tryz.sizeOf72 rfl rfl) rfl) ?_
  refine o_l rfl (l_store Tryz.sizeOf72 rfl rfl rfl (.head) (.head) nofr0) ?_; intro _ _
  refine o_nil <| n_code <| c_seq <| c_region <| mv rfl rfl <| asg rfl rfl <| asg rfl rfl <| o_nil <| n_code <| c_ret <| WR.sel (.cons (.head) (.cons (.head) (.nil))) <| r_fn (l := [.tmp 4, .tmp 5]) Tryz.results296 rfl rfl ?_
  exact tells (y := (())) trivial rfl rfl

theorem z149 {G : HP} (p0 : Nat) (p1 : Nat) (p2 : Nat) :
    CtrE Tryz.prog 294 [Value.pointer (some ⟨p0, 0, none⟩), Value.slice (some ⟨p2, 0, none⟩) 4 4] G [(p0, C [Value.slice (some ⟨p1, 0, none⟩) 18 64, Value.int .i64 0, Value.int .i8 0] 86), (p1, C xb21 5), (p2, C [ub 9, ub 0, ub 0, ub 0] 5)] (T := Unit) (fun _ => True) (fun _ => Value.tuple #[Value.int .i64 4, Value.nilIface]) (fun _ => [(p0, C [Value.slice (some ⟨p1, 0, none⟩) 22 64, Value.int .i64 0, Value.int .i8 0] 86), (p1, C xb22 5), (p2, C [ub 9, ub 0, ub 0, ub 0] 5)]) := by
  refine fn_enter 32 Tryz.func294 rfl Tryz.ntmps294 rfl ?_
  intro w0
  refine c_seq <| c_region <| asg rfl rfl <| asg rfl rfl <| o_nil <| n_code <| c_seq <| c_region <| mv rfl rfl <| oe rfl (e_nilCheck rfl) <| oe rfl (e_as (r := Value.pointer (some ⟨p0, 2, none⟩)) (e_fa Tryz.runUnderlying86 rfl Tryz.sizeOf84 rfl rfl) rfl) ?_
  refine o_l rfl (l_store Tryz.sizeOf84 rfl rfl rfl (.head) (.tail (.tail (.head))) nofr0) ?_; intro _ _
  refine o_nil <| n_code <| c_seq <| c_region <| mv rfl rfl <| mv rfl rfl <| oe rfl (e_as (r := Value.int .i64 4) (e_lenl Tryz.runUnderlying72 rfl) rfl) ?_
  refine o_l rfl (l_calle Tryz.call296 (z148 (p0) (p1)) rfl rfl (.cons (.head) (.cons (.head) (.nil)))) ?_; intro r1 hr1
  refine o_cat (.cons (.cons (.nil))) <| mv rfl rfl <| oe rfl (e_extract rfl rfl) <| oe rfl (e_extract rfl rfl) <| asg rfl rfl <| asg rfl rfl <| o_nil <| n_code <| c_seq <| c_seq <| c_region <| mv rfl rfl <| oe rfl (e_as (r := Value.bool false) (e_not rfl) rfl) <| o_nil <| n_code <| c_else rfl <| c_skip <| n_code <| c_seq <| c_region <| mv rfl rfl <| oe rfl (e_nilCheck rfl) <| oe rfl (e_as (r := Value.pointer (some ⟨p0, 0, none⟩)) (e_fa Tryz.runUnderlying86 rfl Tryz.sizeOf72 rfl rfl) rfl) ?_
  refine oe rfl (e_load Tryz.isAgg72 rfl (.inl (.head _)) rfl) <| mv rfl rfl <| oe rfl (e_as (r := Value.slice (some ⟨p1, 18, none⟩) 4 46) (e_sl_l Tryz.runUnderlying72 Tryz.sizeOf5 rfl rfl (by decide) (by decide) (by decide)) (by first | rfl | (simp; try omega))) <| mv rfl rfl ?_
  refine o_l rfl (l_copy (vs := [ub 9, ub 0, ub 0, ub 0]) (k' := 4) Tryz.runUnderlying72 Tryz.sizeOf5 rfl rfl rfl (Sv.blk (vs := [ub 9, ub 0, ub 0, ub 0]) Tryz.underlying72 (.inl (.tail _ (.tail _ (.head _)))) (.take (.take (.take (.take (.done))))) (by simp [Value.oneCell'])) rfl (.tail (.head)) (.skip (.skip (.skip (.skip (.skip (.skip (.skip (.skip (.skip (.skip (.skip (.skip (.skip (.skip (.skip (.skip (.skip (.skip (.take (.take (.take (.take (.done))))))))))))))))))))))) (.inr rfl)) ?_; intro _ _
  refine asg rfl rfl <| asg rfl rfl <| o_nil <| n_code <| c_ret <| WR.sel (.cons (.head) (.cons (.head) (.cons (.head) (.nil)))) <| r_fn (l := [.tmp 4, .tmp 5]) Tryz.results294 rfl rfl ?_
  exact tells (y := (())) trivial rfl rfl

theorem z150 {G : HP} (p0 : Nat) (p1 : Nat) :
    CtrE Tryz.prog 318 [Value.iface 89 (Value.pointer (some ⟨p0, 0, none⟩)), Value.int .u32 9] G [(p0, C [Value.slice (some ⟨p1, 0, none⟩) 18 64, Value.int .i64 0, Value.int .i8 0] 86), (p1, C xb21 5)] (T := Unit) (fun _ => True) (fun _ => Value.nilIface) (fun _ => [(p0, C [Value.slice (some ⟨p1, 0, none⟩) 22 64, Value.int .i64 0, Value.int .i8 0] 86), (p1, C xb22 5)]) := by
  refine fn_enter 20 Tryz.func318 rfl Tryz.ntmps318 rfl ?_
  intro w0
  refine c_seq <| c_region <| asg rfl rfl <| o_nil <| n_code <| c_seq <| c_region ?_
  refine o_l rfl (l_mksc (l := [ub 0, ub 0, ub 0, ub 0]) (n := 4) (m := 4) Tryz.underlying72 (info_of Tryz.typeInfo5) rfl rfl rfl rfl rfl rfl rfl (by decide) (by kernel_rfl)) ?_; intro g1 _
  refine asg rfl rfl <| o_nil <| n_code <| c_seq <| c_region <| oe rfl (e_load0 Tryz.isAgg294 Tryz.sizeOf294 rfl) <| mv rfl rfl <| mv rfl rfl ?_
  refine o_l rfl (l_calle Tryz.call326 (z62 (g1)) rfl rfl (.cons (.head) (.nil))) ?_; intro r2 hr2
  refine o_cat (.cons (.nil)) <| o_nil <| n_code <| c_seq <| c_region <| mv rfl rfl <| mv rfl rfl ?_
  refine o_l rfl (l_callie Tryz.call294 (by intro w; kernel_rfl) (z149 (p0) (p1) (g1)) rfl rfl rfl (.cons (.tail (.head)) (.cons (.tail (.head)) (.cons (.head) (.nil))))) ?_; intro r3 hr3
  refine o_cat (.cons (.cons (.cons (.nil)))) <| mv rfl rfl <| oe rfl (e_extract rfl rfl) <| oe rfl (e_extract rfl rfl) <| asg rfl rfl <| asg rfl rfl <| o_nil <| n_code <| c_seq <| c_region <| mv rfl rfl <| asg rfl rfl <| o_nil <| n_code <| c_ret <| WR.sel (.cons (.head) (.cons (.head) (.nil))) <| r_fn1 Tryz.results318 rfl ?_
  exact tells (y := (())) trivial rfl rfl

theorem z151 {G : HP} (p0 : Nat) (p1 : Nat) :
    CtrE Tryz.prog 296 [Value.pointer (some ⟨p0, 0, none⟩), Value.int .i64 8] G [(p0, C [Value.slice (some ⟨p1, 0, none⟩) 22 64, Value.int .i64 0, Value.int .i8 0] 86), (p1, C xb22 5)] (T := Unit) (fun _ => True) (fun _ => Value.tuple #[Value.int .i64 22, Value.bool true]) (fun _ => [(p0, C [Value.slice (some ⟨p1, 0, none⟩) 30 64, Value.int .i64 0, Value.int .i8 0] 86), (p1, C xb22 5)]) := by
  refine fn_enter 33 Tryz.func296 rfl Tryz.ntmps296 rfl ?_
  intro w0
  refine c_seq <| c_region <| asg rfl rfl <| asg rfl rfl <| o_nil <| n_code <| c_seq <| c_seq <| c_region <| mv rfl rfl <| oe rfl (e_nilCheck rfl) <| oe rfl (e_as (r := Value.pointer (some ⟨p0, 0, none⟩)) (e_fa Tryz.runUnderlying86 rfl Tryz.sizeOf72 rfl rfl) rfl) <| oe rfl (e_load Tryz.isAgg72 rfl (.inl (.head _)) rfl) <| oe rfl (e_as (r := Value.int .i64 22) (e_lenl Tryz.runUnderlying72 rfl) rfl) <| asg rfl rfl <| o_nil <| n_code <| c_seq <| c_region <| mv rfl rfl <| mv rfl rfl <| oe rfl (e_nilCheck rfl) ?_
  refine oe rfl (e_as (r := Value.pointer (some ⟨p0, 0, none⟩)) (e_fa Tryz.runUnderlying86 rfl Tryz.sizeOf72 rfl rfl) rfl) <| oe rfl (e_load Tryz.isAgg72 rfl (.inl (.head _)) rfl) <| oe rfl (e_as (r := Value.int .i64 64) (e_cap Tryz.runUnderlying72 rfl) rfl) <| mv rfl rfl <| oi (Value.int .i64 42) rfl rfl rfl (by kernel_rfl) <| oi (Value.bool true) rfl rfl rfl (by kernel_rfl) <| o_nil <| n_code <| c_then rfl <| c_seq <| c_region <| mv rfl rfl <| mv rfl rfl <| oe rfl (e_nilCheck rfl) ?_
  refine oe rfl (e_as (r := Value.pointer (some ⟨p0, 0, none⟩)) (e_fa Tryz.runUnderlying86 rfl Tryz.sizeOf72 rfl rfl) rfl) <| oe rfl (e_load Tryz.isAgg72 rfl (.inl (.head _)) rfl) <| mv rfl rfl <| mv rfl rfl <| oi (Value.int .i64 30) rfl rfl rfl (by kernel_rfl) <| oe rfl (e_as (r := Value.slice (some ⟨p1, 0, none⟩) 30 64) (e_sl_h Tryz.runUnderlying72 Tryz.sizeOf5 rfl rfl (by decide) (by decide)) rfl) <| oe rfl (e_nilCheck rfl) ?_
  refine oe rfl (e_as (r := Value.pointer (some ⟨p0, 0, none⟩)) (e_fa Tryz.runUnderlying86 rfl Tryz.sizeOf72 rfl rfl) rfl) ?_
  refine o_l rfl (l_store Tryz.sizeOf72 rfl rfl rfl (.head) (.head) nofr0) ?_; intro _ _
  refine o_nil <| n_code <| c_seq <| c_region <| mv rfl rfl <| asg rfl rfl <| asg rfl rfl <| o_nil <| n_code <| c_ret <| WR.sel (.cons (.head) (.cons (.head) (.nil))) <| r_fn (l := [.tmp 4, .tmp 5]) Tryz.results296 rfl rfl ?_
  exact tells (y := (())) trivial rfl rfl

theorem z152 {G : HP} (p0 : Nat) (p1 : Nat) (p2 : Nat) :
    CtrE Tryz.prog 294 [Value.pointer (some ⟨p0, 0, none⟩), Value.slice (some ⟨p2, 0, none⟩) 8 8] G [(p0, C [Value.slice (some ⟨p1, 0, none⟩) 22 64, Value.int .i64 0, Value.int .i8 0] 86), (p1, C xb22 5), (p2, C xb11 5)] (T := Unit) (fun _ => True) (fun _ => Value.tuple #[Value.int .i64 8, Value.nilIface]) (fun _ => [(p0, C [Value.slice (some ⟨p1, 0, none⟩) 30 64, Value.int .i64 0, Value.int .i8 0] 86), (p1, C xb23 5), (p2, C xb11 5)]) := by
  refine fn_enter 32 Tryz.func294 rfl Tryz.ntmps294 rfl ?_
  intro w0
  refine c_seq <| c_region <| asg rfl rfl <| asg rfl rfl <| o_nil <| n_code <| c_seq <| c_region <| mv rfl rfl <| oe rfl (e_nilCheck rfl) <| oe rfl (e_as (r := Value.pointer (some ⟨p0, 2, none⟩)) (e_fa Tryz.runUnderlying86 rfl Tryz.sizeOf84 rfl rfl) rfl) ?_
  refine o_l rfl (l_store Tryz.sizeOf84 rfl rfl rfl (.head) (.tail (.tail (.head))) nofr0) ?_; intro _ _
  refine o_nil <| n_code <| c_seq <| c_region <| mv rfl rfl <| mv rfl rfl <| oe rfl (e_as (r := Value.int .i64 8) (e_lenl Tryz.runUnderlying72 rfl) rfl) ?_
  refine o_l rfl (l_calle Tryz.call296 (z151 (p0) (p1)) rfl rfl (.cons (.head) (.cons (.head) (.nil)))) ?_; intro r1 hr1
  refine o_cat (.cons (.cons (.nil))) <| mv rfl rfl <| oe rfl (e_extract rfl rfl) <| oe rfl (e_extract rfl rfl) <| asg rfl rfl <| asg rfl rfl <| o_nil <| n_code <| c_seq <| c_seq <| c_region <| mv rfl rfl <| oe rfl (e_as (r := Value.bool false) (e_not rfl) rfl) <| o_nil <| n_code <| c_else rfl <| c_skip <| n_code <| c_seq <| c_region <| mv rfl rfl <| oe rfl (e_nilCheck rfl) <| oe rfl (e_as (r := Value.pointer (some ⟨p0, 0, none⟩)) (e_fa Tryz.runUnderlying86 rfl Tryz.sizeOf72 rfl rfl) rfl) ?_
  refine oe rfl (e_load Tryz.isAgg72 rfl (.inl (.head _)) rfl) <| mv rfl rfl <| oe rfl (e_as (r := Value.slice (some ⟨p1, 22, none⟩) 8 42) (e_sl_l Tryz.runUnderlying72 Tryz.sizeOf5 rfl rfl (by decide) (by decide) (by decide)) (by first | rfl | (simp; try omega))) <| mv rfl rfl ?_
  refine o_l rfl (l_copy (vs := xb11) (k' := 8) Tryz.runUnderlying72 Tryz.sizeOf5 rfl rfl rfl (Sv.blk (vs := xb11) Tryz.underlying72 (.inl (.tail _ (.tail _ (.head _)))) (.take (.take (.take (.take (.take (.take (.take (.take (.done))))))))) (by simp [Value.oneCell'])) rfl (.tail (.head)) (.skip (.skip (.skip (.skip (.skip (.skip (.skip (.skip (.skip (.skip (.skip (.skip (.skip (.skip (.skip (.skip (.skip (.skip (.skip (.skip (.skip (.skip (.take (.take (.take (.take (.take (.take (.take (.take (.done))))))))))))))))))))))))))))))) (.inr rfl)) ?_; intro _ _
  refine asg rfl rfl <| asg rfl rfl <| o_nil <| n_code <| c_ret <| WR.sel (.cons (.head) (.cons (.head) (.cons (.head) (.nil)))) <| r_fn (l := [.tmp 4, .tmp 5]) Tryz.results294 rfl rfl ?_
  exact tells (y := (())) trivial rfl rfl

theorem z153 {G : HP} (p0 : Nat) (p1 : Nat) :
    CtrE Tryz.prog 328 [Value.iface 89 (Value.pointer (some ⟨p0, 0, none⟩)), Value.int .u64 9] G [(p0, C [Value.slice (some ⟨p1, 0, none⟩) 22 64, Value.int .i64 0, Value.int .i8 0] 86), (p1, C xb22 5)] (T := Unit) (fun _ => True) (fun _ => Value.nilIface) (fun _ => [(p0, C [Value.slice (some ⟨p1, 0, none⟩) 30 64, Value.int .i64 0, Value.int .i8 0] 86), (p1, C xb23 5)]) := by
  refine fn_enter 20 Tryz.func328 rfl Tryz.ntmps328 rfl ?_
  intro w0
  refine c_seq <| c_region <| asg rfl rfl <| o_nil <| n_code <| c_seq <| c_region ?_
  refine o_l rfl (l_mksc (l := xb10) (n := 8) (m := 8) Tryz.underlying72 (info_of Tryz.typeInfo5) rfl rfl rfl rfl rfl rfl rfl (by decide) (by kernel_rfl)) ?_; intro g1 _
  refine asg rfl rfl <| o_nil <| n_code <| c_seq <| c_region <| oe rfl (e_load0 Tryz.isAgg294 Tryz.sizeOf294 rfl) <| mv rfl rfl <| mv rfl rfl ?_
  refine o_l rfl (l_calle Tryz.call179 (z66 (g1)) rfl rfl (.cons (.head) (.nil))) ?_; intro r2 hr2
  refine o_cat (.cons (.nil)) <| o_nil <| n_code <| c_seq <| c_region <| mv rfl rfl <| mv rfl rfl ?_
  refine o_l rfl (l_callie Tryz.call294 (by intro w; kernel_rfl) (z152 (p0) (p1) (g1)) rfl rfl rfl (.cons (.tail (.head)) (.cons (.tail (.head)) (.cons (.head) (.nil))))) ?_; intro r3 hr3
  refine o_cat (.cons (.cons (.cons (.nil)))) <| mv rfl rfl <| oe rfl (e_extract rfl rfl) <| oe rfl (e_extract rfl rfl) <| asg rfl rfl <| asg rfl rfl <| o_nil <| n_code <| c_seq <| c_region <| mv rfl rfl <| asg rfl rfl <| o_nil <| n_code <| c_ret <| WR.sel (.cons (.head) (.cons (.head) (.nil))) <| r_fn1 Tryz.results328 rfl ?_
  exact tells (y := (())) trivial rfl rfl

theorem z154 {G : HP} (p0 : Nat) (p1 : Nat) :
    CtrE Tryz.prog 296 [Value.pointer (some ⟨p0, 0, none⟩), Value.int .i64 9] G [(p0, C [Value.slice (some ⟨p1, 0, none⟩) 30 64, Value.int .i64 0, Value.int .i8 0] 86), (p1, C xb23 5)] (T := Unit) (fun _ => True) (fun _ => Value.tuple #[Value.int .i64 30, Value.bool true]) (fun _ => [(p0, C [Value.slice (some ⟨p1, 0, none⟩) 39 64, Value.int .i64 0, Value.int .i8 0] 86), (p1, C xb23 5)]) := by
  refine fn_enter 33 Tryz.func296 rfl Tryz.ntmps296 rfl ?_
  intro w0
  refine c_seq <| c_region <| asg rfl rfl <| asg rfl rfl <| o_nil <| n_code <| c_seq <| c_seq <| c_region <| mv rfl rfl <| oe rfl (e_nilCheck rfl) <| oe rfl (e_as (r := Value.pointer (some ⟨p0, 0, none⟩)) (e_fa Tryz.runUnderlying86 rfl Tryz.sizeOf72 rfl rfl) rfl) <| oe rfl (e_load Tryz.isAgg72 rfl (.inl (.head _)) rfl) <| oe rfl (e_as (r := Value.int .i64 30) (e_lenl Tryz.runUnderlying72 rfl) rfl) <| asg rfl rfl <| o_nil <| n_code <| c_seq <| c_region <| mv rfl rfl <| mv rfl rfl <| oe rfl (e_nilCheck rfl) ?_
  refine oe rfl (e_as (r := Value.pointer (some ⟨p0, 0, none⟩)) (e_fa Tryz.runUnderlying86 rfl Tryz.sizeOf72 rfl rfl) rfl) <| oe rfl (e_load Tryz.isAgg72 rfl (.inl (.head _)) rfl) <| oe rfl (e_as (r := Value.int .i64 64) (e_cap Tryz.runUnderlying72 rfl) rfl) <| mv rfl rfl <| oi (Value.int .i64 34) rfl rfl rfl (by kernel_rfl) <| oi (Value.bool true) rfl rfl rfl (by kernel_rfl) <| o_nil <| n_code <| c_then rfl <| c_seq <| c_region <| mv rfl rfl <| mv rfl rfl <| oe rfl (e_nilCheck rfl) ?_
  refine oe rfl (e_as (r := Value.pointer (some ⟨p0, 0, none⟩)) (e_fa Tryz.runUnderlying86 rfl Tryz.sizeOf72 rfl rfl) rfl) <| oe rfl (e_load Tryz.isAgg72 rfl (.inl (.head _)) rfl) <| mv rfl rfl <| mv rfl rfl <| oi (Value.int .i64 39) rfl rfl rfl (by kernel_rfl) <| oe rfl (e_as (r := Value.slice (some ⟨p1, 0, none⟩) 39 64) (e_sl_h Tryz.runUnderlying72 Tryz.sizeOf5 rfl rfl (by decide) (by decide)) rfl) <| oe rfl (e_nilCheck rfl) ?_
  refine oe rfl (e_as (r := Value.pointer (some ⟨p0, 0, none⟩)) (e_fa Tryz.runUnderlying86 rfl Tryz.sizeOf72 rfl rfl) rfl) ?_
  refine o_l rfl (l_store Tryz.sizeOf72 rfl rfl rfl (.head) (.head) nofr0) ?_; intro _ _
  refine o_nil <| n_code <| c_seq <| c_region <| mv rfl rfl <| asg rfl rfl <| asg rfl rfl <| o_nil <| n_code <| c_ret <| WR.sel (.cons (.head) (.cons (.head) (.nil))) <| r_fn (l := [.tmp 4, .tmp 5]) Tryz.results296 rfl rfl ?_
  exact tells (y := (())) trivial rfl rfl

theorem z155 {G : HP} (p0 : Nat) (p1 : Nat) (p2 : Nat) :
    CtrE Tryz.prog 294 [Value.pointer (some ⟨p0, 0, none⟩), Value.slice (some ⟨p2, 0, none⟩) 9 9] G [(p0, C [Value.slice (some ⟨p1, 0, none⟩) 30 64, Value.int .i64 0, Value.int .i8 0] 86), (p1, C xb23 5), (p2, C xb3 5)] (T := Unit) (fun _ => True) (fun _ => Value.tuple #[Value.int .i64 9, Value.nilIface]) (fun _ => [(p0, C [Value.slice (some ⟨p1, 0, none⟩) 39 64, Value.int .i64 0, Value.int .i8 0] 86), (p1, C xb24 5), (p2, C xb3 5)]) := by
  refine fn_enter 32 Tryz.func294 rfl Tryz.ntmps294 rfl ?_
  intro w0
  refine c_seq <| c_region <| asg rfl rfl <| asg rfl rfl <| o_nil <| n_code <| c_seq <| c_region <| mv rfl rfl <| oe rfl (e_nilCheck rfl) <| oe rfl (e_as (r := Value.pointer (some ⟨p0, 2, none⟩)) (e_fa Tryz.runUnderlying86 rfl Tryz.sizeOf84 rfl rfl) rfl) ?_
  refine o_l rfl (l_store Tryz.sizeOf84 rfl rfl rfl (.head) (.tail (.tail (.head))) nofr0) ?_; intro _ _
  refine o_nil <| n_code <| c_seq <| c_region <| mv rfl rfl <| mv rfl rfl <| oe rfl (e_as (r := Value.int .i64 9) (e_lenl Tryz.runUnderlying72 rfl) rfl) ?_
  refine o_l rfl (l_calle Tryz.call296 (z154 (p0) (p1)) rfl rfl (.cons (.head) (.cons (.head) (.nil)))) ?_; intro r1 hr1
  refine o_cat (.cons (.cons (.nil))) <| mv rfl rfl <| oe rfl (e_extract rfl rfl) <| oe rfl (e_extract rfl rfl) <| asg rfl rfl <| asg rfl rfl <| o_nil <| n_code <| c_seq <| c_seq <| c_region <| mv rfl rfl <| oe rfl (e_as (r := Value.bool false) (e_not rfl) rfl) <| o_nil <| n_code <| c_else rfl <| c_skip <| n_code <| c_seq <| c_region <| mv rfl rfl <| oe rfl (e_nilCheck rfl) <| oe rfl (e_as (r := Value.pointer (some ⟨p0, 0, none⟩)) (e_fa Tryz.runUnderlying86 rfl Tryz.sizeOf72 rfl rfl) rfl) ?_
  refine oe rfl (e_load Tryz.isAgg72 rfl (.inl (.head _)) rfl) <| mv rfl rfl <| oe rfl (e_as (r := Value.slice (some ⟨p1, 30, none⟩) 9 34) (e_sl_l Tryz.runUnderlying72 Tryz.sizeOf5 rfl rfl (by decide) (by decide) (by decide)) (by first | rfl | (simp; try omega))) <| mv rfl rfl ?_
  refine o_l rfl (l_copy (vs := xb3) (k' := 9) Tryz.runUnderlying72 Tryz.sizeOf5 rfl rfl rfl (Sv.blk (vs := xb3) Tryz.underlying72 (.inl (.tail _ (.tail _ (.head _)))) (.take (.take (.take (.take (.take (.take (.take (.take (.take (.done)))))))))) (by simp [Value.oneCell'])) rfl (.tail (.head)) (.skip (.skip (.skip (.skip (.skip (.skip (.skip (.skip (.skip (.skip (.skip (.skip (.skip (.skip (.skip (.skip (.skip (.skip (.skip (.skip (.skip (.skip (.skip (.skip (.skip (.skip (.skip (.skip (.skip (.skip (.take (.take (.take (.take (.take (.take (.take (.take (.take (.done)))))))))))))))))))))))))))))))))))))))) (.inr rfl)) ?_; intro _ _
  refine asg rfl rfl <| asg rfl rfl <| o_nil <| n_code <| c_ret <| WR.sel (.cons (.head) (.cons (.head) (.cons (.head) (.nil)))) <| r_fn (l := [.tmp 4, .tmp 5]) Tryz.results294 rfl rfl ?_
  exact tells (y := (())) trivial rfl rfl

theorem z156 {G : HP} (p0 : Nat) (p1 : Nat) (p2 : Nat) (p3 : Nat) :
    CtrE Tryz.prog 340 [Value.pointer (some ⟨p0, 0, none⟩), Value.iface 89 (Value.pointer (some ⟨p2, 0, none⟩))] G [(p0, C [Value.int .u32 9, Value.int .u64 1, Value.slice (some ⟨p1, 0, none⟩) 9 9] 448), (p1, C xb3 5), (p2, C [Value.slice (some ⟨p3, 0, none⟩) 18 64, Value.int .i64 0, Value.int .i8 0] 86), (p3, C xb21 5)] (T := Unit) (fun _ => True) (fun _ => Value.tuple #[Value.int .u64 21, Value.nilIface]) (fun _ => [(p0, C [Value.int .u32 9, Value.int .u64 1, Value.slice (some ⟨p1, 0, none⟩) 9 9] 448), (p1, C xb3 5), (p2, C [Value.slice (some ⟨p3, 0, none⟩) 39 64, Value.int .i64 0, Value.int .i8 0] 86), (p3, C xb24 5)]) := by
  refine fn_enter 53 Tryz.func340 rfl Tryz.ntmps340 rfl ?_
  intro w0
  refine c_seq <| c_region <| asg rfl rfl <| asg rfl rfl <| o_nil <| n_code <| c_seq <| c_region <| asg rfl rfl <| o_nil <| n_code <| c_seq <| c_seq <| c_region <| mv rfl rfl <| mv rfl rfl <| oe rfl (e_nilCheck rfl) <| oe rfl (e_as (r := Value.pointer (some ⟨p0, 0, none⟩)) (e_fa Tryz.runUnderlying448 rfl Tryz.sizeOf212 rfl rfl) rfl) <| oe rfl (e_load Tryz.isAgg212 rfl (.inl (.head _)) rfl) ?_
  refine o_l rfl (l_calle Tryz.call318 (z150 (p2) (p3)) rfl rfl (.cons (.tail (.tail (.head))) (.cons (.tail (.tail (.head))) (.nil)))) ?_; intro r1 hr1
  refine o_cat (.cons (.cons (.nil))) <| asg rfl rfl <| o_nil <| n_code <| c_seq <| c_region <| mv rfl rfl <| oe rfl (e_nnen Tryz.runUnderlying80 rfl) <| o_nil <| n_code <| c_else rfl <| c_skip <| n_code <| c_seq <| c_region <| mv rfl rfl <| oi (Value.int .u64 4) rfl rfl rfl (by kernel_rfl) <| asg rfl rfl <| o_nil <| n_code <| c_seq <| c_seq <| c_region <| mv rfl rfl <| mv rfl rfl <| oe rfl (e_nilCheck rfl) ?_
  refine oe rfl (e_as (r := Value.pointer (some ⟨p0, 2, none⟩)) (e_fa Tryz.runUnderlying448 rfl Tryz.sizeOf72 rfl rfl) rfl) <| oe rfl (e_load Tryz.isAgg72 rfl (.inl (.tail _ (.tail _ (.head _)))) rfl) <| oe rfl (e_as (r := Value.int .i64 9) (e_lenl Tryz.runUnderlying72 rfl) rfl) <| oe rfl (e_convc (r := Value.int .u64 9) Tryz.runUnderlying3 Tryz.runUnderlying23 rfl (by kernel_rfl)) ?_
  refine o_l rfl (l_calle Tryz.call328 (z153 (p2) (p3)) rfl rfl (.cons (.head) (.cons (.head) (.nil)))) ?_; intro r2 hr2
  refine o_cat (.cons (.cons (.nil))) <| asg rfl rfl <| o_nil <| n_code <| c_seq <| c_region <| mv rfl rfl <| oe rfl (e_nnen Tryz.runUnderlying80 rfl) <| o_nil <| n_code <| c_else rfl <| c_skip <| n_code <| c_seq <| c_region <| mv rfl rfl <| oi (Value.int .u64 12) rfl rfl rfl (by kernel_rfl) <| asg rfl rfl <| o_nil <| n_code <| c_seq ?_
  refine c_regiond [(p0, C [Value.int .u32 9, Value.int .u64 1, Value.slice (some ⟨p1, 0, none⟩) 9 9] 448), (p1, C xb3 5)] (by kernel_rfl) (.cons _ (.cons _ (.cons_cons _ (.cons_cons _ (.slnil))))) <| d_e 0 (fun _ _ _ _ _ h => h) rfl (by kernel_rfl) (by kernel_rfl) (by kernel_rfl) rfl rfl rfl (e_move rfl) ?_
  refine d_e 1 (fun _ _ _ _ _ h => h) rfl (by kernel_rfl) (by kernel_rfl) (by kernel_rfl) rfl rfl rfl (e_move rfl) <| d_e 2 (fun _ _ _ _ _ h => h) rfl (by kernel_rfl) (by kernel_rfl) (by kernel_rfl) rfl rfl rfl (e_nilCheck rfl) <| d_e 3 (fun _ _ _ _ _ h => h) rfl (by kernel_rfl) (by kernel_rfl) (by kernel_rfl) rfl rfl rfl (e_as (r := Value.pointer (some ⟨p0, 2, none⟩)) (e_fa Tryz.runUnderlying448 rfl Tryz.sizeOf72 rfl rfl) rfl) ?_
  refine d_e 4 (fun _ _ _ _ _ h => h) rfl (by kernel_rfl) (by kernel_rfl) (by kernel_rfl) rfl rfl rfl (e_load Tryz.isAgg72 rfl (.inl (.head _)) rfl) <| d_e 5 (fun _ _ _ _ _ h => h) rfl (by kernel_rfl) (by kernel_rfl) (by kernel_rfl) rfl rfl rfl (e_func rfl rfl) <| d_e 6 (fun _ _ _ _ _ h => h) rfl (by kernel_rfl) (by kernel_rfl) (by kernel_rfl) rfl rfl rfl (e_nilm (by intro w; kernel_rfl) rfl) <| d_e 7 (fun _ _ _ _ _ h => h) rfl (by kernel_rfl) (by kernel_rfl) (by kernel_rfl) rfl rfl rfl (e_move rfl) ?_
  refine d_l 8 (by kernel_rfl) rfl rfl (l_callie Tryz.call294 (by intro w; kernel_rfl) (z155 (p2) (p3) (p1)) rfl rfl rfl (.cons (.head) (.cons (.head) (.cons (.tail (.head)) (.nil))))) (fun _ _ => hs_cons (.tail _ (.tail _ (.tail _ (.head _)))) (hs_cons (.tail _ (.tail _ (.head _))) (hs_nil))) ?_
  intro r3 hr3
  refine d_cat (.cons (.cons (.cons (.nil)))) <| d_e 9 (fun _ _ _ _ _ h => h) rfl (by kernel_rfl) (by kernel_rfl) (by kernel_rfl) rfl rfl rfl (e_move rfl) <| d_e 10 (fun _ _ _ _ _ h => h) rfl (by kernel_rfl) (by kernel_rfl) (by kernel_rfl) rfl rfl rfl (e_extract rfl rfl) <| d_e 11 (fun _ _ _ _ _ h => h) rfl (by kernel_rfl) (by kernel_rfl) (by kernel_rfl) rfl rfl rfl (e_extract rfl rfl) <| d_e 12 (fun _ _ _ _ _ h => h) rfl (by kernel_rfl) (by kernel_rfl) (by kernel_rfl) rfl rfl rfl (e_assign rfl) ?_
  refine d_e 13 (fun _ _ _ _ _ h => h) rfl (by kernel_rfl) (by kernel_rfl) (by kernel_rfl) rfl rfl rfl (e_assign rfl) <| d_nil (by kernel_rfl) <| n_code <| c_seq <| c_region <| mv rfl rfl <| mv rfl rfl <| oe rfl (e_convc (r := Value.int .u64 9) Tryz.runUnderlying3 Tryz.runUnderlying23 rfl (by kernel_rfl)) <| oi (Value.int .u64 21) rfl rfl rfl (by kernel_rfl) <| mv rfl rfl <| asg rfl rfl <| asg rfl rfl <| o_nil <| n_code <| c_ret ?_
  refine WR.sel (.cons (.tail (.tail (.tail (.head)))) (.cons (.tail (.tail (.head))) (.cons (.head) (.cons (.head) (.nil))))) <| r_fn (l := [.tmp 4, .tmp 5]) Tryz.results340 rfl rfl ?_
  exact tells (y := (())) trivial rfl rfl

theorem z157 {G : HP} (p0 : Nat) (p1 : Nat) (p2 : Nat) (p3 : Nat) (p4 : Nat) :
    CtrE Tryz.prog 329 [Value.pointer (some ⟨p0, 0, none⟩), Value.iface 89 (Value.pointer (some ⟨p3, 0, none⟩))] G [(p0, C [Value.map (some p1), Value.int .u64 0] 437), (p1, Mo .u32 [(9, Value.agg #[Value.int .u32 9, Value.int .u64 1, Value.slice (some ⟨p2, 0, none⟩) 9 9])]), (p2, C xb3 5), (p3, C [Value.slice (some ⟨p4, 0, none⟩) 14 64, Value.int .i64 0, Value.int .i8 0] 86), (p4, C xb20 5)] (T := Unit) (fun _ => True) (fun _ => Value.tuple #[Value.int .u64 25, Value.nilIface]) (fun _ => [(p0, C [Value.map (some p1), Value.int .u64 0] 437), (p1, Mo .u32 [(9, Value.agg #[Value.int .u32 9, Value.int .u64 1, Value.slice (some ⟨p2, 0, none⟩) 9 9])]), (p2, C xb3 5), (p3, C [Value.slice (some ⟨p4, 0, none⟩) 39 64, Value.int .i64 0, Value.int .i8 0] 86), (p4, C xb24 5)]) := by
  refine fn_enter 72 Tryz.func329 rfl Tryz.ntmps329 rfl ?_
  intro w0
  refine c_seq <| c_region <| asg rfl rfl <| asg rfl rfl <| o_nil <| n_code <| c_seq <| c_region <| asg rfl rfl <| o_nil <| n_code <| c_seq <| c_seq <| c_region <| mv rfl rfl <| mv rfl rfl <| oe rfl (e_nilCheck rfl) <| oe rfl (e_load Tryz.isAgg327 rfl (.inl (.head _)) rfl) <| oe rfl (e_as (r := Value.int .i64 1) (e_lenm Tryz.runUnderlying327 rfl (.inl (.tail _ (.head _)))) rfl) <| oe rfl (e_convc (r := Value.int .u32 1) Tryz.runUnderlying3 Tryz.runUnderlying212 rfl (by kernel_rfl)) ?_
  refine o_l rfl (l_calle Tryz.call318 (z147 (p3) (p4)) rfl rfl (.cons (.tail (.tail (.tail (.head)))) (.cons (.tail (.tail (.tail (.head)))) (.nil)))) ?_; intro r1 hr1
  refine o_cat (.cons (.cons (.nil))) <| asg rfl rfl <| o_nil <| n_code <| c_seq <| c_region <| mv rfl rfl <| oe rfl (e_nnen Tryz.runUnderlying80 rfl) <| o_nil <| n_code <| c_else rfl <| c_skip <| n_code <| c_seq <| c_region <| mv rfl rfl <| oi (Value.int .u64 4) rfl rfl rfl (by kernel_rfl) <| asg rfl rfl <| o_nil <| n_code <| c_seq <| c_region <| mv rfl rfl <| oe rfl (e_nilCheck rfl) <| oe rfl (e_load Tryz.isAgg327 rfl (.inl (.tail _ (.tail _ (.head _)))) rfl) ?_
  refine oe rfl (e_as (r := Value.int .i64 1) (e_lenm Tryz.runUnderlying327 rfl (.inl (.tail _ (.tail _ (.tail _ (.head _)))))) rfl) ?_
  refine o_l rfl (l_mksc (l := [Value.int .u32 0]) (n := 0) (m := 1) Tryz.underlying472 (info_of Tryz.typeInfo212) rfl rfl rfl rfl rfl rfl rfl (by decide) (by kernel_rfl)) ?_; intro g2 _
  refine asg rfl rfl <| o_nil <| n_code <| c_seq <| c_seq <| c_region <| mv rfl rfl <| oe rfl (e_nilCheck rfl) <| oe rfl (e_load Tryz.isAgg327 rfl (.inl (.tail _ (.tail _ (.tail _ (.head _))))) rfl) ?_
  refine o_l rfl (l_range Tryz.runUnderlying327 rfl rfl (.inl (.tail _ (.tail _ (.tail _ (.tail _ (.head _))))))) ?_; intro g3 _
  refine o_nil <| n_code <| c_block <| c_rounds 999 <| c_seq <| c_region ?_
  refine o_l rfl (l_next1 0 rfl rfl (.inl (.tail _ (.tail _ (.tail _ (.tail _ (.tail _ (.head _))))))) (.head) rfl rfl rfl) ?_; intro _ _
  refine oe rfl (e_extract rfl rfl) <| o_nil <| n_code <| c_seq <| c_then rfl <| c_skip <| n_code <| c_block <| c_seq <| c_region <| oe rfl (e_entry (j := 0) (seen := []) rfl (.inl (.head _)) (.inl (.tail _ (.tail _ (.tail _ (.tail _ (.tail _ (.head _))))))) rfl) <| oe rfl (e_extract rfl rfl) <| asg rfl rfl <| o_nil <| n_code <| c_region <| mv rfl rfl <| mv rfl rfl ?_
  refine o_l rfl (l_bs1 Tryz.runUnderlying472 Tryz.sizeOf212 Tryz.zeroValue212 rfl rfl rfl) ?_; intro g4 _
  refine o_l rfl (l_app (off := 1) (L := [Value.int .u32 9]) Tryz.underlying472 (info_of Tryz.typeInfo212) rfl rfl rfl rfl rfl rfl (.tail (.tail (.head))) rfl (by decide) (by decide) (.inr rfl) (.done) (Sv.blk (vs := [Value.int .u32 9]) Tryz.underlying472 (.inl (.head _)) (.take (.done)) (by simp [Value.oneCell'])) (.nil) rfl rfl rfl rfl) ?_; intro y5 hy5
  refine asg rfl rfl <| o_nil <| n_block <| n_rounds <| c_keep (sub_cons (k := 8) rfl (sub_cons (k := 44) rfl (sub_cons (k := 43) rfl (sub_cons (k := 42) rfl (sub_cons (k := 41) rfl (sub_cons (k := 9) rfl (sub_cons (k := 40) rfl (sub_cons (k := 39) rfl (sub_cons (k := 38) rfl (sub_cons (k := 37) rfl (sub_cons (k := 36) rfl (sub_cons (k := 6) rfl (sub_cons (k := 5) rfl (sub_cons (k := 4) rfl (sub_cons (k := 1) rfl (sub_cons (k := 0) rfl (sub_nil))))))))))))))))) <| c_seq <| c_region ?_
  refine o_l rfl (l_next0 rfl rfl (.inl (.tail _ (.tail _ (.tail _ (.tail _ (.tail _ (.tail _ (.head _)))))))) (.tail _ (.tail _ (.head _))) rfl) ?_; intro _ _
  refine oe rfl (e_extract rfl rfl) <| o_nil <| n_code <| c_seq <| c_else rfl <| c_exit <| x_code <| x_upto <| x_here <| n_code <| c_seq <| c_region <| mv rfl rfl ?_
  refine o_l rfl (l_calle Tryz.call339 (z61 y5 hy5) rfl rfl (.cons (.head) (.nil))) ?_; intro r6 hr6
  refine o_cat (.cons (.nil)) <| o_nil <| n_code <| c_seq <| c_seq <| c_region <| mv rfl rfl <| oe rfl (e_as (r := Value.int .i64 1) (e_lenl Tryz.runUnderlying472 rfl) rfl) <| mv rfl rfl <| o_nil <| n_code <| c_block <| c_rounds 999 <| c_seq <| c_region <| oi (Value.bool true) rfl rfl rfl (by kernel_rfl) <| o_nil <| n_code <| c_seq <| c_then rfl <| c_skip <| n_code <| c_seq <| c_block <| c_seq <| c_region ?_
  refine oe rfl (e_as (r := Value.pointer (some ⟨y5.g, 0, none⟩)) (e_ia Tryz.runUnderlying472 Tryz.sizeOf212 rfl rfl (by decide) (by decide)) rfl) <| oe rfl (e_load Tryz.isAgg212 rfl (.inl (.head _)) rfl) <| asg rfl rfl <| o_nil <| n_code <| c_seq <| c_region <| mv rfl rfl <| oe rfl (e_nilCheck rfl) <| oe rfl (e_load Tryz.isAgg327 rfl (.inl (.tail _ (.tail _ (.tail _ (.tail _ (.tail _ (.head _))))))) rfl) <| mv rfl rfl ?_
  refine oe rfl (e_as (r := Value.agg #[Value.int .u32 9, Value.int .u64 1, Value.slice (some ⟨p2, 0, none⟩) 9 9]) (e_lookup Tryz.runUnderlying327 Tryz.runUnderlying212 Tryz.zeroValue448 rfl rfl (.inl (.tail _ (.tail _ (.tail _ (.tail _ (.tail _ (.tail _ (.head _))))))))) (by kernel_rfl)) ?_
  refine o_l rfl (l_alloc Tryz.zeroValue448 rfl rfl) ?_; intro g7 _
  refine o_l rfl (l_storea Tryz.sizeOf448 rfl rfl rfl (by simp [Value.oneCell']) (.head) (.take (.take (.take (.done)))) nofrs0) ?_; intro _ _
  refine o_nil <| n_code <| c_seq <| c_region <| mv rfl rfl ?_
  refine o_l rfl (l_calle Tryz.call340 (z156 (g7) (p2) (p3) (p4)) rfl rfl (.cons (.head) (.cons (.tail (.tail (.tail (.tail (.tail (.tail (.tail (.head)))))))) (.cons (.tail (.tail (.tail (.head)))) (.cons (.tail (.tail (.tail (.head)))) (.nil)))))) ?_; intro r8 hr8
  refine o_cat (.cons (.cons (.cons (.cons (.nil))))) <| mv rfl rfl <| oe rfl (e_extract rfl rfl) <| oe rfl (e_extract rfl rfl) <| asg rfl rfl <| asg rfl rfl <| o_nil <| n_code <| c_seq <| c_region <| mv rfl rfl <| mv rfl rfl <| oi (Value.int .u64 25) rfl rfl rfl (by kernel_rfl) <| asg rfl rfl <| o_nil <| n_code <| c_seq <| c_region <| mv rfl rfl <| oe rfl (e_nnen Tryz.runUnderlying80 rfl) <| o_nil <| n_code <| c_else rfl <| c_skip <| n_block <| n_code <| c_region ?_
  refine oi (Value.int .i64 1) rfl rfl rfl (by kernel_rfl) <| mv rfl rfl <| o_nil <| n_rounds ?_
  refine c_keep (sub_cons (k := 49) rfl (sub_cons (k := 70) rfl (sub_cons (k := 67) rfl (sub_cons (k := 66) rfl (sub_cons (k := 6) rfl (sub_cons (k := 65) rfl (sub_cons (k := 64) rfl (sub_cons (k := 63) rfl (sub_cons (k := 14) rfl (sub_cons (k := 13) rfl (sub_cons (k := 62) rfl (sub_cons (k := 61) rfl (sub_cons (k := 58) rfl (sub_cons (k := 60) rfl (sub_cons (k := 59) rfl (sub_cons (k := 12) rfl (sub_cons (k := 57) rfl (sub_cons (k := 56) rfl (sub_cons (k := 55) rfl (sub_cons (k := 54) rfl (sub_cons (k := 53) rfl (sub_cons (k := 11) rfl (sub_cons (k := 52) rfl (sub_cons (k := 51) rfl (sub_cons (k := 50) rfl (sub_cons (k := 48) rfl (sub_cons (k := 47) rfl (sub_cons (k := 5) rfl (sub_cons (k := 4) rfl (sub_cons (k := 1) rfl (sub_cons (k := 0) rfl (sub_nil)))))))))))))))))))))))))))))))) ?_
  refine c_seq <| c_region <| oi (Value.bool false) rfl rfl rfl (by kernel_rfl) <| o_nil <| n_code <| c_seq <| c_else rfl <| c_exit <| x_code <| x_upto <| x_here <| n_code <| c_seq <| c_region <| mv rfl rfl <| asg rfl rfl <| asg rfl rfl <| o_nil <| n_code <| c_ret <| WR.sel (.cons (.tail (.tail (.tail (.tail (.tail (.tail (.tail (.head)))))))) (.cons (.tail (.tail (.tail (.tail (.tail (.tail (.tail (.head)))))))) (.cons (.tail (.head)) (.cons (.tail (.head)) (.cons (.tail (.head)) (.nil)))))) ?_
  refine r_fn (l := [.tmp 4, .tmp 5]) Tryz.results329 rfl rfl ?_
  exact tells (y := (())) trivial rfl rfl

theorem z158 {G : HP} (p0 : Nat) (p1 : Nat) (p2 : Nat) (p3 : Nat) (p4 : Nat) :
    CtrE Tryz.prog 320 [Value.pointer (some ⟨p0, 0, none⟩), Value.iface 89 (Value.pointer (some ⟨p3, 0, none⟩))] G [(p0, C [Value.map (some p1), Value.int .u64 0] 437), (p1, Mo .u32 [(9, Value.agg #[Value.int .u32 9, Value.int .u64 1, Value.slice (some ⟨p2, 0, none⟩) 9 9])]), (p2, C xb3 5), (p3, C [Value.slice (some ⟨p4, 0, none⟩) 6 64, Value.int .i64 0, Value.int .i8 0] 86), (p4, C xb20 5)] (T := Unit) (fun _ => True) (fun _ => Value.tuple #[Value.int .u64 33, Value.nilIface]) (fun _ => [(p0, C [Value.map (some p1), Value.int .u64 0] 437), (p1, Mo .u32 [(9, Value.agg #[Value.int .u32 9, Value.int .u64 1, Value.slice (some ⟨p2, 0, none⟩) 9 9])]), (p2, C xb3 5), (p3, C [Value.slice (some ⟨p4, 0, none⟩) 39 64, Value.int .i64 0, Value.int .i8 0] 86), (p4, C xb24 5)]) := by
  refine fn_enter 29 Tryz.func320 rfl Tryz.ntmps320 rfl ?_
  intro w0
  refine c_seq <| c_region <| asg rfl rfl <| asg rfl rfl <| o_nil <| n_code <| c_seq <| c_seq <| c_region <| mv rfl rfl <| mv rfl rfl <| oe rfl (e_nilCheck rfl) <| oe rfl (e_as (r := Value.pointer (some ⟨p0, 1, none⟩)) (e_fa Tryz.runUnderlying437 rfl Tryz.sizeOf23 rfl rfl) rfl) <| oe rfl (e_load Tryz.isAgg23 rfl (.inl (.head _)) rfl) ?_
  refine o_l rfl (l_calle Tryz.call328 (z144 (p3) (p4)) rfl rfl (.cons (.tail (.tail (.tail (.head)))) (.cons (.tail (.tail (.tail (.head)))) (.nil)))) ?_; intro r1 hr1
  refine o_cat (.cons (.cons (.nil))) <| asg rfl rfl <| o_nil <| n_code <| c_seq <| c_region <| mv rfl rfl <| oe rfl (e_nnen Tryz.runUnderlying80 rfl) <| o_nil <| n_code <| c_else rfl <| c_skip <| n_code <| c_seq <| c_region <| mv rfl rfl <| oe rfl (e_nilCheck rfl) <| oe rfl (e_as (r := Value.pointer (some ⟨p0, 0, none⟩)) (e_fa Tryz.runUnderlying437 rfl Tryz.sizeOf327 rfl rfl) rfl) <| mv rfl rfl ?_
  refine o_l rfl (l_calle Tryz.call329 (z157 (p0) (p1) (p2) (p3) (p4)) rfl rfl (.cons (.tail (.tail (.head))) (.cons (.tail (.tail (.head))) (.cons (.tail (.tail (.head))) (.cons (.head) (.cons (.head) (.nil))))))) ?_; intro r2 hr2
  refine o_cat (.cons (.cons (.cons (.cons (.cons (.nil)))))) <| mv rfl rfl <| oe rfl (e_extract rfl rfl) <| oe rfl (e_extract rfl rfl) <| asg rfl rfl <| asg rfl rfl <| o_nil <| n_code <| c_seq <| c_region <| mv rfl rfl <| oi (Value.int .u64 33) rfl rfl rfl (by kernel_rfl) <| mv rfl rfl <| asg rfl rfl <| asg rfl rfl <| o_nil <| n_code <| c_ret <| WR.sel (.cons (.head) (.cons (.head) (.cons (.head) (.cons (.head) (.cons (.head) (.nil)))))) <| r_fn (l := [.tmp 4, .tmp 5]) Tryz.results320 rfl rfl ?_
  exact tells (y := (())) trivial rfl rfl

theorem z159 {G : HP} (p0 : Nat) (p1 : Nat) (p2 : Nat) (p3 : Nat) (p4 : Nat) (p5 : Nat) (p6 : Nat) :
    CtrE Tryz.prog 311 [Value.pointer (some ⟨p0, 0, none⟩), Value.iface 89 (Value.pointer (some ⟨p5, 0, none⟩))] G [(p0, C [Value.map (some p1)] 330), (p1, Mo .u64 [(0, Value.pointer (some ⟨p2, 0, none⟩))]), (p2, C [Value.map (some p3), Value.int .u64 0] 437), (p3, Mo .u32 [(9, Value.agg #[Value.int .u32 9, Value.int .u64 1, Value.slice (some ⟨p4, 0, none⟩) 9 9])]), (p4, C xb3 5), (p5, C [Value.slice (some ⟨p6, 0, none⟩) 2 64, Value.int .i64 0, Value.int .i8 0] 86), (p6, C xb19 5)] (T := Unit) (fun _ => True) (fun _ => Value.tuple #[Value.int .u64 37, Value.nilIface]) (fun _ => [(p0, C [Value.map (some p1)] 330), (p1, Mo .u64 [(0, Value.pointer (some ⟨p2, 0, none⟩))]), (p2, C [Value.map (some p3), Value.int .u64 0] 437), (p3, Mo .u32 [(9, Value.agg #[Value.int .u32 9, Value.int .u64 1, Value.slice (some ⟨p4, 0, none⟩) 9 9])]), (p4, C xb3 5), (p5, C [Value.slice (some ⟨p6, 0, none⟩) 39 64, Value.int .i64 0, Value.int .i8 0] 86), (p6, C xb24 5)]) := by
  refine fn_enter 52 Tryz.func311 rfl Tryz.ntmps311 rfl ?_
  intro w0
  refine c_seq <| c_region <| asg rfl rfl <| asg rfl rfl <| o_nil <| n_code <| c_seq <| c_seq <| c_region <| mv rfl rfl <| mv rfl rfl <| oe rfl (e_nilCheck rfl) <| oe rfl (e_load Tryz.isAgg330 rfl (.inl (.head _)) rfl) <| oe rfl (e_as (r := Value.int .i64 1) (e_lenm Tryz.runUnderlying330 rfl (.inl (.tail _ (.head _)))) rfl) <| oe rfl (e_convc (r := Value.int .u32 1) Tryz.runUnderlying3 Tryz.runUnderlying212 rfl (by kernel_rfl)) ?_
  refine o_l rfl (l_calle Tryz.call318 (z136 (p5) (p6)) rfl rfl (.cons (.tail (.tail (.tail (.tail (.tail (.head)))))) (.cons (.tail (.tail (.tail (.tail (.tail (.head)))))) (.nil)))) ?_; intro r1 hr1
  refine o_cat (.cons (.cons (.nil))) <| asg rfl rfl <| o_nil <| n_code <| c_seq <| c_region <| mv rfl rfl <| oe rfl (e_nnen Tryz.runUnderlying80 rfl) <| o_nil <| n_code <| c_else rfl <| c_skip <| n_code <| c_seq <| c_region <| mv rfl rfl ?_
  refine o_l rfl (l_calle Tryz.call319 (z140 (p0) (p1) (p2) (p3) (p4)) rfl rfl (.cons (.tail (.tail (.head))) (.cons (.tail (.tail (.head))) (.cons (.tail (.tail (.head))) (.cons (.tail (.tail (.head))) (.cons (.tail (.tail (.head))) (.nil))))))) ?_; intro r2 hr2
  refine o_cat (.cons (.cons (.cons (.cons (.cons (.cons (.nil))))))) <| asg rfl rfl <| o_nil <| n_code <| c_seq <| c_region <| asg rfl rfl <| o_nil <| n_code <| c_seq <| c_seq <| c_region <| mv rfl rfl <| oe rfl (e_as (r := Value.int .i64 1) (e_lenl Tryz.runUnderlying29 rfl) rfl) <| mv rfl rfl <| o_nil <| n_code <| c_block <| c_rounds 999 <| c_seq <| c_region <| oi (Value.bool true) rfl rfl rfl (by kernel_rfl) <| o_nil <| n_code <| c_seq <| c_then rfl <| c_skip <| n_code <| c_seq <| c_block <| c_seq ?_
  refine c_region <| oe rfl (e_as (r := Value.pointer (some ⟨r2.g, 0, none⟩)) (e_ia Tryz.runUnderlying29 Tryz.sizeOf23 rfl rfl (by decide) (by decide)) rfl) <| oe rfl (e_load Tryz.isAgg23 rfl (.inl (.tail _ (.tail _ (.tail _ (.tail _ (.tail _ (.head _))))))) rfl) <| asg rfl rfl <| o_nil <| n_code <| c_seq <| c_region <| mv rfl rfl <| oe rfl (e_nilCheck rfl) <| oe rfl (e_load Tryz.isAgg330 rfl (.inl (.head _)) rfl) <| mv rfl rfl ?_
  refine oe rfl (e_as (r := Value.pointer (some ⟨p2, 0, none⟩)) (e_lookup Tryz.runUnderlying330 Tryz.runUnderlying23 Tryz.zeroValue433 rfl rfl (.inl (.tail _ (.head _)))) (by kernel_rfl)) <| asg rfl rfl <| o_nil <| n_code <| c_seq <| c_region <| mv rfl rfl <| mv rfl rfl ?_
  refine o_l rfl (l_calle Tryz.call320 (z158 (p2) (p3) (p4) (p5) (p6)) rfl rfl (.cons (.tail (.tail (.head))) (.cons (.tail (.tail (.head))) (.cons (.tail (.tail (.head))) (.cons (.tail (.tail (.tail (.head)))) (.cons (.tail (.tail (.tail (.head)))) (.nil))))))) ?_; intro r3 hr3
  refine o_cat (.cons (.cons (.cons (.cons (.cons (.nil)))))) <| mv rfl rfl <| oe rfl (e_extract rfl rfl) <| oe rfl (e_extract rfl rfl) <| asg rfl rfl <| asg rfl rfl <| o_nil <| n_code <| c_seq <| c_region <| mv rfl rfl <| mv rfl rfl <| oi (Value.int .u64 37) rfl rfl rfl (by kernel_rfl) <| asg rfl rfl <| o_nil <| n_code <| c_seq <| c_region <| mv rfl rfl <| oe rfl (e_nnen Tryz.runUnderlying80 rfl) <| o_nil <| n_code <| c_else rfl <| c_skip <| n_block <| n_code <| c_region ?_
  refine oi (Value.int .i64 1) rfl rfl rfl (by kernel_rfl) <| mv rfl rfl <| o_nil <| n_rounds ?_
  refine c_keep (sub_cons (k := 28) rfl (sub_cons (k := 50) rfl (sub_cons (k := 47) rfl (sub_cons (k := 46) rfl (sub_cons (k := 8) rfl (sub_cons (k := 45) rfl (sub_cons (k := 44) rfl (sub_cons (k := 43) rfl (sub_cons (k := 13) rfl (sub_cons (k := 12) rfl (sub_cons (k := 42) rfl (sub_cons (k := 41) rfl (sub_cons (k := 37) rfl (sub_cons (k := 40) rfl (sub_cons (k := 39) rfl (sub_cons (k := 38) rfl (sub_cons (k := 11) rfl (sub_cons (k := 36) rfl (sub_cons (k := 35) rfl (sub_cons (k := 34) rfl (sub_cons (k := 33) rfl (sub_cons (k := 32) rfl (sub_cons (k := 10) rfl (sub_cons (k := 31) rfl (sub_cons (k := 30) rfl (sub_cons (k := 29) rfl (sub_cons (k := 27) rfl (sub_cons (k := 26) rfl (sub_cons (k := 5) rfl (sub_cons (k := 4) rfl (sub_cons (k := 1) rfl (sub_cons (k := 0) rfl (sub_nil))))))))))))))))))))))))))))))))) ?_
  refine c_seq <| c_region <| oi (Value.bool false) rfl rfl rfl (by kernel_rfl) <| o_nil <| n_code <| c_seq <| c_else rfl <| c_exit <| x_code <| x_upto <| x_here <| n_code <| c_seq <| c_region <| mv rfl rfl <| asg rfl rfl <| asg rfl rfl <| o_nil <| n_code <| c_ret <| WR.sel (.cons (.tail (.tail (.tail (.tail (.tail (.head)))))) (.cons (.tail (.tail (.tail (.tail (.tail (.head)))))) (.cons (.head) (.cons (.head) (.cons (.head) (.cons (.head) (.cons (.head) (.nil)))))))) ?_
  refine r_fn (l := [.tmp 4, .tmp 5]) Tryz.results311 rfl rfl ?_
  exact tells (y := (())) trivial rfl rfl
end Go.Proofs

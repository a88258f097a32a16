/- laws.ixOne at its two kinds, run by laws: part 1. -/
import Derived.KernelRfl
import Derived.Test.YtochgglejmfelaaGreatDoorZ0
namespace Go.Proofs
open Go Go.Sl
set_option maxRecDepth 100000
set_option maxHeartbeats 4000000
theorem z20 {G : HP} (p0 : Nat) :
    CtrE Tryz.prog 150 [Value.slice (some ⟨p0, 0, none⟩) 10 10, Value.int .u64 85] G [(p0, C xb0 310)] (T := Unit) (fun _ => True) (fun _ => Value.int .i64 1) (fun _ => [(p0, C xb1 310)]) := by
  refine fn_enter 25 Tryz.func150 rfl Tryz.ntmps150 rfl ?_
  intro w0
  refine c_seq <| c_region <| asg rfl rfl <| o_nil <| n_code <| c_seq <| c_region <| asg rfl rfl <| o_nil <| n_code <| c_seq <| c_block <| c_rounds 999 <| c_seq <| c_seq <| c_region <| mv rfl rfl <| oi (Value.bool false) rfl rfl rfl (by kernel_rfl) <| o_nil <| n_code <| c_else rfl <| c_exit <| x_code <| x_upto <| x_here <| n_code <| c_seq <| c_region <| mv rfl rfl <| mv rfl rfl <| mv rfl rfl <| oe rfl (e_convc (r := ub 85) Tryz.runUnderlying23 Tryz.runUnderlying5 rfl (by kernel_rfl)) ?_
  refine oe rfl (e_as (r := Value.pointer (some ⟨p0, 0, none⟩)) (e_ia Tryz.runUnderlying72 Tryz.sizeOf5 rfl rfl (by decide) (by decide)) rfl) ?_
  refine o_l rfl (l_store Tryz.sizeOf5 rfl rfl rfl (.head) (.head) nofr0) ?_; intro _ _
  refine o_nil <| n_code <| c_seq <| c_region <| mv rfl rfl <| oi (Value.int .i64 1) rfl rfl rfl (by kernel_rfl) <| asg rfl rfl <| o_nil <| n_code <| c_ret <| WR.sel (.cons (.head) (.nil)) <| r_fn1 Tryz.results150 rfl ?_
  exact tells (y := (())) trivial rfl rfl

theorem z21 {G : HP} (p0 : Nat) :
    CtrE Tryz.prog 77 [Value.slice (some ⟨p0, 0, none⟩) 10 10, Value.int .u64 85] G [(p0, C xb0 310)] (T := Unit) (fun _ => True) (fun _ => Value.int .i64 1) (fun _ => [(p0, C xb1 310)]) := by
  refine fn_enter 8 Tryz.func77 rfl Tryz.ntmps77 rfl ?_
  intro w0
  refine c_seq <| c_region <| asg rfl rfl <| o_nil <| n_code <| c_seq <| c_region <| mv rfl rfl <| mv rfl rfl ?_
  refine o_l rfl (l_calle Tryz.call150 (z20 (p0)) rfl rfl (.cons (.head) (.nil))) ?_; intro r1 hr1
  refine o_cat (.cons (.nil)) <| asg rfl rfl <| o_nil <| n_code <| c_ret <| WR.sel (.cons (.head) (.nil)) <| r_fn1 Tryz.results77 rfl ?_
  exact tells (y := (())) trivial rfl rfl

theorem z22 {G : HP} (p0 : Nat) (q1 : Tl) (h1 : TlOk 1 1 q1) :
    CtrE Tryz.prog 216 [Value.pointer (some ⟨p0, 0, none⟩)] G [(p0, C [Value.pointer (some ⟨p0, 0, none⟩), Value.slice (some ⟨q1.g, 0, none⟩) 1 q1.cap] 307), (q1.g, Ob [ub 1] q1 5)] (T := Unit) (fun _ => True) (fun _ => Value.tuple #[]) (fun _ => [(p0, C [Value.pointer (some ⟨p0, 0, none⟩), Value.slice (some ⟨q1.g, 0, none⟩) 1 q1.cap] 307), (q1.g, Ob [ub 1] q1 5)]) := by
  refine fn_enter 20 Tryz.func216 rfl Tryz.ntmps216 rfl ?_
  intro w0
  refine c_seq <| c_region <| mv rfl rfl <| oe rfl (e_nilCheck rfl) <| oe rfl (e_as (r := Value.pointer (some ⟨p0, 0, none⟩)) (e_fa Tryz.runUnderlying307 rfl Tryz.sizeOf305 rfl rfl) rfl) <| oe rfl (e_load Tryz.isAgg305 rfl (.inl (.head _)) rfl) <| oe rfl (e_as (r := Value.bool false) (e_peqn Tryz.runUnderlying305 rfl) rfl) <| o_nil <| n_code <| c_else rfl <| c_seq <| c_region <| mv rfl rfl <| oe rfl (e_nilCheck rfl) ?_
  refine oe rfl (e_as (r := Value.pointer (some ⟨p0, 0, none⟩)) (e_fa Tryz.runUnderlying307 rfl Tryz.sizeOf305 rfl rfl) rfl) <| oe rfl (e_load Tryz.isAgg305 rfl (.inl (.head _)) rfl) <| mv rfl rfl <| oe rfl (e_pne_same Tryz.runUnderlying305 Tryz.sizeOf307 (by decide) rfl rfl) <| o_nil <| n_code <| c_else rfl <| c_skip <| WN.sel (.cons (.head) (.cons (.head) (.nil))) <| n_fn0 Tryz.results216 ?_
  exact tells (y := (())) trivial rfl rfl

theorem z23 {G : HP} (p0 : Nat) (q1 : Tl) (h1 : TlOk 1 1 q1) (p2 : Nat) :
    CtrE Tryz.prog 189 [Value.pointer (some ⟨p0, 0, none⟩), Value.slice (some ⟨p2, 0, none⟩) 1 10] G [(p0, C [Value.pointer (some ⟨p0, 0, none⟩), Value.slice (some ⟨q1.g, 0, none⟩) 1 q1.cap] 307), (q1.g, Ob [ub 1] q1 5), (p2, C xb1 310)] (T := Tl) (fun y => TlOk 1 2 y) (fun y => Value.tuple #[Value.int .i64 1, Value.nilIface]) (fun y => [(p0, C [Value.pointer (some ⟨p0, 0, none⟩), Value.slice (some ⟨y.g, 0, none⟩) 2 y.cap] 307), (p2, C xb1 310), (y.g, Ob [ub 1, ub 85] y 5)]) := by
  refine fn_enter 19 Tryz.func189 rfl Tryz.ntmps189 rfl ?_
  intro w0
  refine c_seq <| c_region <| asg rfl rfl <| asg rfl rfl <| o_nil <| n_code <| c_seq <| c_region <| mv rfl rfl ?_
  refine o_l rfl (l_calle Tryz.call216 (z22 (p0) q1 h1) rfl rfl (.cons (.head) (.cons (.head) (.nil)))) ?_; intro r1 hr1
  refine o_cat (.cons (.cons (.nil))) <| o_nil <| n_code <| c_seq <| c_region <| mv rfl rfl <| mv rfl rfl <| oe rfl (e_nilCheck rfl) <| oe rfl (e_as (r := Value.pointer (some ⟨p0, 1, none⟩)) (e_fa Tryz.runUnderlying307 rfl Tryz.sizeOf72 rfl rfl) rfl) <| oe rfl (e_load Tryz.isAgg72 rfl (.inl (.head _)) rfl) <| mv rfl rfl ?_
  refine o_l rfl (l_app (off := 2) (L := [ub 1, ub 85]) Tryz.underlying72 (info_of Tryz.typeInfo5) rfl rfl rfl rfl rfl rfl (.tail (.head)) (h1.len rfl) (by have := h1.le; omega) h1.lt h1.mark (.take (.done)) (Sv.blk (vs := [ub 85]) Tryz.underlying72 (.inl (.tail _ (.tail _ (.head _)))) (.take (.done)) (by simp [Value.oneCell'])) (.cons (.nil)) rfl rfl rfl rfl) ?_; intro y2 hy2
  refine oe rfl (e_nilCheck rfl) <| oe rfl (e_as (r := Value.pointer (some ⟨p0, 1, none⟩)) (e_fa Tryz.runUnderlying307 rfl Tryz.sizeOf72 rfl rfl) rfl) ?_
  refine o_l rfl (l_store Tryz.sizeOf72 rfl rfl rfl (.tail (.head)) (.tail (.head)) nofr0) ?_; intro _ _
  refine o_nil <| n_code <| c_seq <| c_region <| mv rfl rfl <| oe rfl (e_as (r := Value.int .i64 1) (e_lenl Tryz.runUnderlying72 rfl) rfl) <| asg rfl rfl <| asg rfl rfl <| o_nil <| n_code <| c_ret <| WR.sel (.cons (.tail (.head)) (.cons (.tail (.head)) (.cons (.head) (.nil)))) <| r_fn (l := [.tmp 4, .tmp 5]) Tryz.results189 rfl rfl ?_
  exact tells (y := (y2)) hy2 rfl rfl

theorem z24 {G : HP} (p0 : Nat) (q1 : Tl) (h1 : TlOk 1 2 q1) :
    CtrE Tryz.prog 216 [Value.pointer (some ⟨p0, 0, none⟩)] G [(p0, C [Value.pointer (some ⟨p0, 0, none⟩), Value.slice (some ⟨q1.g, 0, none⟩) 2 q1.cap] 307), (q1.g, Ob [ub 1, ub 85] q1 5)] (T := Unit) (fun _ => True) (fun _ => Value.tuple #[]) (fun _ => [(p0, C [Value.pointer (some ⟨p0, 0, none⟩), Value.slice (some ⟨q1.g, 0, none⟩) 2 q1.cap] 307), (q1.g, Ob [ub 1, ub 85] q1 5)]) := by
  refine fn_enter 20 Tryz.func216 rfl Tryz.ntmps216 rfl ?_
  intro w0
  refine c_seq <| c_region <| mv rfl rfl <| oe rfl (e_nilCheck rfl) <| oe rfl (e_as (r := Value.pointer (some ⟨p0, 0, none⟩)) (e_fa Tryz.runUnderlying307 rfl Tryz.sizeOf305 rfl rfl) rfl) <| oe rfl (e_load Tryz.isAgg305 rfl (.inl (.head _)) rfl) <| oe rfl (e_as (r := Value.bool false) (e_peqn Tryz.runUnderlying305 rfl) rfl) <| o_nil <| n_code <| c_else rfl <| c_seq <| c_region <| mv rfl rfl <| oe rfl (e_nilCheck rfl) ?_
  refine oe rfl (e_as (r := Value.pointer (some ⟨p0, 0, none⟩)) (e_fa Tryz.runUnderlying307 rfl Tryz.sizeOf305 rfl rfl) rfl) <| oe rfl (e_load Tryz.isAgg305 rfl (.inl (.head _)) rfl) <| mv rfl rfl <| oe rfl (e_pne_same Tryz.runUnderlying305 Tryz.sizeOf307 (by decide) rfl rfl) <| o_nil <| n_code <| c_else rfl <| c_skip <| WN.sel (.cons (.head) (.cons (.head) (.nil))) <| n_fn0 Tryz.results216 ?_
  exact tells (y := (())) trivial rfl rfl

theorem z25 {G : HP} (p0 : Nat) (q1 : Tl) (h1 : TlOk 1 2 q1) (p2 : Nat) :
    CtrE Tryz.prog 189 [Value.pointer (some ⟨p0, 0, none⟩), Value.slice (some ⟨p2, 0, none⟩) 3 3] G [(p0, C [Value.pointer (some ⟨p0, 0, none⟩), Value.slice (some ⟨q1.g, 0, none⟩) 2 q1.cap] 307), (q1.g, Ob [ub 1, ub 85] q1 5), (p2, C [ub 0, ub 1, ub 97] 5)] (T := Tl) (fun y => TlOk 1 5 y) (fun y => Value.tuple #[Value.int .i64 3, Value.nilIface]) (fun y => [(p0, C [Value.pointer (some ⟨p0, 0, none⟩), Value.slice (some ⟨y.g, 0, none⟩) 5 y.cap] 307), (p2, C [ub 0, ub 1, ub 97] 5), (y.g, Ob xb2 y 5)]) := by
  refine fn_enter 19 Tryz.func189 rfl Tryz.ntmps189 rfl ?_
  intro w0
  refine c_seq <| c_region <| asg rfl rfl <| asg rfl rfl <| o_nil <| n_code <| c_seq <| c_region <| mv rfl rfl ?_
  refine o_l rfl (l_calle Tryz.call216 (z24 (p0) q1 h1) rfl rfl (.cons (.head) (.cons (.head) (.nil)))) ?_; intro r1 hr1
  refine o_cat (.cons (.cons (.nil))) <| o_nil <| n_code <| c_seq <| c_region <| mv rfl rfl <| mv rfl rfl <| oe rfl (e_nilCheck rfl) <| oe rfl (e_as (r := Value.pointer (some ⟨p0, 1, none⟩)) (e_fa Tryz.runUnderlying307 rfl Tryz.sizeOf72 rfl rfl) rfl) <| oe rfl (e_load Tryz.isAgg72 rfl (.inl (.head _)) rfl) <| mv rfl rfl ?_
  refine o_l rfl (l_app (off := 5) (L := xb2) Tryz.underlying72 (info_of Tryz.typeInfo5) rfl rfl rfl rfl rfl rfl (.tail (.head)) (h1.len rfl) (by have := h1.le; omega) h1.lt h1.mark (.take (.take (.done))) (Sv.blk (vs := [ub 0, ub 1, ub 97]) Tryz.underlying72 (.inl (.tail _ (.tail _ (.head _)))) (.take (.take (.take (.done)))) (by simp [Value.oneCell'])) (.cons (.cons (.nil))) rfl rfl rfl rfl) ?_; intro y2 hy2
  refine oe rfl (e_nilCheck rfl) <| oe rfl (e_as (r := Value.pointer (some ⟨p0, 1, none⟩)) (e_fa Tryz.runUnderlying307 rfl Tryz.sizeOf72 rfl rfl) rfl) ?_
  refine o_l rfl (l_store Tryz.sizeOf72 rfl rfl rfl (.tail (.head)) (.tail (.head)) nofr0) ?_; intro _ _
  refine o_nil <| n_code <| c_seq <| c_region <| mv rfl rfl <| oe rfl (e_as (r := Value.int .i64 3) (e_lenl Tryz.runUnderlying72 rfl) rfl) <| asg rfl rfl <| asg rfl rfl <| o_nil <| n_code <| c_ret <| WR.sel (.cons (.tail (.head)) (.cons (.tail (.head)) (.cons (.head) (.nil)))) <| r_fn (l := [.tmp 4, .tmp 5]) Tryz.results189 rfl rfl ?_
  exact tells (y := (y2)) hy2 rfl rfl

theorem z26 {G : HP} (p0 : Nat) (q1 : Tl) (h1 : TlOk 1 5 q1) :
    CtrE Tryz.prog 190 [Value.pointer (some ⟨p0, 0, none⟩)] G [(p0, C [Value.pointer (some ⟨p0, 0, none⟩), Value.slice (some ⟨q1.g, 0, none⟩) 5 q1.cap] 307), (q1.g, Ob xb2 q1 5)] (T := Unit) (fun _ => True) (fun _ => S [1, 85, 0, 1, 97]) (fun _ => [(p0, C [Value.pointer (some ⟨p0, 0, none⟩), Value.slice (some ⟨q1.g, 0, none⟩) 5 q1.cap] 307)]) := by
  refine fn_enter 14 Tryz.func190 rfl Tryz.ntmps190 rfl ?_
  intro w0
  refine c_seq <| c_region <| asg rfl rfl <| o_nil <| n_code <| c_seq <| c_regiond [(p0, C [Value.pointer (some ⟨p0, 0, none⟩), Value.slice (some ⟨q1.g, 0, none⟩) 5 q1.cap] 307)] (by kernel_rfl) (.cons_cons _ (.cons _ (.slnil))) <| d_e 0 (fun _ _ _ _ _ h => h) rfl (by kernel_rfl) (by kernel_rfl) (by kernel_rfl) rfl rfl rfl (e_move rfl) <| d_e 1 (fun _ _ _ _ _ h => h) rfl (by kernel_rfl) (by kernel_rfl) (by kernel_rfl) rfl rfl rfl (e_nilCheck rfl) ?_
  refine d_e 2 (fun _ _ _ _ _ h => h) rfl (by kernel_rfl) (by kernel_rfl) (by kernel_rfl) rfl rfl rfl (e_as (r := Value.pointer (some ⟨p0, 1, none⟩)) (e_fa Tryz.runUnderlying307 rfl Tryz.sizeOf72 rfl rfl) rfl) <| d_e 3 (fun _ _ _ _ _ h => h) rfl (by kernel_rfl) (by kernel_rfl) (by kernel_rfl) rfl rfl rfl (e_load Tryz.isAgg72 rfl (.inl (.head _)) rfl) <| d_e 4 (fun _ _ _ _ _ h => h) rfl (by kernel_rfl) (by kernel_rfl) (by kernel_rfl) rfl rfl rfl (e_usd rfl (by have := h1.le; omega)) ?_
  refine d_e 5 (fun _ _ _ _ _ h => h) rfl (by kernel_rfl) (by kernel_rfl) (by kernel_rfl) rfl rfl rfl (e_move rfl) <| d_e 6 (fun _ _ _ _ _ h => h) rfl (by kernel_rfl) (by kernel_rfl) (by kernel_rfl) rfl rfl rfl (e_nilCheck rfl) <| d_e 7 (fun _ _ _ _ _ h => h) rfl (by kernel_rfl) (by kernel_rfl) (by kernel_rfl) rfl rfl rfl (e_as (r := Value.pointer (some ⟨p0, 1, none⟩)) (e_fa Tryz.runUnderlying307 rfl Tryz.sizeOf72 rfl rfl) rfl) ?_
  refine d_e 8 (fun _ _ _ _ _ h => h) rfl (by kernel_rfl) (by kernel_rfl) (by kernel_rfl) rfl rfl rfl (e_load Tryz.isAgg72 rfl (.inl (.head _)) rfl) <| d_e 9 (fun _ _ _ _ _ h => h) rfl (by kernel_rfl) (by kernel_rfl) (by kernel_rfl) rfl rfl rfl (e_as (r := Value.int .i64 5) (e_lenl Tryz.runUnderlying72 rfl) rfl) ?_
  refine d_l 10 (by kernel_rfl) rfl rfl (l_ustr (bs := [1, 85, 0, 1, 97]) Tryz.underlying358 (by kernel_rfl) rfl rfl rfl (.tail (.head)) rfl rfl rfl (.take (.take (.take (.take (.take (.done))))))) (fun _ _ => hs_cons (.head _) (hs_nil)) ?_
  intro _ _
  refine d_e 11 (fun _ _ _ _ _ h => h) rfl (by kernel_rfl) (by kernel_rfl) (by kernel_rfl) rfl rfl rfl (e_assign rfl) <| d_nil (by kernel_rfl) <| n_code <| c_ret <| WR.sel (.cons (.head) (.nil)) <| r_fn1 Tryz.results190 rfl ?_
  exact tells (y := (())) trivial rfl rfl

theorem z27 {G : HP} (p0 : Nat) :
    CtrE Tryz.prog 135 [Value.int .u64 85, Value.slice (some ⟨p0, 0, none⟩) 3 3] G [(p0, C [ub 0, ub 1, ub 97] 5)] (T := Unit) (fun _ => True) (fun _ => Value.agg #[S [1, 85, 0, 1, 97]]) (fun _ => [(p0, C [ub 0, ub 1, ub 97] 5)]) := by
  refine fn_enter 37 Tryz.func135 rfl Tryz.ntmps135 rfl ?_
  intro w0
  refine c_seq <| c_region ?_
  refine o_l rfl (l_alloc Tryz.zeroValue111 rfl rfl) ?_; intro g1 _
  refine o_nil <| n_code <| c_seq <| c_region <| mv rfl rfl <| oe rfl (e_as (r := Value.int .i64 3) (e_lenl Tryz.runUnderlying178 rfl) rfl) <| asg rfl rfl <| o_nil <| n_code <| c_seq <| c_region ?_
  refine o_l rfl (l_alloc Tryz.zeroValue307 rfl rfl) ?_; intro g2 _
  refine o_nil <| n_code <| c_seq <| c_region <| mv rfl rfl ?_
  refine o_l rfl (l_calle Tryz.call185 (z14 ) rfl rfl (.nil)) ?_; intro r3 hr3
  refine o_cat (.nil) <| oi (Value.int .i64 2) rfl rfl rfl (by kernel_rfl) <| mv rfl rfl <| oi (Value.int .i64 5) rfl rfl rfl (by kernel_rfl) ?_
  refine o_l rfl (l_calle Tryz.call187 (z17 (g2)) rfl rfl (.cons (.head) (.nil))) ?_; intro r4 hr4
  refine o_cat (.cons (.cons (.nil))) <| o_nil <| n_code <| c_seq <| c_region ?_
  refine o_l rfl (l_calle Tryz.call188 (z19 (g2) r4 hr4) rfl rfl (.cons (.head) (.cons (.head) (.nil)))) ?_; intro r5 hr5
  refine o_cat (.cons (.cons (.nil))) <| o_nil <| n_code <| c_seq <| c_region ?_
  refine o_l rfl (l_alloc Tryz.zeroValue310 rfl rfl) ?_; intro g6 _
  refine o_nil <| n_code <| c_seq <| c_region <| oe rfl (e_sa_n Tryz.runUnderlying310 Tryz.sizeOf5 rfl) <| mv rfl rfl ?_
  refine o_l rfl (l_calle Tryz.call77 (z21 (g6)) rfl rfl (.cons (.head) (.nil))) ?_; intro r7 hr7
  refine o_cat (.cons (.nil)) <| asg rfl rfl <| o_nil <| n_code <| c_seq <| c_region <| mv rfl rfl <| oe rfl (e_as (r := Value.slice (some ⟨g6, 0, none⟩) 1 10) (e_sa_h Tryz.runUnderlying310 Tryz.sizeOf5 rfl rfl (by decide) (by decide)) rfl) ?_
  refine o_l rfl (l_calle Tryz.call189 (z23 (g2) r5 hr5 (g6)) rfl rfl (.cons (.tail (.head)) (.cons (.tail (.head)) (.cons (.head) (.nil))))) ?_; intro r8 hr8
  refine o_cat (.cons (.cons (.cons (.nil)))) <| o_nil <| n_code <| c_seq <| c_region <| mv rfl rfl ?_
  refine o_l rfl (l_calle Tryz.call189 (z25 (g2) r8 hr8 (p0)) rfl rfl (.cons (.head) (.cons (.tail (.head)) (.cons (.tail (.tail (.head))) (.nil))))) ?_; intro r9 hr9
  refine o_cat (.cons (.cons (.cons (.nil)))) <| mv rfl rfl <| oe rfl (e_extract rfl rfl) <| oe rfl (e_extract rfl rfl) <| asg rfl rfl <| asg rfl rfl <| o_nil <| n_code <| c_seq <| c_seq <| c_region <| mv rfl rfl <| mv rfl rfl <| oi (Value.bool false) rfl rfl rfl (by kernel_rfl) <| o_nil <| n_code <| c_else rfl <| c_skip <| n_code <| c_seq <| c_region ?_
  refine o_l rfl (l_calle Tryz.call190 (z26 (g2) r9 hr9) rfl rfl (.cons (.head) (.cons (.tail (.head)) (.nil)))) ?_; intro r10 hr10
  refine o_cat (.cons (.nil)) <| oe rfl (e_build (vs := [S [1, 85, 0, 1, 97]]) Tryz.runUnderlying111 Tryz.zeroValue111 (.cons Tryz.sizeOf9 (.nil)) rfl (by kernel_rfl)) ?_
  refine o_l rfl (l_storea Tryz.sizeOf111 rfl rfl rfl (by simp [Value.oneCell']) (.tail (.tail (.tail (.head)))) (.take (.done)) nofrs0) ?_; intro _ _
  refine o_nil <| n_code <| c_ret <| r_fnx Tryz.results135 (.cella Tryz.isAgg111 Tryz.sizeOf111 rfl (.inl (.tail _ (.tail _ (.tail _ (.head _))))) (.take (.done)) (.nil)) (.cons (.tail (.head)) (.nil)) rfl ?_
  exact tells (y := (())) trivial rfl rfl

theorem z28 {G : HP}  :
    CtrE Tryz.prog 68 [Value.agg #[Value.int .u64 1, Value.int .u64 85, Value.int .u64 0, S [97]]] G [] (T := Unit) (fun _ => True) (fun _ => Value.tuple #[Value.agg #[S [1, 85, 0, 1, 97]], Value.bool true]) (fun _ => []) := by
  refine fn_enterD 32 Tryz.func68 rfl Tryz.ntmps68 rfl ?_
  intro w0
  refine c_seq <| c_region ?_
  refine o_l rfl (l_box rfl rfl rfl) ?_; intro g1 _
  refine o_l rfl (l_alloc Tryz.zeroValue111 rfl rfl) ?_; intro g2 _
  refine o_l rfl (l_alloc Tryz.zeroValue4 rfl rfl) ?_; intro g3 _
  refine o_nil <| n_code <| c_seq <| c_region <| oe rfl (e_func rfl rfl) <| o_defer rfl <| o_nil <| n_code <| c_seq <| c_region <| oe rfl (e_as (r := Value.pointer (some ⟨g1, 3, none⟩)) (e_fa Tryz.runUnderlying25 rfl Tryz.sizeOf9 rfl rfl) rfl) <| oe rfl (e_load Tryz.isAgg9 rfl (.inl (.tail _ (.tail _ (.head _)))) rfl) ?_
  refine o_l rfl (l_sbc (L := [ub 97]) Tryz.underlying9 Tryz.underlying72 Tryz.underlying5 rfl rfl rfl rfl (by kernel_rfl)) ?_; intro y4 hy4
  refine oe rfl (e_as (r := Value.pointer (some ⟨g1, 2, none⟩)) (e_fa Tryz.runUnderlying25 rfl Tryz.sizeOf23 rfl rfl) rfl) <| oe rfl (e_load Tryz.isAgg23 rfl (.inl (.tail _ (.tail _ (.tail _ (.head _))))) rfl) ?_
  refine o_l rfl (l_calle Tryz.call133 (z12 y4 hy4) rfl rfl (.cons (.head) (.nil))) ?_; intro r5 hr5
  refine o_cat (.cons (.cons (.nil))) <| mv rfl rfl <| oe rfl (e_extract rfl rfl) <| oe rfl (e_extract rfl rfl) <| asg rfl rfl <| asg rfl rfl <| o_nil <| n_code <| c_seq <| c_seq <| c_region <| oe rfl (e_as (r := Value.pointer (some ⟨g1, 0, none⟩)) (e_fa Tryz.runUnderlying25 rfl Tryz.sizeOf23 rfl rfl) rfl) <| oe rfl (e_load Tryz.isAgg23 rfl (.inl (.tail _ (.tail _ (.tail _ (.tail _ (.head _)))))) rfl) <| o_nil <| n_code <| c_block <| c_seq <| c_region <| oi (Value.bool false) rfl rfl rfl (by kernel_rfl) ?_
  refine asg rfl rfl <| o_nil <| n_code <| c_else rfl <| c_seq <| c_region <| oi (Value.bool true) rfl rfl rfl (by kernel_rfl) <| asg rfl rfl <| o_nil <| n_code <| c_then rfl <| c_seq <| c_region <| oe rfl (e_as (r := Value.pointer (some ⟨g1, 1, none⟩)) (e_fa Tryz.runUnderlying25 rfl Tryz.sizeOf23 rfl rfl) rfl) <| oe rfl (e_load Tryz.isAgg23 rfl (.inl (.tail _ (.tail _ (.tail _ (.tail _ (.head _)))))) rfl) <| mv rfl rfl ?_
  refine o_l rfl (l_calle Tryz.call135 (z27 (r5)) rfl rfl (.cons (.tail (.head)) (.nil))) ?_; intro r6 hr6
  refine o_cat (.cons (.nil)) ?_
  refine o_l rfl (l_storea Tryz.sizeOf111 rfl rfl rfl (by simp [Value.oneCell']) (.tail (.tail (.tail (.head)))) (.take (.done)) nofrs0) ?_; intro _ _
  refine o_l rfl (l_store Tryz.sizeOf4 rfl rfl rfl (.tail (.tail (.head))) (.head) nofr0) ?_; intro _ _
  refine o_nil <| n_code <| c_ret <| r_fnxD (idle132 _ _) Tryz.results68 (.cella Tryz.isAgg111 Tryz.sizeOf111 rfl (.inl (.tail _ (.tail _ (.tail _ (.head _))))) (.take (.done)) (.cell Tryz.isAgg4 rfl (.inl (.tail _ (.tail _ (.head _)))) rfl (.nil))) (.nil) rfl ?_
  exact tells (y := (())) trivial rfl rfl

theorem z29 {G : HP}  :
    CtrE Tryz.prog 212 [Value.agg #[S [1, 85, 0, 1, 97]]] G [] (T := Unit) (fun _ => True) (fun _ => Value.bool true) (fun _ => []) := by
  refine fn_enter 6 Tryz.func212 rfl Tryz.ntmps212 rfl ?_
  intro w0
  refine c_seq <| c_region ?_
  refine o_l rfl (l_box rfl rfl rfl) ?_; intro g1 _
  refine asg rfl rfl <| o_nil <| n_code <| c_seq <| c_region <| oe rfl (e_as (r := Value.pointer (some ⟨g1, 0, none⟩)) (e_fa Tryz.runUnderlying111 rfl Tryz.sizeOf9 rfl rfl) rfl) <| oe rfl (e_load Tryz.isAgg9 rfl (.inl (.head _)) rfl) <| oe rfl (e_as (r := Value.bool true) (e_sne rfl rfl) (by kernel_rfl)) <| asg rfl rfl <| o_nil <| n_code <| c_ret <| WR.sel (.nil) <| r_fn1 Tryz.results212 rfl ?_
  exact tells (y := (())) trivial rfl rfl

theorem z30 {G : HP}  :
    CtrE Tryz.prog 163 [Value.agg #[S [1, 85, 0, 1, 97]]] G [] (T := Tl) (fun y => TlOk 1 5 y) (fun y => Value.slice (some ⟨y.g, 0, none⟩) 5 y.cap) (fun y => [(y.g, Ob xb2 y 5)]) := by
  refine fn_enter 9 Tryz.func163 rfl Tryz.ntmps163 rfl ?_
  intro w0
  refine c_seq <| c_region ?_
  refine o_l rfl (l_box rfl rfl rfl) ?_; intro g1 _
  refine asg rfl rfl <| o_nil <| n_code <| c_seq <| c_seq <| c_region <| oe rfl (e_loada Tryz.isAgg111 Tryz.sizeOf111 rfl (.inl (.head _)) (.take (.done))) ?_
  refine o_l rfl (l_calle Tryz.call212 (z29 ) rfl rfl (.nil)) ?_; intro r2 hr2
  refine o_cat (.nil) <| oe rfl (e_as (r := Value.bool false) (e_not rfl) rfl) <| o_nil <| n_code <| c_else rfl <| c_skip <| n_code <| c_seq <| c_region <| oe rfl (e_as (r := Value.pointer (some ⟨g1, 0, none⟩)) (e_fa Tryz.runUnderlying111 rfl Tryz.sizeOf9 rfl rfl) rfl) <| oe rfl (e_load Tryz.isAgg9 rfl (.inl (.head _)) rfl) ?_
  refine o_l rfl (l_sbc (L := xb2) Tryz.underlying9 Tryz.underlying72 Tryz.underlying5 rfl rfl rfl rfl (by kernel_rfl)) ?_; intro y3 hy3
  refine asg rfl rfl <| o_nil <| n_code <| c_ret <| WR.sel (.cons (.head) (.nil)) <| r_fn1 Tryz.results163 rfl ?_
  exact tells (y := (y3)) hy3 rfl rfl

theorem z31 {G : HP}  :
    CtrE Tryz.prog 160 [Value.agg #[S [1, 85, 0, 1, 97]]] G [] (T := Unit) (fun _ => True) (fun _ => Value.int .u64 1) (fun _ => []) := by
  refine fn_enter 19 Tryz.func160 rfl Tryz.ntmps160 rfl ?_
  intro w0
  refine c_seq <| c_region ?_
  refine o_l rfl (l_box rfl rfl rfl) ?_; intro g1 _
  refine asg rfl rfl <| o_nil <| n_code <| c_seq <| c_seq <| c_region <| oe rfl (e_as (r := Value.pointer (some ⟨g1, 0, none⟩)) (e_fa Tryz.runUnderlying111 rfl Tryz.sizeOf9 rfl rfl) rfl) <| oe rfl (e_load Tryz.isAgg9 rfl (.inl (.head _)) rfl) <| oe rfl (e_as (r := Value.int .i64 5) (e_lens Tryz.runUnderlying9 rfl) rfl) <| oi (Value.bool false) rfl rfl rfl (by kernel_rfl) <| mv rfl rfl <| o_skip rfl rfl rfl <| o_skip rfl rfl rfl <| o_skip rfl rfl rfl <| o_skip rfl rfl rfl <| oe rfl (e_pick_f rfl rfl) ?_
  refine mv rfl rfl <| o_skip rfl rfl rfl <| o_skip rfl rfl rfl <| o_skip rfl rfl rfl <| o_skip rfl rfl rfl <| oe rfl (e_pick_f rfl rfl) <| o_nil <| n_code <| c_else rfl <| c_skip <| n_code <| c_seq <| c_region <| asg rfl rfl <| o_nil <| n_code <| c_ret <| WR.sel (.nil) <| r_fn1 Tryz.results160 rfl ?_
  exact tells (y := (())) trivial rfl rfl

theorem z32 {G : HP} (q0 : Tl) (h0 : TlOk 1 5 q0) :
    CtrE Tryz.prog 157 [Value.slice (some ⟨q0.g, 0, none⟩) 5 q0.cap] G [(q0.g, Ob xb2 q0 5)] (T := Unit) (fun _ => True) (fun _ => Value.tuple #[Value.int .u64 1, Value.int .i64 1, Value.nilIface]) (fun _ => [(q0.g, Ob xb2 q0 5)]) := by
  refine fn_enter 55 Tryz.func157 rfl Tryz.ntmps157 rfl ?_
  intro w0
  refine c_seq <| c_region <| asg rfl rfl <| asg rfl rfl <| asg rfl rfl <| o_nil <| n_code <| c_seq <| c_region <| asg rfl rfl <| o_nil <| n_code <| c_seq <| c_region <| asg rfl rfl <| o_nil <| n_code <| c_seq <| c_seq <| c_region <| mv rfl rfl <| oe rfl (e_as (r := Value.int .i64 5) (e_lenl Tryz.runUnderlying72 rfl) rfl) <| mv rfl rfl <| o_nil <| n_code <| c_block <| c_rounds 999 <| c_seq <| c_region <| oi (Value.bool true) rfl rfl rfl (by kernel_rfl) <| o_nil <| n_code <| c_seq <| c_then rfl <| c_skip ?_
  refine n_code <| c_seq <| c_block <| c_seq <| c_region <| mv rfl rfl <| oe rfl (e_as (r := Value.pointer (some ⟨q0.g, 0, none⟩)) (e_ia Tryz.runUnderlying72 Tryz.sizeOf5 rfl rfl (by decide) (by decide)) rfl) <| oe rfl (e_load Tryz.isAgg5 rfl (.inl (.head _)) rfl) <| asg rfl rfl <| asg rfl rfl <| o_nil <| n_code <| c_seq <| c_seq <| c_region <| mv rfl rfl <| oi (Value.bool false) rfl rfl rfl (by kernel_rfl) <| mv rfl rfl <| o_skip rfl rfl rfl <| o_skip rfl rfl rfl <| oe rfl (e_pick_f rfl rfl) <| mv rfl rfl ?_
  refine o_e rfl rfl rfl (e_move rfl) <| o_e rfl rfl rfl (e_int (r := Value.bool false) rfl rfl (by kernel_rfl)) <| oe rfl (e_pick_f rfl rfl) <| o_nil <| n_code <| c_else rfl <| c_skip <| n_code <| c_seq <| c_seq <| c_region <| mv rfl rfl <| oi (Value.bool true) rfl rfl rfl (by kernel_rfl) <| o_nil <| n_code <| c_then rfl <| c_seq <| c_seq <| c_region <| mv rfl rfl <| oi (Value.bool false) rfl rfl rfl (by kernel_rfl) <| mv rfl rfl <| o_skip rfl rfl rfl <| o_skip rfl rfl rfl <| oe rfl (e_pick_f rfl rfl) ?_
  refine o_nil <| n_code <| c_else rfl <| c_skip <| n_code <| c_seq <| c_region <| mv rfl rfl <| mv rfl rfl <| oe rfl (e_convc (r := Value.int .u64 1) Tryz.runUnderlying5 Tryz.runUnderlying23 rfl (by kernel_rfl)) <| mv rfl rfl <| oe rfl (e_shlc (r := Value.int .u64 1) rfl rfl rfl (by kernel_rfl)) <| oi (Value.int .u64 1) rfl rfl rfl (by kernel_rfl) <| mv rfl rfl <| oi (Value.int .i64 1) rfl rfl rfl (by kernel_rfl) <| asg rfl rfl <| asg rfl rfl <| asg rfl rfl <| o_nil <| n_code <| c_ret ?_
  refine WR.sel (.cons (.head) (.nil)) <| r_fn (l := [.tmp 2, .tmp 3, .tmp 4]) Tryz.results157 rfl rfl ?_
  exact tells (y := (())) trivial rfl rfl

theorem z33 {G : HP} (q0 : Tl) (h0 : TlOk 1 5 q0) :
    CtrE Tryz.prog 157 [Value.slice (some ⟨q0.g, 1, none⟩) 4 (q0.cap - 1)] G [(q0.g, Ob xb2 q0 5)] (T := Unit) (fun _ => True) (fun _ => Value.tuple #[Value.int .u64 85, Value.int .i64 1, Value.nilIface]) (fun _ => [(q0.g, Ob xb2 q0 5)]) := by
  refine fn_enter 55 Tryz.func157 rfl Tryz.ntmps157 rfl ?_
  intro w0
  refine c_seq <| c_region <| asg rfl rfl <| asg rfl rfl <| asg rfl rfl <| o_nil <| n_code <| c_seq <| c_region <| asg rfl rfl <| o_nil <| n_code <| c_seq <| c_region <| asg rfl rfl <| o_nil <| n_code <| c_seq <| c_seq <| c_region <| mv rfl rfl <| oe rfl (e_as (r := Value.int .i64 4) (e_lenl Tryz.runUnderlying72 rfl) rfl) <| mv rfl rfl <| o_nil <| n_code <| c_block <| c_rounds 999 <| c_seq <| c_region <| oi (Value.bool true) rfl rfl rfl (by kernel_rfl) <| o_nil <| n_code <| c_seq <| c_then rfl <| c_skip ?_
  refine n_code <| c_seq <| c_block <| c_seq <| c_region <| mv rfl rfl <| oe rfl (e_as (r := Value.pointer (some ⟨q0.g, 1, none⟩)) (e_ia Tryz.runUnderlying72 Tryz.sizeOf5 rfl rfl (by decide) (by decide)) rfl) <| oe rfl (e_load Tryz.isAgg5 rfl (.inl (.head _)) rfl) <| asg rfl rfl <| asg rfl rfl <| o_nil <| n_code <| c_seq <| c_seq <| c_region <| mv rfl rfl <| oi (Value.bool false) rfl rfl rfl (by kernel_rfl) <| mv rfl rfl <| o_skip rfl rfl rfl <| o_skip rfl rfl rfl <| oe rfl (e_pick_f rfl rfl) <| mv rfl rfl ?_
  refine o_e rfl rfl rfl (e_move rfl) <| o_e rfl rfl rfl (e_int (r := Value.bool false) rfl rfl (by kernel_rfl)) <| oe rfl (e_pick_f rfl rfl) <| o_nil <| n_code <| c_else rfl <| c_skip <| n_code <| c_seq <| c_seq <| c_region <| mv rfl rfl <| oi (Value.bool true) rfl rfl rfl (by kernel_rfl) <| o_nil <| n_code <| c_then rfl <| c_seq <| c_seq <| c_region <| mv rfl rfl <| oi (Value.bool false) rfl rfl rfl (by kernel_rfl) <| mv rfl rfl <| o_skip rfl rfl rfl <| o_skip rfl rfl rfl <| oe rfl (e_pick_f rfl rfl) ?_
  refine o_nil <| n_code <| c_else rfl <| c_skip <| n_code <| c_seq <| c_region <| mv rfl rfl <| mv rfl rfl <| oe rfl (e_convc (r := Value.int .u64 85) Tryz.runUnderlying5 Tryz.runUnderlying23 rfl (by kernel_rfl)) <| mv rfl rfl <| oe rfl (e_shlc (r := Value.int .u64 85) rfl rfl rfl (by kernel_rfl)) <| oi (Value.int .u64 85) rfl rfl rfl (by kernel_rfl) <| mv rfl rfl <| oi (Value.int .i64 1) rfl rfl rfl (by kernel_rfl) <| asg rfl rfl <| asg rfl rfl <| asg rfl rfl <| o_nil <| n_code <| c_ret ?_
  refine WR.sel (.cons (.head) (.nil)) <| r_fn (l := [.tmp 2, .tmp 3, .tmp 4]) Tryz.results157 rfl rfl ?_
  exact tells (y := (())) trivial rfl rfl

theorem z34 {G : HP}  :
    CtrE Tryz.prog 93 [Value.agg #[S [1, 85, 0, 1, 97]]] G [] (T := Tl) (fun y => TlOk 1 5 y) (fun y => Value.slice (some ⟨y.g, 2, none⟩) 3 (y.cap - 2)) (fun y => [(y.g, Ob xb2 y 5)]) := by
  refine fn_enter 35 Tryz.func93 rfl Tryz.ntmps93 rfl ?_
  intro w0
  refine c_seq <| c_region ?_
  refine o_l rfl (l_box rfl rfl rfl) ?_; intro g1 _
  refine asg rfl rfl <| o_nil <| n_code <| c_seq <| c_region <| oe rfl (e_loada Tryz.isAgg111 Tryz.sizeOf111 rfl (.inl (.head _)) (.take (.done))) ?_
  refine o_l rfl (l_calle Tryz.call163 (z30 ) rfl rfl (.nil)) ?_; intro r2 hr2
  refine o_cat (.cons (.nil)) <| asg rfl rfl <| o_nil <| n_code <| c_seq <| c_seq <| c_region <| oe rfl (e_loada Tryz.isAgg111 Tryz.sizeOf111 rfl (.inl (.tail _ (.head _))) (.take (.done))) ?_
  refine o_l rfl (l_calle Tryz.call160 (z31 ) rfl rfl (.nil)) ?_; intro r3 hr3
  refine o_cat (.nil) <| oi (Value.bool false) rfl rfl rfl (by kernel_rfl) <| o_nil <| n_code <| c_else rfl <| c_skip <| n_code <| c_seq <| c_region <| mv rfl rfl ?_
  refine o_l rfl (l_calle Tryz.call157 (z32 r2 hr2) rfl rfl (.cons (.head) (.nil))) ?_; intro r4 hr4
  refine o_cat (.cons (.nil)) <| mv rfl rfl <| oe rfl (e_extract rfl rfl) <| oe rfl (e_extract rfl rfl) <| oe rfl (e_extract rfl rfl) <| asg rfl rfl <| asg rfl rfl <| asg rfl rfl <| o_nil <| n_code <| c_seq <| c_region <| mv rfl rfl <| mv rfl rfl <| oe rfl (e_as (r := Value.slice (some ⟨r2.g, 1, none⟩) 4 (r2.cap - 1)) (e_sl_l Tryz.runUnderlying72 Tryz.sizeOf5 rfl rfl (by decide) (by decide) (by have := hr2.le; omega)) (by first | rfl | (simp; try omega))) ?_
  refine o_l rfl (l_calle Tryz.call157 (z33 r2 hr2) rfl rfl (.cons (.head) (.nil))) ?_; intro r5 hr5
  refine o_cat (.cons (.nil)) <| mv rfl rfl <| oe rfl (e_extract rfl rfl) <| oe rfl (e_extract rfl rfl) <| oe rfl (e_extract rfl rfl) <| asg rfl rfl <| asg rfl rfl <| asg rfl rfl <| o_nil <| n_code <| c_seq <| c_region <| mv rfl rfl <| mv rfl rfl <| mv rfl rfl <| oi (Value.int .i64 2) rfl rfl rfl (by kernel_rfl) ?_
  refine oe rfl (e_as (r := Value.slice (some ⟨r2.g, 2, none⟩) 3 (r2.cap - 2)) (e_sl_l Tryz.runUnderlying72 Tryz.sizeOf5 rfl rfl (by decide) (by decide) (by have := hr2.le; omega)) (by first | rfl | (simp; try omega))) <| asg rfl rfl <| o_nil <| n_code <| c_ret <| WR.sel (.cons (.head) (.nil)) <| r_fn1 Tryz.results93 rfl ?_
  exact tells (y := (r2)) hr2 rfl rfl

theorem z35 {G : HP} (q0 : Tl) (h0 : TlOk 1 5 q0) :
    CtrE Tryz.prog 157 [Value.slice (some ⟨q0.g, 2, none⟩) 3 (q0.cap - 2)] G [(q0.g, Ob xb2 q0 5)] (T := Unit) (fun _ => True) (fun _ => Value.tuple #[Value.int .u64 0, Value.int .i64 1, Value.nilIface]) (fun _ => [(q0.g, Ob xb2 q0 5)]) := by
  refine fn_enter 55 Tryz.func157 rfl Tryz.ntmps157 rfl ?_
  intro w0
  refine c_seq <| c_region <| asg rfl rfl <| asg rfl rfl <| asg rfl rfl <| o_nil <| n_code <| c_seq <| c_region <| asg rfl rfl <| o_nil <| n_code <| c_seq <| c_region <| asg rfl rfl <| o_nil <| n_code <| c_seq <| c_seq <| c_region <| mv rfl rfl <| oe rfl (e_as (r := Value.int .i64 3) (e_lenl Tryz.runUnderlying72 rfl) rfl) <| mv rfl rfl <| o_nil <| n_code <| c_block <| c_rounds 999 <| c_seq <| c_region <| oi (Value.bool true) rfl rfl rfl (by kernel_rfl) <| o_nil <| n_code <| c_seq <| c_then rfl <| c_skip ?_
  refine n_code <| c_seq <| c_block <| c_seq <| c_region <| mv rfl rfl <| oe rfl (e_as (r := Value.pointer (some ⟨q0.g, 2, none⟩)) (e_ia Tryz.runUnderlying72 Tryz.sizeOf5 rfl rfl (by decide) (by decide)) rfl) <| oe rfl (e_load Tryz.isAgg5 rfl (.inl (.head _)) rfl) <| asg rfl rfl <| asg rfl rfl <| o_nil <| n_code <| c_seq <| c_seq <| c_region <| mv rfl rfl <| oi (Value.bool false) rfl rfl rfl (by kernel_rfl) <| mv rfl rfl <| o_skip rfl rfl rfl <| o_skip rfl rfl rfl <| oe rfl (e_pick_f rfl rfl) <| mv rfl rfl ?_
  refine o_e rfl rfl rfl (e_move rfl) <| o_e rfl rfl rfl (e_int (r := Value.bool false) rfl rfl (by kernel_rfl)) <| oe rfl (e_pick_f rfl rfl) <| o_nil <| n_code <| c_else rfl <| c_skip <| n_code <| c_seq <| c_seq <| c_region <| mv rfl rfl <| oi (Value.bool true) rfl rfl rfl (by kernel_rfl) <| o_nil <| n_code <| c_then rfl <| c_seq <| c_seq <| c_region <| mv rfl rfl <| oi (Value.bool true) rfl rfl rfl (by kernel_rfl) <| mv rfl rfl <| o_e rfl rfl rfl (e_move rfl) ?_
  refine o_e rfl rfl rfl (e_int (r := Value.bool false) rfl rfl (by kernel_rfl)) <| oe rfl (e_pick_t rfl rfl) <| o_nil <| n_code <| c_else rfl <| c_skip <| n_code <| c_seq <| c_region <| mv rfl rfl <| mv rfl rfl <| oe rfl (e_convc (r := Value.int .u64 0) Tryz.runUnderlying5 Tryz.runUnderlying23 rfl (by kernel_rfl)) <| mv rfl rfl <| oe rfl (e_shlc (r := Value.int .u64 0) rfl rfl rfl (by kernel_rfl)) <| oi (Value.int .u64 0) rfl rfl rfl (by kernel_rfl) <| mv rfl rfl ?_
  refine oi (Value.int .i64 1) rfl rfl rfl (by kernel_rfl) <| asg rfl rfl <| asg rfl rfl <| asg rfl rfl <| o_nil <| n_code <| c_ret <| WR.sel (.cons (.head) (.nil)) <| r_fn (l := [.tmp 2, .tmp 3, .tmp 4]) Tryz.results157 rfl rfl ?_
  exact tells (y := (())) trivial rfl rfl

theorem z36 {G : HP} (q0 : Tl) (h0 : TlOk 1 5 q0) :
    CtrE Tryz.prog 224 [Value.slice (some ⟨q0.g, 2, none⟩) 3 (q0.cap - 2)] G [(q0.g, Ob xb2 q0 5)] (T := Unit) (fun _ => True) (fun _ => Value.tuple #[Value.int .u64 0, Value.slice (some ⟨q0.g, 3, none⟩) 2 (q0.cap - 3), Value.nilIface]) (fun _ => [(q0.g, Ob xb2 q0 5)]) := by
  refine fn_enter 36 Tryz.func224 rfl Tryz.ntmps224 rfl ?_
  intro w0
  refine c_seq <| c_region <| asg rfl rfl <| asg rfl rfl <| asg rfl rfl <| o_nil <| n_code <| c_seq <| c_region <| mv rfl rfl ?_
  refine o_l rfl (l_calle Tryz.call157 (z35 q0 h0) rfl rfl (.cons (.head) (.nil))) ?_; intro r1 hr1
  refine o_cat (.cons (.nil)) <| mv rfl rfl <| oe rfl (e_extract rfl rfl) <| oe rfl (e_extract rfl rfl) <| oe rfl (e_extract rfl rfl) <| asg rfl rfl <| asg rfl rfl <| asg rfl rfl <| o_nil <| n_code <| c_seq <| c_seq <| c_region <| mv rfl rfl <| oe rfl (e_nnen Tryz.runUnderlying80 rfl) <| o_nil <| n_code <| c_else rfl <| c_skip <| n_code <| c_seq <| c_region <| mv rfl rfl <| oi (Value.bool false) rfl rfl rfl (by kernel_rfl) <| o_nil <| n_code <| c_else rfl <| c_seq <| c_region <| mv rfl rfl ?_
  refine oi (Value.bool false) rfl rfl rfl (by kernel_rfl) <| o_nil <| n_code <| c_else rfl <| c_seq <| c_regionq (by kernel_rfl) (by kernel_rfl) <| q_e rfl rfl rfl (e_move rfl) <| q_e rfl rfl rfl (e_move rfl) <| q_e rfl rfl rfl (e_move rfl) <| q_e rfl rfl rfl (e_as (r := Value.slice (some ⟨q0.g, 3, none⟩) 2 (q0.cap - 3)) (e_sl_l Tryz.runUnderlying72 Tryz.sizeOf5 rfl rfl (by decide) (by decide) (by have := h0.le; omega)) (by first | rfl | (simp; try omega))) <| q_e rfl rfl rfl (e_assign rfl) ?_
  refine q_e rfl rfl rfl (e_assign rfl) <| q_e rfl rfl rfl (e_assign rfl) <| q_nil <| n_code <| c_ret <| WR.sel (.cons (.head) (.nil)) <| r_fn (l := [.tmp 2, .tmp 3, .tmp 4]) Tryz.results224 rfl rfl ?_
  exact tells (y := (())) trivial rfl rfl

theorem z37 {G : HP} (q0 : Tl) (h0 : TlOk 1 5 q0) :
    CtrE Tryz.prog 157 [Value.slice (some ⟨q0.g, 3, none⟩) 2 (q0.cap - 3)] G [(q0.g, Ob xb2 q0 5)] (T := Unit) (fun _ => True) (fun _ => Value.tuple #[Value.int .u64 1, Value.int .i64 1, Value.nilIface]) (fun _ => [(q0.g, Ob xb2 q0 5)]) := by
  refine fn_enter 55 Tryz.func157 rfl Tryz.ntmps157 rfl ?_
  intro w0
  refine c_seq <| c_region <| asg rfl rfl <| asg rfl rfl <| asg rfl rfl <| o_nil <| n_code <| c_seq <| c_region <| asg rfl rfl <| o_nil <| n_code <| c_seq <| c_region <| asg rfl rfl <| o_nil <| n_code <| c_seq <| c_seq <| c_region <| mv rfl rfl <| oe rfl (e_as (r := Value.int .i64 2) (e_lenl Tryz.runUnderlying72 rfl) rfl) <| mv rfl rfl <| o_nil <| n_code <| c_block <| c_rounds 999 <| c_seq <| c_region <| oi (Value.bool true) rfl rfl rfl (by kernel_rfl) <| o_nil <| n_code <| c_seq <| c_then rfl <| c_skip ?_
  refine n_code <| c_seq <| c_block <| c_seq <| c_region <| mv rfl rfl <| oe rfl (e_as (r := Value.pointer (some ⟨q0.g, 3, none⟩)) (e_ia Tryz.runUnderlying72 Tryz.sizeOf5 rfl rfl (by decide) (by decide)) rfl) <| oe rfl (e_load Tryz.isAgg5 rfl (.inl (.head _)) rfl) <| asg rfl rfl <| asg rfl rfl <| o_nil <| n_code <| c_seq <| c_seq <| c_region <| mv rfl rfl <| oi (Value.bool false) rfl rfl rfl (by kernel_rfl) <| mv rfl rfl <| o_skip rfl rfl rfl <| o_skip rfl rfl rfl <| oe rfl (e_pick_f rfl rfl) <| mv rfl rfl ?_
  refine o_e rfl rfl rfl (e_move rfl) <| o_e rfl rfl rfl (e_int (r := Value.bool false) rfl rfl (by kernel_rfl)) <| oe rfl (e_pick_f rfl rfl) <| o_nil <| n_code <| c_else rfl <| c_skip <| n_code <| c_seq <| c_seq <| c_region <| mv rfl rfl <| oi (Value.bool true) rfl rfl rfl (by kernel_rfl) <| o_nil <| n_code <| c_then rfl <| c_seq <| c_seq <| c_region <| mv rfl rfl <| oi (Value.bool false) rfl rfl rfl (by kernel_rfl) <| mv rfl rfl <| o_skip rfl rfl rfl <| o_skip rfl rfl rfl <| oe rfl (e_pick_f rfl rfl) ?_
  refine o_nil <| n_code <| c_else rfl <| c_skip <| n_code <| c_seq <| c_region <| mv rfl rfl <| mv rfl rfl <| oe rfl (e_convc (r := Value.int .u64 1) Tryz.runUnderlying5 Tryz.runUnderlying23 rfl (by kernel_rfl)) <| mv rfl rfl <| oe rfl (e_shlc (r := Value.int .u64 1) rfl rfl rfl (by kernel_rfl)) <| oi (Value.int .u64 1) rfl rfl rfl (by kernel_rfl) <| mv rfl rfl <| oi (Value.int .i64 1) rfl rfl rfl (by kernel_rfl) <| asg rfl rfl <| asg rfl rfl <| asg rfl rfl <| o_nil <| n_code <| c_ret ?_
  refine WR.sel (.cons (.head) (.nil)) <| r_fn (l := [.tmp 2, .tmp 3, .tmp 4]) Tryz.results157 rfl rfl ?_
  exact tells (y := (())) trivial rfl rfl

theorem z38 {G : HP} (q0 : Tl) (h0 : TlOk 1 5 q0) :
    CtrE Tryz.prog 224 [Value.slice (some ⟨q0.g, 3, none⟩) 2 (q0.cap - 3)] G [(q0.g, Ob xb2 q0 5)] (T := Unit) (fun _ => True) (fun _ => Value.tuple #[Value.int .u64 1, Value.slice (some ⟨q0.g, 4, none⟩) 1 (q0.cap - 4), Value.nilIface]) (fun _ => [(q0.g, Ob xb2 q0 5)]) := by
  refine fn_enter 36 Tryz.func224 rfl Tryz.ntmps224 rfl ?_
  intro w0
  refine c_seq <| c_region <| asg rfl rfl <| asg rfl rfl <| asg rfl rfl <| o_nil <| n_code <| c_seq <| c_region <| mv rfl rfl ?_
  refine o_l rfl (l_calle Tryz.call157 (z37 q0 h0) rfl rfl (.cons (.head) (.nil))) ?_; intro r1 hr1
  refine o_cat (.cons (.nil)) <| mv rfl rfl <| oe rfl (e_extract rfl rfl) <| oe rfl (e_extract rfl rfl) <| oe rfl (e_extract rfl rfl) <| asg rfl rfl <| asg rfl rfl <| asg rfl rfl <| o_nil <| n_code <| c_seq <| c_seq <| c_region <| mv rfl rfl <| oe rfl (e_nnen Tryz.runUnderlying80 rfl) <| o_nil <| n_code <| c_else rfl <| c_skip <| n_code <| c_seq <| c_region <| mv rfl rfl <| oi (Value.bool false) rfl rfl rfl (by kernel_rfl) <| o_nil <| n_code <| c_else rfl <| c_seq <| c_region <| mv rfl rfl ?_
  refine oi (Value.bool false) rfl rfl rfl (by kernel_rfl) <| o_nil <| n_code <| c_else rfl <| c_seq <| c_regionq (by kernel_rfl) (by kernel_rfl) <| q_e rfl rfl rfl (e_move rfl) <| q_e rfl rfl rfl (e_move rfl) <| q_e rfl rfl rfl (e_move rfl) <| q_e rfl rfl rfl (e_as (r := Value.slice (some ⟨q0.g, 4, none⟩) 1 (q0.cap - 4)) (e_sl_l Tryz.runUnderlying72 Tryz.sizeOf5 rfl rfl (by decide) (by decide) (by have := h0.le; omega)) (by first | rfl | (simp; try omega))) <| q_e rfl rfl rfl (e_assign rfl) ?_
  refine q_e rfl rfl rfl (e_assign rfl) <| q_e rfl rfl rfl (e_assign rfl) <| q_nil <| n_code <| c_ret <| WR.sel (.cons (.head) (.nil)) <| r_fn (l := [.tmp 2, .tmp 3, .tmp 4]) Tryz.results224 rfl rfl ?_
  exact tells (y := (())) trivial rfl rfl

theorem z39 {G : HP} (q0 : Tl) (h0 : TlOk 1 5 q0) :
    CtrE Tryz.prog 211 [Value.slice (some ⟨q0.g, 2, none⟩) 3 (q0.cap - 2)] G [(q0.g, Ob xb2 q0 5)] (T := Unit) (fun _ => True) (fun _ => Value.tuple #[Value.int .i64 3, Value.int .u64 0, Value.slice (some ⟨q0.g, 4, none⟩) 1 (q0.cap - 4), Value.nilIface]) (fun _ => [(q0.g, Ob xb2 q0 5)]) := by
  refine fn_enter 55 Tryz.func211 rfl Tryz.ntmps211 rfl ?_
  intro w0
  refine c_seq <| c_region <| asg rfl rfl <| asg rfl rfl <| asg rfl rfl <| asg rfl rfl <| o_nil <| n_code <| c_seq <| c_region <| mv rfl rfl <| oe rfl (e_as (r := Value.int .i64 3) (e_lenl Tryz.runUnderlying72 rfl) rfl) <| asg rfl rfl <| o_nil <| n_code <| c_seq <| c_seq <| c_region <| mv rfl rfl <| oi (Value.bool false) rfl rfl rfl (by kernel_rfl) <| o_nil <| n_code <| c_else rfl <| c_skip <| n_code <| c_seq <| c_region <| asg rfl rfl <| o_nil <| n_code <| c_seq <| c_region <| asg rfl rfl <| asg rfl rfl ?_
  refine o_nil <| n_code <| c_seq <| c_region <| mv rfl rfl ?_
  refine o_l rfl (l_calle Tryz.call224 (z36 q0 h0) rfl rfl (.cons (.head) (.nil))) ?_; intro r1 hr1
  refine o_cat (.cons (.nil)) <| mv rfl rfl <| oe rfl (e_extract rfl rfl) <| oe rfl (e_extract rfl rfl) <| oe rfl (e_extract rfl rfl) <| asg rfl rfl <| asg rfl rfl <| asg rfl rfl <| o_nil <| n_code <| c_seq <| c_seq <| c_region <| mv rfl rfl <| oe rfl (e_nnen Tryz.runUnderlying80 rfl) <| o_nil <| n_code <| c_else rfl <| c_skip <| n_code <| c_seq <| c_region <| mv rfl rfl ?_
  refine o_l rfl (l_calle Tryz.call224 (z38 q0 h0) rfl rfl (.cons (.head) (.nil))) ?_; intro r2 hr2
  refine o_cat (.cons (.nil)) <| mv rfl rfl <| oe rfl (e_extract rfl rfl) <| oe rfl (e_extract rfl rfl) <| oe rfl (e_extract rfl rfl) <| asg rfl rfl <| asg rfl rfl <| asg rfl rfl <| o_nil <| n_code <| c_seq <| c_seq <| c_region <| mv rfl rfl <| oe rfl (e_nnen Tryz.runUnderlying80 rfl) <| o_nil <| n_code <| c_else rfl <| c_skip <| n_code <| c_seq <| c_seq <| c_region <| mv rfl rfl <| oi (Value.bool false) rfl rfl rfl (by kernel_rfl) <| o_nil <| n_code <| c_else rfl <| c_skip <| n_code <| c_seq <| c_seq ?_
  refine c_region <| mv rfl rfl <| oe rfl (e_convc (r := Value.int .i64 1) Tryz.runUnderlying23 Tryz.runUnderlying3 rfl (by kernel_rfl)) <| mv rfl rfl <| oe rfl (e_as (r := Value.int .i64 1) (e_lenl Tryz.runUnderlying72 rfl) rfl) <| oi (Value.bool false) rfl rfl rfl (by kernel_rfl) <| o_nil <| n_code <| c_else rfl <| c_skip <| n_code <| c_seq <| c_region <| mv rfl rfl <| mv rfl rfl <| oe rfl (e_as (r := Value.int .i64 1) (e_lenl Tryz.runUnderlying72 rfl) rfl) ?_
  refine oi (Value.int .i64 2) rfl rfl rfl (by kernel_rfl) <| mv rfl rfl <| oe rfl (e_convc (r := Value.int .i64 1) Tryz.runUnderlying23 Tryz.runUnderlying3 rfl (by kernel_rfl)) <| oi (Value.int .i64 3) rfl rfl rfl (by kernel_rfl) <| asg rfl rfl <| o_nil <| n_code <| c_seq <| c_regionq (by kernel_rfl) (by kernel_rfl) <| q_e rfl rfl rfl (e_move rfl) <| q_e rfl rfl rfl (e_move rfl) <| q_e rfl rfl rfl (e_move rfl) <| q_e rfl rfl rfl (e_move rfl) ?_
  refine q_e rfl rfl rfl (e_as (r := Value.slice (some ⟨q0.g, 4, none⟩) 1 (q0.cap - 4)) (e_sl_h Tryz.runUnderlying72 Tryz.sizeOf5 rfl rfl (by decide) (by have := h0.le; omega)) rfl) <| q_e rfl rfl rfl (e_assign rfl) <| q_e rfl rfl rfl (e_assign rfl) <| q_e rfl rfl rfl (e_assign rfl) <| q_e rfl rfl rfl (e_assign rfl) <| q_nil <| n_code <| c_ret <| WR.sel (.cons (.head) (.nil)) <| r_fn (l := [.tmp 2, .tmp 3, .tmp 4, .tmp 5]) Tryz.results211 rfl rfl ?_
  exact tells (y := (())) trivial rfl rfl
end Go.Proofs
